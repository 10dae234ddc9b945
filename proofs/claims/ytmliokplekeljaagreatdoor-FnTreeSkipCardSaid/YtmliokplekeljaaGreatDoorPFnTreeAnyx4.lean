-- PRINTED BY print.sh 35421559b90ae4d0a3588c463048766b98c2df88dd9212a6774a882060cdf62d: not written by this session
import Derived.Test.YtmliokplekeljaaGreatDoorPFnTreeAnyx0
import Derived.Test.YtmliokplekeljaaGreatDoorPFnTreeAnyx3
namespace Go.Proofs.YtmliokplekeljaaGreatDoor.PFnTreeAny
open Go.RowKit Go.Proofs.YtmliokplekeljaaGreatDoorW.PrintWords Go.Proofs.YtmliokplekeljaaGreatDoorW.PrintLast Go.Proofs.YtmliokplekeljaaGreatDoorW.PrintMore
attribute [local go_sem] max2_int min2_int max_two min_two max_three min_three max_four min_four   -- for this text's walks alone
set_option linter.unusedVariables false
set_option linter.unusedSimpArgs false

/-! ### spec_MapHead: function 17 -/
def spec_MapHead.f (k : Nat) (a0 : Int) : Option (List Int) := if a0 ≤ 15 then (some (([Go.bits .or .u8 128 ((a0) % 256)] : List Int))) else (if a0 ≤ 65535 then ((spec_With.f k 222 (IntKind.u64.wrap (a0)) 2).bind fun t188 => (some t188)) else ((spec_With.f k 223 (IntKind.u64.wrap (a0)) 4).bind fun t191 => (some t191)))
theorem spec_MapHead.mono : ∀ a0 k, LeO (spec_MapHead.f k a0) (spec_MapHead.f (k + 1) a0) := by
  intro a0 k
  unfold spec_MapHead.f
  repeat' first
      | (with_reducible exact spec_With.mono _ _ _ _)
      | (with_reducible exact LeO.refl _)
      | (with_reducible exact LeO.none _)
      | (with_reducible refine LeO.ite ?_ ?_)
      | (with_reducible refine LeO.bind ?_ (fun _ => ?_))
      | exact spec_With.mono _ _ _ _
      | exact LeO.none _
      | refine LeO.ite ?_ ?_
      | refine LeO.bind ?_ (fun _ => ?_)
set_option maxHeartbeats 8000000 in
set_option maxRecDepth 100000 in
theorem spec_MapHead.calls (k : Nat) (a0 : Int) (r : List Int) (w : World) (h : spec_MapHead.f k a0 = some r) :
    Calls Tryz.prog 17 #[.int .u32 a0] w fun e w' => ∃ v0_ : Value, e = .returned (v0_) ∧ Kd.R (Kd.int .u8) 5 w' w.heap.size (fun _ => True) v0_ r ∧ Below w.heap.size w w' := by
  have HB := Aside0.mk (Below.refl w.heap.size w)
  have H : (if a0 ≤ 15 then (some (([Go.bits .or .u8 128 ((a0) % 256)] : List Int))) else (if a0 ≤ 65535 then ((spec_With.f k 222 (IntKind.u64.wrap (a0)) 2).bind fun t188 => (some t188)) else ((spec_With.f k 223 (IntKind.u64.wrap (a0)) 4).bind fun t191 => (some t191)))) = some r := h
  clear h
  by_cases c2 : a0 ≤ 15
  · rw [if_pos c2] at H
    have c2b0 : decide (a0 ≤ 15) = true := decide_eq_true c2
    clear c2
    obtain ⟨y185, hy185⟩ : ∃ y_ : List Int, y_ = (([Go.bits .or .u8 128 ((a0) % 256)] : List Int)) := ⟨_, rfl⟩
    replace H : (some y185) = some r := by first | (rw [hy185]; with_reducible exact H) | (have H2_ := (Option.bind_some _ _).symm.trans H; rw [hy185]; with_reducible exact H2_) | (have H2_ := (Option.bind_some _ _).symm.trans H; with_reducible exact H2_) | with_reducible exact H | (rw [hy185]; exact H) | exact H
    have Ny185 := Aside0.mk hy185
    clear hy185
    obtain rfl := Option.some.inj H
    go_enter Tryz.func17, Tryz.ntmps17
    go_wp2_with (first | ((with_reducible refine gate_dst (N := 9) rfl ?_); refine Kd.R_lit (Kd.int .u8) _ 5 ?hg (N := 9) ?hd (xs := ([Go.bits .or .u8 128 ((a0) % 256)] : List Int)) (inner := [.int .u8 (Go.bits .or .u8 128 ((a0) % 256))]) (ok := fun _ => True) (okp := fun _ => True) ?hr ?hp (fun _ hk => hk) trivial (Below.refl _ _) (Nat.le_refl _) (by simp) ?_; (case hd => rfl); (case hg => rfl); (case hr => first | (go_simp; done) | (go_simp; rfl)); (case hp => exact (Reps.one (show Kd.M (Kd.int .u8) _ _ _ (Go.bits .or .u8 128 ((a0) % 256)) [.int .u8 (Go.bits .or .u8 128 ((a0) % 256))] from rfl) (Reps.none _ _))); intro v186 w3 ho4 hb hg_ hnew_; clear hg_ hnew_; (first | rw [← Ny185.out] at ho4 | (simp only [Int.reduceToNat] at ho4; rw [← Ny185.out] at ho4)); have n0_ := Aside0.mk (Kd.R_lower ho4 (below_size (by repeat (first | (with_reducible first | exact HB.out | apply below_alloc | apply pw_below_drewN | apply below_drew1) | exact HB.out)))); have n1_ := Aside0.mk (below_step (by repeat (first | (with_reducible first | exact HB.out | apply below_alloc | apply pw_below_drewN | apply below_drew1) | exact HB.out)) hb); clear HB; have HO187 := n0_; have HB := n1_; clear n0_ n1_; clear hb ho4))
    go_ret
    exact ⟨_, by first | rfl | (simp [errW_none, errW_some] <;> rfl) | (simp [*, errW_none, errW_some] <;> rfl), by (with_reducible repeat (first | apply Kd.R_alloc | apply Kd.R_drewN | apply Kd.R_drew)); exact HO187.out, by repeat (first | (with_reducible first | exact HB.out | apply below_alloc | apply pw_below_drewN | apply below_drew1) | exact HB.out)⟩
  · rw [if_neg c2] at H
    have c2b0 : decide (a0 ≤ 15) = false := decide_eq_false c2
    clear c2
    by_cases c5 : a0 ≤ 65535
    · rw [if_pos c5] at H
      have c5b0 : decide (a0 ≤ 65535) = true := decide_eq_true c5
      clear c5
      replace H := Option.bind_eq_some_iff.mp H
      obtain ⟨t188, A60, H⟩ := H
      replace H : (some t188) = some r := H
      have A6 := Aside0.mk A60
      clear A60
      obtain rfl := Option.some.inj H
      go_enter Tryz.func17, Tryz.ntmps17
      go_wp2_with (first | ((with_reducible refine gate_callee (f := 29) rfl ?_); refine goesL_ (some 15) rfl rfl Tryz.func29 (by kernel_rfl) rfl #[.int .u8 222, .int .u64 (IntKind.u64.wrap (a0)), .int .i64 2] rfl (by (try simp only [List.map_toArray, List.map_cons, List.map_nil]); first | done | rfl | (simp only [List.length_drop, List.length_take]; rfl)) ?_; (with_reducible refine (spec_With.calls k 222 (IntKind.u64.wrap (a0)) 2 t188 _ A6.out).mono ?_); rintro e w7 ⟨v189, rfl, ho0, hb⟩; refine ⟨_, rfl, ?_⟩; have n0_ := Aside0.mk (Kd.R_lower ho0 (below_size (by repeat (first | (with_reducible first | exact HB.out | apply below_alloc | apply pw_below_drewN | apply below_drew1) | exact HB.out)))); have n1_ := Aside0.mk (below_step (by repeat (first | (with_reducible first | exact HB.out | apply below_alloc | apply pw_below_drewN | apply below_drew1) | exact HB.out)) hb); clear HB; have HO190 := n0_; have HB := n1_; clear n0_ n1_; (try clear hb); (try clear hb2); (try clear hk); (try clear hi); (try clear ho0)))
      go_ret
      exact ⟨_, by first | rfl | (simp [errW_none, errW_some] <;> rfl) | (simp [*, errW_none, errW_some] <;> rfl), by (with_reducible repeat (first | apply Kd.R_alloc | apply Kd.R_drewN | apply Kd.R_drew)); exact HO190.out, by repeat (first | (with_reducible first | exact HB.out | apply below_alloc | apply pw_below_drewN | apply below_drew1) | exact HB.out)⟩
    · rw [if_neg c5] at H
      have c5b0 : decide (a0 ≤ 65535) = false := decide_eq_false c5
      clear c5
      replace H := Option.bind_eq_some_iff.mp H
      obtain ⟨t191, A80, H⟩ := H
      replace H : (some t191) = some r := H
      have A8 := Aside0.mk A80
      clear A80
      obtain rfl := Option.some.inj H
      go_enter Tryz.func17, Tryz.ntmps17
      go_wp2_with (first | ((with_reducible refine gate_callee (f := 29) rfl ?_); refine goesL_ (some 18) rfl rfl Tryz.func29 (by kernel_rfl) rfl #[.int .u8 223, .int .u64 (IntKind.u64.wrap (a0)), .int .i64 4] rfl (by (try simp only [List.map_toArray, List.map_cons, List.map_nil]); first | done | rfl | (simp only [List.length_drop, List.length_take]; rfl)) ?_; (with_reducible refine (spec_With.calls k 223 (IntKind.u64.wrap (a0)) 4 t191 _ A8.out).mono ?_); rintro e w9 ⟨v192, rfl, ho0, hb⟩; refine ⟨_, rfl, ?_⟩; have n0_ := Aside0.mk (Kd.R_lower ho0 (below_size (by repeat (first | (with_reducible first | exact HB.out | apply below_alloc | apply pw_below_drewN | apply below_drew1) | exact HB.out)))); have n1_ := Aside0.mk (below_step (by repeat (first | (with_reducible first | exact HB.out | apply below_alloc | apply pw_below_drewN | apply below_drew1) | exact HB.out)) hb); clear HB; have HO193 := n0_; have HB := n1_; clear n0_ n1_; (try clear hb); (try clear hb2); (try clear hk); (try clear hi); (try clear ho0)))
      go_ret
      exact ⟨_, by first | rfl | (simp [errW_none, errW_some] <;> rfl) | (simp [*, errW_none, errW_some] <;> rfl), by (with_reducible repeat (first | apply Kd.R_alloc | apply Kd.R_drewN | apply Kd.R_drew)); exact HO193.out, by repeat (first | (with_reducible first | exact HB.out | apply below_alloc | apply pw_below_drewN | apply below_drew1) | exact HB.out)⟩

end Go.Proofs.YtmliokplekeljaaGreatDoor.PFnTreeAny
