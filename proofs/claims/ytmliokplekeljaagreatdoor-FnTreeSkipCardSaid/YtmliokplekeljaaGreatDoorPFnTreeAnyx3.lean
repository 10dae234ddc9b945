-- PRINTED BY print.sh 35421559b90ae4d0a3588c463048766b98c2df88dd9212a6774a882060cdf62d: not written by this session
import Derived.Test.YtmliokplekeljaaGreatDoorPFnTreeAnyx0
namespace Go.Proofs.YtmliokplekeljaaGreatDoor.PFnTreeAny
open Go.RowKit Go.Proofs.YtmliokplekeljaaGreatDoorW.PrintWords Go.Proofs.YtmliokplekeljaaGreatDoorW.PrintLast Go.Proofs.YtmliokplekeljaaGreatDoorW.PrintMore
attribute [local go_sem] max2_int min2_int max_two min_two max_three min_three max_four min_four   -- for this text's walks alone
set_option linter.unusedVariables false
set_option linter.unusedSimpArgs false

/-! ### spec_fixed: function 54 -/
def spec_fixed.l0 : Nat → Int → List Int → Int → Option (List Int)
  | 0, _, _, _ => none
  | k + 1, x0, x5, x6 => if x6 ≥ 0 then (if 0 ≤ (wrap64 (8 * x6)) then (if x5.length < 140737488355328 then (spec_fixed.l0 k x0 (x5 ++ [(shr .u64 x0 (wrap64 (8 * x6))) % 256]) (wrap64 (x6 - 1))) else (none)) else (none)) else (some x5)
def spec_fixed.f (k : Nat) (a0 : Int) (a1 : Int) : Option (List Int) := spec_fixed.l0 k a0 (([] : List Int)) (wrap64 (a1 - 1))
theorem spec_fixed.mono_l : ∀ k, (∀ y0 y1 y2, LeO (spec_fixed.l0 k y0 y1 y2) (spec_fixed.l0 (k + 1) y0 y1 y2))
  | 0 => fun _ _ _ r h => by simp [spec_fixed.l0] at h
  | k + 1 => by
    have ih0 := spec_fixed.mono_l k
    · intro y0 y1 y2
      unfold spec_fixed.l0
      repeat' first
      | (with_reducible exact ih0 _ _ _)
      | (with_reducible exact LeO.refl _)
      | (with_reducible exact LeO.none _)
      | (with_reducible refine LeO.ite ?_ ?_)
      | (with_reducible refine LeO.bind ?_ (fun _ => ?_))
      | exact ih0 _ _ _
      | exact LeO.none _
      | refine LeO.ite ?_ ?_
      | refine LeO.bind ?_ (fun _ => ?_)
theorem spec_fixed.mono : ∀ a0 a1 k, LeO (spec_fixed.f k a0 a1) (spec_fixed.f (k + 1) a0 a1) := by
  intro a0 a1 k
  have ih0 := spec_fixed.mono_l k
  unfold spec_fixed.f
  repeat' first
      | (with_reducible exact ih0 _ _ _)
      | (with_reducible exact LeO.refl _)
      | (with_reducible exact LeO.none _)
      | (with_reducible refine LeO.ite ?_ ?_)
      | (with_reducible refine LeO.bind ?_ (fun _ => ?_))
      | exact ih0 _ _ _
      | exact LeO.none _
      | refine LeO.ite ?_ ?_
      | refine LeO.bind ?_ (fun _ => ?_)
set_option maxHeartbeats 8000000 in
set_option maxRecDepth 100000 in
theorem spec_fixed.calls (k : Nat) (a0 : Int) (a1 : Int) (r : List Int) (w : World) (h : spec_fixed.f k a0 a1 = some r) :
    Calls Tryz.prog 54 #[.int .u64 a0, .int .i64 a1] w fun e w' => ∃ v0_ : Value, e = .returned (v0_) ∧ Kd.R (Kd.int .u8) 5 w' w.heap.size (fun _ => True) v0_ r ∧ Below w.heap.size w w' := by
  have HB := Aside0.mk (Below.refl w.heap.size w)
  have H : (spec_fixed.l0 k a0 (([] : List Int)) (wrap64 (a1 - 1))) = some r := h
  clear h
  obtain ⟨y110, hy110⟩ : ∃ y_ : List Int, y_ = (([] : List Int)) := ⟨_, rfl⟩
  replace H : (spec_fixed.l0 k a0 y110 (wrap64 (a1 - 1))) = some r := by first | (rw [hy110]; with_reducible exact H) | (have H2_ := (Option.bind_some _ _).symm.trans H; rw [hy110]; with_reducible exact H2_) | (have H2_ := (Option.bind_some _ _).symm.trans H; with_reducible exact H2_) | with_reducible exact H | (rw [hy110]; exact H) | exact H
  have Ny110 := Aside0.mk hy110
  clear hy110
  have H' := Aside0.mk H
  clear H
  go_enter Tryz.func54, Tryz.ntmps54
  go_wp2_with (first | ((with_reducible refine gate_dst (N := 7) rfl ?_); refine Kd.R_lit (Kd.int .u8) _ 5 ?hg (N := 7) ?hd (xs := ([] : List Int)) (inner := []) (ok := fun _ => True) (okp := fun _ => True) ?hr ?hp (fun _ hk => hk) trivial (Below.refl _ _) (Nat.le_refl _) (by simp) ?_; (case hd => rfl); (case hg => rfl); (case hr => first | (go_simp; done) | (go_simp; rfl)); (case hp => exact (Reps.none _ _)); intro v111 w3 ho4 hb hg_ hnew_; clear hg_ hnew_; (first | rw [← Ny110.out] at ho4 | (simp only [Int.reduceToNat] at ho4; rw [← Ny110.out] at ho4)); have n0_ := Aside0.mk (Kd.R_lower ho4 (below_size (by repeat (first | (with_reducible first | exact HB.out | apply below_alloc | apply pw_below_drewN | apply below_drew1) | exact HB.out)))); have n1_ := Aside0.mk (below_step (by repeat (first | (with_reducible first | exact HB.out | apply below_alloc | apply pw_below_drewN | apply below_drew1) | exact HB.out)) hb); clear HB; have HO112 := n0_; have HB := n1_; clear n0_ n1_; clear hb ho4))
  go_loopg [5, 6] k (fun kq v5 v6 w' => ∃ (x5_1 : List Int) (x6_1 : Int), v6 = .int .i64 x6_1 ∧ Aside0 (spec_fixed.l0 kq a0 x5_1 x6_1 = some r) ∧ Aside0 (kq ≤ k) ∧ Aside0 (Kd.R (Kd.int .u8) 5 w' w.heap.size (fun _ => True) v5 x5_1) ∧ Aside0 (Below w.heap.size w w'))
  case atStart => exact ⟨(y110), (wrap64 (a1 - 1)), (by first | rfl | (simp; done) | (simp [*]; done)), H', ⟨Nat.le_refl _⟩, ⟨by (with_reducible repeat (first | apply Kd.R_alloc | apply Kd.R_drewN | apply Kd.R_drew)); exact HO112.out⟩, ⟨by repeat (first | (with_reducible first | exact HB.out | apply below_alloc | apply pw_below_drewN | apply below_drew1) | exact HB.out)⟩⟩
  case round =>
    clear H'
    try clear p2
    obtain ⟨x5_1, x6_1, rfl, HA, HK1, HO_5, HB⟩ := hrel
    cases gk with
    | zero => exact absurd HA.out (by simp [spec_fixed.l0])
    | succ k1 =>
      have H := HA.out
      clear HA
      simp only [spec_fixed.l0] at H
      by_cases c5 : x6_1 ≥ 0
      · rw [if_pos c5] at H
        have c5b0 : decide (0 ≤ x6_1) = true := decide_eq_true c5
        clear c5
        obtain ⟨ji6, hji6⟩ : ∃ j_ : Int, (wrap64 (8 * x6_1)) = j_ := ⟨_, rfl⟩
        replace H : (if 0 ≤ (ji6) then (if x5_1.length < 140737488355328 then (spec_fixed.l0 k1 a0 (x5_1 ++ [(shr .u64 a0 (ji6)) % 256]) (wrap64 (x6_1 - 1))) else (none)) else (none)) = some r := by first | (rw [hji6] at H; exact H) | (simp only [hji6] at H ⊢; exact H)
        have hji6w : (IntKind.i64.wrap (8 * x6_1)) = ji6 := (i64_w _).trans hji6
        by_cases c7 : 0 ≤ (ji6)
        · rw [if_pos c7] at H
          have c7b0 := eq_true c7
          have c7b1 : decide (0 ≤ (ji6)) = true := decide_eq_true c7
          clear c7
          obtain ⟨ji8, hji8⟩ : ∃ j_ : Int, (shr .u64 a0 (ji6)) = j_ := ⟨_, rfl⟩
          replace H : (if x5_1.length < 140737488355328 then (spec_fixed.l0 k1 a0 (x5_1 ++ [(ji8) % 256]) (wrap64 (x6_1 - 1))) else (none)) = some r := by first | (rw [hji8] at H; exact H) | (simp only [hji8] at H ⊢; exact H)
          have hji8_ : (a0 / 2 ^ min (ji6).toNat 64) = ji8 := hji8
          have hji8z : (ji6) ≤ 64 → (a0 / 2 ^ (ji6).toNat) = ji8 := shr_small hji8
          by_cases c9 : x5_1.length < 140737488355328
          · rw [if_pos c9] at H
            have LMc9 := Aside0.mk c9
            clear c9
            obtain ⟨y113, hy113⟩ : ∃ y_ : List Int, y_ = (x5_1 ++ [(ji8) % 256]) := ⟨_, rfl⟩
            replace H : (spec_fixed.l0 k1 a0 y113 (wrap64 (x6_1 - 1))) = some r := by first | (rw [hy113]; with_reducible exact H) | (have H2_ := (Option.bind_some _ _).symm.trans H; rw [hy113]; with_reducible exact H2_) | (have H2_ := (Option.bind_some _ _).symm.trans H; with_reducible exact H2_) | with_reducible exact H | (rw [hy113]; exact H) | exact H
            have Ny113 := Aside0.mk hy113
            clear hy113
            have H' := Aside0.mk H
            clear H
            go_wp2_with (first | ((with_reducible refine gate_builtin (b := .append) (xs := #[.tmp 14, .tmp 20]) rfl ?_); at_builtin; refine Kd.R_append (Kd.int .u8) (w0 := w) w.heap.size rfl (.tmp 14) (.tmp 20) 22 5 (.int .u8 0) 1 rfl Tryz.underlying22 info5 rfl (by decide) (by omega) u5 x5_1 ((ji8) % 256) [.int .u8 ((ji8) % 256)] (fun _ => True) (fun _ => False) rfl rfl ?aP (fun _ hk => hk.elim) ?aF ?aO ?aB ?aS ?aL ?_; (case aP => exact rfl); (case aB => exact (by repeat (first | (with_reducible first | exact HB.out | apply below_alloc | apply pw_below_drewN | apply below_drew1) | exact HB.out))); (case aF => exact (fun _ _ => trivial)); (case aO => exact (by (with_reducible repeat (first | apply Kd.R_alloc | apply Kd.R_drewN | apply Kd.R_drew)); exact HO_5.out)); (case aS => exact (below_size (by repeat (first | (with_reducible first | exact HB.out | apply below_alloc | apply pw_below_drewN | apply below_drew1) | exact HB.out)))); (case aL => have := LMc9.out; omega); intro v114 w10 ho hb hg hat; rw [← Ny113.out] at ho; have n0_ := Aside0.mk (hb); have n1_ := Aside0.mk (ho); clear HB; clear HO_5; have HB := n0_; have HO115 := n1_; clear n0_ n1_; clear ho hb hg hat))
            go_roundg k1
            case measure => have := HK1.out; omega
            case rel => exact ⟨(y113), (wrap64 (x6_1 - 1)), (by first | rfl | (simp; done) | (simp [*]; done)), H', ⟨by have := HK1.out; omega⟩, ⟨by (with_reducible repeat (first | apply Kd.R_alloc | apply Kd.R_drewN | apply Kd.R_drew)); exact HO115.out⟩, ⟨by repeat (first | (with_reducible first | exact HB.out | apply below_alloc | apply pw_below_drewN | apply below_drew1) | exact HB.out)⟩⟩
          · rw [if_neg c9] at H
            exact absurd H (by simp)
        · rw [if_neg c7] at H
          exact absurd H (by simp)
      · rw [if_neg c5] at H
        have c5b0 : decide (0 ≤ x6_1) = false := decide_eq_false c5
        clear c5
        obtain rfl := Option.some.inj H
        go_wp2
        go_ret
        exact ⟨_, by first | rfl | (simp [errW_none, errW_some] <;> rfl) | (simp [*, errW_none, errW_some] <;> rfl), by (with_reducible repeat (first | apply Kd.R_alloc | apply Kd.R_drewN | apply Kd.R_drew)); exact HO_5.out, by repeat (first | (with_reducible first | exact HB.out | apply below_alloc | apply pw_below_drewN | apply below_drew1) | exact HB.out)⟩

/-! ### spec_With: function 29 -/
def spec_With.f (k : Nat) (a0 : Int) (a1 : Int) (a2 : Int) : Option (List Int) := (some (([a0] : List Int) : List Int)).bind fun y116 => ((spec_fixed.f k a1 a2).bind fun t119 => (if y116.length + t119.length < 140737488355328 then (some (y116 ++ t119)) else (none)))
theorem spec_With.mono : ∀ a0 a1 a2 k, LeO (spec_With.f k a0 a1 a2) (spec_With.f (k + 1) a0 a1 a2) := by
  intro a0 a1 a2 k
  unfold spec_With.f
  repeat' first
      | (with_reducible exact spec_fixed.mono _ _ _)
      | (with_reducible exact LeO.refl _)
      | (with_reducible exact LeO.none _)
      | (with_reducible refine LeO.ite ?_ ?_)
      | (with_reducible refine LeO.bind ?_ (fun _ => ?_))
      | exact spec_fixed.mono _ _ _
      | exact LeO.none _
      | refine LeO.ite ?_ ?_
      | refine LeO.bind ?_ (fun _ => ?_)
set_option maxHeartbeats 8000000 in
set_option maxRecDepth 100000 in
theorem spec_With.calls (k : Nat) (a0 : Int) (a1 : Int) (a2 : Int) (r : List Int) (w : World) (h : spec_With.f k a0 a1 a2 = some r) :
    Calls Tryz.prog 29 #[.int .u8 a0, .int .u64 a1, .int .i64 a2] w fun e w' => ∃ v0_ : Value, e = .returned (v0_) ∧ Kd.R (Kd.int .u8) 5 w' w.heap.size (fun _ => True) v0_ r ∧ Below w.heap.size w w' := by
  have HB := Aside0.mk (Below.refl w.heap.size w)
  have H : ((some (([a0] : List Int) : List Int)).bind fun y116 => ((spec_fixed.f k a1 a2).bind fun t119 => (if y116.length + t119.length < 140737488355328 then (some (y116 ++ t119)) else (none)))) = some r := h
  clear h
  obtain ⟨y116, hy116⟩ : ∃ y_ : List Int, y_ = (([a0] : List Int)) := ⟨_, rfl⟩
  replace H : ((spec_fixed.f k a1 a2).bind fun t119 => (if y116.length + t119.length < 140737488355328 then (some (y116 ++ t119)) else (none))) = some r := by first | (rw [hy116]; with_reducible exact H) | (have H2_ := (Option.bind_some _ _).symm.trans H; rw [hy116]; with_reducible exact H2_) | (have H2_ := (Option.bind_some _ _).symm.trans H; with_reducible exact H2_) | with_reducible exact H | (rw [hy116]; exact H) | exact H
  have Ny116 := Aside0.mk hy116
  clear hy116
  replace H := Option.bind_eq_some_iff.mp H
  obtain ⟨t119, A40, H⟩ := H
  replace H : (if y116.length + t119.length < 140737488355328 then (some (y116 ++ t119)) else (none)) = some r := H
  have A4 := Aside0.mk A40
  clear A40
  by_cases c5 : y116.length + t119.length < 140737488355328
  · rw [if_pos c5] at H
    have LMc5 := Aside0.mk c5
    clear c5
    obtain ⟨y122, hy122⟩ : ∃ y_ : List Int, y_ = (y116 ++ t119) := ⟨_, rfl⟩
    replace H : (some y122) = some r := by first | (rw [hy122]; with_reducible exact H) | (have H2_ := (Option.bind_some _ _).symm.trans H; rw [hy122]; with_reducible exact H2_) | (have H2_ := (Option.bind_some _ _).symm.trans H; with_reducible exact H2_) | with_reducible exact H | (rw [hy122]; exact H) | exact H
    have Ny122 := Aside0.mk hy122
    clear hy122
    obtain rfl := Option.some.inj H
    go_enter Tryz.func29, Tryz.ntmps29
    go_wp2_with (first | ((with_reducible refine gate_dst (N := 8) rfl ?_); refine Kd.R_lit (Kd.int .u8) _ 5 ?hg (N := 8) ?hd (xs := ([a0] : List Int)) (inner := [.int .u8 a0]) (ok := fun _ => True) (okp := fun _ => True) ?hr ?hp (fun _ hk => hk) trivial (Below.refl _ _) (Nat.le_refl _) (by simp) ?_; (case hd => rfl); (case hg => rfl); (case hr => first | (go_simp; done) | (go_simp; rfl)); (case hp => exact (Reps.one (show Kd.M (Kd.int .u8) _ _ _ a0 [.int .u8 a0] from rfl) (Reps.none _ _))); intro v117 w6 ho7 hb hg_ hnew_; clear hg_ hnew_; (first | rw [← Ny116.out] at ho7 | (simp only [Int.reduceToNat] at ho7; rw [← Ny116.out] at ho7)); have n0_ := Aside0.mk (Kd.R_lower ho7 (below_size (by repeat (first | (with_reducible first | exact HB.out | apply below_alloc | apply pw_below_drewN | apply below_drew1) | exact HB.out)))); have n1_ := Aside0.mk (below_step (by repeat (first | (with_reducible first | exact HB.out | apply below_alloc | apply pw_below_drewN | apply below_drew1) | exact HB.out)) hb); clear HB; have HO118 := n0_; have HB := n1_; clear n0_ n1_; clear hb ho7) | ((with_reducible refine gate_callee (f := 54) rfl ?_); refine goesL_ (some 11) rfl rfl Tryz.func54 (by kernel_rfl) rfl #[.int .u64 a1, .int .i64 a2] rfl (by (try simp only [List.map_toArray, List.map_cons, List.map_nil]); first | done | rfl | (simp only [List.length_drop, List.length_take]; rfl)) ?_; (with_reducible refine (spec_fixed.calls k a1 a2 t119 _ A4.out).mono ?_); rintro e w8 ⟨v120, rfl, ho0, hb⟩; refine ⟨_, rfl, ?_⟩; have n0_ := Aside0.mk (Kd.R_elder' (by (with_reducible repeat (first | apply Kd.R_alloc | apply Kd.R_drewN | apply Kd.R_drew)); exact HO118.out) (Kd.R_base ho0) hb); have n1_ := Aside0.mk (Kd.R_lower (Kd.R_new' ho0 (Kd.R_lt (by (with_reducible repeat (first | apply Kd.R_alloc | apply Kd.R_drewN | apply Kd.R_drew)); exact HO118.out))) (below_size (by repeat (first | (with_reducible first | exact HB.out | apply below_alloc | apply pw_below_drewN | apply below_drew1) | exact HB.out)))); have n2_ := Aside0.mk (below_step (by repeat (first | (with_reducible first | exact HB.out | apply below_alloc | apply pw_below_drewN | apply below_drew1) | exact HB.out)) hb); clear HO118; clear HB; have HO118 := n0_; have HO121 := n1_; have HB := n2_; clear n0_ n1_ n2_; (try clear hb); (try clear hb2); (try clear hk); (try clear hi); (try clear ho0); obtain ⟨Ao10, co10, eo10⟩ := Kd.R_slice HO121.out; subst eo10) | ((with_reducible refine gate_builtin (b := .append) (xs := #[.tmp 8, .tmp 11]) rfl ?_); at_builtin; refine Kd.R_append_rows (Kd.int .u8) (w0 := w) w.heap.size rfl (.tmp 8) (.tmp 11) 22 5 (.int .u8 0) 1 rfl Tryz.underlying22 info5 rfl (by decide) (by omega) v117 y116 t119 _ _ _ (fun k_ => some k_ ≠ (.slice Ao10 t119.length co10 : Value).ownBlock) (fun _ => False) rfl rfl ?aO ?aR (fun _ _ h => h) (fun _ h => h.elim) ?aF ?aB ?aS ?aL ?_; (case aR => repeat (first | exact (Kd.R_reads' HO121.out).2.2 | (with_reducible refine Kd.C_alloc ?_ _) | (with_reducible refine Kd.C_drewN ?_ _) | (with_reducible refine Kd.C_drew ?_))); (case aB => exact (by repeat (first | (with_reducible first | exact HB.out | apply below_alloc | apply pw_below_drewN | apply below_drew1) | exact HB.out))); (case aF => exact (fun k_ hk => Kd.fresh' (Kd.R_lt (by (with_reducible repeat (first | apply Kd.R_alloc | apply Kd.R_drewN | apply Kd.R_drew)); exact HO121.out)) k_ hk)); (case aO => exact (by (with_reducible repeat (first | apply Kd.R_alloc | apply Kd.R_drewN | apply Kd.R_drew)); exact Kd.R_mono HO118.out (fun _ hk => hk.2))); (case aS => exact (below_size (by repeat (first | (with_reducible first | exact HB.out | apply below_alloc | apply pw_below_drewN | apply below_drew1) | exact HB.out)))); (case aL => have := LMc5.out; omega); intro v123 w9 ho hb hg hat; rw [← Ny122.out] at ho; have n0_ := Aside0.mk (Kd.R_after (ok := (fun _ => True)) (by (with_reducible repeat (first | apply Kd.R_alloc | apply Kd.R_drewN | apply Kd.R_drew)); exact HO121.out) hg hat); have n1_ := Aside0.mk (hb); have n2_ := Aside0.mk (ho); clear HO121; clear HB; clear HO118; have HO121 := n0_; have HB := n1_; have HO124 := n2_; clear n0_ n1_ n2_; clear ho hb hg hat))
    go_ret
    exact ⟨_, by first | rfl | (simp [errW_none, errW_some] <;> rfl) | (simp [*, errW_none, errW_some] <;> rfl), by (with_reducible repeat (first | apply Kd.R_alloc | apply Kd.R_drewN | apply Kd.R_drew)); exact Kd.R_mono HO124.out (fun _ hk => trivial), by repeat (first | (with_reducible first | exact HB.out | apply below_alloc | apply pw_below_drewN | apply below_drew1) | exact HB.out)⟩
  · rw [if_neg c5] at H
    exact absurd H (by simp)

/-! ### spec_IntText: function 12 -/
mutual
def spec_IntText.j0 : Nat → Int → Bool → Option (List Int)
  | 0, _, _ => none
  | k + 1, x0, x3 => if x3 = true then (some (([(x0) % 256] : List Int))) else (if x0 ≥ (-128) then (spec_IntText.j1 k x0 (decide (x0 ≤ 127))) else (spec_IntText.j1 k x0 false))
def spec_IntText.j1 : Nat → Int → Bool → Option (List Int)
  | 0, _, _ => none
  | k + 1, x0, x13 => if x13 = true then ((spec_With.f k 208 (IntKind.u64.wrap (x0)) 1).bind fun t128 => (some t128)) else (if x0 ≥ (-32768) then (spec_IntText.j2 k x0 (decide (x0 ≤ 32767))) else (spec_IntText.j2 k x0 false))
def spec_IntText.j2 : Nat → Int → Bool → Option (List Int)
  | 0, _, _ => none
  | k + 1, x0, x23 => if x23 = true then ((spec_With.f k 209 (IntKind.u64.wrap (x0)) 2).bind fun t131 => (some t131)) else (if x0 ≥ (-2147483648) then (spec_IntText.j3 k x0 (decide (x0 < 2147483648))) else (spec_IntText.j3 k x0 false))
def spec_IntText.j3 : Nat → Int → Bool → Option (List Int)
  | 0, _, _ => none
  | k + 1, x0, x33 => if x33 = true then ((spec_With.f k 210 (IntKind.u64.wrap (x0)) 4).bind fun t134 => (some t134)) else ((spec_With.f k 211 (IntKind.u64.wrap (x0)) 8).bind fun t137 => (some t137))
end
def spec_IntText.f (k : Nat) (a0 : Int) : Option (List Int) := if a0 ≥ (-32) then (spec_IntText.j0 k a0 (decide (a0 ≤ 127))) else (spec_IntText.j0 k a0 false)
theorem spec_IntText.mono_l : ∀ k, (∀ y0 y1, LeO (spec_IntText.j0 k y0 y1) (spec_IntText.j0 (k + 1) y0 y1)) ∧ (∀ y0 y1, LeO (spec_IntText.j1 k y0 y1) (spec_IntText.j1 (k + 1) y0 y1)) ∧ (∀ y0 y1, LeO (spec_IntText.j2 k y0 y1) (spec_IntText.j2 (k + 1) y0 y1)) ∧ (∀ y0 y1, LeO (spec_IntText.j3 k y0 y1) (spec_IntText.j3 (k + 1) y0 y1))
  | 0 => ⟨fun _ _ r h => by simp [spec_IntText.j0] at h, fun _ _ r h => by simp [spec_IntText.j1] at h, fun _ _ r h => by simp [spec_IntText.j2] at h, fun _ _ r h => by simp [spec_IntText.j3] at h⟩
  | k + 1 => by
    obtain ⟨ih0, ih1, ih2, ih3⟩ := spec_IntText.mono_l k
    refine ⟨?_, ?_, ?_, ?_⟩
    · intro y0 y1
      unfold spec_IntText.j0
      repeat' first
      | (with_reducible exact ih0 _ _)
      | (with_reducible exact ih1 _ _)
      | (with_reducible exact ih2 _ _)
      | (with_reducible exact ih3 _ _)
      | (with_reducible exact spec_With.mono _ _ _ _)
      | (with_reducible exact LeO.refl _)
      | (with_reducible exact LeO.none _)
      | (with_reducible refine LeO.ite ?_ ?_)
      | (with_reducible refine LeO.bind ?_ (fun _ => ?_))
      | exact ih0 _ _
      | exact ih1 _ _
      | exact ih2 _ _
      | exact ih3 _ _
      | exact spec_With.mono _ _ _ _
      | exact LeO.none _
      | refine LeO.ite ?_ ?_
      | refine LeO.bind ?_ (fun _ => ?_)
    · intro y0 y1
      unfold spec_IntText.j1
      repeat' first
      | (with_reducible exact ih0 _ _)
      | (with_reducible exact ih1 _ _)
      | (with_reducible exact ih2 _ _)
      | (with_reducible exact ih3 _ _)
      | (with_reducible exact spec_With.mono _ _ _ _)
      | (with_reducible exact LeO.refl _)
      | (with_reducible exact LeO.none _)
      | (with_reducible refine LeO.ite ?_ ?_)
      | (with_reducible refine LeO.bind ?_ (fun _ => ?_))
      | exact ih0 _ _
      | exact ih1 _ _
      | exact ih2 _ _
      | exact ih3 _ _
      | exact spec_With.mono _ _ _ _
      | exact LeO.none _
      | refine LeO.ite ?_ ?_
      | refine LeO.bind ?_ (fun _ => ?_)
    · intro y0 y1
      unfold spec_IntText.j2
      repeat' first
      | (with_reducible exact ih0 _ _)
      | (with_reducible exact ih1 _ _)
      | (with_reducible exact ih2 _ _)
      | (with_reducible exact ih3 _ _)
      | (with_reducible exact spec_With.mono _ _ _ _)
      | (with_reducible exact LeO.refl _)
      | (with_reducible exact LeO.none _)
      | (with_reducible refine LeO.ite ?_ ?_)
      | (with_reducible refine LeO.bind ?_ (fun _ => ?_))
      | exact ih0 _ _
      | exact ih1 _ _
      | exact ih2 _ _
      | exact ih3 _ _
      | exact spec_With.mono _ _ _ _
      | exact LeO.none _
      | refine LeO.ite ?_ ?_
      | refine LeO.bind ?_ (fun _ => ?_)
    · intro y0 y1
      unfold spec_IntText.j3
      repeat' first
      | (with_reducible exact ih0 _ _)
      | (with_reducible exact ih1 _ _)
      | (with_reducible exact ih2 _ _)
      | (with_reducible exact ih3 _ _)
      | (with_reducible exact spec_With.mono _ _ _ _)
      | (with_reducible exact LeO.refl _)
      | (with_reducible exact LeO.none _)
      | (with_reducible refine LeO.ite ?_ ?_)
      | (with_reducible refine LeO.bind ?_ (fun _ => ?_))
      | exact ih0 _ _
      | exact ih1 _ _
      | exact ih2 _ _
      | exact ih3 _ _
      | exact spec_With.mono _ _ _ _
      | exact LeO.none _
      | refine LeO.ite ?_ ?_
      | refine LeO.bind ?_ (fun _ => ?_)
theorem spec_IntText.mono : ∀ a0 k, LeO (spec_IntText.f k a0) (spec_IntText.f (k + 1) a0) := by
  intro a0 k
  obtain ⟨ih0, ih1, ih2, ih3⟩ := spec_IntText.mono_l k
  unfold spec_IntText.f
  repeat' first
      | (with_reducible exact ih0 _ _)
      | (with_reducible exact ih1 _ _)
      | (with_reducible exact ih2 _ _)
      | (with_reducible exact ih3 _ _)
      | (with_reducible exact spec_With.mono _ _ _ _)
      | (with_reducible exact LeO.refl _)
      | (with_reducible exact LeO.none _)
      | (with_reducible refine LeO.ite ?_ ?_)
      | (with_reducible refine LeO.bind ?_ (fun _ => ?_))
      | exact ih0 _ _
      | exact ih1 _ _
      | exact ih2 _ _
      | exact ih3 _ _
      | exact spec_With.mono _ _ _ _
      | exact LeO.none _
      | refine LeO.ite ?_ ?_
      | refine LeO.bind ?_ (fun _ => ?_)
set_option maxHeartbeats 8000000 in
set_option maxRecDepth 100000 in
theorem spec_IntText.calls (k : Nat) (a0 : Int) (r : List Int) (w : World) (h : spec_IntText.f k a0 = some r) :
    Calls Tryz.prog 12 #[.int .i64 a0] w fun e w' => ∃ v0_ : Value, e = .returned (v0_) ∧ Kd.R (Kd.int .u8) 5 w' w.heap.size (fun _ => True) v0_ r ∧ Below w.heap.size w w' := by
  have HB := Aside0.mk (Below.refl w.heap.size w)
  have H : (if a0 ≥ (-32) then (spec_IntText.j0 k a0 (decide (a0 ≤ 127))) else (spec_IntText.j0 k a0 false)) = some r := h
  clear h
  have HC2 := Aside0.mk H
  clear H
  go_enter Tryz.func12, Tryz.ntmps12
  go_upto_region 1 with (fail)
  go_cut [3] (fun v3 wc => ∃ (kq : Nat) (x3_1 : Bool), v3 = .bool x3_1 ∧ Aside0 (spec_IntText.j0 kq a0 x3_1 = some r) ∧ Aside0 (kq ≤ k) ∧ Aside0 (Below w.heap.size w wc))
  case first =>
    have H := HC2.out
    clear HC2
    by_cases c3 : a0 ≥ (-32)
    · rw [if_pos c3] at H
      have c3b0 : decide ((-32) ≤ a0) = true := decide_eq_true c3
      clear c3
      (first | rw [c3b0] | (simp only [i64_w, i32_w]; rw [c3b0]) | skip)
      have H' := Aside0.mk H
      clear H
      go_wp2
      go_meet
      case rel => exact ⟨_, (decide (a0 ≤ 127)), (by first | rfl | (simp; done) | (simp [*]; done)), H', ⟨by first | omega | exact Nat.le_refl _⟩, ⟨by repeat (first | (with_reducible first | exact HB.out | apply below_alloc | apply pw_below_drewN | apply below_drew1) | exact HB.out)⟩⟩
    · rw [if_neg c3] at H
      have c3b0 : decide ((-32) ≤ a0) = false := decide_eq_false c3
      clear c3
      (first | rw [c3b0] | (simp only [i64_w, i32_w]; rw [c3b0]) | skip)
      have H' := Aside0.mk H
      clear H
      go_wp2
      go_meet
      case rel => exact ⟨_, (false), (by first | rfl | (simp; done) | (simp [*]; done)), H', ⟨by first | omega | exact Nat.le_refl _⟩, ⟨by repeat (first | (with_reducible first | exact HB.out | apply below_alloc | apply pw_below_drewN | apply below_drew1) | exact HB.out)⟩⟩
  case rest =>
    clear HC2
    try clear c1
    try clear p2
    try clear c3
    try clear c3b0
    obtain ⟨kq, x3_1, rfl, HA, HJ1, HB⟩ := hcut
    cases kq with
    | zero => exact absurd HA.out (by simp [spec_IntText.j0])
    | succ kj1 =>
      have H := HA.out
      clear HA
      simp only [spec_IntText.j0] at H
      by_cases c4 : x3_1 = true
      · subst c4
        have H1 : (some (([(a0) % 256] : List Int))) = some r := by rw [if_pos rfl] at H; exact H
        clear H
        have H := H1
        clear H1
        obtain ⟨y125, hy125⟩ : ∃ y_ : List Int, y_ = (([(a0) % 256] : List Int)) := ⟨_, rfl⟩
        replace H : (some y125) = some r := by first | (rw [hy125]; with_reducible exact H) | (have H2_ := (Option.bind_some _ _).symm.trans H; rw [hy125]; with_reducible exact H2_) | (have H2_ := (Option.bind_some _ _).symm.trans H; with_reducible exact H2_) | with_reducible exact H | (rw [hy125]; exact H) | exact H
        have Ny125 := Aside0.mk hy125
        clear hy125
        obtain rfl := Option.some.inj H
        go_wp2_with (first | ((with_reducible refine gate_dst (N := 12) rfl ?_); refine Kd.R_lit (Kd.int .u8) _ 5 ?hg (N := 12) ?hd (xs := ([(a0) % 256] : List Int)) (inner := [.int .u8 ((a0) % 256)]) (ok := fun _ => True) (okp := fun _ => True) ?hr ?hp (fun _ hk => hk) trivial (Below.refl _ _) (Nat.le_refl _) (by simp) ?_; (case hd => rfl); (case hg => rfl); (case hr => first | (go_simp; done) | (go_simp; rfl)); (case hp => exact (Reps.one (show Kd.M (Kd.int .u8) _ _ _ ((a0) % 256) [.int .u8 ((a0) % 256)] from rfl) (Reps.none _ _))); intro v126 w5 ho6 hb hg_ hnew_; clear hg_ hnew_; (first | rw [← Ny125.out] at ho6 | (simp only [Int.reduceToNat] at ho6; rw [← Ny125.out] at ho6)); have n0_ := Aside0.mk (Kd.R_lower ho6 (below_size (by repeat (first | (with_reducible first | exact HB.out | apply below_alloc | apply pw_below_drewN | apply below_drew1) | exact HB.out)))); have n1_ := Aside0.mk (below_step (by repeat (first | (with_reducible first | exact HB.out | apply below_alloc | apply pw_below_drewN | apply below_drew1) | exact HB.out)) hb); clear HB; have HO127 := n0_; have HB := n1_; clear n0_ n1_; clear hb ho6))
        go_ret
        exact ⟨_, by first | rfl | (simp [errW_none, errW_some] <;> rfl) | (simp [*, errW_none, errW_some] <;> rfl), by (with_reducible repeat (first | apply Kd.R_alloc | apply Kd.R_drewN | apply Kd.R_drew)); exact HO127.out, by repeat (first | (with_reducible first | exact HB.out | apply below_alloc | apply pw_below_drewN | apply below_drew1) | exact HB.out)⟩
      · replace c4 := Bool.eq_false_iff.mpr c4
        subst c4
        have H1 : (if a0 ≥ (-128) then (spec_IntText.j1 kj1 a0 (decide (a0 ≤ 127))) else (spec_IntText.j1 kj1 a0 false)) = some r := by rw [if_neg (show ¬ (false = true) by decide)] at H; exact H
        clear H
        have H := H1
        clear H1
        have HC7 := Aside0.mk H
        clear H
        go_upto_region 3 with (fail)
        go_cut [13] (fun v13 wc => ∃ (kq : Nat) (x13_6 : Bool), v13 = .bool x13_6 ∧ Aside0 (spec_IntText.j1 kq a0 x13_6 = some r) ∧ Aside0 (kq ≤ kj1) ∧ Aside0 (Below w.heap.size w wc))
        case first =>
          have H := HC7.out
          clear HC7
          by_cases c8 : a0 ≥ (-128)
          · rw [if_pos c8] at H
            have c8b0 : decide ((-128) ≤ a0) = true := decide_eq_true c8
            clear c8
            (first | rw [c8b0] | (simp only [i64_w, i32_w]; rw [c8b0]) | skip)
            have H' := Aside0.mk H
            clear H
            go_wp2
            go_meet
            case rel => exact ⟨_, (decide (a0 ≤ 127)), (by first | rfl | (simp; done) | (simp [*]; done)), H', ⟨by have := HJ1.out; first | omega | exact Nat.le_refl _⟩, ⟨by repeat (first | (with_reducible first | exact HB.out | apply below_alloc | apply pw_below_drewN | apply below_drew1) | exact HB.out)⟩⟩
          · rw [if_neg c8] at H
            have c8b0 : decide ((-128) ≤ a0) = false := decide_eq_false c8
            clear c8
            (first | rw [c8b0] | (simp only [i64_w, i32_w]; rw [c8b0]) | skip)
            have H' := Aside0.mk H
            clear H
            go_wp2
            go_meet
            case rel => exact ⟨_, (false), (by first | rfl | (simp; done) | (simp [*]; done)), H', ⟨by have := HJ1.out; first | omega | exact Nat.le_refl _⟩, ⟨by repeat (first | (with_reducible first | exact HB.out | apply below_alloc | apply pw_below_drewN | apply below_drew1) | exact HB.out)⟩⟩
        case rest =>
          clear HC7
          try clear c1
          try clear p2
          try clear c3
          try clear c3b0
          try clear c4
          try clear c8
          try clear c8b0
          try clear p2
          obtain ⟨kq, x13_6, rfl, HA, HJ6, HB⟩ := hcut
          cases kq with
          | zero => exact absurd HA.out (by simp [spec_IntText.j1])
          | succ kj6 =>
            have H := HA.out
            clear HA
            simp only [spec_IntText.j1] at H
            by_cases c9 : x13_6 = true
            · subst c9
              have H1 : ((spec_With.f kj6 208 (IntKind.u64.wrap (a0)) 1).bind fun t128 => (some t128)) = some r := by rw [if_pos rfl] at H; exact H
              clear H
              have H := H1
              clear H1
              replace H := Option.bind_eq_some_iff.mp H
              obtain ⟨t128, A100, H⟩ := H
              replace H : (some t128) = some r := H
              have A10 := Aside0.mk A100
              clear A100
              obtain rfl := Option.some.inj H
              go_wp2_with (first | ((with_reducible refine gate_callee (f := 29) rfl ?_); refine goesL_ (some 22) rfl rfl Tryz.func29 (by kernel_rfl) rfl #[.int .u8 208, .int .u64 (IntKind.u64.wrap (a0)), .int .i64 1] rfl (by (try simp only [List.map_toArray, List.map_cons, List.map_nil]); first | done | rfl | (simp only [List.length_drop, List.length_take]; rfl)) ?_; (with_reducible refine (spec_With.calls kj6 208 (IntKind.u64.wrap (a0)) 1 t128 _ A10.out).mono ?_); rintro e w11 ⟨v129, rfl, ho0, hb⟩; refine ⟨_, rfl, ?_⟩; have n0_ := Aside0.mk (Kd.R_lower ho0 (below_size (by repeat (first | (with_reducible first | exact HB.out | apply below_alloc | apply pw_below_drewN | apply below_drew1) | exact HB.out)))); have n1_ := Aside0.mk (below_step (by repeat (first | (with_reducible first | exact HB.out | apply below_alloc | apply pw_below_drewN | apply below_drew1) | exact HB.out)) hb); clear HB; have HO130 := n0_; have HB := n1_; clear n0_ n1_; (try clear hb); (try clear hb2); (try clear hk); (try clear hi); (try clear ho0)))
              go_ret
              exact ⟨_, by first | rfl | (simp [errW_none, errW_some] <;> rfl) | (simp [*, errW_none, errW_some] <;> rfl), by (with_reducible repeat (first | apply Kd.R_alloc | apply Kd.R_drewN | apply Kd.R_drew)); exact HO130.out, by repeat (first | (with_reducible first | exact HB.out | apply below_alloc | apply pw_below_drewN | apply below_drew1) | exact HB.out)⟩
            · replace c9 := Bool.eq_false_iff.mpr c9
              subst c9
              have H1 : (if a0 ≥ (-32768) then (spec_IntText.j2 kj6 a0 (decide (a0 ≤ 32767))) else (spec_IntText.j2 kj6 a0 false)) = some r := by rw [if_neg (show ¬ (false = true) by decide)] at H; exact H
              clear H
              have H := H1
              clear H1
              have HC12 := Aside0.mk H
              clear H
              go_upto_region 5 with (fail)
              go_cut [23] (fun v23 wc => ∃ (kq : Nat) (x23_11 : Bool), v23 = .bool x23_11 ∧ Aside0 (spec_IntText.j2 kq a0 x23_11 = some r) ∧ Aside0 (kq ≤ kj6) ∧ Aside0 (Below w.heap.size w wc))
              case first =>
                have H := HC12.out
                clear HC12
                by_cases c13 : a0 ≥ (-32768)
                · rw [if_pos c13] at H
                  have c13b0 : decide ((-32768) ≤ a0) = true := decide_eq_true c13
                  clear c13
                  (first | rw [c13b0] | (simp only [i64_w, i32_w]; rw [c13b0]) | skip)
                  have H' := Aside0.mk H
                  clear H
                  go_wp2
                  go_meet
                  case rel => exact ⟨_, (decide (a0 ≤ 32767)), (by first | rfl | (simp; done) | (simp [*]; done)), H', ⟨by have := HJ1.out; have := HJ6.out; first | omega | exact Nat.le_refl _⟩, ⟨by repeat (first | (with_reducible first | exact HB.out | apply below_alloc | apply pw_below_drewN | apply below_drew1) | exact HB.out)⟩⟩
                · rw [if_neg c13] at H
                  have c13b0 : decide ((-32768) ≤ a0) = false := decide_eq_false c13
                  clear c13
                  (first | rw [c13b0] | (simp only [i64_w, i32_w]; rw [c13b0]) | skip)
                  have H' := Aside0.mk H
                  clear H
                  go_wp2
                  go_meet
                  case rel => exact ⟨_, (false), (by first | rfl | (simp; done) | (simp [*]; done)), H', ⟨by have := HJ1.out; have := HJ6.out; first | omega | exact Nat.le_refl _⟩, ⟨by repeat (first | (with_reducible first | exact HB.out | apply below_alloc | apply pw_below_drewN | apply below_drew1) | exact HB.out)⟩⟩
              case rest =>
                clear HC12
                try clear c1
                try clear c2
                try clear p2
                try clear c3
                try clear c3b0
                try clear c4
                try clear c8
                try clear c8b0
                try clear c9
                try clear c12
                try clear c13
                try clear c13b0
                try clear p2
                obtain ⟨kq, x23_11, rfl, HA, HJ11, HB⟩ := hcut
                cases kq with
                | zero => exact absurd HA.out (by simp [spec_IntText.j2])
                | succ kj11 =>
                  have H := HA.out
                  clear HA
                  simp only [spec_IntText.j2] at H
                  by_cases c14 : x23_11 = true
                  · subst c14
                    have H1 : ((spec_With.f kj11 209 (IntKind.u64.wrap (a0)) 2).bind fun t131 => (some t131)) = some r := by rw [if_pos rfl] at H; exact H
                    clear H
                    have H := H1
                    clear H1
                    replace H := Option.bind_eq_some_iff.mp H
                    obtain ⟨t131, A150, H⟩ := H
                    replace H : (some t131) = some r := H
                    have A15 := Aside0.mk A150
                    clear A150
                    obtain rfl := Option.some.inj H
                    go_wp2_with (first | ((with_reducible refine gate_callee (f := 29) rfl ?_); refine goesL_ (some 32) rfl rfl Tryz.func29 (by kernel_rfl) rfl #[.int .u8 209, .int .u64 (IntKind.u64.wrap (a0)), .int .i64 2] rfl (by (try simp only [List.map_toArray, List.map_cons, List.map_nil]); first | done | rfl | (simp only [List.length_drop, List.length_take]; rfl)) ?_; (with_reducible refine (spec_With.calls kj11 209 (IntKind.u64.wrap (a0)) 2 t131 _ A15.out).mono ?_); rintro e w16 ⟨v132, rfl, ho0, hb⟩; refine ⟨_, rfl, ?_⟩; have n0_ := Aside0.mk (Kd.R_lower ho0 (below_size (by repeat (first | (with_reducible first | exact HB.out | apply below_alloc | apply pw_below_drewN | apply below_drew1) | exact HB.out)))); have n1_ := Aside0.mk (below_step (by repeat (first | (with_reducible first | exact HB.out | apply below_alloc | apply pw_below_drewN | apply below_drew1) | exact HB.out)) hb); clear HB; have HO133 := n0_; have HB := n1_; clear n0_ n1_; (try clear hb); (try clear hb2); (try clear hk); (try clear hi); (try clear ho0)))
                    go_ret
                    exact ⟨_, by first | rfl | (simp [errW_none, errW_some] <;> rfl) | (simp [*, errW_none, errW_some] <;> rfl), by (with_reducible repeat (first | apply Kd.R_alloc | apply Kd.R_drewN | apply Kd.R_drew)); exact HO133.out, by repeat (first | (with_reducible first | exact HB.out | apply below_alloc | apply pw_below_drewN | apply below_drew1) | exact HB.out)⟩
                  · replace c14 := Bool.eq_false_iff.mpr c14
                    subst c14
                    have H1 : (if a0 ≥ (-2147483648) then (spec_IntText.j3 kj11 a0 (decide (a0 < 2147483648))) else (spec_IntText.j3 kj11 a0 false)) = some r := by rw [if_neg (show ¬ (false = true) by decide)] at H; exact H
                    clear H
                    have H := H1
                    clear H1
                    have HC17 := Aside0.mk H
                    clear H
                    go_upto_region 7 with (fail)
                    go_cut [33] (fun v33 wc => ∃ (kq : Nat) (x33_16 : Bool), v33 = .bool x33_16 ∧ Aside0 (spec_IntText.j3 kq a0 x33_16 = some r) ∧ Aside0 (kq ≤ kj11) ∧ Aside0 (Below w.heap.size w wc))
                    case first =>
                      have H := HC17.out
                      clear HC17
                      by_cases c18 : a0 ≥ (-2147483648)
                      · rw [if_pos c18] at H
                        have c18b0 : decide ((-2147483648) ≤ a0) = true := decide_eq_true c18
                        clear c18
                        (first | rw [c18b0] | (simp only [i64_w, i32_w]; rw [c18b0]) | skip)
                        have H' := Aside0.mk H
                        clear H
                        go_wp2
                        go_meet
                        case rel => exact ⟨_, (decide (a0 < 2147483648)), (by first | rfl | (simp; done) | (simp [*]; done)), H', ⟨by have := HJ1.out; have := HJ6.out; have := HJ11.out; first | omega | exact Nat.le_refl _⟩, ⟨by repeat (first | (with_reducible first | exact HB.out | apply below_alloc | apply pw_below_drewN | apply below_drew1) | exact HB.out)⟩⟩
                      · rw [if_neg c18] at H
                        have c18b0 : decide ((-2147483648) ≤ a0) = false := decide_eq_false c18
                        clear c18
                        (first | rw [c18b0] | (simp only [i64_w, i32_w]; rw [c18b0]) | skip)
                        have H' := Aside0.mk H
                        clear H
                        go_wp2
                        go_meet
                        case rel => exact ⟨_, (false), (by first | rfl | (simp; done) | (simp [*]; done)), H', ⟨by have := HJ1.out; have := HJ6.out; have := HJ11.out; first | omega | exact Nat.le_refl _⟩, ⟨by repeat (first | (with_reducible first | exact HB.out | apply below_alloc | apply pw_below_drewN | apply below_drew1) | exact HB.out)⟩⟩
                    case rest =>
                      clear HC17
                      try clear c1
                      try clear c2
                      try clear p2
                      try clear c3
                      try clear c3b0
                      try clear c4
                      try clear c8
                      try clear c8b0
                      try clear c9
                      try clear c12
                      try clear c13
                      try clear c13b0
                      try clear c14
                      try clear c18
                      try clear c18b0
                      try clear p2
                      obtain ⟨kq, x33_16, rfl, HA, HJ16, HB⟩ := hcut
                      cases kq with
                      | zero => exact absurd HA.out (by simp [spec_IntText.j3])
                      | succ kj16 =>
                        have H := HA.out
                        clear HA
                        simp only [spec_IntText.j3] at H
                        by_cases c19 : x33_16 = true
                        · subst c19
                          have H1 : ((spec_With.f kj16 210 (IntKind.u64.wrap (a0)) 4).bind fun t134 => (some t134)) = some r := by rw [if_pos rfl] at H; exact H
                          clear H
                          have H := H1
                          clear H1
                          replace H := Option.bind_eq_some_iff.mp H
                          obtain ⟨t134, A200, H⟩ := H
                          replace H : (some t134) = some r := H
                          have A20 := Aside0.mk A200
                          clear A200
                          obtain rfl := Option.some.inj H
                          go_wp2_with (first | ((with_reducible refine gate_callee (f := 29) rfl ?_); refine goesL_ (some 42) rfl rfl Tryz.func29 (by kernel_rfl) rfl #[.int .u8 210, .int .u64 (IntKind.u64.wrap (a0)), .int .i64 4] rfl (by (try simp only [List.map_toArray, List.map_cons, List.map_nil]); first | done | rfl | (simp only [List.length_drop, List.length_take]; rfl)) ?_; (with_reducible refine (spec_With.calls kj16 210 (IntKind.u64.wrap (a0)) 4 t134 _ A20.out).mono ?_); rintro e w21 ⟨v135, rfl, ho0, hb⟩; refine ⟨_, rfl, ?_⟩; have n0_ := Aside0.mk (Kd.R_lower ho0 (below_size (by repeat (first | (with_reducible first | exact HB.out | apply below_alloc | apply pw_below_drewN | apply below_drew1) | exact HB.out)))); have n1_ := Aside0.mk (below_step (by repeat (first | (with_reducible first | exact HB.out | apply below_alloc | apply pw_below_drewN | apply below_drew1) | exact HB.out)) hb); clear HB; have HO136 := n0_; have HB := n1_; clear n0_ n1_; (try clear hb); (try clear hb2); (try clear hk); (try clear hi); (try clear ho0)))
                          go_ret
                          exact ⟨_, by first | rfl | (simp [errW_none, errW_some] <;> rfl) | (simp [*, errW_none, errW_some] <;> rfl), by (with_reducible repeat (first | apply Kd.R_alloc | apply Kd.R_drewN | apply Kd.R_drew)); exact HO136.out, by repeat (first | (with_reducible first | exact HB.out | apply below_alloc | apply pw_below_drewN | apply below_drew1) | exact HB.out)⟩
                        · replace c19 := Bool.eq_false_iff.mpr c19
                          subst c19
                          have H1 : ((spec_With.f kj16 211 (IntKind.u64.wrap (a0)) 8).bind fun t137 => (some t137)) = some r := by rw [if_neg (show ¬ (false = true) by decide)] at H; exact H
                          clear H
                          have H := H1
                          clear H1
                          replace H := Option.bind_eq_some_iff.mp H
                          obtain ⟨t137, A220, H⟩ := H
                          replace H : (some t137) = some r := H
                          have A22 := Aside0.mk A220
                          clear A220
                          obtain rfl := Option.some.inj H
                          go_wp2_with (first | ((with_reducible refine gate_callee (f := 29) rfl ?_); refine goesL_ (some 45) rfl rfl Tryz.func29 (by kernel_rfl) rfl #[.int .u8 211, .int .u64 (IntKind.u64.wrap (a0)), .int .i64 8] rfl (by (try simp only [List.map_toArray, List.map_cons, List.map_nil]); first | done | rfl | (simp only [List.length_drop, List.length_take]; rfl)) ?_; (with_reducible refine (spec_With.calls kj16 211 (IntKind.u64.wrap (a0)) 8 t137 _ A22.out).mono ?_); rintro e w23 ⟨v138, rfl, ho0, hb⟩; refine ⟨_, rfl, ?_⟩; have n0_ := Aside0.mk (Kd.R_lower ho0 (below_size (by repeat (first | (with_reducible first | exact HB.out | apply below_alloc | apply pw_below_drewN | apply below_drew1) | exact HB.out)))); have n1_ := Aside0.mk (below_step (by repeat (first | (with_reducible first | exact HB.out | apply below_alloc | apply pw_below_drewN | apply below_drew1) | exact HB.out)) hb); clear HB; have HO139 := n0_; have HB := n1_; clear n0_ n1_; (try clear hb); (try clear hb2); (try clear hk); (try clear hi); (try clear ho0)))
                          go_ret
                          exact ⟨_, by first | rfl | (simp [errW_none, errW_some] <;> rfl) | (simp [*, errW_none, errW_some] <;> rfl), by (with_reducible repeat (first | apply Kd.R_alloc | apply Kd.R_drewN | apply Kd.R_drew)); exact HO139.out, by repeat (first | (with_reducible first | exact HB.out | apply below_alloc | apply pw_below_drewN | apply below_drew1) | exact HB.out)⟩

/-! ### spec_UintText: function 13 -/
def spec_UintText.f (k : Nat) (a0 : Int) : Option (List Int) := if a0 ≤ 127 then (some (([(a0) % 256] : List Int))) else (if a0 ≤ 255 then ((spec_With.f k 204 a0 1).bind fun t143 => (some t143)) else (if a0 ≤ 65535 then ((spec_With.f k 205 a0 2).bind fun t146 => (some t146)) else (if a0 < 4294967296 then ((spec_With.f k 206 a0 4).bind fun t149 => (some t149)) else ((spec_With.f k 207 a0 8).bind fun t152 => (some t152)))))
theorem spec_UintText.mono : ∀ a0 k, LeO (spec_UintText.f k a0) (spec_UintText.f (k + 1) a0) := by
  intro a0 k
  unfold spec_UintText.f
  repeat' first
      | (with_reducible exact spec_With.mono _ _ _ _)
      | (with_reducible exact LeO.refl _)
      | (with_reducible exact LeO.none _)
      | (with_reducible refine LeO.ite ?_ ?_)
      | (with_reducible refine LeO.bind ?_ (fun _ => ?_))
      | exact spec_With.mono _ _ _ _
      | exact LeO.none _
      | refine LeO.ite ?_ ?_
      | refine LeO.bind ?_ (fun _ => ?_)
set_option maxHeartbeats 8000000 in
set_option maxRecDepth 100000 in
theorem spec_UintText.calls (k : Nat) (a0 : Int) (r : List Int) (w : World) (h : spec_UintText.f k a0 = some r) :
    Calls Tryz.prog 13 #[.int .u64 a0] w fun e w' => ∃ v0_ : Value, e = .returned (v0_) ∧ Kd.R (Kd.int .u8) 5 w' w.heap.size (fun _ => True) v0_ r ∧ Below w.heap.size w w' := by
  have HB := Aside0.mk (Below.refl w.heap.size w)
  have H : (if a0 ≤ 127 then (some (([(a0) % 256] : List Int))) else (if a0 ≤ 255 then ((spec_With.f k 204 a0 1).bind fun t143 => (some t143)) else (if a0 ≤ 65535 then ((spec_With.f k 205 a0 2).bind fun t146 => (some t146)) else (if a0 < 4294967296 then ((spec_With.f k 206 a0 4).bind fun t149 => (some t149)) else ((spec_With.f k 207 a0 8).bind fun t152 => (some t152)))))) = some r := h
  clear h
  by_cases c2 : a0 ≤ 127
  · rw [if_pos c2] at H
    have c2b0 : decide (a0 ≤ 127) = true := decide_eq_true c2
    clear c2
    obtain ⟨y140, hy140⟩ : ∃ y_ : List Int, y_ = (([(a0) % 256] : List Int)) := ⟨_, rfl⟩
    replace H : (some y140) = some r := by first | (rw [hy140]; with_reducible exact H) | (have H2_ := (Option.bind_some _ _).symm.trans H; rw [hy140]; with_reducible exact H2_) | (have H2_ := (Option.bind_some _ _).symm.trans H; with_reducible exact H2_) | with_reducible exact H | (rw [hy140]; exact H) | exact H
    have Ny140 := Aside0.mk hy140
    clear hy140
    obtain rfl := Option.some.inj H
    go_enter Tryz.func13, Tryz.ntmps13
    go_wp2_with (first | ((with_reducible refine gate_dst (N := 8) rfl ?_); refine Kd.R_lit (Kd.int .u8) _ 5 ?hg (N := 8) ?hd (xs := ([(a0) % 256] : List Int)) (inner := [.int .u8 ((a0) % 256)]) (ok := fun _ => True) (okp := fun _ => True) ?hr ?hp (fun _ hk => hk) trivial (Below.refl _ _) (Nat.le_refl _) (by simp) ?_; (case hd => rfl); (case hg => rfl); (case hr => first | (go_simp; done) | (go_simp; rfl)); (case hp => exact (Reps.one (show Kd.M (Kd.int .u8) _ _ _ ((a0) % 256) [.int .u8 ((a0) % 256)] from rfl) (Reps.none _ _))); intro v141 w3 ho4 hb hg_ hnew_; clear hg_ hnew_; (first | rw [← Ny140.out] at ho4 | (simp only [Int.reduceToNat] at ho4; rw [← Ny140.out] at ho4)); have n0_ := Aside0.mk (Kd.R_lower ho4 (below_size (by repeat (first | (with_reducible first | exact HB.out | apply below_alloc | apply pw_below_drewN | apply below_drew1) | exact HB.out)))); have n1_ := Aside0.mk (below_step (by repeat (first | (with_reducible first | exact HB.out | apply below_alloc | apply pw_below_drewN | apply below_drew1) | exact HB.out)) hb); clear HB; have HO142 := n0_; have HB := n1_; clear n0_ n1_; clear hb ho4))
    go_ret
    exact ⟨_, by first | rfl | (simp [errW_none, errW_some] <;> rfl) | (simp [*, errW_none, errW_some] <;> rfl), by (with_reducible repeat (first | apply Kd.R_alloc | apply Kd.R_drewN | apply Kd.R_drew)); exact HO142.out, by repeat (first | (with_reducible first | exact HB.out | apply below_alloc | apply pw_below_drewN | apply below_drew1) | exact HB.out)⟩
  · rw [if_neg c2] at H
    have c2b0 : decide (a0 ≤ 127) = false := decide_eq_false c2
    clear c2
    by_cases c5 : a0 ≤ 255
    · rw [if_pos c5] at H
      have c5b0 : decide (a0 ≤ 255) = true := decide_eq_true c5
      clear c5
      replace H := Option.bind_eq_some_iff.mp H
      obtain ⟨t143, A60, H⟩ := H
      replace H : (some t143) = some r := H
      have A6 := Aside0.mk A60
      clear A60
      obtain rfl := Option.some.inj H
      go_enter Tryz.func13, Tryz.ntmps13
      go_wp2_with (first | ((with_reducible refine gate_callee (f := 29) rfl ?_); refine goesL_ (some 13) rfl rfl Tryz.func29 (by kernel_rfl) rfl #[.int .u8 204, .int .u64 a0, .int .i64 1] rfl (by (try simp only [List.map_toArray, List.map_cons, List.map_nil]); first | done | rfl | (simp only [List.length_drop, List.length_take]; rfl)) ?_; (with_reducible refine (spec_With.calls k 204 a0 1 t143 _ A6.out).mono ?_); rintro e w7 ⟨v144, rfl, ho0, hb⟩; refine ⟨_, rfl, ?_⟩; have n0_ := Aside0.mk (Kd.R_lower ho0 (below_size (by repeat (first | (with_reducible first | exact HB.out | apply below_alloc | apply pw_below_drewN | apply below_drew1) | exact HB.out)))); have n1_ := Aside0.mk (below_step (by repeat (first | (with_reducible first | exact HB.out | apply below_alloc | apply pw_below_drewN | apply below_drew1) | exact HB.out)) hb); clear HB; have HO145 := n0_; have HB := n1_; clear n0_ n1_; (try clear hb); (try clear hb2); (try clear hk); (try clear hi); (try clear ho0)))
      go_ret
      exact ⟨_, by first | rfl | (simp [errW_none, errW_some] <;> rfl) | (simp [*, errW_none, errW_some] <;> rfl), by (with_reducible repeat (first | apply Kd.R_alloc | apply Kd.R_drewN | apply Kd.R_drew)); exact HO145.out, by repeat (first | (with_reducible first | exact HB.out | apply below_alloc | apply pw_below_drewN | apply below_drew1) | exact HB.out)⟩
    · rw [if_neg c5] at H
      have c5b0 : decide (a0 ≤ 255) = false := decide_eq_false c5
      clear c5
      by_cases c8 : a0 ≤ 65535
      · rw [if_pos c8] at H
        have c8b0 : decide (a0 ≤ 65535) = true := decide_eq_true c8
        clear c8
        replace H := Option.bind_eq_some_iff.mp H
        obtain ⟨t146, A90, H⟩ := H
        replace H : (some t146) = some r := H
        have A9 := Aside0.mk A90
        clear A90
        obtain rfl := Option.some.inj H
        go_enter Tryz.func13, Tryz.ntmps13
        go_wp2_with (first | ((with_reducible refine gate_callee (f := 29) rfl ?_); refine goesL_ (some 18) rfl rfl Tryz.func29 (by kernel_rfl) rfl #[.int .u8 205, .int .u64 a0, .int .i64 2] rfl (by (try simp only [List.map_toArray, List.map_cons, List.map_nil]); first | done | rfl | (simp only [List.length_drop, List.length_take]; rfl)) ?_; (with_reducible refine (spec_With.calls k 205 a0 2 t146 _ A9.out).mono ?_); rintro e w10 ⟨v147, rfl, ho0, hb⟩; refine ⟨_, rfl, ?_⟩; have n0_ := Aside0.mk (Kd.R_lower ho0 (below_size (by repeat (first | (with_reducible first | exact HB.out | apply below_alloc | apply pw_below_drewN | apply below_drew1) | exact HB.out)))); have n1_ := Aside0.mk (below_step (by repeat (first | (with_reducible first | exact HB.out | apply below_alloc | apply pw_below_drewN | apply below_drew1) | exact HB.out)) hb); clear HB; have HO148 := n0_; have HB := n1_; clear n0_ n1_; (try clear hb); (try clear hb2); (try clear hk); (try clear hi); (try clear ho0)))
        go_ret
        exact ⟨_, by first | rfl | (simp [errW_none, errW_some] <;> rfl) | (simp [*, errW_none, errW_some] <;> rfl), by (with_reducible repeat (first | apply Kd.R_alloc | apply Kd.R_drewN | apply Kd.R_drew)); exact HO148.out, by repeat (first | (with_reducible first | exact HB.out | apply below_alloc | apply pw_below_drewN | apply below_drew1) | exact HB.out)⟩
      · rw [if_neg c8] at H
        have c8b0 : decide (a0 ≤ 65535) = false := decide_eq_false c8
        clear c8
        by_cases c11 : a0 < 4294967296
        · rw [if_pos c11] at H
          have c11b0 : decide (a0 < 4294967296) = true := decide_eq_true c11
          clear c11
          replace H := Option.bind_eq_some_iff.mp H
          obtain ⟨t149, A120, H⟩ := H
          replace H : (some t149) = some r := H
          have A12 := Aside0.mk A120
          clear A120
          obtain rfl := Option.some.inj H
          go_enter Tryz.func13, Tryz.ntmps13
          go_wp2_with (first | ((with_reducible refine gate_callee (f := 29) rfl ?_); refine goesL_ (some 23) rfl rfl Tryz.func29 (by kernel_rfl) rfl #[.int .u8 206, .int .u64 a0, .int .i64 4] rfl (by (try simp only [List.map_toArray, List.map_cons, List.map_nil]); first | done | rfl | (simp only [List.length_drop, List.length_take]; rfl)) ?_; (with_reducible refine (spec_With.calls k 206 a0 4 t149 _ A12.out).mono ?_); rintro e w13 ⟨v150, rfl, ho0, hb⟩; refine ⟨_, rfl, ?_⟩; have n0_ := Aside0.mk (Kd.R_lower ho0 (below_size (by repeat (first | (with_reducible first | exact HB.out | apply below_alloc | apply pw_below_drewN | apply below_drew1) | exact HB.out)))); have n1_ := Aside0.mk (below_step (by repeat (first | (with_reducible first | exact HB.out | apply below_alloc | apply pw_below_drewN | apply below_drew1) | exact HB.out)) hb); clear HB; have HO151 := n0_; have HB := n1_; clear n0_ n1_; (try clear hb); (try clear hb2); (try clear hk); (try clear hi); (try clear ho0)))
          go_ret
          exact ⟨_, by first | rfl | (simp [errW_none, errW_some] <;> rfl) | (simp [*, errW_none, errW_some] <;> rfl), by (with_reducible repeat (first | apply Kd.R_alloc | apply Kd.R_drewN | apply Kd.R_drew)); exact HO151.out, by repeat (first | (with_reducible first | exact HB.out | apply below_alloc | apply pw_below_drewN | apply below_drew1) | exact HB.out)⟩
        · rw [if_neg c11] at H
          have c11b0 : decide (a0 < 4294967296) = false := decide_eq_false c11
          clear c11
          replace H := Option.bind_eq_some_iff.mp H
          obtain ⟨t152, A140, H⟩ := H
          replace H : (some t152) = some r := H
          have A14 := Aside0.mk A140
          clear A140
          obtain rfl := Option.some.inj H
          go_enter Tryz.func13, Tryz.ntmps13
          go_wp2_with (first | ((with_reducible refine gate_callee (f := 29) rfl ?_); refine goesL_ (some 25) rfl rfl Tryz.func29 (by kernel_rfl) rfl #[.int .u8 207, .int .u64 a0, .int .i64 8] rfl (by (try simp only [List.map_toArray, List.map_cons, List.map_nil]); first | done | rfl | (simp only [List.length_drop, List.length_take]; rfl)) ?_; (with_reducible refine (spec_With.calls k 207 a0 8 t152 _ A14.out).mono ?_); rintro e w15 ⟨v153, rfl, ho0, hb⟩; refine ⟨_, rfl, ?_⟩; have n0_ := Aside0.mk (Kd.R_lower ho0 (below_size (by repeat (first | (with_reducible first | exact HB.out | apply below_alloc | apply pw_below_drewN | apply below_drew1) | exact HB.out)))); have n1_ := Aside0.mk (below_step (by repeat (first | (with_reducible first | exact HB.out | apply below_alloc | apply pw_below_drewN | apply below_drew1) | exact HB.out)) hb); clear HB; have HO154 := n0_; have HB := n1_; clear n0_ n1_; (try clear hb); (try clear hb2); (try clear hk); (try clear hi); (try clear ho0)))
          go_ret
          exact ⟨_, by first | rfl | (simp [errW_none, errW_some] <;> rfl) | (simp [*, errW_none, errW_some] <;> rfl), by (with_reducible repeat (first | apply Kd.R_alloc | apply Kd.R_drewN | apply Kd.R_drew)); exact HO154.out, by repeat (first | (with_reducible first | exact HB.out | apply below_alloc | apply pw_below_drewN | apply below_drew1) | exact HB.out)⟩

/-! ### spec_TextHead: function 14 -/
def spec_TextHead.f (k : Nat) (a0 : Int) : Option (List Int) := if a0 ≤ 31 then (some (([Go.bits .or .u8 160 ((a0) % 256)] : List Int))) else (if a0 ≤ 255 then ((spec_With.f k 217 (IntKind.u64.wrap (a0)) 1).bind fun t158 => (some t158)) else (if a0 ≤ 65535 then ((spec_With.f k 218 (IntKind.u64.wrap (a0)) 2).bind fun t161 => (some t161)) else ((spec_With.f k 219 (IntKind.u64.wrap (a0)) 4).bind fun t164 => (some t164))))
theorem spec_TextHead.mono : ∀ a0 k, LeO (spec_TextHead.f k a0) (spec_TextHead.f (k + 1) a0) := by
  intro a0 k
  unfold spec_TextHead.f
  repeat' first
      | (with_reducible exact spec_With.mono _ _ _ _)
      | (with_reducible exact LeO.refl _)
      | (with_reducible exact LeO.none _)
      | (with_reducible refine LeO.ite ?_ ?_)
      | (with_reducible refine LeO.bind ?_ (fun _ => ?_))
      | exact spec_With.mono _ _ _ _
      | exact LeO.none _
      | refine LeO.ite ?_ ?_
      | refine LeO.bind ?_ (fun _ => ?_)
set_option maxHeartbeats 8000000 in
set_option maxRecDepth 100000 in
theorem spec_TextHead.calls (k : Nat) (a0 : Int) (r : List Int) (w : World) (h : spec_TextHead.f k a0 = some r) :
    Calls Tryz.prog 14 #[.int .i64 a0] w fun e w' => ∃ v0_ : Value, e = .returned (v0_) ∧ Kd.R (Kd.int .u8) 5 w' w.heap.size (fun _ => True) v0_ r ∧ Below w.heap.size w w' := by
  have HB := Aside0.mk (Below.refl w.heap.size w)
  have H : (if a0 ≤ 31 then (some (([Go.bits .or .u8 160 ((a0) % 256)] : List Int))) else (if a0 ≤ 255 then ((spec_With.f k 217 (IntKind.u64.wrap (a0)) 1).bind fun t158 => (some t158)) else (if a0 ≤ 65535 then ((spec_With.f k 218 (IntKind.u64.wrap (a0)) 2).bind fun t161 => (some t161)) else ((spec_With.f k 219 (IntKind.u64.wrap (a0)) 4).bind fun t164 => (some t164))))) = some r := h
  clear h
  by_cases c2 : a0 ≤ 31
  · rw [if_pos c2] at H
    have c2b0 : decide (a0 ≤ 31) = true := decide_eq_true c2
    clear c2
    obtain ⟨y155, hy155⟩ : ∃ y_ : List Int, y_ = (([Go.bits .or .u8 160 ((a0) % 256)] : List Int)) := ⟨_, rfl⟩
    replace H : (some y155) = some r := by first | (rw [hy155]; with_reducible exact H) | (have H2_ := (Option.bind_some _ _).symm.trans H; rw [hy155]; with_reducible exact H2_) | (have H2_ := (Option.bind_some _ _).symm.trans H; with_reducible exact H2_) | with_reducible exact H | (rw [hy155]; exact H) | exact H
    have Ny155 := Aside0.mk hy155
    clear hy155
    obtain rfl := Option.some.inj H
    go_enter Tryz.func14, Tryz.ntmps14
    go_wp2_with (first | ((with_reducible refine gate_dst (N := 9) rfl ?_); refine Kd.R_lit (Kd.int .u8) _ 5 ?hg (N := 9) ?hd (xs := ([Go.bits .or .u8 160 ((a0) % 256)] : List Int)) (inner := [.int .u8 (Go.bits .or .u8 160 ((a0) % 256))]) (ok := fun _ => True) (okp := fun _ => True) ?hr ?hp (fun _ hk => hk) trivial (Below.refl _ _) (Nat.le_refl _) (by simp) ?_; (case hd => rfl); (case hg => rfl); (case hr => first | (go_simp; done) | (go_simp; rfl)); (case hp => exact (Reps.one (show Kd.M (Kd.int .u8) _ _ _ (Go.bits .or .u8 160 ((a0) % 256)) [.int .u8 (Go.bits .or .u8 160 ((a0) % 256))] from rfl) (Reps.none _ _))); intro v156 w3 ho4 hb hg_ hnew_; clear hg_ hnew_; (first | rw [← Ny155.out] at ho4 | (simp only [Int.reduceToNat] at ho4; rw [← Ny155.out] at ho4)); have n0_ := Aside0.mk (Kd.R_lower ho4 (below_size (by repeat (first | (with_reducible first | exact HB.out | apply below_alloc | apply pw_below_drewN | apply below_drew1) | exact HB.out)))); have n1_ := Aside0.mk (below_step (by repeat (first | (with_reducible first | exact HB.out | apply below_alloc | apply pw_below_drewN | apply below_drew1) | exact HB.out)) hb); clear HB; have HO157 := n0_; have HB := n1_; clear n0_ n1_; clear hb ho4))
    go_ret
    exact ⟨_, by first | rfl | (simp [errW_none, errW_some] <;> rfl) | (simp [*, errW_none, errW_some] <;> rfl), by (with_reducible repeat (first | apply Kd.R_alloc | apply Kd.R_drewN | apply Kd.R_drew)); exact HO157.out, by repeat (first | (with_reducible first | exact HB.out | apply below_alloc | apply pw_below_drewN | apply below_drew1) | exact HB.out)⟩
  · rw [if_neg c2] at H
    have c2b0 : decide (a0 ≤ 31) = false := decide_eq_false c2
    clear c2
    by_cases c5 : a0 ≤ 255
    · rw [if_pos c5] at H
      have c5b0 : decide (a0 ≤ 255) = true := decide_eq_true c5
      clear c5
      replace H := Option.bind_eq_some_iff.mp H
      obtain ⟨t158, A60, H⟩ := H
      replace H : (some t158) = some r := H
      have A6 := Aside0.mk A60
      clear A60
      obtain rfl := Option.some.inj H
      go_enter Tryz.func14, Tryz.ntmps14
      go_wp2_with (first | ((with_reducible refine gate_callee (f := 29) rfl ?_); refine goesL_ (some 15) rfl rfl Tryz.func29 (by kernel_rfl) rfl #[.int .u8 217, .int .u64 (IntKind.u64.wrap (a0)), .int .i64 1] rfl (by (try simp only [List.map_toArray, List.map_cons, List.map_nil]); first | done | rfl | (simp only [List.length_drop, List.length_take]; rfl)) ?_; (with_reducible refine (spec_With.calls k 217 (IntKind.u64.wrap (a0)) 1 t158 _ A6.out).mono ?_); rintro e w7 ⟨v159, rfl, ho0, hb⟩; refine ⟨_, rfl, ?_⟩; have n0_ := Aside0.mk (Kd.R_lower ho0 (below_size (by repeat (first | (with_reducible first | exact HB.out | apply below_alloc | apply pw_below_drewN | apply below_drew1) | exact HB.out)))); have n1_ := Aside0.mk (below_step (by repeat (first | (with_reducible first | exact HB.out | apply below_alloc | apply pw_below_drewN | apply below_drew1) | exact HB.out)) hb); clear HB; have HO160 := n0_; have HB := n1_; clear n0_ n1_; (try clear hb); (try clear hb2); (try clear hk); (try clear hi); (try clear ho0)))
      go_ret
      exact ⟨_, by first | rfl | (simp [errW_none, errW_some] <;> rfl) | (simp [*, errW_none, errW_some] <;> rfl), by (with_reducible repeat (first | apply Kd.R_alloc | apply Kd.R_drewN | apply Kd.R_drew)); exact HO160.out, by repeat (first | (with_reducible first | exact HB.out | apply below_alloc | apply pw_below_drewN | apply below_drew1) | exact HB.out)⟩
    · rw [if_neg c5] at H
      have c5b0 : decide (a0 ≤ 255) = false := decide_eq_false c5
      clear c5
      by_cases c8 : a0 ≤ 65535
      · rw [if_pos c8] at H
        have c8b0 : decide (a0 ≤ 65535) = true := decide_eq_true c8
        clear c8
        replace H := Option.bind_eq_some_iff.mp H
        obtain ⟨t161, A90, H⟩ := H
        replace H : (some t161) = some r := H
        have A9 := Aside0.mk A90
        clear A90
        obtain rfl := Option.some.inj H
        go_enter Tryz.func14, Tryz.ntmps14
        go_wp2_with (first | ((with_reducible refine gate_callee (f := 29) rfl ?_); refine goesL_ (some 21) rfl rfl Tryz.func29 (by kernel_rfl) rfl #[.int .u8 218, .int .u64 (IntKind.u64.wrap (a0)), .int .i64 2] rfl (by (try simp only [List.map_toArray, List.map_cons, List.map_nil]); first | done | rfl | (simp only [List.length_drop, List.length_take]; rfl)) ?_; (with_reducible refine (spec_With.calls k 218 (IntKind.u64.wrap (a0)) 2 t161 _ A9.out).mono ?_); rintro e w10 ⟨v162, rfl, ho0, hb⟩; refine ⟨_, rfl, ?_⟩; have n0_ := Aside0.mk (Kd.R_lower ho0 (below_size (by repeat (first | (with_reducible first | exact HB.out | apply below_alloc | apply pw_below_drewN | apply below_drew1) | exact HB.out)))); have n1_ := Aside0.mk (below_step (by repeat (first | (with_reducible first | exact HB.out | apply below_alloc | apply pw_below_drewN | apply below_drew1) | exact HB.out)) hb); clear HB; have HO163 := n0_; have HB := n1_; clear n0_ n1_; (try clear hb); (try clear hb2); (try clear hk); (try clear hi); (try clear ho0)))
        go_ret
        exact ⟨_, by first | rfl | (simp [errW_none, errW_some] <;> rfl) | (simp [*, errW_none, errW_some] <;> rfl), by (with_reducible repeat (first | apply Kd.R_alloc | apply Kd.R_drewN | apply Kd.R_drew)); exact HO163.out, by repeat (first | (with_reducible first | exact HB.out | apply below_alloc | apply pw_below_drewN | apply below_drew1) | exact HB.out)⟩
      · rw [if_neg c8] at H
        have c8b0 : decide (a0 ≤ 65535) = false := decide_eq_false c8
        clear c8
        replace H := Option.bind_eq_some_iff.mp H
        obtain ⟨t164, A110, H⟩ := H
        replace H : (some t164) = some r := H
        have A11 := Aside0.mk A110
        clear A110
        obtain rfl := Option.some.inj H
        go_enter Tryz.func14, Tryz.ntmps14
        go_wp2_with (first | ((with_reducible refine gate_callee (f := 29) rfl ?_); refine goesL_ (some 24) rfl rfl Tryz.func29 (by kernel_rfl) rfl #[.int .u8 219, .int .u64 (IntKind.u64.wrap (a0)), .int .i64 4] rfl (by (try simp only [List.map_toArray, List.map_cons, List.map_nil]); first | done | rfl | (simp only [List.length_drop, List.length_take]; rfl)) ?_; (with_reducible refine (spec_With.calls k 219 (IntKind.u64.wrap (a0)) 4 t164 _ A11.out).mono ?_); rintro e w12 ⟨v165, rfl, ho0, hb⟩; refine ⟨_, rfl, ?_⟩; have n0_ := Aside0.mk (Kd.R_lower ho0 (below_size (by repeat (first | (with_reducible first | exact HB.out | apply below_alloc | apply pw_below_drewN | apply below_drew1) | exact HB.out)))); have n1_ := Aside0.mk (below_step (by repeat (first | (with_reducible first | exact HB.out | apply below_alloc | apply pw_below_drewN | apply below_drew1) | exact HB.out)) hb); clear HB; have HO166 := n0_; have HB := n1_; clear n0_ n1_; (try clear hb); (try clear hb2); (try clear hk); (try clear hi); (try clear ho0)))
        go_ret
        exact ⟨_, by first | rfl | (simp [errW_none, errW_some] <;> rfl) | (simp [*, errW_none, errW_some] <;> rfl), by (with_reducible repeat (first | apply Kd.R_alloc | apply Kd.R_drewN | apply Kd.R_drew)); exact HO166.out, by repeat (first | (with_reducible first | exact HB.out | apply below_alloc | apply pw_below_drewN | apply below_drew1) | exact HB.out)⟩

/-! ### spec_BinHead: function 15 -/
def spec_BinHead.f (k : Nat) (a0 : Int) : Option (List Int) := if a0 ≤ 255 then ((spec_With.f k 196 (IntKind.u64.wrap (a0)) 1).bind fun t167 => (some t167)) else (if a0 ≤ 65535 then ((spec_With.f k 197 (IntKind.u64.wrap (a0)) 2).bind fun t170 => (some t170)) else ((spec_With.f k 198 (IntKind.u64.wrap (a0)) 4).bind fun t173 => (some t173)))
theorem spec_BinHead.mono : ∀ a0 k, LeO (spec_BinHead.f k a0) (spec_BinHead.f (k + 1) a0) := by
  intro a0 k
  unfold spec_BinHead.f
  repeat' first
      | (with_reducible exact spec_With.mono _ _ _ _)
      | (with_reducible exact LeO.refl _)
      | (with_reducible exact LeO.none _)
      | (with_reducible refine LeO.ite ?_ ?_)
      | (with_reducible refine LeO.bind ?_ (fun _ => ?_))
      | exact spec_With.mono _ _ _ _
      | exact LeO.none _
      | refine LeO.ite ?_ ?_
      | refine LeO.bind ?_ (fun _ => ?_)
set_option maxHeartbeats 8000000 in
set_option maxRecDepth 100000 in
theorem spec_BinHead.calls (k : Nat) (a0 : Int) (r : List Int) (w : World) (h : spec_BinHead.f k a0 = some r) :
    Calls Tryz.prog 15 #[.int .i64 a0] w fun e w' => ∃ v0_ : Value, e = .returned (v0_) ∧ Kd.R (Kd.int .u8) 5 w' w.heap.size (fun _ => True) v0_ r ∧ Below w.heap.size w w' := by
  have HB := Aside0.mk (Below.refl w.heap.size w)
  have H : (if a0 ≤ 255 then ((spec_With.f k 196 (IntKind.u64.wrap (a0)) 1).bind fun t167 => (some t167)) else (if a0 ≤ 65535 then ((spec_With.f k 197 (IntKind.u64.wrap (a0)) 2).bind fun t170 => (some t170)) else ((spec_With.f k 198 (IntKind.u64.wrap (a0)) 4).bind fun t173 => (some t173)))) = some r := h
  clear h
  by_cases c2 : a0 ≤ 255
  · rw [if_pos c2] at H
    have c2b0 : decide (a0 ≤ 255) = true := decide_eq_true c2
    clear c2
    replace H := Option.bind_eq_some_iff.mp H
    obtain ⟨t167, A30, H⟩ := H
    replace H : (some t167) = some r := H
    have A3 := Aside0.mk A30
    clear A30
    obtain rfl := Option.some.inj H
    go_enter Tryz.func15, Tryz.ntmps15
    go_wp2_with (first | ((with_reducible refine gate_callee (f := 29) rfl ?_); refine goesL_ (some 8) rfl rfl Tryz.func29 (by kernel_rfl) rfl #[.int .u8 196, .int .u64 (IntKind.u64.wrap (a0)), .int .i64 1] rfl (by (try simp only [List.map_toArray, List.map_cons, List.map_nil]); first | done | rfl | (simp only [List.length_drop, List.length_take]; rfl)) ?_; (with_reducible refine (spec_With.calls k 196 (IntKind.u64.wrap (a0)) 1 t167 _ A3.out).mono ?_); rintro e w4 ⟨v168, rfl, ho0, hb⟩; refine ⟨_, rfl, ?_⟩; have n0_ := Aside0.mk (Kd.R_lower ho0 (below_size (by repeat (first | (with_reducible first | exact HB.out | apply below_alloc | apply pw_below_drewN | apply below_drew1) | exact HB.out)))); have n1_ := Aside0.mk (below_step (by repeat (first | (with_reducible first | exact HB.out | apply below_alloc | apply pw_below_drewN | apply below_drew1) | exact HB.out)) hb); clear HB; have HO169 := n0_; have HB := n1_; clear n0_ n1_; (try clear hb); (try clear hb2); (try clear hk); (try clear hi); (try clear ho0)))
    go_ret
    exact ⟨_, by first | rfl | (simp [errW_none, errW_some] <;> rfl) | (simp [*, errW_none, errW_some] <;> rfl), by (with_reducible repeat (first | apply Kd.R_alloc | apply Kd.R_drewN | apply Kd.R_drew)); exact HO169.out, by repeat (first | (with_reducible first | exact HB.out | apply below_alloc | apply pw_below_drewN | apply below_drew1) | exact HB.out)⟩
  · rw [if_neg c2] at H
    have c2b0 : decide (a0 ≤ 255) = false := decide_eq_false c2
    clear c2
    by_cases c5 : a0 ≤ 65535
    · rw [if_pos c5] at H
      have c5b0 : decide (a0 ≤ 65535) = true := decide_eq_true c5
      clear c5
      replace H := Option.bind_eq_some_iff.mp H
      obtain ⟨t170, A60, H⟩ := H
      replace H : (some t170) = some r := H
      have A6 := Aside0.mk A60
      clear A60
      obtain rfl := Option.some.inj H
      go_enter Tryz.func15, Tryz.ntmps15
      go_wp2_with (first | ((with_reducible refine gate_callee (f := 29) rfl ?_); refine goesL_ (some 14) rfl rfl Tryz.func29 (by kernel_rfl) rfl #[.int .u8 197, .int .u64 (IntKind.u64.wrap (a0)), .int .i64 2] rfl (by (try simp only [List.map_toArray, List.map_cons, List.map_nil]); first | done | rfl | (simp only [List.length_drop, List.length_take]; rfl)) ?_; (with_reducible refine (spec_With.calls k 197 (IntKind.u64.wrap (a0)) 2 t170 _ A6.out).mono ?_); rintro e w7 ⟨v171, rfl, ho0, hb⟩; refine ⟨_, rfl, ?_⟩; have n0_ := Aside0.mk (Kd.R_lower ho0 (below_size (by repeat (first | (with_reducible first | exact HB.out | apply below_alloc | apply pw_below_drewN | apply below_drew1) | exact HB.out)))); have n1_ := Aside0.mk (below_step (by repeat (first | (with_reducible first | exact HB.out | apply below_alloc | apply pw_below_drewN | apply below_drew1) | exact HB.out)) hb); clear HB; have HO172 := n0_; have HB := n1_; clear n0_ n1_; (try clear hb); (try clear hb2); (try clear hk); (try clear hi); (try clear ho0)))
      go_ret
      exact ⟨_, by first | rfl | (simp [errW_none, errW_some] <;> rfl) | (simp [*, errW_none, errW_some] <;> rfl), by (with_reducible repeat (first | apply Kd.R_alloc | apply Kd.R_drewN | apply Kd.R_drew)); exact HO172.out, by repeat (first | (with_reducible first | exact HB.out | apply below_alloc | apply pw_below_drewN | apply below_drew1) | exact HB.out)⟩
    · rw [if_neg c5] at H
      have c5b0 : decide (a0 ≤ 65535) = false := decide_eq_false c5
      clear c5
      replace H := Option.bind_eq_some_iff.mp H
      obtain ⟨t173, A80, H⟩ := H
      replace H : (some t173) = some r := H
      have A8 := Aside0.mk A80
      clear A80
      obtain rfl := Option.some.inj H
      go_enter Tryz.func15, Tryz.ntmps15
      go_wp2_with (first | ((with_reducible refine gate_callee (f := 29) rfl ?_); refine goesL_ (some 17) rfl rfl Tryz.func29 (by kernel_rfl) rfl #[.int .u8 198, .int .u64 (IntKind.u64.wrap (a0)), .int .i64 4] rfl (by (try simp only [List.map_toArray, List.map_cons, List.map_nil]); first | done | rfl | (simp only [List.length_drop, List.length_take]; rfl)) ?_; (with_reducible refine (spec_With.calls k 198 (IntKind.u64.wrap (a0)) 4 t173 _ A8.out).mono ?_); rintro e w9 ⟨v174, rfl, ho0, hb⟩; refine ⟨_, rfl, ?_⟩; have n0_ := Aside0.mk (Kd.R_lower ho0 (below_size (by repeat (first | (with_reducible first | exact HB.out | apply below_alloc | apply pw_below_drewN | apply below_drew1) | exact HB.out)))); have n1_ := Aside0.mk (below_step (by repeat (first | (with_reducible first | exact HB.out | apply below_alloc | apply pw_below_drewN | apply below_drew1) | exact HB.out)) hb); clear HB; have HO175 := n0_; have HB := n1_; clear n0_ n1_; (try clear hb); (try clear hb2); (try clear hk); (try clear hi); (try clear ho0)))
      go_ret
      exact ⟨_, by first | rfl | (simp [errW_none, errW_some] <;> rfl) | (simp [*, errW_none, errW_some] <;> rfl), by (with_reducible repeat (first | apply Kd.R_alloc | apply Kd.R_drewN | apply Kd.R_drew)); exact HO175.out, by repeat (first | (with_reducible first | exact HB.out | apply below_alloc | apply pw_below_drewN | apply below_drew1) | exact HB.out)⟩

/-! ### spec_ArrayHead: function 16 -/
def spec_ArrayHead.f (k : Nat) (a0 : Int) : Option (List Int) := if a0 ≤ 15 then (some (([Go.bits .or .u8 144 ((a0) % 256)] : List Int))) else (if a0 ≤ 65535 then ((spec_With.f k 220 (IntKind.u64.wrap (a0)) 2).bind fun t179 => (some t179)) else ((spec_With.f k 221 (IntKind.u64.wrap (a0)) 4).bind fun t182 => (some t182)))
theorem spec_ArrayHead.mono : ∀ a0 k, LeO (spec_ArrayHead.f k a0) (spec_ArrayHead.f (k + 1) a0) := by
  intro a0 k
  unfold spec_ArrayHead.f
  repeat' first
      | (with_reducible exact spec_With.mono _ _ _ _)
      | (with_reducible exact LeO.refl _)
      | (with_reducible exact LeO.none _)
      | (with_reducible refine LeO.ite ?_ ?_)
      | (with_reducible refine LeO.bind ?_ (fun _ => ?_))
      | exact spec_With.mono _ _ _ _
      | exact LeO.none _
      | refine LeO.ite ?_ ?_
      | refine LeO.bind ?_ (fun _ => ?_)
set_option maxHeartbeats 8000000 in
set_option maxRecDepth 100000 in
theorem spec_ArrayHead.calls (k : Nat) (a0 : Int) (r : List Int) (w : World) (h : spec_ArrayHead.f k a0 = some r) :
    Calls Tryz.prog 16 #[.int .u32 a0] w fun e w' => ∃ v0_ : Value, e = .returned (v0_) ∧ Kd.R (Kd.int .u8) 5 w' w.heap.size (fun _ => True) v0_ r ∧ Below w.heap.size w w' := by
  have HB := Aside0.mk (Below.refl w.heap.size w)
  have H : (if a0 ≤ 15 then (some (([Go.bits .or .u8 144 ((a0) % 256)] : List Int))) else (if a0 ≤ 65535 then ((spec_With.f k 220 (IntKind.u64.wrap (a0)) 2).bind fun t179 => (some t179)) else ((spec_With.f k 221 (IntKind.u64.wrap (a0)) 4).bind fun t182 => (some t182)))) = some r := h
  clear h
  by_cases c2 : a0 ≤ 15
  · rw [if_pos c2] at H
    have c2b0 : decide (a0 ≤ 15) = true := decide_eq_true c2
    clear c2
    obtain ⟨y176, hy176⟩ : ∃ y_ : List Int, y_ = (([Go.bits .or .u8 144 ((a0) % 256)] : List Int)) := ⟨_, rfl⟩
    replace H : (some y176) = some r := by first | (rw [hy176]; with_reducible exact H) | (have H2_ := (Option.bind_some _ _).symm.trans H; rw [hy176]; with_reducible exact H2_) | (have H2_ := (Option.bind_some _ _).symm.trans H; with_reducible exact H2_) | with_reducible exact H | (rw [hy176]; exact H) | exact H
    have Ny176 := Aside0.mk hy176
    clear hy176
    obtain rfl := Option.some.inj H
    go_enter Tryz.func16, Tryz.ntmps16
    go_wp2_with (first | ((with_reducible refine gate_dst (N := 9) rfl ?_); refine Kd.R_lit (Kd.int .u8) _ 5 ?hg (N := 9) ?hd (xs := ([Go.bits .or .u8 144 ((a0) % 256)] : List Int)) (inner := [.int .u8 (Go.bits .or .u8 144 ((a0) % 256))]) (ok := fun _ => True) (okp := fun _ => True) ?hr ?hp (fun _ hk => hk) trivial (Below.refl _ _) (Nat.le_refl _) (by simp) ?_; (case hd => rfl); (case hg => rfl); (case hr => first | (go_simp; done) | (go_simp; rfl)); (case hp => exact (Reps.one (show Kd.M (Kd.int .u8) _ _ _ (Go.bits .or .u8 144 ((a0) % 256)) [.int .u8 (Go.bits .or .u8 144 ((a0) % 256))] from rfl) (Reps.none _ _))); intro v177 w3 ho4 hb hg_ hnew_; clear hg_ hnew_; (first | rw [← Ny176.out] at ho4 | (simp only [Int.reduceToNat] at ho4; rw [← Ny176.out] at ho4)); have n0_ := Aside0.mk (Kd.R_lower ho4 (below_size (by repeat (first | (with_reducible first | exact HB.out | apply below_alloc | apply pw_below_drewN | apply below_drew1) | exact HB.out)))); have n1_ := Aside0.mk (below_step (by repeat (first | (with_reducible first | exact HB.out | apply below_alloc | apply pw_below_drewN | apply below_drew1) | exact HB.out)) hb); clear HB; have HO178 := n0_; have HB := n1_; clear n0_ n1_; clear hb ho4))
    go_ret
    exact ⟨_, by first | rfl | (simp [errW_none, errW_some] <;> rfl) | (simp [*, errW_none, errW_some] <;> rfl), by (with_reducible repeat (first | apply Kd.R_alloc | apply Kd.R_drewN | apply Kd.R_drew)); exact HO178.out, by repeat (first | (with_reducible first | exact HB.out | apply below_alloc | apply pw_below_drewN | apply below_drew1) | exact HB.out)⟩
  · rw [if_neg c2] at H
    have c2b0 : decide (a0 ≤ 15) = false := decide_eq_false c2
    clear c2
    by_cases c5 : a0 ≤ 65535
    · rw [if_pos c5] at H
      have c5b0 : decide (a0 ≤ 65535) = true := decide_eq_true c5
      clear c5
      replace H := Option.bind_eq_some_iff.mp H
      obtain ⟨t179, A60, H⟩ := H
      replace H : (some t179) = some r := H
      have A6 := Aside0.mk A60
      clear A60
      obtain rfl := Option.some.inj H
      go_enter Tryz.func16, Tryz.ntmps16
      go_wp2_with (first | ((with_reducible refine gate_callee (f := 29) rfl ?_); refine goesL_ (some 15) rfl rfl Tryz.func29 (by kernel_rfl) rfl #[.int .u8 220, .int .u64 (IntKind.u64.wrap (a0)), .int .i64 2] rfl (by (try simp only [List.map_toArray, List.map_cons, List.map_nil]); first | done | rfl | (simp only [List.length_drop, List.length_take]; rfl)) ?_; (with_reducible refine (spec_With.calls k 220 (IntKind.u64.wrap (a0)) 2 t179 _ A6.out).mono ?_); rintro e w7 ⟨v180, rfl, ho0, hb⟩; refine ⟨_, rfl, ?_⟩; have n0_ := Aside0.mk (Kd.R_lower ho0 (below_size (by repeat (first | (with_reducible first | exact HB.out | apply below_alloc | apply pw_below_drewN | apply below_drew1) | exact HB.out)))); have n1_ := Aside0.mk (below_step (by repeat (first | (with_reducible first | exact HB.out | apply below_alloc | apply pw_below_drewN | apply below_drew1) | exact HB.out)) hb); clear HB; have HO181 := n0_; have HB := n1_; clear n0_ n1_; (try clear hb); (try clear hb2); (try clear hk); (try clear hi); (try clear ho0)))
      go_ret
      exact ⟨_, by first | rfl | (simp [errW_none, errW_some] <;> rfl) | (simp [*, errW_none, errW_some] <;> rfl), by (with_reducible repeat (first | apply Kd.R_alloc | apply Kd.R_drewN | apply Kd.R_drew)); exact HO181.out, by repeat (first | (with_reducible first | exact HB.out | apply below_alloc | apply pw_below_drewN | apply below_drew1) | exact HB.out)⟩
    · rw [if_neg c5] at H
      have c5b0 : decide (a0 ≤ 65535) = false := decide_eq_false c5
      clear c5
      replace H := Option.bind_eq_some_iff.mp H
      obtain ⟨t182, A80, H⟩ := H
      replace H : (some t182) = some r := H
      have A8 := Aside0.mk A80
      clear A80
      obtain rfl := Option.some.inj H
      go_enter Tryz.func16, Tryz.ntmps16
      go_wp2_with (first | ((with_reducible refine gate_callee (f := 29) rfl ?_); refine goesL_ (some 18) rfl rfl Tryz.func29 (by kernel_rfl) rfl #[.int .u8 221, .int .u64 (IntKind.u64.wrap (a0)), .int .i64 4] rfl (by (try simp only [List.map_toArray, List.map_cons, List.map_nil]); first | done | rfl | (simp only [List.length_drop, List.length_take]; rfl)) ?_; (with_reducible refine (spec_With.calls k 221 (IntKind.u64.wrap (a0)) 4 t182 _ A8.out).mono ?_); rintro e w9 ⟨v183, rfl, ho0, hb⟩; refine ⟨_, rfl, ?_⟩; have n0_ := Aside0.mk (Kd.R_lower ho0 (below_size (by repeat (first | (with_reducible first | exact HB.out | apply below_alloc | apply pw_below_drewN | apply below_drew1) | exact HB.out)))); have n1_ := Aside0.mk (below_step (by repeat (first | (with_reducible first | exact HB.out | apply below_alloc | apply pw_below_drewN | apply below_drew1) | exact HB.out)) hb); clear HB; have HO184 := n0_; have HB := n1_; clear n0_ n1_; (try clear hb); (try clear hb2); (try clear hk); (try clear hi); (try clear ho0)))
      go_ret
      exact ⟨_, by first | rfl | (simp [errW_none, errW_some] <;> rfl) | (simp [*, errW_none, errW_some] <;> rfl), by (with_reducible repeat (first | apply Kd.R_alloc | apply Kd.R_drewN | apply Kd.R_drew)); exact HO184.out, by repeat (first | (with_reducible first | exact HB.out | apply below_alloc | apply pw_below_drewN | apply below_drew1) | exact HB.out)⟩

end Go.Proofs.YtmliokplekeljaaGreatDoor.PFnTreeAny
