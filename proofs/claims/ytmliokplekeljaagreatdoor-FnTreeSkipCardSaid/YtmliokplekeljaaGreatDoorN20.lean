/- The law's anew at any bytes, and right. -/
import Derived.Test.YtmliokplekeljaaGreatDoorN19
import Derived.Test.YtmliokplekeljaaGreatDoorN15
namespace Go.Proofs.YtmliokplekeljaaGreatDoor.M
open Go.RowKit Go.Proofs.YtmliokplekeljaaGreatDoorW.PrintWords
set_option linter.unusedVariables false
set_option linter.unusedSimpArgs false

theorem conv_cb (w : World) (A : Option Addr) (k c : Nat) (xs : List Int) (h : CB w A xs) (hk : xs.length = k) : (convert 22 9 (.slice A k c)).run Tryz.prog w = .ok (.string (strOfNums xs)) w := by
  rcases A with _ | ad
  · obtain rfl := h.none_
    subst hk
    exact run_convert_bytes_nil (P := Tryz.prog) w 22 5 Tryz.underlying22 (by kernel_rfl) _ c 9 (by kernel_rfl)
  · have hl : (loadCells ad k).run Tryz.prog w = .ok (xs.map (Value.int .u8)).toArray w := by
      have := run_loadCells_list (P := Tryz.prog) w ad (xs.map (Value.int .u8)) (fun j v hj => by
        have hjl : j < xs.length := by
          rcases Nat.lt_or_ge j xs.length with h | h
          · exact h
          · simp [List.getElem?_eq_none (show (xs.map (Value.int .u8)).length ≤ j by simpa using h)] at hj
        obtain ⟨ad', e, hc⟩ := h.at_ j hjl
        injection e with e
        subst e
        rw [hc, getD_rd]
        simp [List.getElem?_eq_getElem hjl] at hj
        subst hj
        simp [List.getD, List.getElem?_eq_getElem hjl])
      simpa [hk] using this
    rw [run_convert_bytes_string w 22 9 5 _ k c Tryz.underlying22 (by kernel_rfl) (by kernel_rfl), run_bytesToString w _ k c xs hl, foldl_push_bytes]
    simp [strOfNums, ByteArray.empty, ByteArray.emptyWithCapacity]
    rfl

set_option maxRecDepth 100000 in
theorem anew_plainBad (w : World) (A : Option Addr) (n c : Nat) (K kk : Int) (h3 : K ≠ 3) (h4 : K ≠ 4) (HK : KindIs K A n c w) (HP : ∀ W : World, Below w.heap.size w W → PBad W A n c) :
    Calls Tryz.prog 9 #[.slice A n c, .int .i64 kk] w (AnewPost w .bad) := by
  have HK' := Lib.hid (show Calls Tryz.prog 18 #[.slice A n c] w (fun e w' => e = .returned (.int .i64 K) ∧ Below w.heap.size w w') from HK)
  have HP' := Lib.hid HP
  have q3 : (K != 3) = true := by simpa using h3
  have q4 : (K != 4) = true := by simpa using h4
  clear HK HP
  go_enter Tryz.func9, Tryz.ntmps9
  go_wp2_with (first | (go_at_call 18; refine HK'.out.mono ?_; rintro e w1 ⟨rfl, hb⟩; obtain ⟨out, m, cd, hcd, hC0⟩ := HP'.out w1 hb; have hC := Lib.hid hC0; clear hC0; have hcd0 : (cd == 0) = false := by simpa using hcd) | (go_at_call 19; refine hC.out.mono ?_; rintro e w2 ⟨v, rfl, hR, hb2⟩))
  go_ret3
  exact ⟨_, _, _, rfl, belowT hb hb2, rfl⟩

theorem kind12 {v : Int} {r : List Int} (h0 : 0 ≤ v) (h1 : v < 256) (hk : (bs v).2.2 = 12) (hb : hdOf (v :: r) = .bad) : ((v :: r).length : Int) ≤ (bs v).1 := by
  rcases lead_cases v h0 h1 with hv | ⟨ha, hv⟩ | ⟨ha, hv⟩ | ⟨ha, hv⟩ | hv | hv | hv | hv | hv | hv | hv | hv | hv | hv | hv | hv | hv | hv | hv | hv | hv | hv | hv | hv | hv | hv | hv | hv | hv | hv | hv | hv | hv | hv | hv | hv | hv
  · rw [kd_fixint hv] at hk; omega
  · rw [kd_fixmap ha hv] at hk; omega
  · rw [kd_fixarr ha hv] at hk; omega
  · rw [kd_fixstr ha hv] at hk; omega
  · rw [kd_nfix hv] at hk; omega
  all_goals subst hv
  all_goals first
    | exact absurd hk (by decide)
    | skip
  all_goals simp [hdOf] at hb
  all_goals simp [bs, bTab]
  all_goals first
    | omega
    | (subst hb; simp)
theorem hd12 {v : Int} {r : List Int} (h0 : 0 ≤ v) (h1 : v < 256) (hk : (bs v).2.2 = 12) : hdOf (v :: r) = .bad ∨ hdOf (v :: r) = .ext := by
  refine extOr ?_
  rcases lead_cases v h0 h1 with hv | ⟨ha, hv⟩ | ⟨ha, hv⟩ | ⟨ha, hv⟩ | hv | hv | hv | hv | hv | hv | hv | hv | hv | hv | hv | hv | hv | hv | hv | hv | hv | hv | hv | hv | hv | hv | hv | hv | hv | hv | hv | hv | hv | hv | hv | hv | hv
  · rw [kd_fixint hv] at hk; omega
  · rw [kd_fixmap ha hv] at hk; omega
  · rw [kd_fixarr ha hv] at hk; omega
  · rw [kd_fixstr ha hv] at hk; omega
  · rw [kd_nfix hv] at hk; omega
  all_goals subst hv
  all_goals first
    | omega
    | exact absurd hk (by decide)
theorem kd_comp {v : Int} {r h r' : List Int} {k : Nat} (h0 : 0 ≤ v) (h1 : v < 256) (hh : hdOf (v :: r) = .comp h r' k) : (bs v).2.2 = 3 ∨ (bs v).2.2 = 4 := by
  rcases lead_cases v h0 h1 with hv | ⟨ha, hv⟩ | ⟨ha, hv⟩ | ⟨ha, hv⟩ | hv | hv | hv | hv | hv | hv | hv | hv | hv | hv | hv | hv | hv | hv | hv | hv | hv | hv | hv | hv | hv | hv | hv | hv | hv | hv | hv | hv | hv | hv | hv | hv | hv
  · rw [hdOf_small hv] at hh; cases hh
  · exact Or.inl (kd_fixmap ha hv)
  · exact Or.inr (kd_fixarr ha hv)
  · rw [hdOf_fixstr ha hv] at hh; cases hh
  · rw [hdOf_nfix hv] at hh; cases hh
  all_goals subst hv
  all_goals first
    | exact Or.inl (by decide)
    | exact Or.inr (by decide)
    | skip
  all_goals exfalso
  all_goals simp [hdOf, need1, need2, need4, need8] at hh
  all_goals (split at hh <;> cases hh)
theorem kindL {w : World} {A : Option Addr} {c : Nat} {l : List Int} (hr : CB w A l) (hB : isBs l) (hl : l.length ≤ 60000) (he : hdOf l ≠ .ext) : KindIs (kd l) A l.length c w := by
  rcases l with _ | ⟨v, r⟩
  · exact kind_nil w A c hr
  · obtain ⟨h0, h1⟩ := hB.head
    refine kindOf _ hr hl hB.head rfl ?_
    by_cases h12 : (bs v).2.2 = 12
    · exact Or.inr (kind12 h0 h1 h12 ((hd12 h0 h1 h12).resolve_right he))
    · exact Or.inl h12

theorem p_atom {d : Nat} {l c r : List Int} {s : Bool} (h : hdOf l = .atom c r s) : parse (d + 1) l = if s then .ok c r else .unsaid := by rw [parse, h]
theorem p_blob {d : Nat} {l c r : List Int} {n : Nat} (h : hdOf l = .blob c r n) : parse (d + 1) l = if r.length < n then .bad else .ok (c ++ r.take n) (r.drop n) := by rw [parse, h]
theorem p_comp {d : Nat} {l c r : List Int} {n : Nat} (h : hdOf l = .comp c r n) : parse (d + 1) l = ploop (parse d) n c r := by rw [parse, h]
theorem p_bad {d : Nat} {l : List Int} (h : hdOf l = .bad) : parse d l = .bad := by cases d <;> rw [parse, h]
theorem p_ext {d : Nat} {l : List Int} (h : hdOf l = .ext) : parse d l = .unsaid := by cases d <;> rw [parse, h]
theorem p_zero {l : List Int} (h : hdOf l ≠ .bad) : parse 0 l = .unsaid := by
  rw [parse]; split
  · contradiction
  · rfl
theorem anewOk {w : World} {A : Option Addr} {n c : Nat} {K kk : Int} {out r : List Int} {m : Nat} (hm : m = r.length) (h3 : K ≠ 3) (h4 : K ≠ 4) (HK : KindIs K A n c w) (HP : ∀ W : World, Below w.heap.size w W → POk out m W A n c) :
    Calls Tryz.prog 9 #[.slice A n c, .int .i64 kk] w (AnewPost w (.ok out r)) := by
  subst hm
  refine (anew_plain w A n c K kk h3 h4 out r.length 0 HK HP).mono ?_
  rintro e w' ⟨v, rfl, hR, hb⟩
  exact ⟨_, _, _, rfl, hb, rfl, rfl, hR⟩

theorem anew_any : ∀ (d : Nat), d ≤ 900 → ∀ (w : World) (A : Option Addr) (c : Nat) (l : List Int), CB w A l → isBs l → l.length ≤ c → l.length ≤ 60000 → Glob w → parse d l ≠ .unsaid → Calls Tryz.prog 9 #[.slice A l.length c, .int .i64 ((d : Int) - 1)] w (AnewPost w (parse d l)) := by
  intro d
  induction d with
  | zero =>
    intro _ w A c l hr hB hc hl hg hs
    have hbad : hdOf l = .bad := by
      cases hh : hdOf l with
      | bad => rfl
      | _ => exact absurd (p_zero (by rw [hh]; simp)) hs
    rw [p_bad hbad]
    have hK := kindL (c := c) hr hB hl (by rw [hbad]; simp)
    by_cases h3 : kd l = 3
    · have hH := heads3 w A c l hr hB hl hg h3
      rw [hbad] at hH
      rw [h3] at hK
      exact anew_badM w A _ c _ hK hH.1 hH.2
    by_cases h4 : kd l = 4
    · have hH := heads4 w A c l hr hB hl hg h4
      rw [hbad] at hH
      rw [h4] at hK
      exact anew_badA w A _ c _ hK hH
    · exact anew_plainBad w A _ c _ _ h3 h4 hK (fun W hb => by
        have := plain_any W A c l (Kd.C_below hr hb) hB hl (hg.below hb) h3 h4
        rw [hbad] at this; exact this)
  | succ d ih =>
    intro hd w A c l hr hB hc hl hg hs
    have hfit := hd_fit l hB
    have e1 : ((d + 1 : Nat) : Int) - 1 = (d : Int) := by omega
    rw [e1]
    have hne : hdOf l ≠ .ext := fun h => hs (p_ext h)
    have hK := kindL (c := c) hr hB hl hne
    have ih' := ih (by omega)
    by_cases h3 : kd l = 3
    · have hH := heads3 w A c l hr hB hl hg h3
      rw [h3] at hK
      obtain ⟨hA, hH⟩ := hH
      generalize hh : hdOf l = hd' at hH hfit
      cases hd' with
      | bad => rw [p_bad hh]; exact anew_badM w A _ c _ hK hA hH
      | comp h r k =>
        obtain ⟨N, rfl, rfl, hN0, hN1, hP⟩ := hH
        rw [p_comp hh] at hs ⊢
        exact anew_map (parse d) (parse_fit d) _ (by omega) (by omega) ih' w A _ c l r hr rfl hc hl hg hfit.2.1 ⟨_, hfit.2.2.1.choose_spec.1⟩ N hN0 hN1 hK hA hP hs
      | _ => exact hH.elim
    by_cases h4 : kd l = 4
    · have hH := heads4 w A c l hr hB hl hg h4
      rw [h4] at hK
      generalize hh : hdOf l = hd' at hH hfit
      cases hd' with
      | bad => rw [p_bad hh]; exact anew_badA w A _ c _ hK hH
      | comp h r k =>
        obtain ⟨N, rfl, rfl, hN0, hN1, hP⟩ := hH
        rw [p_comp hh] at hs ⊢
        exact anew_arr (parse d) (parse_fit d) _ (by omega) (by omega) ih' w A _ c l r hr rfl hc hl hg hfit.2.1 ⟨_, hfit.2.2.1.choose_spec.1⟩ N hN0 hN1 hK hP hs
      | _ => exact hH.elim
    · have hP := fun W hb => plain_any W A c l (Kd.C_below hr hb) hB hl (hg.below hb) h3 h4
      generalize hh : hdOf l = hd' at hP hfit
      cases hd' with
      | bad => rw [p_bad hh]; exact anew_plainBad w A _ c _ _ h3 h4 hK hP
      | ext => exact absurd hh hne
      | atom ct r s =>
        rw [p_atom hh] at hs ⊢
        cases s with
        | false => exact absurd rfl hs
        | true => exact anewOk rfl h3 h4 hK hP
      | blob h r k =>
        rw [p_blob hh]
        by_cases hlt : r.length < k
        · rw [if_pos hlt]
          exact anew_plainBad w A _ c _ _ h3 h4 hK (fun W hb => by have := hP W hb; rw [PA, if_pos hlt] at this; exact this)
        · rw [if_neg hlt]
          exact anewOk (List.length_drop).symm h3 h4 hK (fun W hb => by have := hP W hb; rw [PA, if_neg hlt] at this; exact this)
      | comp h r k =>
        exfalso
        rcases l with _ | ⟨v, r'⟩
        · cases hh
        · obtain ⟨h0, h1⟩ := hB.head
          have hcomp := kd_comp h0 h1 hh
          rcases hcomp with h | h
          · exact h3 h
          · exact h4 h
end Go.Proofs.YtmliokplekeljaaGreatDoor.M

namespace Go.Proofs.YtmliokplekeljaaGreatDoor.M
open Go.RowKit Go.Proofs.YtmliokplekeljaaGreatDoorW.PrintWords
set_option linter.unusedVariables false
set_option linter.unusedSimpArgs false

theorem CB_five (w : World) : CB (w.alloc (.cells #[.int .u8 146, .int .u8 208, .int .u8 1, .int .u8 192, .int .u8 7] 5)) (some ⟨w.heap.size, 0, none⟩) [146, 208, 1, 192, 7] := by
  have h := World.rowIs_alloc w #[.int .u8 146, .int .u8 208, .int .u8 1, .int .u8 192, .int .u8 7] 5 (fun j => bV ([146, 208, 1, 192, 7].getD j 0)) (by intro i hi; simp at hi; rcases i with _ | _ | _ | _ | _ | i <;> first | rfl | omega)
  exact (BL.rb (xs := [146, 208, 1, 192, 7]) h).cb (by simp)
theorem parse_five : parse 2 [146, 208, 1, 192, 7] = .ok [146, 1, 192] [7] := by kernel_rfl
set_option maxRecDepth 100000 in
theorem right_ok (w : World) (hg : Glob w) : Calls Tryz.prog 8 #[] w fun e w' => e = .returned (.bool true) ∧ Below w.heap.size w w' := by
  have H : Calls Tryz.prog 9 #[.slice (some ⟨w.heap.size, 0, none⟩) 5 5, .int .i64 1] (w.alloc (.cells #[.int .u8 146, .int .u8 208, .int .u8 1, .int .u8 192, .int .u8 7] 5)) (fun e w' => ∃ A c, e = .returned (.tuple #[.slice A 3 c, .int .i64 1, .bool true]) ∧ Below w.heap.size w w' ∧ (convert 22 9 (.slice A 3 c)).run Tryz.prog w' = .ok (.string ⟨#[146, 1, 192]⟩) w') := by
    have := anew_any 2 (by omega) _ (some ⟨w.heap.size, 0, none⟩) 5 [146, 208, 1, 192, 7] (CB_five w) (by intro x hx; simp only [List.mem_cons, List.not_mem_nil, or_false] at hx; rcases hx with rfl | rfl | rfl | rfl | rfl <;> exact ⟨by omega, by omega⟩) (by simp) (by simp) (hg.below (below_alloc (Below.refl _ _) _)) (by rw [parse_five]; simp)
    rw [parse_five] at this
    refine this.mono ?_
    rintro e w' ⟨v, left, ok, rfl, hb, rfl, rfl, hR⟩
    obtain ⟨A, c, rfl, hc, hcb⟩ := hR.reads
    exact ⟨A, c, rfl, (below_alloc (Below.refl _ _) _).trans (hb.mono (by simp)), conv_cb w' A 3 c _ hcb rfl⟩
  have HH := Lib.hid H
  clear H hg
  go_enter Tryz.func8, Tryz.ntmps8
  go_wp2_with (go_at_call 9; refine HH.out.mono ?_; rintro e w1 ⟨A, c, rfl, hb, hcv⟩)
  go_ret
  exact ⟨rfl, hb⟩
end Go.Proofs.YtmliokplekeljaaGreatDoor.M

namespace Go.Proofs.YtmliokplekeljaaGreatDoor.M
open Go.RowKit Go.Proofs.YtmliokplekeljaaGreatDoorW.PrintWords
set_option linter.unusedVariables false
set_option linter.unusedSimpArgs false

/-- The law answers true. -/
def Yes (w : World) (e : Ending) (w' : World) : Prop := e = .returned (.bool true) ∧ Below w.heap.size w w'
set_option maxRecDepth 100000 in
theorem asked_big (w : World) (A : Option Addr) (n c : Nat) (hn : 4096 < n) : Calls Tryz.prog 6 #[.slice A n c] w fun e w' => e = .returned (.bool false) ∧ Below w.heap.size w w' := by
  have hlt : (4096 : Int) < (n : Int) := by omega
  clear hn
  go_enter Tryz.func6, Tryz.ntmps6
  go_wp2_with (fail)
  go_ret
  exact ⟨rfl, Below.refl _ _⟩
theorem asked_no (w : World) (A : Option Addr) (n c : Nat) (l : List Int) (hr : CB w A l) (hB : isBs l) (hn : n = l.length) (hc : n ≤ c) (h : 4096 < n ∨ parse 51 l = .unsaid) : Calls Tryz.prog 6 #[.slice A n c] w fun e w' => e = .returned (.bool false) ∧ Below w.heap.size w w' := by
  by_cases hb : 4096 < n
  · exact asked_big w A n c hb
  · have := asked_any w A n c l hr hB hn hc (by omega)
    rw [h.resolve_left hb] at this
    exact this
theorem asked_yes (w : World) (A : Option Addr) (n c : Nat) (l : List Int) (hr : CB w A l) (hB : isBs l) (hn : n = l.length) (hc : n ≤ c) (hl : n ≤ 4096) (h : parse 51 l ≠ .unsaid) : Calls Tryz.prog 6 #[.slice A n c] w fun e w' => e = .returned (.bool true) ∧ Below w.heap.size w w' := by
  have := asked_any w A n c l hr hB hn hc hl
  have hs : (parse 51 l).said = true := by
    cases hh : parse 51 l with
    | unsaid => exact absurd hh h
    | _ => rfl
  rw [hs] at this
  exact this
theorem tree50 (w : World) (A : Option Addr) (n c : Nat) (l : List Int) (hr : CB w A l) (hB : isBs l) (hn : n = l.length) (hc : n ≤ c) (hl : n ≤ 4096) : Calls Tryz.prog 7 #[.slice A n c, .int .i64 50] w (TreePost w (parse 51 l)) := by
  subst hn; exact tree_any 51 (by omega) w A c l hr hB hc (by omega)
theorem anew50 (w : World) (A : Option Addr) (n c : Nat) (l : List Int) (hr : CB w A l) (hB : isBs l) (hn : n = l.length) (hc : n ≤ c) (hl : n ≤ 4096) (hg : Glob w) (h : parse 51 l ≠ .unsaid) : Calls Tryz.prog 9 #[.slice A n c, .int .i64 50] w (AnewPost w (parse 51 l)) := by
  subst hn; exact anew_any 51 (by omega) w A c l hr hB hc (by omega) hg h

set_option maxRecDepth 100000 in
theorem law4_no (w : World) (A : Option Addr) (n c : Nat) (H : Calls Tryz.prog 6 #[.slice A n c] w fun e w' => e = .returned (.bool false) ∧ Below w.heap.size w w') : Calls Tryz.prog 4 #[.slice A n c] w (Yes w) := by
  have HH := Lib.hid H
  clear H
  go_enter Tryz.func4, Tryz.ntmps4
  go_wp2_with (go_at_call 6; refine HH.out.mono ?_; rintro e w1 ⟨rfl, hb⟩)
  all_goals first
    | (go_ret; exact ⟨rfl, hb⟩)
    | (go_ret; exact ⟨rfl, Below.refl _ _⟩)
set_option maxRecDepth 100000 in
theorem law4_bad (w : World) (A : Option Addr) (n c : Nat) (hg : Glob w) (hl : n ≤ 4096) (H6 : Calls Tryz.prog 6 #[.slice A n c] w fun e w' => e = .returned (.bool true) ∧ Below w.heap.size w w')
    (H7 : ∀ W : World, Below w.heap.size w W → Calls Tryz.prog 7 #[.slice A n c, .int .i64 50] W (TreePost W .bad)) (H9 : ∀ W : World, Below w.heap.size w W → Calls Tryz.prog 9 #[.slice A n c, .int .i64 50] W (AnewPost W .bad)) : Calls Tryz.prog 4 #[.slice A n c] w (Yes w) := by
  have HH6 := Lib.hid H6
  have HH7 := Lib.hid H7
  have HH9 := Lib.hid H9
  have G := Lib.hid hg
  have hlt : (n : Int) ≤ 4096 := by omega
  clear H6 H7 H9 hg hl
  go_enter Tryz.func4, Tryz.ntmps4
  go_wp2_with (first | (go_at_call 6; refine HH6.out.mono ?_; rintro e w1 ⟨rfl, hb⟩) | (go_at_call 7; refine (HH7.out w1 hb).mono ?_; rintro e w2 ⟨v, left, is, said, rfl, hb2, rfl, rfl⟩) | (go_at_call 9; refine (HH9.out w2 (belowT hb hb2)).mono ?_; rintro e w3 ⟨v', left', ok, rfl, hb3, rfl⟩) | (go_at_call 8; refine (right_ok w3 (G.out.below (belowT (belowT hb hb2) hb3))).mono ?_; rintro e w4 ⟨rfl, hb4⟩))
  go_ret
  exact ⟨rfl, belowT (belowT (belowT hb hb2) hb3) hb4⟩
set_option maxRecDepth 100000 in
theorem law4_ok (w : World) (A : Option Addr) (n c : Nat) (out r : List Int) (hg : Glob w) (hl : n ≤ 4096) (H6 : Calls Tryz.prog 6 #[.slice A n c] w fun e w' => e = .returned (.bool true) ∧ Below w.heap.size w w')
    (H7 : ∀ W : World, Below w.heap.size w W → Calls Tryz.prog 7 #[.slice A n c, .int .i64 50] W (TreePost W (.ok out r))) (H9 : ∀ W : World, Below w.heap.size w W → Calls Tryz.prog 9 #[.slice A n c, .int .i64 50] W (AnewPost W (.ok out r))) : Calls Tryz.prog 4 #[.slice A n c] w (Yes w) := by
  have HH6 := Lib.hid H6
  have HH7 := Lib.hid H7
  have HH9 := Lib.hid H9
  have G := Lib.hid hg
  have hlt : (n : Int) ≤ 4096 := by omega
  clear H6 H7 H9 hg hl
  go_enter Tryz.func4, Tryz.ntmps4
  go_wp2_with (first | (go_at_call 6; refine HH6.out.mono ?_; rintro e w1 ⟨rfl, hb⟩) | (go_at_call 7; refine (HH7.out w1 hb).mono ?_; rintro e w2 ⟨v, left, is, said, rfl, hb2, rfl, rfl, rfl, A2, c2, rfl, hc2, hr2⟩) | (go_at_call 9; refine (HH9.out w2 (belowT hb hb2)).mono ?_; rintro e w3 ⟨v', left', ok, rfl, hb3, rfl, rfl, hR⟩; obtain ⟨A3, c3, rfl, hc3, hr3⟩ := hR.reads; have q1 := conv_cb w3 A3 out.length c3 out hr3 rfl; have q2 := conv_cb w3 A2 out.length c2 out (Kd.C_below hr2 hb3) rfl) | (go_at_call 8; refine (right_ok w3 (G.out.below (belowT (belowT hb hb2) hb3))).mono ?_; rintro e w4 ⟨rfl, hb4⟩))
  go_ret
  exact ⟨rfl, belowT (belowT (belowT hb hb2) hb3) hb4⟩
theorem law4 (w : World) (A : Option Addr) (n c : Nat) (l : List Int) (hr : CB w A l) (hB : isBs l) (hn : n = l.length) (hc : n ≤ c) (hg : Glob w) : Calls Tryz.prog 4 #[.slice A n c] w (Yes w) := by
  by_cases h : 4096 < n ∨ parse 51 l = .unsaid
  · exact law4_no w A n c (asked_no w A n c l hr hB hn hc h)
  · have hl : n ≤ 4096 := by by_cases q : 4096 < n; exact absurd (Or.inl q) h; omega
    have hs : parse 51 l ≠ .unsaid := fun q => h (Or.inr q)
    have H6 := asked_yes w A n c l hr hB hn hc hl hs
    have H7 := fun (W : World) (hb : Below w.heap.size w W) => tree50 W A n c l (Kd.C_below hr hb) hB hn hc hl
    have H9 := fun (W : World) (hb : Below w.heap.size w W) => anew50 W A n c l (Kd.C_below hr hb) hB hn hc hl (hg.below hb) hs
    cases hh : parse 51 l with
    | unsaid => exact absurd hh hs
    | bad => rw [hh] at H7 H9; exact law4_bad w A n c hg hl H6 H7 H9
    | ok out r => rw [hh] at H7 H9; exact law4_ok w A n c out r hg hl H6 H7 H9

set_option maxRecDepth 100000 in
theorem law3_no (w : World) (A : Option Addr) (n c : Nat) (H : Calls Tryz.prog 6 #[.slice A n c] w fun e w' => e = .returned (.bool false) ∧ Below w.heap.size w w') : Calls Tryz.prog 3 #[.slice A n c] w (Yes w) := by
  have HH := Lib.hid H
  clear H
  go_enter Tryz.func3, Tryz.ntmps3
  go_wp2_with (go_at_call 6; refine HH.out.mono ?_; rintro e w1 ⟨rfl, hb⟩)
  all_goals first
    | (go_ret; exact ⟨rfl, hb⟩)
    | (go_ret; exact ⟨rfl, Below.refl _ _⟩)
set_option maxRecDepth 100000 in
theorem law3_bad (w : World) (A : Option Addr) (n c : Nat) (hg : Glob w) (hl : n ≤ 4096) (H6 : Calls Tryz.prog 6 #[.slice A n c] w fun e w' => e = .returned (.bool true) ∧ Below w.heap.size w w')
    (H7 : ∀ W : World, Below w.heap.size w W → Calls Tryz.prog 7 #[.slice A n c, .int .i64 50] W (TreePost W .bad)) : Calls Tryz.prog 3 #[.slice A n c] w (Yes w) := by
  have HH6 := Lib.hid H6
  have HH7 := Lib.hid H7
  have G := Lib.hid hg
  have hlt : (n : Int) ≤ 4096 := by omega
  clear H6 H7 hg hl
  go_enter Tryz.func3, Tryz.ntmps3
  go_wp2_with (first | (go_at_call 6; refine HH6.out.mono ?_; rintro e w1 ⟨rfl, hb⟩) | (go_at_call 7; refine (HH7.out w1 hb).mono ?_; rintro e w2 ⟨v, left, is, said, rfl, hb2, rfl, rfl⟩) | (go_at_call 8; refine (right_ok w2 (G.out.below (belowT hb hb2))).mono ?_; rintro e w4 ⟨rfl, hb4⟩))
  go_ret
  exact ⟨rfl, belowT (belowT hb hb2) hb4⟩
set_option maxRecDepth 100000 in
theorem law3_ok (w : World) (A : Option Addr) (n c : Nat) (out r : List Int) (hg : Glob w) (hl : n ≤ 4096) (hlen : out.length ≤ n) (H6 : Calls Tryz.prog 6 #[.slice A n c] w fun e w' => e = .returned (.bool true) ∧ Below w.heap.size w w')
    (H7 : ∀ W : World, Below w.heap.size w W → Calls Tryz.prog 7 #[.slice A n c, .int .i64 50] W (TreePost W (.ok out r))) (H9 : ∀ W : World, Below w.heap.size w W → Calls Tryz.prog 9 #[.slice A n c, .int .i64 50] W (AnewPost W (.ok out r)))
    (HA : ∀ (W : World) (A3 : Option Addr) (c3 : Nat), Below w.heap.size w W → CB W A3 out → out.length ≤ c3 → Calls Tryz.prog 9 #[.slice A3 out.length c3, .int .i64 50] W (AnewPost W (.ok out []))) : Calls Tryz.prog 3 #[.slice A n c] w (Yes w) := by
  have HH6 := Lib.hid H6
  have HH7 := Lib.hid H7
  have HH9 := Lib.hid H9
  have HHA := Lib.hid HA
  have G := Lib.hid hg
  have hlt : (n : Int) ≤ 4096 := by omega
  have hle : (out.length : Int) ≤ (n : Int) := by omega
  clear H6 H7 H9 HA hg hl hlen
  go_enter Tryz.func3, Tryz.ntmps3
  go_wp2_with (first | (go_at_call 6; refine HH6.out.mono ?_; rintro e w1 ⟨rfl, hb⟩) | (go_at_call 7; refine (HH7.out w1 hb).mono ?_; rintro e w2 ⟨v, left, is, said, rfl, hb2, rfl, rfl, rfl, A2, c2, rfl, hc2, hr2⟩; have g1 : True := trivial) | (clear g1; go_at_call 9; refine (HH9.out w2 (belowT hb hb2)).mono ?_; rintro e w3 ⟨v', left', ok, rfl, hb3, rfl, rfl, hR⟩; obtain ⟨A3, c3, rfl, hc3, hr3⟩ := hR.reads) | (go_at_call 9; refine (HHA.out w3 A3 c3 (belowT (belowT hb hb2) hb3) hr3 hc3).mono ?_; rintro e w5 ⟨v5, left5, ok5, rfl, hb5, rfl, rfl, hR5⟩; obtain ⟨A5, c5, rfl, hc5, hr5⟩ := hR5.reads; have q1 := conv_cb w5 A3 out.length c3 out (Kd.C_below hr3 hb5) rfl; have q2 := conv_cb w5 A5 out.length c5 out hr5 rfl) | (go_at_call 8; refine (right_ok w5 (G.out.below (belowT (belowT (belowT hb hb2) hb3) hb5))).mono ?_; rintro e w4 ⟨rfl, hb4⟩))
  go_ret
  exact ⟨rfl, belowT (belowT (belowT (belowT hb hb2) hb3) hb5) hb4⟩
theorem law3 (w : World) (A : Option Addr) (n c : Nat) (l : List Int) (hr : CB w A l) (hB : isBs l) (hn : n = l.length) (hc : n ≤ c) (hg : Glob w) : Calls Tryz.prog 3 #[.slice A n c] w (Yes w) := by
  by_cases h : 4096 < n ∨ parse 51 l = .unsaid
  · exact law3_no w A n c (asked_no w A n c l hr hB hn hc h)
  · have hl : n ≤ 4096 := by by_cases q : 4096 < n; exact absurd (Or.inl q) h; omega
    have hs : parse 51 l ≠ .unsaid := fun q => h (Or.inr q)
    have H6 := asked_yes w A n c l hr hB hn hc hl hs
    have H7 := fun (W : World) (hb : Below w.heap.size w W) => tree50 W A n c l (Kd.C_below hr hb) hB hn hc hl
    have H9 := fun (W : World) (hb : Below w.heap.size w W) => anew50 W A n c l (Kd.C_below hr hb) hB hn hc hl (hg.below hb) hs
    cases hh : parse 51 l with
    | unsaid => exact absurd hh hs
    | bad => rw [hh] at H7; exact law3_bad w A n c hg hl H6 H7
    | ok out r =>
      rw [hh] at H7 H9
      obtain ⟨hbo, hbr, ⟨p, hp, hp1, hp2⟩, hself⟩ := parse_fit 51 l out r hB hh
      have hlen : out.length ≤ n := by rw [hn, hp, List.length_append]; omega
      have hs2 : parse 51 out = .ok out [] := by have := hself []; rwa [List.append_nil] at this
      exact law3_ok w A n c out r hg hl hlen H6 H7 H9 (fun W A3 c3 hb hr3 hc3 => by
        have := anew50 W A3 _ c3 out hr3 hbo rfl hc3 (by omega) (hg.below hb) (by rw [hs2]; simp)
        rw [hs2] at this; exact this)
end Go.Proofs.YtmliokplekeljaaGreatDoor.M
