/- The reference's Tree: maps. -/
import Derived.Test.YtmliokplekeljaaGreatDoorN14
namespace Go.Proofs.YtmliokplekeljaaGreatDoor.M
open Go.RowKit Go.Proofs.YtmliokplekeljaaGreatDoorW.PrintWords Go.Proofs.YtmliokplekeljaaGreatDoorW.PrintMore PFnTreeAny
set_option linter.unusedVariables false
set_option linter.unusedSimpArgs false

set_option maxRecDepth 100000 in
theorem tree_map (f : List Int → Res) (hf : Fits f) (kk : Int) (hk : 0 ≤ kk) (hk2 : kk ≤ 1000)
    (ih : ∀ (w : World) (A : Option Addr) (c : Nat) (l : List Int), CB w A l → isBs l → l.length ≤ c → l.length ≤ 100000 → Calls Tryz.prog 7 #[.slice A l.length c, .int .i64 (kk - 1)] w (TreePost w (f l)))
    (w : World) (A : Option Addr) (n c : Nat) (l r : List Int) (hr : CB w A l) (hB : isBs r) (hn : n = l.length) (hc : n ≤ c) (hl : n ≤ 100000) (S : Int) (hS : Cut l S r) (N T : Int) (m : Nat) (hm2 : (m : Int) < 4294967296) (H : Calls Tryz.prog 11 #[.slice A n c] w (HdIs 10 N m T S false w)) :
    Calls Tryz.prog 7 #[.slice A n c, .int .i64 kk] w (TreePost w (ploop f (2 * m) (mapH m) r)) := by
  obtain ⟨k, rfl, h1, h2, hd⟩ := hS
  obtain ⟨A', hs, hcb⟩ := dropCB A n c k l hn (by omega) hc
  have hm : n - k = r.length := by rw [hn, ← hd, List.length_drop]
  rw [hm] at hs
  have HR := Lib.hid (show CB w A' r from hd ▸ hcb w hr)
  have HH := Lib.hid H
  have hT0 : 0 ≤ (m : Int) := Int.natCast_nonneg _
  have HT := Lib.hid (And.intro hT0 hm2)
  have HIH := Lib.hid ih
  have HF := Lib.hid hf
  have HB := Lib.hid hB
  have HL := Lib.hid (show r.length ≤ 100000 ∧ r.length ≤ c - k by omega)
  have hv : IntKind.i64.wrap (2 * (m : Int)) = ((2 * m : Nat) : Int) := by rw [IntKind.wrap_i64]; omega
  have hu : IntKind.u32.wrap (m : Int) = (m : Int) := wraps_u32 _ hT0 hm2
  obtain ⟨TOT, hTOT⟩ : ∃ TOT, TOT = ploop f (2 * m) (mapH m) r := ⟨_, rfl⟩
  rw [← hTOT]
  have HTOT := Lib.hid hTOT
  clear hTOT
  clear hr H hcb hd hm hn h2 hc ih hf hB hl hT0 hm2
  go_enter Tryz.func7, Tryz.ntmps7
  go_wp2_with (go_at_call 11; refine HH.out.mono ?_; rintro e w1 ⟨rfl, hb⟩)
  go_region_held3 (fun w' => w'.cell? ⟨w1.heap.size, 2, none⟩ = some (.int .i64 (m : Int))) (first | go_keep) ((go_at_call 16; refine (ref_arr _ (m : Int) HT.out.1 HT.out.2).mono ?_; rintro e w2 ⟨v, rfl, hR, hb2⟩; have k2 : w2.cell? ⟨w1.heap.size, 2, none⟩ = some (.int .i64 (m : Int)) := (hb2.cell (p := ⟨w1.heap.size, 2, none⟩) (by simp)).trans (by simp [go_sem])))
  have k0 : w2.cell? ⟨w1.heap.size, 0, none⟩ = some (.int .i64 10) := (hb2.cell (p := ⟨w1.heap.size, 0, none⟩) (by simp)).trans (by simp [go_sem])
  have hB0 : Below w.heap.size w w2 := (below_drew (below_alloc hb _)).trans (hb2.mono (by have := hb.size; simp; omega))
  have HB0 := Lib.hid (And.intro hB0 (show w1.heap.size < w2.heap.size by have := hb2.size; simp at this; omega))
  clear hB0 hR hb2 hb
  go_wp2_with (fail)
  go_region_held3 (fun w' => w'.cell? ⟨w1.heap.size, 2, none⟩ = some (.int .i64 (m : Int))) (first | go_keep) ((go_at_call 17; refine (ref_map _ (m : Int) HT.out.1 HT.out.2).mono ?_; rintro e w3 ⟨v', rfl, hR, hb2⟩; have k3 : w3.cell? ⟨w1.heap.size, 2, none⟩ = some (.int .i64 (m : Int)) := (hb2.cell (p := ⟨w1.heap.size, 2, none⟩) (by simp; exact HB0.out.2)).trans k2))
  have hO0 : OB w3 w.heap.size v' (mapH m) := Kd.R_lower hR (by have := HB0.out.1.size; simp; omega)
  have hTL : TL w f TOT (2 * m) A' r (mapH m) v' w3 := ⟨HR.out, HB.out, hO0, (below_drew HB0.out.1).trans (hb2.mono (by have := HB0.out.1.size; simp; omega)), HTOT.out.symm, by have := mapH_l5 (m : Int); have := HL.out.1; omega, HL.out.1⟩
  have HTL := Lib.hid hTL
  clear hO0 hR hb2 hTL k3 k0 k2
  go_wp2_with (fail)
  go_loopg [9, 11, 13] (2 * m) (fun g s vo i wr => ∃ (A1 : Option Addr) (c1 : Nat) (rs outs : List Int) (iN : Nat), s = .slice A1 rs.length c1 ∧ i = .int .i64 (iN : Int) ∧ Hid (rs.length ≤ c1 ∧ iN + g = 2 * m ∧ TL w f TOT g A1 rs outs vo wr))
  case atStart => exact ⟨A', c - k, r, mapH m, 0, rfl, rfl, ⟨HL.out.2, by omega, HTL.out⟩⟩
  case round =>
    clear hs hu hv HH HTL HTOT HR HB HL HB0
    obtain ⟨A1, c1, rs, outs, iN, rfl, rfl, hT⟩ := hrel
    rcases gk with _ | g
    · have hge : ¬ ((iN : Int) < ((2 * m : Nat) : Int)) := by have := hT.out.2.1; omega
      go_wp2_with (fail)
      exact bodyPost_ret (v := .tuple #[u11, .int .i64 (rs.length : Int), .bool true, .bool true]) (by simp [results, Tryz.results7, go_sem]) rfl (by rw [hT.out.2.2.doneTot]; exact treeR hT.out.2.2.own hT.out.2.2.bel rfl)
    · have hlt : (iN : Int) < ((2 * m : Nat) : Int) := by have := hT.out.2.1; omega
      rcases hfr : f rs with _ | _ | ⟨x, r1⟩
      · have HFR := Lib.hid hfr
        clear hfr
        go_wp2_with (go_at_call 7; refine (HIH.out wr A1 c1 rs (Kd.C_below hT.out.2.2.rd hT.out.2.2.bel) hT.out.2.2.by_ hT.out.1 hT.out.2.2.ln).mono ?_; rintro e w3 ⟨v', left, is, said, rfl, hb3, hm⟩; rw [HFR.out] at hm; obtain ⟨rfl, rfl⟩ := hm)
        exact bodyPost_ret (v := .tuple #[.slice none 0 0, .int .i64 0, .bool false, .bool true]) (by simp [results, Tryz.results7, go_sem]) rfl (by rw [hT.out.2.2.badTot HFR.out]; exact treeBad (hT.out.2.2.bel.trans (hb3.mono hT.out.2.2.bel.size)))
      · have HFR := Lib.hid hfr
        clear hfr
        go_wp2_with (go_at_call 7; refine (HIH.out wr A1 c1 rs (Kd.C_below hT.out.2.2.rd hT.out.2.2.bel) hT.out.2.2.by_ hT.out.1 hT.out.2.2.ln).mono ?_; rintro e w3 ⟨v', left, is, said, rfl, hb3, hm⟩; rw [HFR.out] at hm; obtain rfl := hm)
        all_goals exact bodyPost_ret (v := .tuple #[.slice none 0 0, .int .i64 0, .bool is, .bool false]) (by simp [results, Tryz.results7, go_sem]; cases is <;> first | rfl | contradiction) rfl (by rw [hT.out.2.2.unsaidTot HFR.out]; exact treeUnsaid (hT.out.2.2.bel.trans (hb3.mono hT.out.2.2.bel.size)))
      · have HFR := Lib.hid hfr
        clear hfr
        obtain ⟨hbx, hb1, ⟨p, hp, hp1, hp2⟩, _⟩ := HF.out rs x r1 hT.out.2.2.by_ HFR.out
        obtain ⟨A3, hs3, hcb3⟩ := dropCB A1 rs.length c1 p.length rs rfl (by rw [hp, List.length_append]; omega) hT.out.1
        have hd3 : rs.drop p.length = r1 := by rw [hp]; simp
        have hm3 : rs.length - p.length = r1.length := by rw [← hd3, List.length_drop]
        have hw3 : (p.length : Int) = IntKind.i64.wrap ((rs.length : Int) - (r1.length : Int)) := by rw [IntKind.wrap_i64]; have := hT.out.2.2.ln; rw [hp, List.length_append] at *; omega
        rw [hm3, hw3] at hs3
        have HC3 := Lib.hid (show (CB w A1 rs → CB w A3 r1) ∧ r1.length ≤ c1 - p.length from ⟨fun h => hd3 ▸ hcb3 w h, by have := hT.out.1; omega⟩)
        have HX := Lib.hid (show (outs.length + x.length) * 1 ≤ 140737488355328 by have := hT.out.2.2.len; rw [hp, List.length_append] at this; omega)
        clear hbx hb1 hp hp1 hp2 hcb3 hd3 hm3 hw3
        go_wp2_with (go_at_call 7; refine (HIH.out wr A1 c1 rs (Kd.C_below hT.out.2.2.rd hT.out.2.2.bel) hT.out.2.2.by_ hT.out.1 hT.out.2.2.ln).mono ?_; rintro e w3 ⟨v', left, is, said, rfl, hb3, hm⟩; rw [HFR.out] at hm; obtain ⟨rfl, rfl, rfl, Ax, cx, rfl, hcx, hrx⟩ := hm)
        have hB3 : Below w.heap.size w w3 := hT.out.2.2.bel.trans (hb3.mono hT.out.2.2.bel.size)
        have hO3 : OB w3 w.heap.size u11 outs := Kd.R_below hT.out.2.2.own hb3
        have F := Lib.hid (And.intro hB3 (And.intro hO3 hrx))
        clear hb3 hB3 hO3 hrx
        go_region_held3 (fun w' => True) (trivial) ((refine Kd.R_append_rows_step (Kd.int .u8) (w0 := w) w.heap.size (by rfl) (.tmp 159) (.tmp 160) 22 5 (.int .u8 0) 1 rfl Tryz.underlying22 info5 rfl (by decide) (by omega) u11 outs x Ax x.length cx (fun _ => True) (fun _ => False) rfl rfl (Kd.R_drew F.out.2.1) (Kd.C_drew F.out.2.2) (fun _ _ h => h) (fun _ h => h.elim) (fun _ _ => trivial) (below_drew F.out.1) F.out.1.size HX.out ?_; intro v1 w4 hR1 hb4 hg hat))
        have HN := Lib.hid (And.intro hR1 hb4)
        clear hR1 hb4 hg hat hs3
        go_wp2_with (fail)
        have ek : wrap64 ((iN : Int) + 1) = ((iN + 1 : Nat) : Int) := by have := HT.out.2; have := hT.out.2.1; rw [wrap64_id (by omega) (by omega)]; omega
        rw [ek]
        go_roundg g
        case measure => omega
        case rel => exact ⟨A3, _, r1, outs ++ x, iN + 1, rfl, rfl, ⟨HC3.out.2, by have := hT.out.2.1; omega, hT.out.2.2.next HF.out HFR.out A3 HC3.out.1 HN.out.1 HN.out.2⟩⟩
end Go.Proofs.YtmliokplekeljaaGreatDoor.M

namespace Go.Proofs.YtmliokplekeljaaGreatDoor.M
open Go.RowKit Go.Proofs.YtmliokplekeljaaGreatDoorW.PrintWords Go.Proofs.YtmliokplekeljaaGreatDoorW.PrintMore PFnTreeAny
set_option linter.unusedVariables false
set_option linter.unusedSimpArgs false

theorem parse_atom {d : Nat} {l c r : List Int} {s : Bool} (h : hdOf l = .atom c r s) : parse (d + 1) l = if s then .ok c r else .unsaid := by rw [parse, h]
theorem parse_blob {d : Nat} {l c r : List Int} {n : Nat} (h : hdOf l = .blob c r n) : parse (d + 1) l = if r.length < n then .bad else .ok (c ++ r.take n) (r.drop n) := by rw [parse, h]
theorem parse_comp {d : Nat} {l c r : List Int} {n : Nat} (h : hdOf l = .comp c r n) : parse (d + 1) l = ploop (parse d) n c r := by rw [parse, h]
theorem parse_bad {d : Nat} {l : List Int} (h : hdOf l = .bad) : parse d l = .bad := by cases d <;> rw [parse, h]
theorem parse_ext {d : Nat} {l : List Int} (h : hdOf l = .ext) : parse d l = .unsaid := by cases d <;> rw [parse, h]
theorem parse_zero {l : List Int} (h : hdOf l ≠ .bad) : parse 0 l = .unsaid := by
  rw [parse]; split
  · contradiction
  · rfl

theorem tree_any : ∀ (d : Nat), d ≤ 900 → ∀ (w : World) (A : Option Addr) (c : Nat) (l : List Int), CB w A l → isBs l → l.length ≤ c → l.length ≤ 100000 → Calls Tryz.prog 7 #[.slice A l.length c, .int .i64 ((d : Int) - 1)] w (TreePost w (parse d l)) := by
  intro d
  induction d with
  | zero =>
    intro _ w A c l hr hB hc hl
    obtain ⟨K, N, L, T, S, sh, hv, H⟩ := headOf_any w A c l hr hB hc
    generalize hh : hdOf l = hd at hv
    cases hv with
    | short => rw [parse_bad hh]; exact tree_short w A _ c _ _ _ _ _ _ H
    | none => rw [parse_bad hh]; exact tree_none w A _ c _ _ _ _ _ H
    | ext => rw [parse_ext hh]; exact tree_ext w A _ c _ _ _ _ _ H
    | prim x r _ _ _ _ hK => rw [parse_zero (by rw [hh]; simp)]; exact tree_neg w A _ c _ _ _ _ _ _ (by omega) (by omega) H
    | _ => rw [parse_zero (by rw [hh]; simp)]; exact tree_neg w A _ c _ _ _ _ _ _ (by omega) (by omega) H
  | succ d ih =>
    intro hd w A c l hr hB hc hl
    obtain ⟨K, N, L, T, S, sh, hv, H⟩ := headOf_any w A c l hr hB hc
    have hfit := hd_fit l hB
    have e1 : ((d + 1 : Nat) : Int) - 1 = (d : Int) := by omega
    rw [e1]
    have ih' : ∀ (w : World) (A : Option Addr) (c : Nat) (l : List Int), CB w A l → isBs l → l.length ≤ c → l.length ≤ 100000 → Calls Tryz.prog 7 #[.slice A l.length c, .int .i64 ((d : Int) - 1)] w (TreePost w (parse d l)) := ih (by omega)
    generalize hh : hdOf l = hd' at hv hfit
    cases hv with
    | short => rw [parse_bad hh]; exact tree_short w A _ c _ _ _ _ _ _ H
    | none => rw [parse_bad hh]; exact tree_none w A _ c _ _ _ _ _ H
    | ext => rw [parse_ext hh]; exact tree_ext w A _ c _ _ _ _ _ H
    | prim x r _ _ _ _ hK =>
      rw [parse_atom hh]
      rcases hK with rfl | rfl
      · exact tree_nil w A _ c (x :: r) r hr rfl hc 1 (cutOf [x] r 1 rfl (by omega)) _ (by omega) N L T H
      · exact tree_bool w A _ c (x :: r) r hr rfl hc 1 (cutOf [x] r 1 rfl (by omega)) _ (by omega) N L T H
    | sgn _ r _ _ _ _ hC => rw [parse_atom hh]; exact tree_sgn w A _ c l r hr rfl hc S hC _ (by omega) N L T H
    | small x r => rw [parse_atom hh]; exact tree_small w A _ c (x :: r) r hr rfl hc 1 (cutOf [x] r 1 rfl (by omega)) rfl _ (by omega) N L T H
    | uint _ r _ _ _ _ hC hS => rw [parse_atom hh]; exact tree_uint w A _ c l r hr rfl hc S hC hS _ (by omega) N L T H
    | f32 _ r _ _ _ hC => rw [parse_atom hh]; exact tree_f32 w A _ c l r hr rfl hc 5 hC rfl _ (by omega) N L T H
    | f64 _ r _ _ _ hC => rw [parse_atom hh]; exact tree_f64 w A _ c l r hr rfl hc 9 hC rfl _ (by omega) N L T H
    | text _ r _ _ _ _ hC h0 h1 =>
      rw [parse_blob hh]
      obtain ⟨m, rfl⟩ := Int.eq_ofNat_of_zero_le h0
      simp only [Int.toNat_natCast]
      split
      · next h => exact tree_textS w A _ c l r rfl hc S hC _ (by omega) N T m (by omega) 7 (Or.inl rfl) H
      · next h => exact tree_text w A _ c l r hr rfl hc hl S hC _ (by omega) N T m (by omega) H
    | bin _ r _ _ _ _ hC h0 h1 =>
      rw [parse_blob hh]
      obtain ⟨m, rfl⟩ := Int.eq_ofNat_of_zero_le h0
      simp only [Int.toNat_natCast]
      split
      · next h => exact tree_textS w A _ c l r rfl hc S hC _ (by omega) N T m (by omega) 8 (Or.inr rfl) H
      · next h => exact tree_bin w A _ c l r hr rfl hc hl S hC _ (by omega) N T m (by omega) H
    | arr _ r _ _ _ _ hC h0 h1 =>
      rw [parse_comp hh]
      obtain ⟨m, rfl⟩ := Int.eq_ofNat_of_zero_le h0
      simp only [Int.toNat_natCast]
      exact tree_arr (parse d) (parse_fit d) _ (by omega) (by omega) ih' w A _ c l r hr hfit.2.1 rfl hc hl S hC N T m h1 H
    | map _ r _ _ _ _ hC h0 h1 =>
      rw [parse_comp hh]
      obtain ⟨m, rfl⟩ := Int.eq_ofNat_of_zero_le h0
      simp only [Int.toNat_natCast]
      exact tree_map (parse d) (parse_fit d) _ (by omega) (by omega) ih' w A _ c l r hr hfit.2.1 rfl hc hl S hC N T m h1 H

/-- Something is said. -/
def Res.said : Res → Bool
  | .unsaid => false
  | _ => true
set_option maxRecDepth 100000 in
theorem asked_any (w : World) (A : Option Addr) (n c : Nat) (l : List Int) (hr : CB w A l) (hB : isBs l) (hn : n = l.length) (hc : n ≤ c) (hl : n ≤ 4096) : Calls Tryz.prog 6 #[.slice A n c] w fun e w' => e = .returned (.bool (parse 51 l).said) ∧ Below w.heap.size w w' := by
  have H : Calls Tryz.prog 7 #[.slice A n c, .int .i64 50] w (TreePost w (parse 51 l)) := by subst hn; exact tree_any 51 (by omega) w A c l hr hB hc (by omega)
  have H' : Calls Tryz.prog 7 #[.slice A n c, .int .i64 50] w (fun e w' => ∃ (v : Value) (left : Int) (is : Bool), e = .returned (.tuple #[v, .int .i64 left, .bool is, .bool (parse 51 l).said]) ∧ Below w.heap.size w w') := by
    refine H.mono ?_
    rintro e w' ⟨v, left, is, said, rfl, hb, hm⟩
    refine ⟨v, left, is, ?_, hb⟩
    revert hm
    cases parse 51 l with
    | bad => rintro ⟨rfl, rfl⟩; rfl
    | unsaid => rintro rfl; rfl
    | ok out r => rintro ⟨rfl, rfl, _⟩; rfl
  generalize (parse 51 l).said = q at H' ⊢
  have HH := Lib.hid H'
  have hlt : (n : Int) ≤ 4096 := by omega
  clear hn hc hr H H' hB hl
  go_enter Tryz.func6, Tryz.ntmps6
  go_wp2_with (go_at_call 7; refine HH.out.mono ?_; rintro e w3 ⟨v', left, is, rfl, hb3⟩)
  go_ret
  exact ⟨rfl, hb3⟩
end Go.Proofs.YtmliokplekeljaaGreatDoor.M
