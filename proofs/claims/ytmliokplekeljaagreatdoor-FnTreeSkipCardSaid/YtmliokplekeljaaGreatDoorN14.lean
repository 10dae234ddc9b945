/- The reference's Tree: lists. -/
import Derived.Test.YtmliokplekeljaaGreatDoorN13
import Derived.Deep.LoopGhost
namespace Go.Proofs.YtmliokplekeljaaGreatDoor.M
open Go.RowKit Go.Proofs.YtmliokplekeljaaGreatDoorW.PrintWords Go.Proofs.YtmliokplekeljaaGreatDoorW.PrintMore PFnTreeAny
set_option linter.unusedVariables false
set_option linter.unusedSimpArgs false

/-- What holds at every round's head. -/
structure TL (w : World) (f : List Int → Res) (TOT : Res) (g : Nat) (A1 : Option Addr) (rs outs : List Int) (vo : Value) (wr : World) : Prop where
  rd : CB w A1 rs
  by_ : isBs rs
  own : OB wr w.heap.size vo outs
  bel : Below w.heap.size w wr
  tot : ploop f g outs rs = TOT
  len : outs.length + rs.length ≤ 100010
  ln : rs.length ≤ 100000
/-- What the call of itself hands back. -/
theorem TL.next {w wr w4 : World} {f : List Int → Res} (hf : Fits f) {TOT : Res} {g : Nat} {A1 : Option Addr} {rs outs x r1 : List Int} {vo v1 : Value} (h : TL w f TOT (g + 1) A1 rs outs vo wr) (hx : f rs = .ok x r1) (A2 : Option Addr) (hcut : CB w A1 rs → CB w A2 r1) (hR : OB w4 w.heap.size v1 (outs ++ x)) (hb : Below w.heap.size w w4) : TL w f TOT g A2 r1 (outs ++ x) v1 w4 := by
  obtain ⟨hbx, hb1, ⟨p, hp, hp1, hp2⟩, _⟩ := hf rs x r1 h.by_ hx
  have ht := h.tot
  rw [ploop, hx] at ht
  have h1 := h.len
  have h2 := h.ln
  rw [hp] at h1 h2
  simp only [List.length_append] at h1 h2
  exact ⟨hcut h.rd, hb1, hR, hb, ht, by simp only [List.length_append]; omega, by omega⟩
theorem TL.badTot {w wr : World} {f : List Int → Res} {TOT : Res} {g : Nat} {A1 : Option Addr} {rs outs : List Int} {vo : Value} (h : TL w f TOT (g + 1) A1 rs outs vo wr) (hx : f rs = .bad) : TOT = .bad := by
  have ht := h.tot; rw [ploop, hx] at ht; exact ht.symm
theorem TL.unsaidTot {w wr : World} {f : List Int → Res} {TOT : Res} {g : Nat} {A1 : Option Addr} {rs outs : List Int} {vo : Value} (h : TL w f TOT (g + 1) A1 rs outs vo wr) (hx : f rs = .unsaid) : TOT = .unsaid := by
  have ht := h.tot; rw [ploop, hx] at ht; exact ht.symm
theorem TL.doneTot {w wr : World} {f : List Int → Res} {TOT : Res} {A1 : Option Addr} {rs outs : List Int} {vo : Value} (h : TL w f TOT 0 A1 rs outs vo wr) : TOT = .ok outs rs := h.tot.symm

set_option maxRecDepth 100000 in
theorem tree_arr (f : List Int → Res) (hf : Fits f) (kk : Int) (hk : 0 ≤ kk) (hk2 : kk ≤ 1000)
    (ih : ∀ (w : World) (A : Option Addr) (c : Nat) (l : List Int), CB w A l → isBs l → l.length ≤ c → l.length ≤ 100000 → Calls Tryz.prog 7 #[.slice A l.length c, .int .i64 (kk - 1)] w (TreePost w (f l)))
    (w : World) (A : Option Addr) (n c : Nat) (l r : List Int) (hr : CB w A l) (hB : isBs r) (hn : n = l.length) (hc : n ≤ c) (hl : n ≤ 100000) (S : Int) (hS : Cut l S r) (N T : Int) (m : Nat) (hm2 : (m : Int) < 4294967296) (H : Calls Tryz.prog 11 #[.slice A n c] w (HdIs 9 N m T S false w)) :
    Calls Tryz.prog 7 #[.slice A n c, .int .i64 kk] w (TreePost w (ploop f m (arrH m) r)) := by
  obtain ⟨k, rfl, h1, h2, hd⟩ := hS
  obtain ⟨A', hs, hcb⟩ := dropCB A n c k l hn (by omega) hc
  have hm : n - k = r.length := by rw [hn, ← hd, List.length_drop]
  rw [hm] at hs
  have HR := Lib.hid (show CB w A' r from hd ▸ hcb w hr)
  have HH := Lib.hid H
  have hT0 : 0 ≤ (m : Int) := Int.natCast_nonneg _
  have HT := Lib.hid (And.intro hT0 hm2)
  have HIH := Lib.hid ih
  have HF := Lib.hid hf
  have HB := Lib.hid hB
  have HL := Lib.hid (show r.length ≤ 100000 ∧ r.length ≤ c - k by omega)
  have hu : IntKind.u32.wrap (m : Int) = (m : Int) := wraps_u32 _ hT0 hm2
  obtain ⟨TOT, hTOT⟩ : ∃ TOT, TOT = ploop f m (arrH m) r := ⟨_, rfl⟩
  rw [← hTOT]
  have HTOT := Lib.hid hTOT
  clear hTOT
  clear hr H hcb hd hm hn h2 hc ih hf hB hl hT0 hm2
  go_enter Tryz.func7, Tryz.ntmps7
  go_wp2_with (go_at_call 11; refine HH.out.mono ?_; rintro e w1 ⟨rfl, hb⟩)
  go_region_held3 (fun w' => w'.cell? ⟨w1.heap.size, 2, none⟩ = some (.int .i64 (m : Int))) (first | go_keep) ((go_at_call 16; refine (ref_arr _ (m : Int) HT.out.1 HT.out.2).mono ?_; rintro e w2 ⟨v, rfl, hR, hb2⟩; have k2 : w2.cell? ⟨w1.heap.size, 2, none⟩ = some (.int .i64 (m : Int)) := (hb2.cell (p := ⟨w1.heap.size, 2, none⟩) (by simp)).trans (by simp [go_sem])))
  have k0 : w2.cell? ⟨w1.heap.size, 0, none⟩ = some (.int .i64 9) := (hb2.cell (p := ⟨w1.heap.size, 0, none⟩) (by simp)).trans (by simp [go_sem])
  have hB0 : Below w.heap.size w w2 := (below_drew (below_alloc hb _)).trans (hb2.mono (by have := hb.size; simp; omega))
  have hO0 : OB w2 w.heap.size v (arrH m) := Kd.R_lower hR (by have := hb.size; simp; omega)
  have hTL : TL w f TOT m A' r (arrH m) v w2 := ⟨HR.out, HB.out, hO0, hB0, HTOT.out.symm, by have := arrH_l5 (m : Int); have := HL.out.1; omega, HL.out.1⟩
  have HTL := Lib.hid hTL
  clear hB0 hO0 hR hb2 hb hTL
  go_wp2_with (fail)
  go_loopg [9, 11, 13] m (fun g s vo i wr => ∃ (A1 : Option Addr) (c1 : Nat) (rs outs : List Int) (iN : Nat), s = .slice A1 rs.length c1 ∧ i = .int .i64 (iN : Int) ∧ Hid (rs.length ≤ c1 ∧ iN + g = m ∧ TL w f TOT g A1 rs outs vo wr))
  case atStart => exact ⟨A', c - k, r, arrH m, 0, rfl, rfl, ⟨HL.out.2, by omega, HTL.out⟩⟩
  case round =>
    clear hs hu HH k0 k2 HTL HTOT HR HB HL
    obtain ⟨A1, c1, rs, outs, iN, rfl, rfl, hT⟩ := hrel
    rcases gk with _ | g
    · have hge : ¬ ((iN : Int) < (m : Int)) := by have := hT.out.2.1; omega
      go_wp2_with (fail)
      exact bodyPost_ret (v := .tuple #[u11, .int .i64 (rs.length : Int), .bool true, .bool true]) (by simp [results, Tryz.results7, go_sem]) rfl (by rw [hT.out.2.2.doneTot]; exact treeR hT.out.2.2.own hT.out.2.2.bel rfl)
    · have hlt : (iN : Int) < (m : Int) := by have := hT.out.2.1; omega
      rcases hfr : f rs with _ | _ | ⟨x, r1⟩
      · have HFR := Lib.hid hfr
        clear hfr
        go_wp2_with (go_at_call 7; refine (HIH.out wr A1 c1 rs (Kd.C_below hT.out.2.2.rd hT.out.2.2.bel) hT.out.2.2.by_ hT.out.1 hT.out.2.2.ln).mono ?_; rintro e w3 ⟨v', left, is, said, rfl, hb3, hm⟩; rw [HFR.out] at hm; obtain ⟨rfl, rfl⟩ := hm)
        exact bodyPost_ret (v := .tuple #[.slice none 0 0, .int .i64 0, .bool false, .bool true]) (by simp [results, Tryz.results7, go_sem]) rfl (by rw [hT.out.2.2.badTot HFR.out]; exact treeBad (hT.out.2.2.bel.trans (hb3.mono hT.out.2.2.bel.size)))
      · have HFR := Lib.hid hfr
        clear hfr
        go_wp2_with (go_at_call 7; refine (HIH.out wr A1 c1 rs (Kd.C_below hT.out.2.2.rd hT.out.2.2.bel) hT.out.2.2.by_ hT.out.1 hT.out.2.2.ln).mono ?_; rintro e w3 ⟨v', left, is, said, rfl, hb3, hm⟩; rw [HFR.out] at hm; obtain rfl := hm)
        all_goals exact bodyPost_ret (v := .tuple #[.slice none 0 0, .int .i64 0, .bool is, .bool false]) (by simp [results, Tryz.results7, go_sem]; cases is <;> first | rfl | contradiction) rfl (by rw [hT.out.2.2.unsaidTot HFR.out]; exact treeUnsaid (hT.out.2.2.bel.trans (hb3.mono hT.out.2.2.bel.size)))
      · have HFR := Lib.hid hfr
        clear hfr
        obtain ⟨hbx, hb1, ⟨p, hp, hp1, hp2⟩, _⟩ := HF.out rs x r1 hT.out.2.2.by_ HFR.out
        obtain ⟨A3, hs3, hcb3⟩ := dropCB A1 rs.length c1 p.length rs rfl (by rw [hp, List.length_append]; omega) hT.out.1
        have hd3 : rs.drop p.length = r1 := by rw [hp]; simp
        have hm3 : rs.length - p.length = r1.length := by rw [← hd3, List.length_drop]
        have hw3 : (p.length : Int) = IntKind.i64.wrap ((rs.length : Int) - (r1.length : Int)) := by rw [IntKind.wrap_i64]; have := hT.out.2.2.ln; rw [hp, List.length_append] at *; omega
        rw [hm3, hw3] at hs3
        have HC3 := Lib.hid (show (CB w A1 rs → CB w A3 r1) ∧ r1.length ≤ c1 - p.length from ⟨fun h => hd3 ▸ hcb3 w h, by have := hT.out.1; omega⟩)
        have HX := Lib.hid (show (outs.length + x.length) * 1 ≤ 140737488355328 by have := hT.out.2.2.len; rw [hp, List.length_append] at this; omega)
        clear hbx hb1 hp hp1 hp2 hcb3 hd3 hm3 hw3
        go_wp2_with (go_at_call 7; refine (HIH.out wr A1 c1 rs (Kd.C_below hT.out.2.2.rd hT.out.2.2.bel) hT.out.2.2.by_ hT.out.1 hT.out.2.2.ln).mono ?_; rintro e w3 ⟨v', left, is, said, rfl, hb3, hm⟩; rw [HFR.out] at hm; obtain ⟨rfl, rfl, rfl, Ax, cx, rfl, hcx, hrx⟩ := hm)
        have hB3 : Below w.heap.size w w3 := hT.out.2.2.bel.trans (hb3.mono hT.out.2.2.bel.size)
        have hO3 : OB w3 w.heap.size u11 outs := Kd.R_below hT.out.2.2.own hb3
        have F := Lib.hid (And.intro hB3 (And.intro hO3 hrx))
        clear hb3 hB3 hO3 hrx
        go_region_held3 (fun w' => True) (trivial) ((refine Kd.R_append_rows_step (Kd.int .u8) (w0 := w) w.heap.size (by rfl) (.tmp 159) (.tmp 160) 22 5 (.int .u8 0) 1 rfl Tryz.underlying22 info5 rfl (by decide) (by omega) u11 outs x Ax x.length cx (fun _ => True) (fun _ => False) rfl rfl (Kd.R_drew F.out.2.1) (Kd.C_drew F.out.2.2) (fun _ _ h => h) (fun _ h => h.elim) (fun _ _ => trivial) (below_drew F.out.1) F.out.1.size HX.out ?_; intro v1 w4 hR1 hb4 hg hat))
        have HN := Lib.hid (And.intro hR1 hb4)
        clear hR1 hb4 hg hat hs3
        go_wp2_with (fail)
        have ek : wrap64 ((iN : Int) + 1) = ((iN + 1 : Nat) : Int) := by have := HT.out.2; have := hT.out.2.1; rw [wrap64_id (by omega) (by omega)]; omega
        rw [ek]
        go_roundg g
        case measure => omega
        case rel => exact ⟨A3, _, r1, outs ++ x, iN + 1, rfl, rfl, ⟨HC3.out.2, by have := hT.out.2.1; omega, hT.out.2.2.next HF.out HFR.out A3 HC3.out.1 HN.out.1 HN.out.2⟩⟩
end Go.Proofs.YtmliokplekeljaaGreatDoor.M
