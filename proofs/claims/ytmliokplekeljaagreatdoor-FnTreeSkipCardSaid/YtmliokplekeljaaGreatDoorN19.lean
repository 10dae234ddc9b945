/- The law's anew: lists. -/
import Derived.Test.YtmliokplekeljaaGreatDoorN18
import Derived.Test.YtmliokplekeljaaGreatDoorN12
namespace Go.Proofs.YtmliokplekeljaaGreatDoor.M
open Go.RowKit Go.Proofs.YtmliokplekeljaaGreatDoorW.PrintWords
set_option linter.unusedVariables false
set_option linter.unusedSimpArgs false

/-- What holds at every round's head. -/
structure TA (w : World) (f : List Int → Res) (TOT : Res) (g : Nat) (A1 : Option Addr) (bs rs outs : List Int) (vo : Value) (wr : World) : Prop where
  rd : CB w A1 bs
  suf : bs.drop (bs.length - rs.length) = rs
  le : rs.length ≤ bs.length
  by_ : isBs rs
  own : OB wr w.heap.size vo outs
  bel : Below w.heap.size w wr
  tot : ploop f g outs rs = TOT
  len : outs.length + rs.length ≤ 60010
  ln : bs.length ≤ 60000
theorem TA.next {w wr w4 : World} {f : List Int → Res} (hf : Fits f) {TOT : Res} {g : Nat} {A1 : Option Addr} {bs rs outs x r1 : List Int} {vo v1 : Value} (h : TA w f TOT (g + 1) A1 bs rs outs vo wr) (hx : f rs = .ok x r1) (A2 : Option Addr) (hcut : CB w A1 bs → CB w A2 rs) (hR : OB w4 w.heap.size v1 (outs ++ x)) (hb : Below w.heap.size w w4) : TA w f TOT g A2 rs r1 (outs ++ x) v1 w4 := by
  obtain ⟨hbx, hb1, ⟨p, hp, hp1, hp2⟩, _⟩ := hf rs x r1 h.by_ hx
  have ht := h.tot
  rw [ploop, hx] at ht
  have h1 := h.len
  have h2 := h.ln
  have h3 := h.le
  have hL : rs.length = p.length + r1.length := by rw [hp, List.length_append]
  refine ⟨hcut h.rd, ?_, by omega, hb1, hR, hb, ht, by rw [List.length_append]; omega, by omega⟩
  rw [show rs.length - r1.length = p.length by omega, hp]; simp
theorem TA.badTot {w wr : World} {f : List Int → Res} {TOT : Res} {g : Nat} {A1 : Option Addr} {bs rs outs : List Int} {vo : Value} (h : TA w f TOT (g + 1) A1 bs rs outs vo wr) (hx : f rs = .bad) : TOT = .bad := by
  have ht := h.tot; rw [ploop, hx] at ht; exact ht.symm
theorem TA.unsaidTot {w wr : World} {f : List Int → Res} {TOT : Res} {g : Nat} {A1 : Option Addr} {bs rs outs : List Int} {vo : Value} (h : TA w f TOT (g + 1) A1 bs rs outs vo wr) (hx : f rs = .unsaid) : TOT = .unsaid := by
  have ht := h.tot; rw [ploop, hx] at ht; exact ht.symm
theorem TA.doneTot {w wr : World} {f : List Int → Res} {TOT : Res} {A1 : Option Addr} {bs rs outs : List Int} {vo : Value} (h : TA w f TOT 0 A1 bs rs outs vo wr) : TOT = .ok outs rs := h.tot.symm

set_option maxRecDepth 100000 in
theorem anew_arr (f : List Int → Res) (hf : Fits f) (kk : Int) (hk : 0 ≤ kk) (hk2 : kk ≤ 1000)
    (ih : ∀ (w : World) (A : Option Addr) (c : Nat) (l : List Int), CB w A l → isBs l → l.length ≤ c → l.length ≤ 60000 → Glob w → f l ≠ .unsaid → Calls Tryz.prog 9 #[.slice A l.length c, .int .i64 (kk - 1)] w (AnewPost w (f l)))
    (w : World) (A : Option Addr) (n c : Nat) (l r : List Int) (hr : CB w A l) (hn : n = l.length) (hc : n ≤ c) (hl : n ≤ 60000) (hg : Glob w) (hB : isBs r) (hsuf : ∃ p, l = p ++ r) (N : Int) (hN0 : 0 ≤ N) (hN1 : N < 4294967296) (HK : KindIs 4 A n c w)
    (HP : ∀ W : World, Below w.heap.size w W → Calls Tryz.prog 20 #[.slice A n c] W (RetC (.int .u32 N) r.length 0 W)) (hsaid : ploop f N.toNat (arrH N) r ≠ .unsaid) :
    Calls Tryz.prog 9 #[.slice A n c, .int .i64 kk] w (AnewPost w (ploop f N.toNat (arrH N) r)) := by
  obtain ⟨m, rfl⟩ := Int.eq_ofNat_of_zero_le hN0
  rw [Int.toNat_natCast] at *
  obtain ⟨p, hp⟩ := hsuf
  have hlr : r.length ≤ n := by rw [hn, hp, List.length_append]; omega
  have hrn : decide (n < r.length) = false := by simpa using hlr
  have hdr : l.drop (n - r.length) = r := by rw [hn, hp, List.length_append, Nat.add_sub_cancel]; simp
  have HR := Lib.hid (show CB w A l ∧ n = l.length ∧ n ≤ c ∧ n ≤ 60000 ∧ r.length ≤ n ∧ l.drop (n - r.length) = r from ⟨hr, hn, hc, hl, hlr, hdr⟩)
  have HK' := Lib.hid (show Calls Tryz.prog 18 #[.slice A n c] w (fun e w' => e = .returned (.int .i64 4) ∧ Below w.heap.size w w') from HK)
  have HP' := Lib.hid HP
  have HT := Lib.hid (And.intro hN0 hN1)
  have HIH := Lib.hid ih
  have HF := Lib.hid hf
  have HB := Lib.hid hB
  have G := Lib.hid hg
  obtain ⟨TOT, hTOT⟩ : ∃ TOT, TOT = ploop f m (arrH m) r := ⟨_, rfl⟩
  rw [← hTOT] at hsaid ⊢
  have HS := Lib.hid hsaid
  have HTOT := Lib.hid hTOT
  have hwu : IntKind.u64.wrap (m : Int) = (m : Int) := wraps_u64 _ hN0 (by omega)
  clear hTOT hr hn hc hl hg hB hp hN0 hN1 HK HP hsaid ih hf hdr hlr p
  go_enter Tryz.func9, Tryz.ntmps9
  go_wp2_with (first | (go_at_call 18; refine HK'.out.mono ?_; rintro e w1 ⟨rfl, hb⟩) | (go_at_call 20; refine (HP'.out w1 hb).mono ?_; rintro e w2 ⟨rfl, hb2⟩) | (go_at_call 21; refine (prog_arr w2 (m : Int) HT.out.1 HT.out.2).mono ?_; rintro e w3 ⟨v, rfl, hR, hb3⟩))
  have hTL : TA w f TOT m A l r (arrH m) v w3 := ⟨HR.out.1, by rw [← HR.out.2.1]; exact HR.out.2.2.2.2.2, by rw [← HR.out.2.1]; exact HR.out.2.2.2.2.1, HB.out, Kd.R_lower hR (belowT hb hb2).size, belowT (belowT hb hb2) hb3, HTOT.out.symm, by have := arrH_l5 (m : Int); have := HR.out; omega, by have := HR.out; omega⟩
  have HTL := Lib.hid hTL
  clear hR hb hb2 hb3 hTL
  go_loopg [0, 12, 14, 16] m (fun g b lf vo i wr => ∃ (A1 : Option Addr) (c1 : Nat) (bs rs outs : List Int) (iN : Nat), b = .slice A1 bs.length c1 ∧ lf = .int .i64 (rs.length : Int) ∧ i = .int .u64 (iN : Int) ∧ Hid (bs.length ≤ c1 ∧ iN + g = m ∧ TA w f TOT g A1 bs rs outs vo wr))
  case atStart => exact ⟨A, c, l, r, arrH m, 0, by rw [HR.out.2.1], rfl, rfl, ⟨by have := HR.out; omega, by omega, HTL.out⟩⟩
  case round =>
    clear HK' HP' hwu HTL HTOT HR HB
    obtain ⟨A1, c1, bs, rs, outs, iN, rfl, rfl, rfl, hT⟩ := hrel
    rcases gk with _ | g
    · have hge : ¬ ((iN : Int) < (m : Int)) := by have := hT.out.2.1; omega
      go_wp2_with (fail)
      go_ret3
      exact ⟨_, _, _, rfl, hT.out.2.2.bel, by rw [hT.out.2.2.doneTot]; exact ⟨rfl, rfl, hT.out.2.2.own⟩⟩
    · have hlt : (iN : Int) < (m : Int) := by have := hT.out.2.1; omega
      obtain ⟨A3, hs3, hcb3⟩ := dropCB A1 bs.length c1 (bs.length - rs.length) bs rfl (by omega) hT.out.1
      have hm3 : bs.length - (bs.length - rs.length) = rs.length := by have := hT.out.2.2.le; omega
      have hw3 : ((bs.length - rs.length : Nat) : Int) = (bs.length : Int) - (rs.length : Int) := by have := hT.out.2.2.le; omega
      rw [hm3, hw3] at hs3
      have hw4 : wrap64 ((bs.length : Int) - (rs.length : Int)) = (bs.length : Int) - (rs.length : Int) := by have := hT.out.2.2.le; have := hT.out.2.2.ln; exact wrap64_id (by omega) (by omega)
      have HC3 := Lib.hid (show (CB w A1 bs → CB w A3 rs) ∧ rs.length ≤ c1 - (bs.length - rs.length) ∧ rs.length ≤ 60000 from ⟨fun h => hT.out.2.2.suf ▸ hcb3 w h, by have := hT.out.1; have := hT.out.2.2.le; omega, by have := hT.out.2.2.le; have := hT.out.2.2.ln; omega⟩)
      clear hcb3 hm3 hw3
      rcases hfr : f rs with _ | _ | ⟨x, r1⟩
      · have HFR := Lib.hid hfr
        clear hfr
        go_wp2_with (go_at_call 9; refine (HIH.out wr A3 (c1 - (bs.length - rs.length)) rs (Kd.C_below (HC3.out.1 hT.out.2.2.rd) hT.out.2.2.bel) hT.out.2.2.by_ HC3.out.2.1 HC3.out.2.2 (G.out.below hT.out.2.2.bel) (by rw [HFR.out]; simp)).mono ?_; rintro e w3 ⟨v', left, ok, rfl, hb3, hm⟩; rw [HFR.out] at hm; obtain rfl := hm)
        go_ret3
        exact ⟨_, _, _, rfl, hT.out.2.2.bel.trans (hb3.mono hT.out.2.2.bel.size), by rw [hT.out.2.2.badTot HFR.out]⟩
      · exact absurd (hT.out.2.2.unsaidTot hfr) HS.out
      · have HFR := Lib.hid hfr
        clear hfr
        obtain ⟨hbx, hb1, ⟨p, hp, hp1, hp2⟩, _⟩ := HF.out rs x r1 hT.out.2.2.by_ HFR.out
        have hr1 : ¬ ((rs.length : Int) < (r1.length : Int)) := by rw [hp, List.length_append]; omega
        have HX := Lib.hid (show (outs.length + x.length) * 1 ≤ 140737488355328 by have := hT.out.2.2.len; rw [hp, List.length_append] at this; omega)
        clear hbx hb1 hp hp1 hp2
        go_wp2_with (first | (go_at_call 9; refine (HIH.out wr A3 (c1 - (bs.length - rs.length)) rs (Kd.C_below (HC3.out.1 hT.out.2.2.rd) hT.out.2.2.bel) hT.out.2.2.by_ HC3.out.2.1 HC3.out.2.2 (G.out.below hT.out.2.2.bel) (by rw [HFR.out]; simp)).mono ?_; rintro e w3 ⟨v', left, ok, rfl, hb3, hm⟩; rw [HFR.out] at hm; obtain ⟨rfl, rfl, hR1⟩ := hm; obtain ⟨Ax, cx, rfl, hcx, hrx⟩ := hR1.reads) | (at_builtin; refine Kd.R_append_row (w0 := w) (Value.int .u8) 0 w.heap.size rfl (.tmp 108) (.tmp 109) 22 5 (.int .u8 0) 1 rfl Tryz.underlying22 info5 rfl (by decide) u14 outs x Ax x.length cx (fun _ => True) (by rfl) (by rfl) (fun _ _ => trivial) (Kd.R_below hT.out.2.2.own hb3) hrx (hT.out.2.2.bel.trans (hb3.mono hT.out.2.2.bel.size)) (hT.out.2.2.bel.trans (hb3.mono hT.out.2.2.bel.size)).size HX.out ?_; intro v1 w4 hR2 hb4 hg4 hat4))
        have HN := Lib.hid (And.intro hR2 hb4)
        clear hR2 hb4 hg4 hat4 hs3
        have ek : IntKind.u64.wrap ((iN : Int) + 1) = ((iN + 1 : Nat) : Int) := by have := HT.out.2; have := hT.out.2.1; rw [wraps_u64 _ (by omega) (by omega)]; omega
        rw [ek]
        go_roundg g
        case measure => omega
        case rel => exact ⟨A3, _, rs, r1, outs ++ x, iN + 1, rfl, rfl, rfl, ⟨HC3.out.2.1, by have := hT.out.2.1; omega, hT.out.2.2.next HF.out HFR.out A3 HC3.out.1 HN.out.1 HN.out.2⟩⟩
end Go.Proofs.YtmliokplekeljaaGreatDoor.M

namespace Go.Proofs.YtmliokplekeljaaGreatDoor.M
open Go.RowKit Go.Proofs.YtmliokplekeljaaGreatDoorW.PrintWords
set_option linter.unusedVariables false
set_option linter.unusedSimpArgs false

set_option maxRecDepth 100000 in
theorem anew_map (f : List Int → Res) (hf : Fits f) (kk : Int) (hk : 0 ≤ kk) (hk2 : kk ≤ 1000)
    (ih : ∀ (w : World) (A : Option Addr) (c : Nat) (l : List Int), CB w A l → isBs l → l.length ≤ c → l.length ≤ 60000 → Glob w → f l ≠ .unsaid → Calls Tryz.prog 9 #[.slice A l.length c, .int .i64 (kk - 1)] w (AnewPost w (f l)))
    (w : World) (A : Option Addr) (n c : Nat) (l r : List Int) (hr : CB w A l) (hn : n = l.length) (hc : n ≤ c) (hl : n ≤ 60000) (hg : Glob w) (hB : isBs r) (hsuf : ∃ p, l = p ++ r) (N : Int) (hN0 : 0 ≤ N) (hN1 : N < 4294967296) (HK : KindIs 3 A n c w)
    (HA : ∀ W : World, Below w.heap.size w W → ∃ m, Calls Tryz.prog 20 #[.slice A n c] W (RetC (.int .u32 0) m 2 W)) (HP : ∀ W : World, Below w.heap.size w W → Calls Tryz.prog 22 #[.slice A n c] W (RetC (.int .u32 N) r.length 0 W)) (hsaid : ploop f (2 * N.toNat) (mapH N) r ≠ .unsaid) :
    Calls Tryz.prog 9 #[.slice A n c, .int .i64 kk] w (AnewPost w (ploop f (2 * N.toNat) (mapH N) r)) := by
  obtain ⟨m, rfl⟩ := Int.eq_ofNat_of_zero_le hN0
  rw [Int.toNat_natCast] at *
  obtain ⟨p, hp⟩ := hsuf
  have hlr : r.length ≤ n := by rw [hn, hp, List.length_append]; omega
  have hrn : decide (n < r.length) = false := by simpa using hlr
  have hdr : l.drop (n - r.length) = r := by rw [hn, hp, List.length_append, Nat.add_sub_cancel]; simp
  have HR := Lib.hid (show CB w A l ∧ n = l.length ∧ n ≤ c ∧ n ≤ 60000 ∧ r.length ≤ n ∧ l.drop (n - r.length) = r from ⟨hr, hn, hc, hl, hlr, hdr⟩)
  have HK' := Lib.hid (show Calls Tryz.prog 18 #[.slice A n c] w (fun e w' => e = .returned (.int .i64 3) ∧ Below w.heap.size w w') from HK)
  have HP' := Lib.hid HP
  have HA' := Lib.hid HA
  have HT := Lib.hid (And.intro hN0 hN1)
  have HIH := Lib.hid ih
  have HF := Lib.hid hf
  have HB := Lib.hid hB
  have G := Lib.hid hg
  obtain ⟨TOT, hTOT⟩ : ∃ TOT, TOT = ploop f (2 * m) (mapH m) r := ⟨_, rfl⟩
  rw [← hTOT] at hsaid ⊢
  have HS := Lib.hid hsaid
  have HTOT := Lib.hid hTOT
  have hwv : IntKind.u64.wrap (2 * (m : Int)) = ((2 * m : Nat) : Int) := by rw [wraps_u64 _ (by omega) (by omega)]; omega
  have hwu : IntKind.u64.wrap (m : Int) = (m : Int) := wraps_u64 _ hN0 (by omega)
  clear hTOT hr hn hc hl hg hB hp hN0 hN1 HK HP HA hsaid ih hf hdr hlr p
  go_enter Tryz.func9, Tryz.ntmps9
  go_wp2_with (first | (go_at_call 18; refine HK'.out.mono ?_; rintro e w1 ⟨rfl, hb⟩; obtain ⟨m0, HA1⟩ := HA'.out w1 hb; have HA2 := Lib.hid HA1; clear HA1) | (go_at_call 20; refine HA2.out.mono ?_; rintro e w2 ⟨rfl, hb2⟩) | (go_at_call 21; refine (prog_arr w2 0 (by decide) (by decide)).mono ?_; rintro e w3 ⟨v, rfl, hR, hb3⟩) | (go_at_call 22; refine (HP'.out w3 (belowT (belowT hb hb2) hb3)).mono ?_; rintro e w4 ⟨rfl, hb4⟩) | (go_at_call 23; refine (prog_map w4 (m : Int) HT.out.1 HT.out.2).mono ?_; rintro e w5 ⟨v5, rfl, hR5, hb5⟩))
  have hB5 : Below w.heap.size w w4 := belowT (belowT (belowT hb hb2) hb3) hb4
  have hTL : TA w f TOT (2 * m) A l r (mapH m) v5 w5 := ⟨HR.out.1, by rw [← HR.out.2.1]; exact HR.out.2.2.2.2.2, by rw [← HR.out.2.1]; exact HR.out.2.2.2.2.1, HB.out, Kd.R_lower hR5 hB5.size, belowT hB5 hb5, HTOT.out.symm, by have := mapH_l5 (m : Int); have := HR.out; omega, by have := HR.out; omega⟩
  have HTL := Lib.hid hTL
  clear hR hb hb2 hb3 hb4 hb5 hR5 hB5 HA2 hTL
  go_loopg [0, 12, 14, 16] (2 * m) (fun g b lf vo i wr => ∃ (A1 : Option Addr) (c1 : Nat) (bs rs outs : List Int) (iN : Nat), b = .slice A1 bs.length c1 ∧ lf = .int .i64 (rs.length : Int) ∧ i = .int .u64 (iN : Int) ∧ Hid (bs.length ≤ c1 ∧ iN + g = 2 * m ∧ TA w f TOT g A1 bs rs outs vo wr))
  case atStart => exact ⟨A, c, l, r, mapH m, 0, by rw [HR.out.2.1], rfl, rfl, ⟨by have := HR.out; omega, by omega, HTL.out⟩⟩
  case round =>
    clear HK' HP' HA' hwu hwv HTL HTOT HR HB
    obtain ⟨A1, c1, bs, rs, outs, iN, rfl, rfl, rfl, hT⟩ := hrel
    rcases gk with _ | g
    · have hge : ¬ ((iN : Int) < ((2 * m : Nat) : Int)) := by have := hT.out.2.1; omega
      go_wp2_with (fail)
      go_ret3
      exact ⟨_, _, _, rfl, hT.out.2.2.bel, by rw [hT.out.2.2.doneTot]; exact ⟨rfl, rfl, hT.out.2.2.own⟩⟩
    · have hlt : (iN : Int) < ((2 * m : Nat) : Int) := by have := hT.out.2.1; omega
      obtain ⟨A3, hs3, hcb3⟩ := dropCB A1 bs.length c1 (bs.length - rs.length) bs rfl (by omega) hT.out.1
      have hm3 : bs.length - (bs.length - rs.length) = rs.length := by have := hT.out.2.2.le; omega
      have hw3 : ((bs.length - rs.length : Nat) : Int) = (bs.length : Int) - (rs.length : Int) := by have := hT.out.2.2.le; omega
      rw [hm3, hw3] at hs3
      have hw4 : wrap64 ((bs.length : Int) - (rs.length : Int)) = (bs.length : Int) - (rs.length : Int) := by have := hT.out.2.2.le; have := hT.out.2.2.ln; exact wrap64_id (by omega) (by omega)
      have HC3 := Lib.hid (show (CB w A1 bs → CB w A3 rs) ∧ rs.length ≤ c1 - (bs.length - rs.length) ∧ rs.length ≤ 60000 from ⟨fun h => hT.out.2.2.suf ▸ hcb3 w h, by have := hT.out.1; have := hT.out.2.2.le; omega, by have := hT.out.2.2.le; have := hT.out.2.2.ln; omega⟩)
      clear hcb3 hm3 hw3
      rcases hfr : f rs with _ | _ | ⟨x, r1⟩
      · have HFR := Lib.hid hfr
        clear hfr
        go_wp2_with (go_at_call 9; refine (HIH.out wr A3 (c1 - (bs.length - rs.length)) rs (Kd.C_below (HC3.out.1 hT.out.2.2.rd) hT.out.2.2.bel) hT.out.2.2.by_ HC3.out.2.1 HC3.out.2.2 (G.out.below hT.out.2.2.bel) (by rw [HFR.out]; simp)).mono ?_; rintro e w3 ⟨v', left, ok, rfl, hb3, hm⟩; rw [HFR.out] at hm; obtain rfl := hm)
        go_ret3
        exact ⟨_, _, _, rfl, hT.out.2.2.bel.trans (hb3.mono hT.out.2.2.bel.size), by rw [hT.out.2.2.badTot HFR.out]⟩
      · exact absurd (hT.out.2.2.unsaidTot hfr) HS.out
      · have HFR := Lib.hid hfr
        clear hfr
        obtain ⟨hbx, hb1, ⟨p, hp, hp1, hp2⟩, _⟩ := HF.out rs x r1 hT.out.2.2.by_ HFR.out
        have hr1 : ¬ ((rs.length : Int) < (r1.length : Int)) := by rw [hp, List.length_append]; omega
        have HX := Lib.hid (show (outs.length + x.length) * 1 ≤ 140737488355328 by have := hT.out.2.2.len; rw [hp, List.length_append] at this; omega)
        clear hbx hb1 hp hp1 hp2
        go_wp2_with (first | (go_at_call 9; refine (HIH.out wr A3 (c1 - (bs.length - rs.length)) rs (Kd.C_below (HC3.out.1 hT.out.2.2.rd) hT.out.2.2.bel) hT.out.2.2.by_ HC3.out.2.1 HC3.out.2.2 (G.out.below hT.out.2.2.bel) (by rw [HFR.out]; simp)).mono ?_; rintro e w3 ⟨v', left, ok, rfl, hb3, hm⟩; rw [HFR.out] at hm; obtain ⟨rfl, rfl, hR1⟩ := hm; obtain ⟨Ax, cx, rfl, hcx, hrx⟩ := hR1.reads) | (at_builtin; refine Kd.R_append_row (w0 := w) (Value.int .u8) 0 w.heap.size rfl (.tmp 108) (.tmp 109) 22 5 (.int .u8 0) 1 rfl Tryz.underlying22 info5 rfl (by decide) u14 outs x Ax x.length cx (fun _ => True) (by rfl) (by rfl) (fun _ _ => trivial) (Kd.R_below hT.out.2.2.own hb3) hrx (hT.out.2.2.bel.trans (hb3.mono hT.out.2.2.bel.size)) (hT.out.2.2.bel.trans (hb3.mono hT.out.2.2.bel.size)).size HX.out ?_; intro v1 w4 hR2 hb4 hg4 hat4))
        have HN := Lib.hid (And.intro hR2 hb4)
        clear hR2 hb4 hg4 hat4 hs3
        have ek : IntKind.u64.wrap ((iN : Int) + 1) = ((iN + 1 : Nat) : Int) := by have := HT.out.2; have := hT.out.2.1; rw [wraps_u64 _ (by omega) (by omega)]; omega
        rw [ek]
        go_roundg g
        case measure => omega
        case rel => exact ⟨A3, _, rs, r1, outs ++ x, iN + 1, rfl, rfl, rfl, ⟨HC3.out.2.1, by have := hT.out.2.1; omega, hT.out.2.2.next HF.out HFR.out A3 HC3.out.1 HN.out.1 HN.out.2⟩⟩
end Go.Proofs.YtmliokplekeljaaGreatDoor.M
