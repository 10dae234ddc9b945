/- The program's own readers: a clone is read, the error told as a code. -/
import Derived.Test.YtmliokplekeljaaGreatDoorN05
namespace Go.Proofs.YtmliokplekeljaaGreatDoor.M
open Go.RowKit Go.Proofs.YtmliokplekeljaaGreatDoorW.PrintWords
set_option linter.unusedVariables false
set_option linter.unusedSimpArgs false

theorem clone_rb (w : World) (A : Option Addr) (n c : Nat) (l : List Int) (hr : CB w A l) (hn : n = l.length) (h0 : 0 < n) (hl : n ≤ 100000) :
    Calls Tryz.prog 25 #[.slice A n c] w fun e w' => ∃ g c1, e = .returned (.slice (some ⟨g, 0, none⟩) n c1) ∧ Hid (n ≤ c1 ∧ RB w' g 0 l) ∧ Below w.heap.size w w' := by
  subst hn
  refine (clone_any w A c l hr (by omega)).mono ?_
  rintro e w' ⟨v, rfl, hR, hb⟩
  rcases l with _ | ⟨x, l⟩
  · simp at h0
  · obtain ⟨g, c1, rfl, hc, _, hg, hcb⟩ := hR.form
    exact ⟨g, c1, rfl, ⟨hc, RB.of_CB hcb hg⟩, hb⟩
/-- A reader's answer at such bytes, wherever they lie. -/
def Reads (FN : Nat) (l : List Int) (x : Value) (m : Nat) (E : Value) : Prop := ∀ (w : World) (g c : Nat), RB w g 0 l → l.length ≤ c → Glob w → Calls Tryz.prog FN #[.slice (some ⟨g, 0, none⟩) l.length c] w (Ret3 x m E w)
def RetC (x : Value) (m : Nat) (cd : Int) (w : World) (e : Ending) (w' : World) : Prop := e = .returned (.tuple #[x, .int .i64 (m : Int), .int .i64 cd]) ∧ Below w.heap.size w w'
theorem belowT {w w1 w2 : World} (h : Below w.heap.size w w1) (h2 : Below w1.heap.size w1 w2) : Below w.heap.size w w2 := h.trans (h2.mono h.size)

set_option maxRecDepth 100000 in
theorem w20_ok (w : World) (A : Option Addr) (n c : Nat) (l : List Int) (x : Int) (m : Nat) (hr : CB w A l) (hn : n = l.length) (h0 : 0 < n) (hl : n ≤ 100000) (hg : Glob w) (H : Reads 47 l (.int .u32 x) m .nilIface) :
    Calls Tryz.prog 20 #[.slice A n c] w (RetC (.int .u32 x) m 0 w) := by
  obtain ⟨n', hn'⟩ : ∃ n', n' = l.length := ⟨_, rfl⟩
  have HH : Hid (∀ (w : World) (g c : Nat), RB w g 0 l → n ≤ c → Glob w → Calls Tryz.prog 47 #[.slice (some ⟨g, 0, none⟩) n c] w (Ret3 (.int .u32 x) m .nilIface w)) := Lib.hid (by rw [hn]; exact H)
  have HR := Lib.hid hr
  have HN := Lib.hid (And.intro hn (And.intro h0 hl))
  have G := Lib.hid hg
  clear H hr hl hg hn h0 hn' n'
  go_enter Tryz.func20, Tryz.ntmps20
  go_wp2_with (first | (go_at_call 25; refine (clone_rb _ A n c l HR.out HN.out.1 HN.out.2.1 HN.out.2.2).mono ?_; rintro e w1 ⟨g, c1, rfl, hrb, hb⟩) | (go_at_call 47; refine (HH.out w1 g c1 hrb.out.2 hrb.out.1 (G.out.below hb)).mono ?_; rintro e w2 ⟨A2, c2, rfl, hb2⟩))
  go_ret3
  exact ⟨rfl, belowT hb hb2⟩
set_option maxRecDepth 100000 in
theorem w20_short (w : World) (A : Option Addr) (n c : Nat) (l : List Int) (x : Value) (m : Nat) (hr : CB w A l) (hn : n = l.length) (h0 : 0 < n) (hl : n ≤ 100000) (hg : Glob w) (H : Reads 47 l x m eShort) :
    Calls Tryz.prog 20 #[.slice A n c] w (RetC (.int .u32 0) m 1 w) := by
  obtain ⟨n', hn'⟩ : ∃ n', n' = l.length := ⟨_, rfl⟩
  have HH : Hid (∀ (w : World) (g c : Nat), RB w g 0 l → n ≤ c → Glob w → Calls Tryz.prog 47 #[.slice (some ⟨g, 0, none⟩) n c] w (Ret3 x m eShort w)) := Lib.hid (by rw [hn]; exact H)
  have HR := Lib.hid hr
  have HN := Lib.hid (And.intro hn (And.intro h0 hl))
  have G := Lib.hid hg
  clear H hr hl hg hn h0 hn' n'
  go_enter Tryz.func20, Tryz.ntmps20
  go_wp2_with (first | (go_at_call 25; refine (clone_rb _ A n c l HR.out HN.out.1 HN.out.2.1 HN.out.2.2).mono ?_; rintro e w1 ⟨g, c1, rfl, hrb, hb⟩) | (go_at_call 47; refine (HH.out w1 g c1 hrb.out.2 hrb.out.1 (G.out.below hb)).mono ?_; rintro e w2 ⟨A2, c2, rfl, hb2⟩) | (go_at_call 26; refine (code_short _ ((G.out.below hb).below hb2)).mono ?_; rintro e w3 ⟨rfl, hb3⟩))
  go_ret3
  exact ⟨rfl, belowT (belowT hb hb2) hb3⟩
set_option maxRecDepth 100000 in
theorem w22_ok (w : World) (A : Option Addr) (n c : Nat) (l : List Int) (x : Int) (m : Nat) (hr : CB w A l) (hn : n = l.length) (h0 : 0 < n) (hl : n ≤ 100000) (hg : Glob w) (H : Reads 49 l (.int .u32 x) m .nilIface) :
    Calls Tryz.prog 22 #[.slice A n c] w (RetC (.int .u32 x) m 0 w) := by
  obtain ⟨n', hn'⟩ : ∃ n', n' = l.length := ⟨_, rfl⟩
  have HH : Hid (∀ (w : World) (g c : Nat), RB w g 0 l → n ≤ c → Glob w → Calls Tryz.prog 49 #[.slice (some ⟨g, 0, none⟩) n c] w (Ret3 (.int .u32 x) m .nilIface w)) := Lib.hid (by rw [hn]; exact H)
  have HR := Lib.hid hr
  have HN := Lib.hid (And.intro hn (And.intro h0 hl))
  have G := Lib.hid hg
  clear H hr hl hg hn h0 hn' n'
  go_enter Tryz.func22, Tryz.ntmps22
  go_wp2_with (first | (go_at_call 25; refine (clone_rb _ A n c l HR.out HN.out.1 HN.out.2.1 HN.out.2.2).mono ?_; rintro e w1 ⟨g, c1, rfl, hrb, hb⟩) | (go_at_call 49; refine (HH.out w1 g c1 hrb.out.2 hrb.out.1 (G.out.below hb)).mono ?_; rintro e w2 ⟨A2, c2, rfl, hb2⟩))
  go_ret3
  exact ⟨rfl, belowT hb hb2⟩
set_option maxRecDepth 100000 in
theorem w22_short (w : World) (A : Option Addr) (n c : Nat) (l : List Int) (x : Value) (m : Nat) (hr : CB w A l) (hn : n = l.length) (h0 : 0 < n) (hl : n ≤ 100000) (hg : Glob w) (H : Reads 49 l x m eShort) :
    Calls Tryz.prog 22 #[.slice A n c] w (RetC (.int .u32 0) m 1 w) := by
  obtain ⟨n', hn'⟩ : ∃ n', n' = l.length := ⟨_, rfl⟩
  have HH : Hid (∀ (w : World) (g c : Nat), RB w g 0 l → n ≤ c → Glob w → Calls Tryz.prog 49 #[.slice (some ⟨g, 0, none⟩) n c] w (Ret3 x m eShort w)) := Lib.hid (by rw [hn]; exact H)
  have HR := Lib.hid hr
  have HN := Lib.hid (And.intro hn (And.intro h0 hl))
  have G := Lib.hid hg
  clear H hr hl hg hn h0 hn' n'
  go_enter Tryz.func22, Tryz.ntmps22
  go_wp2_with (first | (go_at_call 25; refine (clone_rb _ A n c l HR.out HN.out.1 HN.out.2.1 HN.out.2.2).mono ?_; rintro e w1 ⟨g, c1, rfl, hrb, hb⟩) | (go_at_call 49; refine (HH.out w1 g c1 hrb.out.2 hrb.out.1 (G.out.below hb)).mono ?_; rintro e w2 ⟨A2, c2, rfl, hb2⟩) | (go_at_call 26; refine (code_short _ ((G.out.below hb).below hb2)).mono ?_; rintro e w3 ⟨rfl, hb3⟩))
  go_ret3
  exact ⟨rfl, belowT (belowT hb hb2) hb3⟩
set_option maxRecDepth 100000 in
theorem w20_map (w : World) (A : Option Addr) (n c : Nat) (l : List Int) (x : Value) (m : Nat) (hr : CB w A l) (hn : n = l.length) (h0 : 0 < n) (hl : n ≤ 100000) (hg : Glob w) (H : Reads 47 l x m eMap) :
    Calls Tryz.prog 20 #[.slice A n c] w (RetC (.int .u32 0) m 2 w) := by
  obtain ⟨n', hn'⟩ : ∃ n', n' = l.length := ⟨_, rfl⟩
  have HH : Hid (∀ (w : World) (g c : Nat), RB w g 0 l → n ≤ c → Glob w → Calls Tryz.prog 47 #[.slice (some ⟨g, 0, none⟩) n c] w (Ret3 x m eMap w)) := Lib.hid (by rw [hn]; exact H)
  have HR := Lib.hid hr
  have HN := Lib.hid (And.intro hn (And.intro h0 hl))
  have G := Lib.hid hg
  clear H hr hl hg hn h0 hn' n'
  go_enter Tryz.func20, Tryz.ntmps20
  go_wp2_with (first | (go_at_call 25; refine (clone_rb _ A n c l HR.out HN.out.1 HN.out.2.1 HN.out.2.2).mono ?_; rintro e w1 ⟨g, c1, rfl, hrb, hb⟩) | (go_at_call 47; refine (HH.out w1 g c1 hrb.out.2 hrb.out.1 (G.out.below hb)).mono ?_; rintro e w2 ⟨A2, c2, rfl, hb2⟩) | (go_at_call 26; refine (code_type _ _ ((G.out.below hb).below hb2)).mono ?_; rintro e w3 ⟨rfl, hb3⟩))
  go_ret3
  exact ⟨rfl, belowT (belowT hb hb2) hb3⟩
set_option maxRecDepth 100000 in
theorem w39_ok (w : World) (A : Option Addr) (n c : Nat) (l : List Int) (x : Bool) (m : Nat) (hr : CB w A l) (hn : n = l.length) (h0 : 0 < n) (hl : n ≤ 100000) (hg : Glob w) (H : Reads 68 l (.bool x) m .nilIface) :
    Calls Tryz.prog 39 #[.slice A n c] w (RetC (.bool x) m 0 w) := by
  obtain ⟨n', hn'⟩ : ∃ n', n' = l.length := ⟨_, rfl⟩
  have HH : Hid (∀ (w : World) (g c : Nat), RB w g 0 l → n ≤ c → Glob w → Calls Tryz.prog 68 #[.slice (some ⟨g, 0, none⟩) n c] w (Ret3 (.bool x) m .nilIface w)) := Lib.hid (by rw [hn]; exact H)
  have HR := Lib.hid hr
  have HN := Lib.hid (And.intro hn (And.intro h0 hl))
  have G := Lib.hid hg
  clear H hr hl hg hn h0 hn' n'
  go_enter Tryz.func39, Tryz.ntmps39
  go_wp2_with (first | (go_at_call 25; refine (clone_rb _ A n c l HR.out HN.out.1 HN.out.2.1 HN.out.2.2).mono ?_; rintro e w1 ⟨g, c1, rfl, hrb, hb⟩) | (go_at_call 68; refine (HH.out w1 g c1 hrb.out.2 hrb.out.1 (G.out.below hb)).mono ?_; rintro e w2 ⟨A2, c2, rfl, hb2⟩))
  go_ret3
  exact ⟨rfl, belowT hb hb2⟩
set_option maxRecDepth 100000 in
theorem w35_ok (w : World) (A : Option Addr) (n c : Nat) (l : List Int) (x : Nat) (m : Nat) (hr : CB w A l) (hn : n = l.length) (h0 : 0 < n) (hl : n ≤ 100000) (hg : Glob w) (H : Reads 60 l (.float .f64 x) m .nilIface) :
    Calls Tryz.prog 35 #[.slice A n c] w (RetC (.int .u64 (x : Int)) m 0 w) := by
  obtain ⟨n', hn'⟩ : ∃ n', n' = l.length := ⟨_, rfl⟩
  have HH : Hid (∀ (w : World) (g c : Nat), RB w g 0 l → n ≤ c → Glob w → Calls Tryz.prog 60 #[.slice (some ⟨g, 0, none⟩) n c] w (Ret3 (.float .f64 x) m .nilIface w)) := Lib.hid (by rw [hn]; exact H)
  have HR := Lib.hid hr
  have HN := Lib.hid (And.intro hn (And.intro h0 hl))
  have G := Lib.hid hg
  have hx := run61 x
  clear H hr hl hg hn h0 hn' n'
  go_enter Tryz.func35, Tryz.ntmps35
  go_wp2_with (first | (go_at_call 25; refine (clone_rb _ A n c l HR.out HN.out.1 HN.out.2.1 HN.out.2.2).mono ?_; rintro e w1 ⟨g, c1, rfl, hrb, hb⟩) | (go_at_call 60; refine (HH.out w1 g c1 hrb.out.2 hrb.out.1 (G.out.below hb)).mono ?_; rintro e w2 ⟨A2, c2, rfl, hb2⟩))
  go_ret3
  exact ⟨rfl, belowT hb hb2⟩
set_option maxRecDepth 100000 in
theorem w35_short (w : World) (A : Option Addr) (n c : Nat) (l : List Int) (x : Value) (m : Nat) (hr : CB w A l) (hn : n = l.length) (h0 : 0 < n) (hl : n ≤ 100000) (hg : Glob w) (H : Reads 60 l x m eShort) :
    Calls Tryz.prog 35 #[.slice A n c] w (RetC (.int .u64 0) m 1 w) := by
  obtain ⟨n', hn'⟩ : ∃ n', n' = l.length := ⟨_, rfl⟩
  have HH : Hid (∀ (w : World) (g c : Nat), RB w g 0 l → n ≤ c → Glob w → Calls Tryz.prog 60 #[.slice (some ⟨g, 0, none⟩) n c] w (Ret3 x m eShort w)) := Lib.hid (by rw [hn]; exact H)
  have HR := Lib.hid hr
  have HN := Lib.hid (And.intro hn (And.intro h0 hl))
  have G := Lib.hid hg
  clear H hr hl hg hn h0 hn' n'
  go_enter Tryz.func35, Tryz.ntmps35
  go_wp2_with (first | (go_at_call 25; refine (clone_rb _ A n c l HR.out HN.out.1 HN.out.2.1 HN.out.2.2).mono ?_; rintro e w1 ⟨g, c1, rfl, hrb, hb⟩) | (go_at_call 60; refine (HH.out w1 g c1 hrb.out.2 hrb.out.1 (G.out.below hb)).mono ?_; rintro e w2 ⟨A2, c2, rfl, hb2⟩) | (go_at_call 26; refine (code_short _ ((G.out.below hb).below hb2)).mono ?_; rintro e w3 ⟨rfl, hb3⟩))
  go_ret3
  exact ⟨rfl, belowT (belowT hb hb2) hb3⟩
set_option maxRecDepth 100000 in
theorem w37_ok (w : World) (A : Option Addr) (n c : Nat) (l : List Int) (x : Nat) (m : Nat) (hr : CB w A l) (hn : n = l.length) (h0 : 0 < n) (hl : n ≤ 100000) (hg : Glob w) (H : Reads 64 l (.float .f32 x) m .nilIface) :
    Calls Tryz.prog 37 #[.slice A n c] w (RetC (.int .u32 (x : Int)) m 0 w) := by
  obtain ⟨n', hn'⟩ : ∃ n', n' = l.length := ⟨_, rfl⟩
  have HH : Hid (∀ (w : World) (g c : Nat), RB w g 0 l → n ≤ c → Glob w → Calls Tryz.prog 64 #[.slice (some ⟨g, 0, none⟩) n c] w (Ret3 (.float .f32 x) m .nilIface w)) := Lib.hid (by rw [hn]; exact H)
  have HR := Lib.hid hr
  have HN := Lib.hid (And.intro hn (And.intro h0 hl))
  have G := Lib.hid hg
  have hx := run65 x
  clear H hr hl hg hn h0 hn' n'
  go_enter Tryz.func37, Tryz.ntmps37
  go_wp2_with (first | (go_at_call 25; refine (clone_rb _ A n c l HR.out HN.out.1 HN.out.2.1 HN.out.2.2).mono ?_; rintro e w1 ⟨g, c1, rfl, hrb, hb⟩) | (go_at_call 64; refine (HH.out w1 g c1 hrb.out.2 hrb.out.1 (G.out.below hb)).mono ?_; rintro e w2 ⟨A2, c2, rfl, hb2⟩))
  go_ret3
  exact ⟨rfl, belowT hb hb2⟩
set_option maxRecDepth 100000 in
theorem w37_short (w : World) (A : Option Addr) (n c : Nat) (l : List Int) (x : Value) (m : Nat) (hr : CB w A l) (hn : n = l.length) (h0 : 0 < n) (hl : n ≤ 100000) (hg : Glob w) (H : Reads 64 l x m eShort) :
    Calls Tryz.prog 37 #[.slice A n c] w (RetC (.int .u32 0) m 1 w) := by
  obtain ⟨n', hn'⟩ : ∃ n', n' = l.length := ⟨_, rfl⟩
  have HH : Hid (∀ (w : World) (g c : Nat), RB w g 0 l → n ≤ c → Glob w → Calls Tryz.prog 64 #[.slice (some ⟨g, 0, none⟩) n c] w (Ret3 x m eShort w)) := Lib.hid (by rw [hn]; exact H)
  have HR := Lib.hid hr
  have HN := Lib.hid (And.intro hn (And.intro h0 hl))
  have G := Lib.hid hg
  clear H hr hl hg hn h0 hn' n'
  go_enter Tryz.func37, Tryz.ntmps37
  go_wp2_with (first | (go_at_call 25; refine (clone_rb _ A n c l HR.out HN.out.1 HN.out.2.1 HN.out.2.2).mono ?_; rintro e w1 ⟨g, c1, rfl, hrb, hb⟩) | (go_at_call 64; refine (HH.out w1 g c1 hrb.out.2 hrb.out.1 (G.out.below hb)).mono ?_; rintro e w2 ⟨A2, c2, rfl, hb2⟩) | (go_at_call 26; refine (code_short _ ((G.out.below hb).below hb2)).mono ?_; rintro e w3 ⟨rfl, hb3⟩))
  go_ret3
  exact ⟨rfl, belowT (belowT hb hb2) hb3⟩
set_option maxRecDepth 100000 in
theorem w41_ok (w : World) (A : Option Addr) (n c : Nat) (l : List Int) (x : Int) (m : Nat) (hr : CB w A l) (hn : n = l.length) (h0 : 0 < n) (hl : n ≤ 100000) (hg : Glob w) (H : Reads 73 l (.int .i64 x) m .nilIface) :
    Calls Tryz.prog 41 #[.slice A n c, .int .i64 64] w (RetC (.int .i64 x) m 0 w) := by
  obtain ⟨n', hn'⟩ : ∃ n', n' = l.length := ⟨_, rfl⟩
  have HH : Hid (∀ (w : World) (g c : Nat), RB w g 0 l → n ≤ c → Glob w → Calls Tryz.prog 73 #[.slice (some ⟨g, 0, none⟩) n c] w (Ret3 (.int .i64 x) m .nilIface w)) := Lib.hid (by rw [hn]; exact H)
  have HR := Lib.hid hr
  have HN := Lib.hid (And.intro hn (And.intro h0 hl))
  have G := Lib.hid hg
  clear H hr hl hg hn h0 hn' n'
  go_enter Tryz.func41, Tryz.ntmps41
  go_wp2_with (first | (go_at_call 25; refine (clone_rb _ A n c l HR.out HN.out.1 HN.out.2.1 HN.out.2.2).mono ?_; rintro e w1 ⟨g, c1, rfl, hrb, hb⟩) | (go_at_call 73; refine (HH.out w1 g c1 hrb.out.2 hrb.out.1 (G.out.below hb)).mono ?_; rintro e w2 ⟨A2, c2, rfl, hb2⟩) | (go_at_call 26; refine (code_nil _).mono ?_; rintro e w3 ⟨rfl, rfl⟩))
  go_ret3
  exact ⟨rfl, belowT hb hb2⟩
set_option maxRecDepth 100000 in
theorem w41_short (w : World) (A : Option Addr) (n c : Nat) (l : List Int) (x : Int) (m : Nat) (hr : CB w A l) (hn : n = l.length) (h0 : 0 < n) (hl : n ≤ 100000) (hg : Glob w) (H : Reads 73 l (.int .i64 x) m eShort) :
    Calls Tryz.prog 41 #[.slice A n c, .int .i64 64] w (RetC (.int .i64 x) m 1 w) := by
  obtain ⟨n', hn'⟩ : ∃ n', n' = l.length := ⟨_, rfl⟩
  have HH : Hid (∀ (w : World) (g c : Nat), RB w g 0 l → n ≤ c → Glob w → Calls Tryz.prog 73 #[.slice (some ⟨g, 0, none⟩) n c] w (Ret3 (.int .i64 x) m eShort w)) := Lib.hid (by rw [hn]; exact H)
  have HR := Lib.hid hr
  have HN := Lib.hid (And.intro hn (And.intro h0 hl))
  have G := Lib.hid hg
  clear H hr hl hg hn h0 hn' n'
  go_enter Tryz.func41, Tryz.ntmps41
  go_wp2_with (first | (go_at_call 25; refine (clone_rb _ A n c l HR.out HN.out.1 HN.out.2.1 HN.out.2.2).mono ?_; rintro e w1 ⟨g, c1, rfl, hrb, hb⟩) | (go_at_call 73; refine (HH.out w1 g c1 hrb.out.2 hrb.out.1 (G.out.below hb)).mono ?_; rintro e w2 ⟨A2, c2, rfl, hb2⟩) | (go_at_call 26; refine (code_short _ ((G.out.below hb).below hb2)).mono ?_; rintro e w3 ⟨rfl, hb3⟩))
  go_ret3
  exact ⟨rfl, belowT (belowT hb hb2) hb3⟩
set_option maxRecDepth 100000 in
theorem w43_ok (w : World) (A : Option Addr) (n c : Nat) (l : List Int) (x : Int) (m : Nat) (hr : CB w A l) (hn : n = l.length) (h0 : 0 < n) (hl : n ≤ 100000) (hg : Glob w) (H : Reads 78 l (.int .u64 x) m .nilIface) :
    Calls Tryz.prog 43 #[.slice A n c, .int .i64 64] w (RetC (.int .u64 x) m 0 w) := by
  obtain ⟨n', hn'⟩ : ∃ n', n' = l.length := ⟨_, rfl⟩
  have HH : Hid (∀ (w : World) (g c : Nat), RB w g 0 l → n ≤ c → Glob w → Calls Tryz.prog 78 #[.slice (some ⟨g, 0, none⟩) n c] w (Ret3 (.int .u64 x) m .nilIface w)) := Lib.hid (by rw [hn]; exact H)
  have HR := Lib.hid hr
  have HN := Lib.hid (And.intro hn (And.intro h0 hl))
  have G := Lib.hid hg
  clear H hr hl hg hn h0 hn' n'
  go_enter Tryz.func43, Tryz.ntmps43
  go_wp2_with (first | (go_at_call 25; refine (clone_rb _ A n c l HR.out HN.out.1 HN.out.2.1 HN.out.2.2).mono ?_; rintro e w1 ⟨g, c1, rfl, hrb, hb⟩) | (go_at_call 78; refine (HH.out w1 g c1 hrb.out.2 hrb.out.1 (G.out.below hb)).mono ?_; rintro e w2 ⟨A2, c2, rfl, hb2⟩) | (go_at_call 26; refine (code_nil _).mono ?_; rintro e w3 ⟨rfl, rfl⟩))
  go_ret3
  exact ⟨rfl, belowT hb hb2⟩
set_option maxRecDepth 100000 in
theorem w43_short (w : World) (A : Option Addr) (n c : Nat) (l : List Int) (x : Int) (m : Nat) (hr : CB w A l) (hn : n = l.length) (h0 : 0 < n) (hl : n ≤ 100000) (hg : Glob w) (H : Reads 78 l (.int .u64 x) m eShort) :
    Calls Tryz.prog 43 #[.slice A n c, .int .i64 64] w (RetC (.int .u64 x) m 1 w) := by
  obtain ⟨n', hn'⟩ : ∃ n', n' = l.length := ⟨_, rfl⟩
  have HH : Hid (∀ (w : World) (g c : Nat), RB w g 0 l → n ≤ c → Glob w → Calls Tryz.prog 78 #[.slice (some ⟨g, 0, none⟩) n c] w (Ret3 (.int .u64 x) m eShort w)) := Lib.hid (by rw [hn]; exact H)
  have HR := Lib.hid hr
  have HN := Lib.hid (And.intro hn (And.intro h0 hl))
  have G := Lib.hid hg
  clear H hr hl hg hn h0 hn' n'
  go_enter Tryz.func43, Tryz.ntmps43
  go_wp2_with (first | (go_at_call 25; refine (clone_rb _ A n c l HR.out HN.out.1 HN.out.2.1 HN.out.2.2).mono ?_; rintro e w1 ⟨g, c1, rfl, hrb, hb⟩) | (go_at_call 78; refine (HH.out w1 g c1 hrb.out.2 hrb.out.1 (G.out.below hb)).mono ?_; rintro e w2 ⟨A2, c2, rfl, hb2⟩) | (go_at_call 26; refine (code_short _ ((G.out.below hb).below hb2)).mono ?_; rintro e w3 ⟨rfl, hb3⟩))
  go_ret3
  exact ⟨rfl, belowT (belowT hb hb2) hb3⟩
end Go.Proofs.YtmliokplekeljaaGreatDoor.M

namespace Go.Proofs.YtmliokplekeljaaGreatDoor.M
open Go.RowKit Go.Proofs.YtmliokplekeljaaGreatDoorW.PrintWords
set_option linter.unusedVariables false
set_option linter.unusedSimpArgs false

set_option maxRecDepth 100000 in
theorem w31_ok (w : World) (A : Option Addr) (n c : Nat) (l : List Int) (s : ByteArray) (m : Nat) (hr : CB w A l) (hn : n = l.length) (h0 : 0 < n) (hl : n ≤ 100000) (hg : Glob w)
    (H : ∀ (w : World) (g c : Nat), RB w g 0 l → n ≤ c → Glob w → Calls Tryz.prog 56 #[.slice (some ⟨g, 0, none⟩) n c] w (RetT s m w)) :
    Calls Tryz.prog 31 #[.slice A n c] w (RetC (.string s) m 0 w) := by
  have HH := Lib.hid H
  have HR := Lib.hid hr
  have HN := Lib.hid (And.intro hn (And.intro h0 hl))
  have G := Lib.hid hg
  clear H hr hl hg hn h0
  go_enter Tryz.func31, Tryz.ntmps31
  go_wp2_with (first | (go_at_call 25; refine (clone_rb _ A n c l HR.out HN.out.1 HN.out.2.1 HN.out.2.2).mono ?_; rintro e w1 ⟨g, c1, rfl, hrb, hb⟩) | (go_at_call 56; refine (HH.out w1 g c1 hrb.out.2 hrb.out.1 (G.out.below hb)).mono ?_; rintro e w2 ⟨A2, c2, rfl, hb2⟩))
  go_ret3
  exact ⟨rfl, belowT hb hb2⟩
set_option maxRecDepth 100000 in
theorem w31_short (w : World) (A : Option Addr) (n c : Nat) (l : List Int) (m : Nat) (hr : CB w A l) (hn : n = l.length) (h0 : 0 < n) (hl : n ≤ 100000) (hg : Glob w)
    (H : ∀ (w : World) (g c : Nat), RB w g 0 l → n ≤ c → Glob w → Calls Tryz.prog 56 #[.slice (some ⟨g, 0, none⟩) n c] w (Ret3 (.string ByteArray.empty) m eShort w)) :
    Calls Tryz.prog 31 #[.slice A n c] w (RetC (.string ByteArray.empty) m 1 w) := by
  have HH := Lib.hid H
  have HR := Lib.hid hr
  have HN := Lib.hid (And.intro hn (And.intro h0 hl))
  have G := Lib.hid hg
  clear H hr hl hg hn h0
  go_enter Tryz.func31, Tryz.ntmps31
  go_wp2_with (first | (go_at_call 25; refine (clone_rb _ A n c l HR.out HN.out.1 HN.out.2.1 HN.out.2.2).mono ?_; rintro e w1 ⟨g, c1, rfl, hrb, hb⟩) | (go_at_call 56; refine (HH.out w1 g c1 hrb.out.2 hrb.out.1 (G.out.below hb)).mono ?_; rintro e w2 ⟨A2, c2, rfl, hb2⟩) | (go_at_call 26; refine (code_short _ ((G.out.below hb).below hb2)).mono ?_; rintro e w3 ⟨rfl, hb3⟩))
  go_ret3
  exact ⟨rfl, belowT (belowT hb hb2) hb3⟩
set_option maxRecDepth 100000 in
theorem w33_ok (w : World) (A : Option Addr) (n c : Nat) (l xs : List Int) (m : Nat) (hx : xs.length ≤ 100000) (hr : CB w A l) (hn : n = l.length) (h0 : 0 < n) (hl : n ≤ 100000) (hg : Glob w)
    (H : ∀ (w : World) (g c : Nat), RB w g 0 l → n ≤ c → Glob w → Calls Tryz.prog 58 #[.slice (some ⟨g, 0, none⟩) n c, .slice none 0 0] w (RetB xs m w)) :
    Calls Tryz.prog 33 #[.slice A n c] w fun e w' => ∃ v, e = .returned (.tuple #[v, .int .i64 (m : Int), .int .i64 0]) ∧ OB w' w.heap.size v xs ∧ Below w.heap.size w w' := by
  have HH := Lib.hid H
  have HR := Lib.hid hr
  have HN := Lib.hid (And.intro hn (And.intro h0 hl))
  have G := Lib.hid hg
  have HX := Lib.hid hx
  clear H hr hl hg hn h0 hx
  go_enter Tryz.func33, Tryz.ntmps33
  go_wp2_with (first | (go_at_call 25; with_reducible refine (clone_rb _ A n c l HR.out HN.out.1 HN.out.2.1 HN.out.2.2).mono ?_; rintro e w1 ⟨g, c1, rfl, hrb, hb⟩) | (go_at_call 58; refine (HH.out w1 g c1 hrb.out.2 hrb.out.1 (G.out.below hb)).mono ?_; rintro e w2 ⟨A2, c2, A3, c3, rfl, hcb, hb2⟩) | (go_at_call 25; refine (clone_any _ A2 c2 xs hcb (Nat.le_trans HX.out (by decide))).mono ?_; rintro e w3 ⟨v, rfl, hR, hb3⟩))
  go_ret3
  exact ⟨_, rfl, Kd.R_lower hR (belowT hb hb2).size, belowT (belowT hb hb2) hb3⟩
set_option maxRecDepth 100000 in
theorem w33_short (w : World) (A : Option Addr) (n c : Nat) (l : List Int) (m : Nat) (hr : CB w A l) (hn : n = l.length) (h0 : 0 < n) (hl : n ≤ 100000) (hg : Glob w)
    (H : ∀ (w : World) (g c : Nat), RB w g 0 l → n ≤ c → Glob w → Calls Tryz.prog 58 #[.slice (some ⟨g, 0, none⟩) n c, .slice none 0 0] w (Ret3 (.slice none 0 0) m eShort w)) :
    Calls Tryz.prog 33 #[.slice A n c] w (RetC (.slice none 0 0) m 1 w) := by
  have HH := Lib.hid H
  have HR := Lib.hid hr
  have HN := Lib.hid (And.intro hn (And.intro h0 hl))
  have G := Lib.hid hg
  clear H hr hl hg hn h0
  go_enter Tryz.func33, Tryz.ntmps33
  go_wp2_with (first | (go_at_call 25; refine (clone_rb _ A n c l HR.out HN.out.1 HN.out.2.1 HN.out.2.2).mono ?_; rintro e w1 ⟨g, c1, rfl, hrb, hb⟩) | (go_at_call 58; refine (HH.out w1 g c1 hrb.out.2 hrb.out.1 (G.out.below hb)).mono ?_; rintro e w2 ⟨A2, c2, rfl, hb2⟩) | (go_at_call 26; refine (code_short _ ((G.out.below hb).below hb2)).mono ?_; rintro e w3 ⟨rfl, hb3⟩))
  go_ret3
  exact ⟨rfl, belowT (belowT hb hb2) hb3⟩
set_option maxRecDepth 100000 in
theorem w45_ok (w : World) (A : Option Addr) (n c : Nat) (l : List Int) (m : Nat) (hr : CB w A l) (hn : n = l.length) (h0 : 0 < n) (hl : n ≤ 100000) (hg : Glob w)
    (H : ∀ (w : World) (g c : Nat), RB w g 0 l → n ≤ c → Glob w → Calls Tryz.prog 80 #[.slice (some ⟨g, 0, none⟩) n c] w (Ret2 m .nilIface w)) :
    Calls Tryz.prog 45 #[.slice A n c] w fun e w' => e = .returned (.tuple #[.int .i64 (m : Int), .int .i64 0]) ∧ Below w.heap.size w w' := by
  have HH := Lib.hid H
  have HR := Lib.hid hr
  have HN := Lib.hid (And.intro hn (And.intro h0 hl))
  have G := Lib.hid hg
  clear H hr hl hg hn h0
  go_enter Tryz.func45, Tryz.ntmps45
  go_wp2_with (first | (go_at_call 25; refine (clone_rb _ A n c l HR.out HN.out.1 HN.out.2.1 HN.out.2.2).mono ?_; rintro e w1 ⟨g, c1, rfl, hrb, hb⟩) | (go_at_call 80; refine (HH.out w1 g c1 hrb.out.2 hrb.out.1 (G.out.below hb)).mono ?_; rintro e w2 ⟨A2, c2, rfl, hb2⟩) | (go_at_call 26; refine (code_nil _).mono ?_; rintro e w3 ⟨rfl, rfl⟩))
  go_ret2
  exact ⟨rfl, belowT hb hb2⟩
/-- A reader that does so is met by the wrappers' premise. -/
theorem bTab_kd (v : Int) : 0 ≤ (bTab v).2.2 ∧ (bTab v).2.2 ≤ 255 := by unfold bTab; split <;> decide
theorem bs_kd (v : Int) : 0 ≤ (bs v).2.2 ∧ (bs v).2.2 ≤ 255 := by
  unfold bs
  have := bTab_kd v
  repeat' split
  all_goals first | exact this | (simp only []; omega)
set_option maxRecDepth 100000 in
theorem kind_any (w : World) (A : Option Addr) (n c : Nat) (v : Int) (l : List Int) (hr : CB w A (v :: l)) (hn : n = (v :: l).length) (hl : n ≤ 100000) (h0 : 0 ≤ v) (h1 : v < 256) (hk : (bs v).2.2 ≠ 12 ∨ (n : Int) ≤ (bs v).1) :
    Calls Tryz.prog 18 #[.slice A n c] w fun e w' => e = .returned (.int .i64 (bs v).2.2) ∧ Below w.heap.size w w' := by
  have HR := Lib.hid hr
  have HN : Hid (∀ W : World, ∀ g c1 : Nat, RB W g 0 (v :: l) → Calls Tryz.prog 30 #[.slice (some ⟨g, 0, none⟩) n c1] W fun e w' => e = .returned (.int .u8 (bs v).2.2) ∧ Below W.heap.size W w') := Lib.hid (by
    intro W g c1 hrb
    rw [hn]
    by_cases h12 : (bs v).2.2 = 12
    · rw [h12]
      exact nextType_ext W _ c1 v l (RB.cb hrb (by omega)) h0 h1 h12 (by rw [← hn]; exact hk.resolve_left (by simp [h12]))
    · exact nextType_any W _ c1 v l (RB.cb hrb (by omega)) h0 h1 h12)
  have HC := Lib.hid (show n = (v :: l).length ∧ 0 < n ∧ n ≤ 100000 from ⟨hn, by simp at hn; omega, hl⟩)
  obtain ⟨b0, b1⟩ := bs_kd v
  generalize (bs v).2.2 = t at HN b0 b1 ⊢
  clear hr hn hl h0 h1 hk
  go_enter Tryz.func18, Tryz.ntmps18
  go_wp2_with (first | (go_at_call 25; refine (clone_rb _ A n c (v :: l) HR.out HC.out.1 HC.out.2.1 HC.out.2.2).mono ?_; rintro e w1 ⟨g, c1, rfl, hrb, hb⟩) | (go_at_call 30; refine (HN.out w1 g c1 hrb.out.2).mono ?_; rintro e w2 ⟨rfl, hb2⟩))
  go_ret
  exact ⟨rfl, belowT hb hb2⟩
end Go.Proofs.YtmliokplekeljaaGreatDoor.M
