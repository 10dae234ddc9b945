/- The package's readers of heads and whole numbers by contracts. -/
import Derived.Test.YtmliokplekeljaaGreatDoorN02
namespace Go.Proofs.YtmliokplekeljaaGreatDoor.M
open Go.RowKit Go.Proofs.YtmliokplekeljaaGreatDoorW.PrintWords
set_option linter.unusedVariables false
set_option linter.unusedSimpArgs false

/-- What a reader hands back: a value, so many bytes that are left, an error. -/
def Ret3 (x : Value) (m : Nat) (E : Value) (w : World) (e : Ending) (w' : World) : Prop := ∃ A c, e = .returned (.tuple #[x, .slice A m c, E]) ∧ Below w.heap.size w w'
abbrev eShort : Value := .iface 212 (.agg #[])
/-- A number with its sign. -/
def sx8 (x : Int) : Int := if x < 128 then x else x - 256
def sx16 (x : Int) : Int := if x < 32768 then x else x - 65536
def sx32 (x : Int) : Int := if x < 2147483648 then x else x - 4294967296
def sx64 (x : Int) : Int := if x < 9223372036854775808 then x else x - 18446744073709551616
theorem wr8 (x : Int) (h0 : 0 ≤ x) (h1 : x < 256) : wrap64 (IntKind.i8.wrap x) = sx8 x := by
  simp only [IntKind.wrap, IntKind.bits, IntKind.signed, wrap64, sx8]
  simp
  repeat' split
  all_goals omega
theorem wr16 (x : Int) (h0 : 0 ≤ x) (h1 : x < 65536) : wrap64 (IntKind.i16.wrap x) = sx16 x := by
  simp only [IntKind.wrap, IntKind.bits, IntKind.signed, wrap64, sx16]
  simp
  repeat' split
  all_goals omega
theorem wr32 (x : Int) (h0 : 0 ≤ x) (h1 : x < 4294967296) : wrap64 (IntKind.i32.wrap x) = sx32 x := by
  simp only [IntKind.wrap, IntKind.bits, IntKind.signed, wrap64, sx32]
  simp
  repeat' split
  all_goals omega
theorem wr32' (x : Int) (h0 : 0 ≤ x) (h1 : x < 4294967296) : wrap64 (wrap32 x) = sx32 x := by
  simp only [wrap32, wrap64, sx32]
  repeat' split
  all_goals omega
theorem wr64 (x : Int) (h0 : 0 ≤ x) (h1 : x < 18446744073709551616) : wrap64 x = sx64 x := by
  simp only [wrap64, sx64]
  repeat' split
  all_goals omega
theorem wr8n (x : Int) (h0 : 224 ≤ x) (h1 : x < 256) : wrap64 (IntKind.i8.wrap x) = x - 256 := by
  rw [wr8 x (by omega) h1, sx8, if_neg (by omega)]
theorem ret3_int {k : IntKind} {a b : Int} {s E : Value} (h : a = b) : Ending.returned (.tuple #[.int k a, s, E]) = .returned (.tuple #[.int k b, s, E]) := by rw [h]

theorem cut1 (b o n c m : Nat) (l : List Int) (x0 : Int) (hn : n = m + 1) (hl : m = l.length) (hc : n ≤ c) :
    ∃ o' : Nat, (∀ W : World, (Instr.slice 22 (.slice (some ⟨b, o, none⟩) n c) (some (.int .i64 1)) none none).run Tryz.prog W = .ok (.slice (some ⟨b, o', none⟩) m (c - 1)) W) ∧ (∀ w, RB w b o (x0 :: l) → RB w b o' l) := by
  obtain ⟨o', h1, h2⟩ := cutRB b o n c 1 (x0 :: l) (by simp; omega) (by omega) hc
  exact ⟨o', fun W => by have := h1 W; rw [show n - 1 = m from by omega] at this; exact this, fun w h => by simpa using h2 w h⟩
theorem cut2 (b o n c m : Nat) (l : List Int) (x0 x1 : Int) (hn : n = m + 2) (hl : m = l.length) (hc : n ≤ c) :
    ∃ o' : Nat, (∀ W : World, (Instr.slice 22 (.slice (some ⟨b, o, none⟩) n c) (some (.int .i64 2)) none none).run Tryz.prog W = .ok (.slice (some ⟨b, o', none⟩) m (c - 2)) W) ∧ (∀ w, RB w b o (x0 :: x1 :: l) → RB w b o' l) := by
  obtain ⟨o', h1, h2⟩ := cutRB b o n c 2 (x0 :: x1 :: l) (by simp; omega) (by omega) hc
  exact ⟨o', fun W => by have := h1 W; rw [show n - 2 = m from by omega] at this; exact this, fun w h => by simpa using h2 w h⟩
theorem cut4 (b o n c m : Nat) (l : List Int) (x0 x1 x2 x3 : Int) (hn : n = m + 4) (hl : m = l.length) (hc : n ≤ c) :
    ∃ o' : Nat, (∀ W : World, (Instr.slice 22 (.slice (some ⟨b, o, none⟩) n c) (some (.int .i64 4)) none none).run Tryz.prog W = .ok (.slice (some ⟨b, o', none⟩) m (c - 4)) W) ∧ (∀ w, RB w b o (x0 :: x1 :: x2 :: x3 :: l) → RB w b o' l) := by
  obtain ⟨o', h1, h2⟩ := cutRB b o n c 4 (x0 :: x1 :: x2 :: x3 :: l) (by simp; omega) (by omega) hc
  exact ⟨o', fun W => by have := h1 W; rw [show n - 4 = m from by omega] at this; exact this, fun w h => by simpa using h2 w h⟩
theorem cut8 (b o n c m : Nat) (l : List Int) (x0 x1 x2 x3 x4 x5 x6 x7 : Int) (hn : n = m + 8) (hl : m = l.length) (hc : n ≤ c) :
    ∃ o' : Nat, (∀ W : World, (Instr.slice 22 (.slice (some ⟨b, o, none⟩) n c) (some (.int .i64 8)) none none).run Tryz.prog W = .ok (.slice (some ⟨b, o', none⟩) m (c - 8)) W) ∧ (∀ w, RB w b o (x0 :: x1 :: x2 :: x3 :: x4 :: x5 :: x6 :: x7 :: l) → RB w b o' l) := by
  obtain ⟨o', h1, h2⟩ := cutRB b o n c 8 (x0 :: x1 :: x2 :: x3 :: x4 :: x5 :: x6 :: x7 :: l) (by simp; omega) (by omega) hc
  exact ⟨o', fun W => by have := h1 W; rw [show n - 8 = m from by omega] at this; exact this, fun w h => by simpa using h2 w h⟩
set_option maxRecDepth 100000 in
theorem rah_nil (w : World) (A : Option Addr) (c : Nat) (hG : Glob w) : Calls Tryz.prog 47 #[.slice A 0 c] w (Ret3 (.int .u32 0) 0 eShort w) := by
  have h0 := hG.2.1
  clear hG
  go_enter Tryz.func47, Tryz.ntmps47
  go_wp2
  go_quiet (fail)
  go_wp2
  go_ret3
  exact ⟨_, _, rfl, pw_below_drewN (Below.refl _ _) _⟩
set_option maxRecDepth 100000 in
theorem rah_fix (w : World) (g o n c : Nat) (v : Int) (r : List Int) (hr : RB w g o (v :: r)) (hn : n = r.length + 1) (hc : n ≤ c) (h0 : 144 ≤ v) (h1 : v < 160) :
    Calls Tryz.prog 47 #[.slice (some ⟨g, o, none⟩) n c] w (Ret3 (.int .u32 (v - 144)) r.length .nilIface w) := by
  have hg := hr.lt
  have hc0 := hr.c0
  obtain ⟨o1, hs1, hr1⟩ := cut1 g o n c r.length r v (by omega) (by simp) hc
  clear hr hr1
  subst hn
  have hb1 : Go.bits .and .u8 v 15 = v - 144 := by rw [and15 v (by omega) (by omega)]; omega
  have hb2 : Go.bits .and .u8 v 240 = 144 := by rw [and240 v (by omega) (by omega)]; omega
  go_enter Tryz.func47, Tryz.ntmps47
  go_wp2
  go_ret3
  exact ⟨_, _, rfl, Below.refl _ _⟩
set_option maxRecDepth 100000 in
theorem rah_220 (w : World) (g o n c : Nat) (x0 x1 : Int) (r : List Int) (hr : RB w g o (220 :: x0 :: x1 :: r)) (hn : n = r.length + 3) (hc : n ≤ c) (hx0 : isB x0) (hx1 : isB x1) :
    Calls Tryz.prog 47 #[.slice (some ⟨g, o, none⟩) n c] w (Ret3 (.int .u32 (x0 * 256 + x1)) r.length .nilIface w) := by
  have hg := hr.lt
  have hc0 := hr.c0
  obtain ⟨o1, hs1, hr1⟩ := cut1 g o n c (r.length + 2) (x0 :: x1 :: r) 220 (by omega) (by simp) hc
  obtain ⟨o2, hs2, hr2⟩ := cut2 g o1 (r.length + 2) (c - 1) r.length r x0 x1 rfl rfl (by omega)
  have H := Lib.hid (be16 w g o1 (r.length + 2) (c - 1) x0 x1 r (hr1 w hr) rfl hx0 hx1)
  clear hr hr1 hr2
  subst hn
  obtain ⟨hax0, hbx0⟩ := hx0
  obtain ⟨hax1, hbx1⟩ := hx1
  go_enter Tryz.func47, Tryz.ntmps47
  go_wp2_with (first | (go_at_call 84; refine H.out.mono ?_; rintro e w1 ⟨rfl, hb⟩) | go_in)
  go_ret3
  exact ⟨_, _, rfl, hb⟩
set_option maxRecDepth 100000 in
theorem rah_220s (w : World) (g o n c : Nat) (r : List Int) (hG : Glob w) (hr : RB w g o (220 :: r)) (hn : n = r.length + 1) (hc : n ≤ c) (hl : r.length < 2) :
    Calls Tryz.prog 47 #[.slice (some ⟨g, o, none⟩) n c] w (Ret3 (.int .u32 0) 0 eShort w) := by
  have hg := hr.lt
  have hc0 := hr.c0
  have h0 := hG.2.1
  obtain ⟨o1, hs1, hr1⟩ := cut1 g o n c r.length r 220 (by omega) (by simp) hc
  clear hr hr1 hG
  subst hn
  go_enter Tryz.func47, Tryz.ntmps47
  go_wp2
  go_ret3
  exact ⟨_, _, rfl, Below.refl _ _⟩
set_option maxRecDepth 100000 in
theorem rah_221 (w : World) (g o n c : Nat) (x0 x1 x2 x3 : Int) (r : List Int) (hr : RB w g o (221 :: x0 :: x1 :: x2 :: x3 :: r)) (hn : n = r.length + 5) (hc : n ≤ c) (hx0 : isB x0) (hx1 : isB x1) (hx2 : isB x2) (hx3 : isB x3) :
    Calls Tryz.prog 47 #[.slice (some ⟨g, o, none⟩) n c] w (Ret3 (.int .u32 (x0 * 16777216 + x1 * 65536 + x2 * 256 + x3)) r.length .nilIface w) := by
  have hg := hr.lt
  have hc0 := hr.c0
  obtain ⟨o1, hs1, hr1⟩ := cut1 g o n c (r.length + 4) (x0 :: x1 :: x2 :: x3 :: r) 221 (by omega) (by simp) hc
  obtain ⟨o2, hs2, hr2⟩ := cut4 g o1 (r.length + 4) (c - 1) r.length r x0 x1 x2 x3 rfl rfl (by omega)
  have H := Lib.hid (be32 w g o1 (r.length + 4) (c - 1) x0 x1 x2 x3 r (hr1 w hr) rfl hx0 hx1 hx2 hx3)
  clear hr hr1 hr2
  subst hn
  obtain ⟨hax0, hbx0⟩ := hx0
  obtain ⟨hax1, hbx1⟩ := hx1
  obtain ⟨hax2, hbx2⟩ := hx2
  obtain ⟨hax3, hbx3⟩ := hx3
  go_enter Tryz.func47, Tryz.ntmps47
  go_wp2_with (first | (go_at_call 85; refine H.out.mono ?_; rintro e w1 ⟨rfl, hb⟩) | go_in)
  go_ret3
  exact ⟨_, _, rfl, hb⟩
set_option maxRecDepth 100000 in
theorem rah_221s (w : World) (g o n c : Nat) (r : List Int) (hG : Glob w) (hr : RB w g o (221 :: r)) (hn : n = r.length + 1) (hc : n ≤ c) (hl : r.length < 4) :
    Calls Tryz.prog 47 #[.slice (some ⟨g, o, none⟩) n c] w (Ret3 (.int .u32 0) 0 eShort w) := by
  have hg := hr.lt
  have hc0 := hr.c0
  have h0 := hG.2.1
  obtain ⟨o1, hs1, hr1⟩ := cut1 g o n c r.length r 221 (by omega) (by simp) hc
  clear hr hr1 hG
  subst hn
  go_enter Tryz.func47, Tryz.ntmps47
  go_wp2
  go_ret3
  exact ⟨_, _, rfl, Below.refl _ _⟩
set_option maxRecDepth 100000 in
theorem rmh_nil (w : World) (A : Option Addr) (c : Nat) (hG : Glob w) : Calls Tryz.prog 49 #[.slice A 0 c] w (Ret3 (.int .u32 0) 0 eShort w) := by
  have h0 := hG.2.1
  clear hG
  go_enter Tryz.func49, Tryz.ntmps49
  go_wp2
  go_ret3
  exact ⟨_, _, rfl, Below.refl _ _⟩
set_option maxRecDepth 100000 in
theorem rmh_fix (w : World) (g o n c : Nat) (v : Int) (r : List Int) (hr : RB w g o (v :: r)) (hn : n = r.length + 1) (hc : n ≤ c) (h0 : 128 ≤ v) (h1 : v < 144) :
    Calls Tryz.prog 49 #[.slice (some ⟨g, o, none⟩) n c] w (Ret3 (.int .u32 (v - 128)) r.length .nilIface w) := by
  have hg := hr.lt
  have hc0 := hr.c0
  obtain ⟨o1, hs1, hr1⟩ := cut1 g o n c r.length r v (by omega) (by simp) hc
  clear hr hr1
  subst hn
  have hb1 : Go.bits .and .u8 v 15 = v - 128 := by rw [and15 v (by omega) (by omega)]; omega
  have hb2 : Go.bits .and .u8 v 240 = 128 := by rw [and240 v (by omega) (by omega)]; omega
  go_enter Tryz.func49, Tryz.ntmps49
  go_wp2
  go_ret3
  exact ⟨_, _, rfl, Below.refl _ _⟩
set_option maxRecDepth 100000 in
theorem rmh_222 (w : World) (g o n c : Nat) (x0 x1 : Int) (r : List Int) (hr : RB w g o (222 :: x0 :: x1 :: r)) (hn : n = r.length + 3) (hc : n ≤ c) (hx0 : isB x0) (hx1 : isB x1) :
    Calls Tryz.prog 49 #[.slice (some ⟨g, o, none⟩) n c] w (Ret3 (.int .u32 (x0 * 256 + x1)) r.length .nilIface w) := by
  have hg := hr.lt
  have hc0 := hr.c0
  obtain ⟨o1, hs1, hr1⟩ := cut1 g o n c (r.length + 2) (x0 :: x1 :: r) 222 (by omega) (by simp) hc
  obtain ⟨o2, hs2, hr2⟩ := cut2 g o1 (r.length + 2) (c - 1) r.length r x0 x1 rfl rfl (by omega)
  have H := Lib.hid (be16 w g o1 (r.length + 2) (c - 1) x0 x1 r (hr1 w hr) rfl hx0 hx1)
  clear hr hr1 hr2
  subst hn
  obtain ⟨hax0, hbx0⟩ := hx0
  obtain ⟨hax1, hbx1⟩ := hx1
  go_enter Tryz.func49, Tryz.ntmps49
  go_wp2_with (first | (go_at_call 84; refine H.out.mono ?_; rintro e w1 ⟨rfl, hb⟩) | go_in)
  go_ret3
  exact ⟨_, _, rfl, hb⟩
set_option maxRecDepth 100000 in
theorem rmh_222s (w : World) (g o n c : Nat) (r : List Int) (hG : Glob w) (hr : RB w g o (222 :: r)) (hn : n = r.length + 1) (hc : n ≤ c) (hl : r.length < 2) :
    Calls Tryz.prog 49 #[.slice (some ⟨g, o, none⟩) n c] w (Ret3 (.int .u32 0) 0 eShort w) := by
  have hg := hr.lt
  have hc0 := hr.c0
  have h0 := hG.2.1
  obtain ⟨o1, hs1, hr1⟩ := cut1 g o n c r.length r 222 (by omega) (by simp) hc
  clear hr hr1 hG
  subst hn
  go_enter Tryz.func49, Tryz.ntmps49
  go_wp2
  go_ret3
  exact ⟨_, _, rfl, Below.refl _ _⟩
set_option maxRecDepth 100000 in
theorem rmh_223 (w : World) (g o n c : Nat) (x0 x1 x2 x3 : Int) (r : List Int) (hr : RB w g o (223 :: x0 :: x1 :: x2 :: x3 :: r)) (hn : n = r.length + 5) (hc : n ≤ c) (hx0 : isB x0) (hx1 : isB x1) (hx2 : isB x2) (hx3 : isB x3) :
    Calls Tryz.prog 49 #[.slice (some ⟨g, o, none⟩) n c] w (Ret3 (.int .u32 (x0 * 16777216 + x1 * 65536 + x2 * 256 + x3)) r.length .nilIface w) := by
  have hg := hr.lt
  have hc0 := hr.c0
  obtain ⟨o1, hs1, hr1⟩ := cut1 g o n c (r.length + 4) (x0 :: x1 :: x2 :: x3 :: r) 223 (by omega) (by simp) hc
  obtain ⟨o2, hs2, hr2⟩ := cut4 g o1 (r.length + 4) (c - 1) r.length r x0 x1 x2 x3 rfl rfl (by omega)
  have H := Lib.hid (be32 w g o1 (r.length + 4) (c - 1) x0 x1 x2 x3 r (hr1 w hr) rfl hx0 hx1 hx2 hx3)
  clear hr hr1 hr2
  subst hn
  obtain ⟨hax0, hbx0⟩ := hx0
  obtain ⟨hax1, hbx1⟩ := hx1
  obtain ⟨hax2, hbx2⟩ := hx2
  obtain ⟨hax3, hbx3⟩ := hx3
  go_enter Tryz.func49, Tryz.ntmps49
  go_wp2_with (first | (go_at_call 85; refine H.out.mono ?_; rintro e w1 ⟨rfl, hb⟩) | go_in)
  go_ret3
  exact ⟨_, _, rfl, hb⟩
set_option maxRecDepth 100000 in
theorem rmh_223s (w : World) (g o n c : Nat) (r : List Int) (hG : Glob w) (hr : RB w g o (223 :: r)) (hn : n = r.length + 1) (hc : n ≤ c) (hl : r.length < 4) :
    Calls Tryz.prog 49 #[.slice (some ⟨g, o, none⟩) n c] w (Ret3 (.int .u32 0) 0 eShort w) := by
  have hg := hr.lt
  have hc0 := hr.c0
  have h0 := hG.2.1
  obtain ⟨o1, hs1, hr1⟩ := cut1 g o n c r.length r 223 (by omega) (by simp) hc
  clear hr hr1 hG
  subst hn
  go_enter Tryz.func49, Tryz.ntmps49
  go_wp2
  go_ret3
  exact ⟨_, _, rfl, Below.refl _ _⟩
set_option maxRecDepth 100000 in
theorem ri_nil (w : World) (A : Option Addr) (c : Nat) (hG : Glob w) : Calls Tryz.prog 73 #[.slice A 0 c] w (Ret3 (.int .i64 0) 0 eShort w) := by
  have h0 := hG.2.1
  clear hG
  go_enter Tryz.func73, Tryz.ntmps73
  go_wp2
  go_quiet (fail)
  go_wp2
  go_ret3
  exact ⟨_, _, rfl, pw_below_drewN (Below.refl _ _) _⟩
set_option maxRecDepth 100000 in
theorem ri_fix (w : World) (g o n c : Nat) (v : Int) (r : List Int) (hr : RB w g o (v :: r)) (hn : n = r.length + 1) (hc : n ≤ c) (h0 : 0 ≤ v) (h1 : v < 128) :
    Calls Tryz.prog 73 #[.slice (some ⟨g, o, none⟩) n c] w (Ret3 (.int .i64 v) r.length .nilIface w) := by
  have hg := hr.lt
  have hc0 := hr.c0
  obtain ⟨o1, hs1, hr1⟩ := cut1 g o n c r.length r v (by omega) (by simp) hc
  clear hr hr1
  subst hn
  go_enter Tryz.func73, Tryz.ntmps73
  go_wp2
  go_ret3
  exact ⟨_, _, rfl, Below.refl _ _⟩
set_option maxRecDepth 100000 in
theorem ri_nfix (w : World) (g o n c : Nat) (v : Int) (r : List Int) (hr : RB w g o (v :: r)) (hn : n = r.length + 1) (hc : n ≤ c) (h0 : 224 ≤ v) (h1 : v < 256) :
    Calls Tryz.prog 73 #[.slice (some ⟨g, o, none⟩) n c] w (Ret3 (.int .i64 (v - 256)) r.length .nilIface w) := by
  have hg := hr.lt
  have hc0 := hr.c0
  obtain ⟨o1, hs1, hr1⟩ := cut1 g o n c r.length r v (by omega) (by simp) hc
  clear hr hr1
  subst hn
  have hb2 : Go.bits .and .u8 v 224 = 224 := by rw [and224 v (by omega) (by omega)]; omega
  go_enter Tryz.func73, Tryz.ntmps73
  go_wp2
  go_ret3
  exact ⟨_, _, ret3_int (wr8n _ h0 h1), Below.refl _ _⟩
set_option maxRecDepth 100000 in
theorem ri_208 (w : World) (g o n c : Nat) (x0 : Int) (r : List Int) (hr : RB w g o (208 :: x0 :: r)) (hn : n = r.length + 2) (hc : n ≤ c) (hx0 : isB x0) :
    Calls Tryz.prog 73 #[.slice (some ⟨g, o, none⟩) n c] w (Ret3 (.int .i64 (sx8 (x0))) r.length .nilIface w) := by
  have hg := hr.lt
  have hc0 := hr.c0
  obtain ⟨o1, hs1, hr1⟩ := cut1 g o n c (r.length + 1) (x0 :: r) 208 (by omega) (by simp) hc
  obtain ⟨o2, hs2, hr2⟩ := cut1 g o1 (r.length + 1) (c - 1) r.length r x0 rfl rfl (by omega)
  have hd0 := (hr1 w hr).c0
  clear hr hr1 hr2
  subst hn
  obtain ⟨hax0, hbx0⟩ := hx0
  go_enter Tryz.func73, Tryz.ntmps73
  go_wp2
  go_ret3
  exact ⟨_, _, ret3_int (wr8 _ (by omega) (by omega)), Below.refl _ _⟩
set_option maxRecDepth 100000 in
theorem ri_208s (w : World) (g o n c : Nat) (r : List Int) (hG : Glob w) (hr : RB w g o (208 :: r)) (hn : n = r.length + 1) (hc : n ≤ c) (hl : r.length < 1) :
    Calls Tryz.prog 73 #[.slice (some ⟨g, o, none⟩) n c] w (Ret3 (.int .i64 0) 0 eShort w) := by
  have hg := hr.lt
  have hc0 := hr.c0
  have h0 := hG.2.1
  obtain ⟨o1, hs1, hr1⟩ := cut1 g o n c r.length r 208 (by omega) (by simp) hc
  clear hr hr1 hG
  subst hn
  go_enter Tryz.func73, Tryz.ntmps73
  go_wp2
  go_ret3
  exact ⟨_, _, rfl, Below.refl _ _⟩
set_option maxRecDepth 100000 in
theorem ri_209 (w : World) (g o n c : Nat) (x0 x1 : Int) (r : List Int) (hr : RB w g o (209 :: x0 :: x1 :: r)) (hn : n = r.length + 3) (hc : n ≤ c) (hx0 : isB x0) (hx1 : isB x1) :
    Calls Tryz.prog 73 #[.slice (some ⟨g, o, none⟩) n c] w (Ret3 (.int .i64 (sx16 (x0 * 256 + x1))) r.length .nilIface w) := by
  have hg := hr.lt
  have hc0 := hr.c0
  obtain ⟨o1, hs1, hr1⟩ := cut1 g o n c (r.length + 2) (x0 :: x1 :: r) 209 (by omega) (by simp) hc
  obtain ⟨o2, hs2, hr2⟩ := cut2 g o1 (r.length + 2) (c - 1) r.length r x0 x1 rfl rfl (by omega)
  have H := Lib.hid (be16 w g o1 (r.length + 2) (c - 1) x0 x1 r (hr1 w hr) rfl hx0 hx1)
  clear hr hr1 hr2
  subst hn
  obtain ⟨hax0, hbx0⟩ := hx0
  obtain ⟨hax1, hbx1⟩ := hx1
  go_enter Tryz.func73, Tryz.ntmps73
  go_wp2_with (first | (go_at_call 84; refine H.out.mono ?_; rintro e w1 ⟨rfl, hb⟩) | go_in)
  go_ret3
  exact ⟨_, _, ret3_int (wr16 _ (by omega) (by omega)), hb⟩
set_option maxRecDepth 100000 in
theorem ri_209s (w : World) (g o n c : Nat) (r : List Int) (hG : Glob w) (hr : RB w g o (209 :: r)) (hn : n = r.length + 1) (hc : n ≤ c) (hl : r.length < 2) :
    Calls Tryz.prog 73 #[.slice (some ⟨g, o, none⟩) n c] w (Ret3 (.int .i64 0) 0 eShort w) := by
  have hg := hr.lt
  have hc0 := hr.c0
  have h0 := hG.2.1
  obtain ⟨o1, hs1, hr1⟩ := cut1 g o n c r.length r 209 (by omega) (by simp) hc
  clear hr hr1 hG
  subst hn
  go_enter Tryz.func73, Tryz.ntmps73
  go_wp2
  go_ret3
  exact ⟨_, _, rfl, Below.refl _ _⟩
set_option maxRecDepth 100000 in
theorem ri_210 (w : World) (g o n c : Nat) (x0 x1 x2 x3 : Int) (r : List Int) (hr : RB w g o (210 :: x0 :: x1 :: x2 :: x3 :: r)) (hn : n = r.length + 5) (hc : n ≤ c) (hx0 : isB x0) (hx1 : isB x1) (hx2 : isB x2) (hx3 : isB x3) :
    Calls Tryz.prog 73 #[.slice (some ⟨g, o, none⟩) n c] w (Ret3 (.int .i64 (sx32 (x0 * 16777216 + x1 * 65536 + x2 * 256 + x3))) r.length .nilIface w) := by
  have hg := hr.lt
  have hc0 := hr.c0
  obtain ⟨o1, hs1, hr1⟩ := cut1 g o n c (r.length + 4) (x0 :: x1 :: x2 :: x3 :: r) 210 (by omega) (by simp) hc
  obtain ⟨o2, hs2, hr2⟩ := cut4 g o1 (r.length + 4) (c - 1) r.length r x0 x1 x2 x3 rfl rfl (by omega)
  have H := Lib.hid (be32 w g o1 (r.length + 4) (c - 1) x0 x1 x2 x3 r (hr1 w hr) rfl hx0 hx1 hx2 hx3)
  clear hr hr1 hr2
  subst hn
  obtain ⟨hax0, hbx0⟩ := hx0
  obtain ⟨hax1, hbx1⟩ := hx1
  obtain ⟨hax2, hbx2⟩ := hx2
  obtain ⟨hax3, hbx3⟩ := hx3
  go_enter Tryz.func73, Tryz.ntmps73
  go_wp2_with (first | (go_at_call 85; refine H.out.mono ?_; rintro e w1 ⟨rfl, hb⟩) | go_in)
  go_ret3
  exact ⟨_, _, ret3_int (wr32' _ (by omega) (by omega)), hb⟩
set_option maxRecDepth 100000 in
theorem ri_210s (w : World) (g o n c : Nat) (r : List Int) (hG : Glob w) (hr : RB w g o (210 :: r)) (hn : n = r.length + 1) (hc : n ≤ c) (hl : r.length < 4) :
    Calls Tryz.prog 73 #[.slice (some ⟨g, o, none⟩) n c] w (Ret3 (.int .i64 0) 0 eShort w) := by
  have hg := hr.lt
  have hc0 := hr.c0
  have h0 := hG.2.1
  obtain ⟨o1, hs1, hr1⟩ := cut1 g o n c r.length r 210 (by omega) (by simp) hc
  clear hr hr1 hG
  subst hn
  go_enter Tryz.func73, Tryz.ntmps73
  go_wp2
  go_ret3
  exact ⟨_, _, rfl, Below.refl _ _⟩
set_option maxRecDepth 100000 in
theorem ri_211 (w : World) (g o n c : Nat) (x0 x1 x2 x3 x4 x5 x6 x7 : Int) (r : List Int) (hr : RB w g o (211 :: x0 :: x1 :: x2 :: x3 :: x4 :: x5 :: x6 :: x7 :: r)) (hn : n = r.length + 9) (hc : n ≤ c) (hx0 : isB x0) (hx1 : isB x1) (hx2 : isB x2) (hx3 : isB x3) (hx4 : isB x4) (hx5 : isB x5) (hx6 : isB x6) (hx7 : isB x7) :
    Calls Tryz.prog 73 #[.slice (some ⟨g, o, none⟩) n c] w (Ret3 (.int .i64 (sx64 (x0 * 72057594037927936 + x1 * 281474976710656 + x2 * 1099511627776 + x3 * 4294967296 + x4 * 16777216 + x5 * 65536 + x6 * 256 + x7))) r.length .nilIface w) := by
  have hg := hr.lt
  have hc0 := hr.c0
  obtain ⟨o1, hs1, hr1⟩ := cut1 g o n c (r.length + 8) (x0 :: x1 :: x2 :: x3 :: x4 :: x5 :: x6 :: x7 :: r) 211 (by omega) (by simp) hc
  obtain ⟨o2, hs2, hr2⟩ := cut8 g o1 (r.length + 8) (c - 1) r.length r x0 x1 x2 x3 x4 x5 x6 x7 rfl rfl (by omega)
  have H := Lib.hid (be64 w g o1 (r.length + 8) (c - 1) x0 x1 x2 x3 x4 x5 x6 x7 r (hr1 w hr) rfl hx0 hx1 hx2 hx3 hx4 hx5 hx6 hx7)
  clear hr hr1 hr2
  subst hn
  obtain ⟨hax0, hbx0⟩ := hx0
  obtain ⟨hax1, hbx1⟩ := hx1
  obtain ⟨hax2, hbx2⟩ := hx2
  obtain ⟨hax3, hbx3⟩ := hx3
  obtain ⟨hax4, hbx4⟩ := hx4
  obtain ⟨hax5, hbx5⟩ := hx5
  obtain ⟨hax6, hbx6⟩ := hx6
  obtain ⟨hax7, hbx7⟩ := hx7
  go_enter Tryz.func73, Tryz.ntmps73
  go_wp2_with (first | (go_at_call 110; refine H.out.mono ?_; rintro e w1 ⟨rfl, hb⟩) | go_in)
  go_ret3
  exact ⟨_, _, ret3_int (wr64 _ (by omega) (by omega)), hb⟩
set_option maxRecDepth 100000 in
theorem ri_211s (w : World) (g o n c : Nat) (r : List Int) (hG : Glob w) (hr : RB w g o (211 :: r)) (hn : n = r.length + 1) (hc : n ≤ c) (hl : r.length < 8) :
    Calls Tryz.prog 73 #[.slice (some ⟨g, o, none⟩) n c] w (Ret3 (.int .i64 0) 0 eShort w) := by
  have hg := hr.lt
  have hc0 := hr.c0
  have h0 := hG.2.1
  obtain ⟨o1, hs1, hr1⟩ := cut1 g o n c r.length r 211 (by omega) (by simp) hc
  clear hr hr1 hG
  subst hn
  go_enter Tryz.func73, Tryz.ntmps73
  go_wp2
  go_ret3
  exact ⟨_, _, rfl, Below.refl _ _⟩
set_option maxRecDepth 100000 in
theorem ru_204 (w : World) (g o n c : Nat) (x0 : Int) (r : List Int) (hr : RB w g o (204 :: x0 :: r)) (hn : n = r.length + 2) (hc : n ≤ c) (hx0 : isB x0) :
    Calls Tryz.prog 78 #[.slice (some ⟨g, o, none⟩) n c] w (Ret3 (.int .u64 (x0)) r.length .nilIface w) := by
  have hg := hr.lt
  have hc0 := hr.c0
  obtain ⟨o1, hs1, hr1⟩ := cut1 g o n c (r.length + 1) (x0 :: r) 204 (by omega) (by simp) hc
  obtain ⟨o2, hs2, hr2⟩ := cut1 g o1 (r.length + 1) (c - 1) r.length r x0 rfl rfl (by omega)
  have hd0 := (hr1 w hr).c0
  clear hr hr1 hr2
  subst hn
  obtain ⟨hax0, hbx0⟩ := hx0
  go_enter Tryz.func78, Tryz.ntmps78
  go_wp2
  go_ret3
  exact ⟨_, _, rfl, Below.refl _ _⟩
set_option maxRecDepth 100000 in
theorem ru_204s (w : World) (g o n c : Nat) (r : List Int) (hG : Glob w) (hr : RB w g o (204 :: r)) (hn : n = r.length + 1) (hc : n ≤ c) (hl : r.length < 1) :
    Calls Tryz.prog 78 #[.slice (some ⟨g, o, none⟩) n c] w (Ret3 (.int .u64 0) 0 eShort w) := by
  have hg := hr.lt
  have hc0 := hr.c0
  have h0 := hG.2.1
  obtain ⟨o1, hs1, hr1⟩ := cut1 g o n c r.length r 204 (by omega) (by simp) hc
  clear hr hr1 hG
  subst hn
  go_enter Tryz.func78, Tryz.ntmps78
  go_wp2
  go_ret3
  exact ⟨_, _, rfl, Below.refl _ _⟩
set_option maxRecDepth 100000 in
theorem ru_205 (w : World) (g o n c : Nat) (x0 x1 : Int) (r : List Int) (hr : RB w g o (205 :: x0 :: x1 :: r)) (hn : n = r.length + 3) (hc : n ≤ c) (hx0 : isB x0) (hx1 : isB x1) :
    Calls Tryz.prog 78 #[.slice (some ⟨g, o, none⟩) n c] w (Ret3 (.int .u64 (x0 * 256 + x1)) r.length .nilIface w) := by
  have hg := hr.lt
  have hc0 := hr.c0
  obtain ⟨o1, hs1, hr1⟩ := cut1 g o n c (r.length + 2) (x0 :: x1 :: r) 205 (by omega) (by simp) hc
  obtain ⟨o2, hs2, hr2⟩ := cut2 g o1 (r.length + 2) (c - 1) r.length r x0 x1 rfl rfl (by omega)
  have H := Lib.hid (be16 w g o1 (r.length + 2) (c - 1) x0 x1 r (hr1 w hr) rfl hx0 hx1)
  clear hr hr1 hr2
  subst hn
  obtain ⟨hax0, hbx0⟩ := hx0
  obtain ⟨hax1, hbx1⟩ := hx1
  go_enter Tryz.func78, Tryz.ntmps78
  go_wp2_with (first | (go_at_call 84; refine H.out.mono ?_; rintro e w1 ⟨rfl, hb⟩) | go_in)
  go_ret3
  exact ⟨_, _, rfl, hb⟩
set_option maxRecDepth 100000 in
theorem ru_205s (w : World) (g o n c : Nat) (r : List Int) (hG : Glob w) (hr : RB w g o (205 :: r)) (hn : n = r.length + 1) (hc : n ≤ c) (hl : r.length < 2) :
    Calls Tryz.prog 78 #[.slice (some ⟨g, o, none⟩) n c] w (Ret3 (.int .u64 0) 0 eShort w) := by
  have hg := hr.lt
  have hc0 := hr.c0
  have h0 := hG.2.1
  obtain ⟨o1, hs1, hr1⟩ := cut1 g o n c r.length r 205 (by omega) (by simp) hc
  clear hr hr1 hG
  subst hn
  go_enter Tryz.func78, Tryz.ntmps78
  go_wp2
  go_ret3
  exact ⟨_, _, rfl, Below.refl _ _⟩
set_option maxRecDepth 100000 in
theorem ru_206 (w : World) (g o n c : Nat) (x0 x1 x2 x3 : Int) (r : List Int) (hr : RB w g o (206 :: x0 :: x1 :: x2 :: x3 :: r)) (hn : n = r.length + 5) (hc : n ≤ c) (hx0 : isB x0) (hx1 : isB x1) (hx2 : isB x2) (hx3 : isB x3) :
    Calls Tryz.prog 78 #[.slice (some ⟨g, o, none⟩) n c] w (Ret3 (.int .u64 (x0 * 16777216 + x1 * 65536 + x2 * 256 + x3)) r.length .nilIface w) := by
  have hg := hr.lt
  have hc0 := hr.c0
  obtain ⟨o1, hs1, hr1⟩ := cut1 g o n c (r.length + 4) (x0 :: x1 :: x2 :: x3 :: r) 206 (by omega) (by simp) hc
  obtain ⟨o2, hs2, hr2⟩ := cut4 g o1 (r.length + 4) (c - 1) r.length r x0 x1 x2 x3 rfl rfl (by omega)
  have H := Lib.hid (be32 w g o1 (r.length + 4) (c - 1) x0 x1 x2 x3 r (hr1 w hr) rfl hx0 hx1 hx2 hx3)
  clear hr hr1 hr2
  subst hn
  obtain ⟨hax0, hbx0⟩ := hx0
  obtain ⟨hax1, hbx1⟩ := hx1
  obtain ⟨hax2, hbx2⟩ := hx2
  obtain ⟨hax3, hbx3⟩ := hx3
  go_enter Tryz.func78, Tryz.ntmps78
  go_wp2_with (first | (go_at_call 85; refine H.out.mono ?_; rintro e w1 ⟨rfl, hb⟩) | go_in)
  go_ret3
  exact ⟨_, _, rfl, hb⟩
set_option maxRecDepth 100000 in
theorem ru_206s (w : World) (g o n c : Nat) (r : List Int) (hG : Glob w) (hr : RB w g o (206 :: r)) (hn : n = r.length + 1) (hc : n ≤ c) (hl : r.length < 4) :
    Calls Tryz.prog 78 #[.slice (some ⟨g, o, none⟩) n c] w (Ret3 (.int .u64 0) 0 eShort w) := by
  have hg := hr.lt
  have hc0 := hr.c0
  have h0 := hG.2.1
  obtain ⟨o1, hs1, hr1⟩ := cut1 g o n c r.length r 206 (by omega) (by simp) hc
  clear hr hr1 hG
  subst hn
  go_enter Tryz.func78, Tryz.ntmps78
  go_wp2
  go_ret3
  exact ⟨_, _, rfl, Below.refl _ _⟩
set_option maxRecDepth 100000 in
theorem ru_207 (w : World) (g o n c : Nat) (x0 x1 x2 x3 x4 x5 x6 x7 : Int) (r : List Int) (hr : RB w g o (207 :: x0 :: x1 :: x2 :: x3 :: x4 :: x5 :: x6 :: x7 :: r)) (hn : n = r.length + 9) (hc : n ≤ c) (hx0 : isB x0) (hx1 : isB x1) (hx2 : isB x2) (hx3 : isB x3) (hx4 : isB x4) (hx5 : isB x5) (hx6 : isB x6) (hx7 : isB x7) :
    Calls Tryz.prog 78 #[.slice (some ⟨g, o, none⟩) n c] w (Ret3 (.int .u64 (x0 * 72057594037927936 + x1 * 281474976710656 + x2 * 1099511627776 + x3 * 4294967296 + x4 * 16777216 + x5 * 65536 + x6 * 256 + x7)) r.length .nilIface w) := by
  have hg := hr.lt
  have hc0 := hr.c0
  obtain ⟨o1, hs1, hr1⟩ := cut1 g o n c (r.length + 8) (x0 :: x1 :: x2 :: x3 :: x4 :: x5 :: x6 :: x7 :: r) 207 (by omega) (by simp) hc
  obtain ⟨o2, hs2, hr2⟩ := cut8 g o1 (r.length + 8) (c - 1) r.length r x0 x1 x2 x3 x4 x5 x6 x7 rfl rfl (by omega)
  have H := Lib.hid (be64 w g o1 (r.length + 8) (c - 1) x0 x1 x2 x3 x4 x5 x6 x7 r (hr1 w hr) rfl hx0 hx1 hx2 hx3 hx4 hx5 hx6 hx7)
  clear hr hr1 hr2
  subst hn
  obtain ⟨hax0, hbx0⟩ := hx0
  obtain ⟨hax1, hbx1⟩ := hx1
  obtain ⟨hax2, hbx2⟩ := hx2
  obtain ⟨hax3, hbx3⟩ := hx3
  obtain ⟨hax4, hbx4⟩ := hx4
  obtain ⟨hax5, hbx5⟩ := hx5
  obtain ⟨hax6, hbx6⟩ := hx6
  obtain ⟨hax7, hbx7⟩ := hx7
  go_enter Tryz.func78, Tryz.ntmps78
  go_wp2_with (first | (go_at_call 110; refine H.out.mono ?_; rintro e w1 ⟨rfl, hb⟩) | go_in)
  go_ret3
  exact ⟨_, _, rfl, hb⟩
set_option maxRecDepth 100000 in
theorem ru_207s (w : World) (g o n c : Nat) (r : List Int) (hG : Glob w) (hr : RB w g o (207 :: r)) (hn : n = r.length + 1) (hc : n ≤ c) (hl : r.length < 8) :
    Calls Tryz.prog 78 #[.slice (some ⟨g, o, none⟩) n c] w (Ret3 (.int .u64 0) 0 eShort w) := by
  have hg := hr.lt
  have hc0 := hr.c0
  have h0 := hG.2.1
  obtain ⟨o1, hs1, hr1⟩ := cut1 g o n c r.length r 207 (by omega) (by simp) hc
  clear hr hr1 hG
  subst hn
  go_enter Tryz.func78, Tryz.ntmps78
  go_wp2
  go_ret3
  exact ⟨_, _, rfl, Below.refl _ _⟩
end Go.Proofs.YtmliokplekeljaaGreatDoor.M
