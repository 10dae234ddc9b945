/- The package's reader of bytes by contracts. -/
import Derived.Test.YtmliokplekeljaaGreatDoorN04
import Derived.Laws.BytesArg
namespace Go.Proofs.YtmliokplekeljaaGreatDoor.M
open Go.RowKit Go.Proofs.YtmliokplekeljaaGreatDoorW.PrintWords
set_option linter.unusedVariables false
set_option linter.unusedSimpArgs false

theorem copyMade_bl' (W : World) (k : Nat) (r : List Int) (hk : k ≤ r.length) : BL ((W.alloc (.cells (madeCells #[.int .u8 0] k) 5)).setCells W.heap.size 0 ((r.map bV).take k)) W.heap.size (r.take k) := by
  have h := copyMade_bl W k (r.take k) (by rw [List.length_take]; omega)
  rw [List.map_take] at h
  exact h
/-- Bytes and how many are left. -/
def RetB (xs : List Int) (m : Nat) (w : World) (e : Ending) (w' : World) : Prop :=
  ∃ A c A' c', e = .returned (.tuple #[.slice A xs.length c, .slice A' m c', .nilIface]) ∧ CB w' A xs ∧ Below w.heap.size w w'
theorem copyNone (c' : Nat) (A : Option Addr) (n c : Nat) (W : World) : (Builtin.copy_ #[22, 22] 3 #[.slice none 0 c', .slice A n c]).run Tryz.prog W = .ok (.int .i64 0) W :=
  run_copy_none (P := Tryz.prog) W 22 22 3 5 none A 0 c' n c Tryz.underlying22 (by kernel_rfl) (Nat.min_zero _)
theorem cutZero (b o n c : Nat) (l : List Int) (hn : n = l.length) (hc : n ≤ c) :
    ∃ o' : Nat, (∀ W : World, (Instr.slice 22 (.slice (some ⟨b, o, none⟩) n c) (some (.int .i64 0)) none none).run Tryz.prog W = .ok (.slice (some ⟨b, o', none⟩) n c) W) := by
  obtain ⟨o', h1, h2⟩ := cutRB b o n c 0 l hn (by omega) hc
  exact ⟨o', fun W => by simpa using h1 W⟩

set_option maxRecDepth 100000 in
theorem rbin_196s (w : World) (g o n c k : Nat) (x0 : Int) (r : List Int) (hG : Glob w) (hr : RB w g o (196 :: x0 :: r)) (hn : n = r.length + 2) (hc : n ≤ c) (hq0 : isB x0) (hv : x0 = (k : Int)) (hk : r.length < k) :
    Calls Tryz.prog 101 #[.slice (some ⟨g, o, none⟩) n c, .slice none 0 0, .bool false] w (Ret3 (.slice none 0 0) 0 eShort w) := by
  have hg := hr.lt
  have hc0 := hr.c0
  have h0 := hG.2.1
  have hG5 := hG.1
  obtain ⟨o1, hs1, hr1⟩ := cut1 g o n c (r.length + 1) (x0 :: r) 196 (by omega) (by simp) hc
  obtain ⟨o2, hs2, hr2⟩ := cut1 g o1 (r.length + 1) (c - 1) r.length r x0 rfl rfl (by omega)
  have hd0 := (hr1 w hr).c0
  rw [hv] at hd0
  have hkb : (k : Int) ≤ x0 := by omega
  clear hr hr1 hr2 hG hv
  subst hn
  obtain ⟨ha0, hb0⟩ := hq0
  go_enter Tryz.func101, Tryz.ntmps101
  go_wp2
  go_ret3
  exact ⟨_, _, rfl, Below.refl _ _⟩
set_option maxRecDepth 100000 in
theorem rbin_196z (w : World) (g o n c : Nat) (x0 : Int) (r : List Int) (hr : RB w g o (196 :: x0 :: r)) (hn : n = r.length + 2) (hc : n ≤ c) (hq0 : isB x0) (hv : x0 = 0) :
    Calls Tryz.prog 101 #[.slice (some ⟨g, o, none⟩) n c, .slice none 0 0, .bool false] w (RetB [] r.length w) := by
  have hg := hr.lt
  have hc0 := hr.c0
  obtain ⟨o1, hs1, hr1⟩ := cut1 g o n c (r.length + 1) (x0 :: r) 196 (by omega) (by simp) hc
  obtain ⟨o2, hs2, hr2⟩ := cut1 g o1 (r.length + 1) (c - 1) r.length r x0 rfl rfl (by omega)
  obtain ⟨o4, hs4⟩ := cutZero g o2 r.length (c - 1 - 1) r rfl (by omega)
  have hcp := copyNone 0 (some ⟨g, o2, none⟩) r.length (c - 1 - 1)
  have hd0 := (hr1 w hr).c0
  rw [hv] at hd0
  clear hr hr1 hr2 hv
  subst hn
  obtain ⟨ha0, hb0⟩ := hq0
  go_enter Tryz.func101, Tryz.ntmps101
  go_wp2
  go_ret3
  exact ⟨_, _, _, _, rfl, Kd.C_nil _ _, Below.refl _ _⟩
set_option maxRecDepth 100000 in
theorem rbin_196p (w : World) (g o n c k : Nat) (x0 : Int) (r : List Int) (hr : RB w g o (196 :: x0 :: r)) (hn : n = r.length + 2) (hc : n ≤ c) (hq0 : isB x0) (hv : x0 = (k : Int)) (hk0 : 0 < k) (hk : k ≤ r.length) :
    Calls Tryz.prog 101 #[.slice (some ⟨g, o, none⟩) n c, .slice none 0 0, .bool false] w (RetB (r.take k) (r.length - k) w) := by
  have hg := hr.lt
  have hc0 := hr.c0
  obtain ⟨o1, hs1, hr1⟩ := cut1 g o n c (r.length + 1) (x0 :: r) 196 (by omega) (by simp) hc
  obtain ⟨o2, hs2, hr2⟩ := cut1 g o1 (r.length + 1) (c - 1) r.length r x0 rfl rfl (by omega)
  obtain ⟨o4, hs4, _⟩ := cutRB g o2 r.length (c - 1 - 1) k r rfl (by omega) (by omega)
  have hrr := hr2 w (hr1 w hr)
  have hmk := fun W => run_make_row' (P := Tryz.prog) 22 5 (.int .u8 0) 1 Tryz.underlying22 info5 rfl .i64 .i64 k (by omega) (by omega) W
  have hd0 := (hr1 w hr).c0
  rw [hv] at hd0
  have hcp := copyMade w g o2 r.length (c - 1 - 1) k r hrr rfl (by omega)
  have HBL := Lib.hid (copyMade_bl' w k r (by omega))
  have hkb : (k : Int) ≤ x0 := by omega
  clear hr hr1 hr2 hv hrr
  subst hn
  obtain ⟨ha0, hb0⟩ := hq0
  have hki : (0 : Int) < (k : Int) := by omega
  go_enter Tryz.func101, Tryz.ntmps101
  go_wp2
  go_ret3
  exact ⟨_, _, _, _, by rw [List.length_take, Nat.min_eq_left (by omega)]; rfl, (BL.rb HBL.out).cb (by rw [List.length_take]; omega), below_step (Below.refl _ _) (copyMade_below w k _)⟩
set_option maxRecDepth 100000 in
theorem rbin_197s (w : World) (g o n c k : Nat) (x0 x1 : Int) (r : List Int) (hG : Glob w) (hr : RB w g o (197 :: x0 :: x1 :: r)) (hn : n = r.length + 3) (hc : n ≤ c) (hq0 : isB x0) (hq1 : isB x1) (hv : x0 * 256 + x1 = (k : Int)) (hk : r.length < k) :
    Calls Tryz.prog 101 #[.slice (some ⟨g, o, none⟩) n c, .slice none 0 0, .bool false] w (Ret3 (.slice none 0 0) 0 eShort w) := by
  have hg := hr.lt
  have hc0 := hr.c0
  have h0 := hG.2.1
  have hG5 := hG.1
  obtain ⟨o1, hs1, hr1⟩ := cut1 g o n c (r.length + 2) (x0 :: x1 :: r) 197 (by omega) (by simp) hc
  obtain ⟨o2, hs2, hr2⟩ := cut2 g o1 (r.length + 2) (c - 1) r.length r x0 x1 rfl rfl (by omega)
  have H := Lib.hid (be16 w g o1 (r.length + 2) (c - 1) x0 x1 r (hr1 w hr) rfl hq0 hq1)
  rw [hv] at H
  have hkb : (k : Int) ≤ x0 * 256 + x1 := by omega
  clear hr hr1 hr2 hG hv
  subst hn
  obtain ⟨ha0, hb0⟩ := hq0
  obtain ⟨ha1, hb1⟩ := hq1
  go_enter Tryz.func101, Tryz.ntmps101
  go_wp2_with (first | (go_at_call 84; refine H.out.mono ?_; rintro e w1 ⟨rfl, hb⟩; have h0' := (hb.cell (p := ⟨0, 0, none⟩) (by have := hG5; simp; omega)).trans h0) | go_in)
  go_ret3
  exact ⟨_, _, rfl, hb⟩
set_option maxRecDepth 100000 in
theorem rbin_197z (w : World) (g o n c : Nat) (x0 x1 : Int) (r : List Int) (hr : RB w g o (197 :: x0 :: x1 :: r)) (hn : n = r.length + 3) (hc : n ≤ c) (hq0 : isB x0) (hq1 : isB x1) (hv : x0 * 256 + x1 = 0) :
    Calls Tryz.prog 101 #[.slice (some ⟨g, o, none⟩) n c, .slice none 0 0, .bool false] w (RetB [] r.length w) := by
  have hg := hr.lt
  have hc0 := hr.c0
  obtain ⟨o1, hs1, hr1⟩ := cut1 g o n c (r.length + 2) (x0 :: x1 :: r) 197 (by omega) (by simp) hc
  obtain ⟨o2, hs2, hr2⟩ := cut2 g o1 (r.length + 2) (c - 1) r.length r x0 x1 rfl rfl (by omega)
  obtain ⟨o4, hs4⟩ := cutZero g o2 r.length (c - 1 - 2) r rfl (by omega)
  have hcp := copyNone 0 (some ⟨g, o2, none⟩) r.length (c - 1 - 2)
  have H := Lib.hid (be16 w g o1 (r.length + 2) (c - 1) x0 x1 r (hr1 w hr) rfl hq0 hq1)
  rw [hv] at H
  clear hr hr1 hr2 hv
  subst hn
  obtain ⟨ha0, hb0⟩ := hq0
  obtain ⟨ha1, hb1⟩ := hq1
  go_enter Tryz.func101, Tryz.ntmps101
  go_wp2_with (first | (go_at_call 84; refine H.out.mono ?_; rintro e w1 ⟨rfl, hb⟩) | go_in)
  go_ret3
  exact ⟨_, _, _, _, rfl, Kd.C_nil _ _, hb⟩
set_option maxRecDepth 100000 in
theorem rbin_197p (w : World) (g o n c k : Nat) (x0 x1 : Int) (r : List Int) (hr : RB w g o (197 :: x0 :: x1 :: r)) (hn : n = r.length + 3) (hc : n ≤ c) (hq0 : isB x0) (hq1 : isB x1) (hv : x0 * 256 + x1 = (k : Int)) (hk0 : 0 < k) (hk : k ≤ r.length) :
    Calls Tryz.prog 101 #[.slice (some ⟨g, o, none⟩) n c, .slice none 0 0, .bool false] w (RetB (r.take k) (r.length - k) w) := by
  have hg := hr.lt
  have hc0 := hr.c0
  obtain ⟨o1, hs1, hr1⟩ := cut1 g o n c (r.length + 2) (x0 :: x1 :: r) 197 (by omega) (by simp) hc
  obtain ⟨o2, hs2, hr2⟩ := cut2 g o1 (r.length + 2) (c - 1) r.length r x0 x1 rfl rfl (by omega)
  obtain ⟨o4, hs4, _⟩ := cutRB g o2 r.length (c - 1 - 2) k r rfl (by omega) (by omega)
  have hrr := hr2 w (hr1 w hr)
  have hmk := fun W => run_make_row' (P := Tryz.prog) 22 5 (.int .u8 0) 1 Tryz.underlying22 info5 rfl .i64 .i64 k (by omega) (by omega) W
  have H := Lib.hid (be16 w g o1 (r.length + 2) (c - 1) x0 x1 r (hr1 w hr) rfl hq0 hq1)
  rw [hv] at H
  have hkb : (k : Int) ≤ x0 * 256 + x1 := by omega
  have HRR := Lib.hid hrr
  clear hr hr1 hr2 hv hrr
  subst hn
  obtain ⟨ha0, hb0⟩ := hq0
  obtain ⟨ha1, hb1⟩ := hq1
  have hki : (0 : Int) < (k : Int) := by omega
  go_enter Tryz.func101, Tryz.ntmps101
  go_wp2_with (first | (go_at_call 84; refine H.out.mono ?_; rintro e w1 ⟨rfl, hb⟩; have hcp := copyMade w1 g o2 r.length (c - 1 - 2) k r (HRR.out.below hb) rfl (by omega); have HBL := Lib.hid (copyMade_bl' w1 k r (by omega))) | go_in)
  go_ret3
  exact ⟨_, _, _, _, by rw [List.length_take, Nat.min_eq_left (by omega)]; rfl, (BL.rb HBL.out).cb (by rw [List.length_take]; omega), below_step (hb) (copyMade_below w1 k _)⟩
set_option maxRecDepth 100000 in
theorem rbin_198s (w : World) (g o n c k : Nat) (x0 x1 x2 x3 : Int) (r : List Int) (hG : Glob w) (hr : RB w g o (198 :: x0 :: x1 :: x2 :: x3 :: r)) (hn : n = r.length + 5) (hc : n ≤ c) (hq0 : isB x0) (hq1 : isB x1) (hq2 : isB x2) (hq3 : isB x3) (hv : x0 * 16777216 + x1 * 65536 + x2 * 256 + x3 = (k : Int)) (hk : r.length < k) :
    Calls Tryz.prog 101 #[.slice (some ⟨g, o, none⟩) n c, .slice none 0 0, .bool false] w (Ret3 (.slice none 0 0) 0 eShort w) := by
  have hg := hr.lt
  have hc0 := hr.c0
  have h0 := hG.2.1
  have hG5 := hG.1
  obtain ⟨o1, hs1, hr1⟩ := cut1 g o n c (r.length + 4) (x0 :: x1 :: x2 :: x3 :: r) 198 (by omega) (by simp) hc
  obtain ⟨o2, hs2, hr2⟩ := cut4 g o1 (r.length + 4) (c - 1) r.length r x0 x1 x2 x3 rfl rfl (by omega)
  have H := Lib.hid (be32 w g o1 (r.length + 4) (c - 1) x0 x1 x2 x3 r (hr1 w hr) rfl hq0 hq1 hq2 hq3)
  rw [hv] at H
  have hkb : (k : Int) ≤ x0 * 16777216 + x1 * 65536 + x2 * 256 + x3 := by omega
  clear hr hr1 hr2 hG hv
  subst hn
  obtain ⟨ha0, hb0⟩ := hq0
  obtain ⟨ha1, hb1⟩ := hq1
  obtain ⟨ha2, hb2⟩ := hq2
  obtain ⟨ha3, hb3⟩ := hq3
  go_enter Tryz.func101, Tryz.ntmps101
  go_wp2_with (first | (go_at_call 85; refine H.out.mono ?_; rintro e w1 ⟨rfl, hb⟩; have h0' := (hb.cell (p := ⟨0, 0, none⟩) (by have := hG5; simp; omega)).trans h0) | go_in)
  go_ret3
  exact ⟨_, _, rfl, hb⟩
set_option maxRecDepth 100000 in
theorem rbin_198z (w : World) (g o n c : Nat) (x0 x1 x2 x3 : Int) (r : List Int) (hr : RB w g o (198 :: x0 :: x1 :: x2 :: x3 :: r)) (hn : n = r.length + 5) (hc : n ≤ c) (hq0 : isB x0) (hq1 : isB x1) (hq2 : isB x2) (hq3 : isB x3) (hv : x0 * 16777216 + x1 * 65536 + x2 * 256 + x3 = 0) :
    Calls Tryz.prog 101 #[.slice (some ⟨g, o, none⟩) n c, .slice none 0 0, .bool false] w (RetB [] r.length w) := by
  have hg := hr.lt
  have hc0 := hr.c0
  obtain ⟨o1, hs1, hr1⟩ := cut1 g o n c (r.length + 4) (x0 :: x1 :: x2 :: x3 :: r) 198 (by omega) (by simp) hc
  obtain ⟨o2, hs2, hr2⟩ := cut4 g o1 (r.length + 4) (c - 1) r.length r x0 x1 x2 x3 rfl rfl (by omega)
  obtain ⟨o4, hs4⟩ := cutZero g o2 r.length (c - 1 - 4) r rfl (by omega)
  have hcp := copyNone 0 (some ⟨g, o2, none⟩) r.length (c - 1 - 4)
  have H := Lib.hid (be32 w g o1 (r.length + 4) (c - 1) x0 x1 x2 x3 r (hr1 w hr) rfl hq0 hq1 hq2 hq3)
  rw [hv] at H
  clear hr hr1 hr2 hv
  subst hn
  obtain ⟨ha0, hb0⟩ := hq0
  obtain ⟨ha1, hb1⟩ := hq1
  obtain ⟨ha2, hb2⟩ := hq2
  obtain ⟨ha3, hb3⟩ := hq3
  go_enter Tryz.func101, Tryz.ntmps101
  go_wp2_with (first | (go_at_call 85; refine H.out.mono ?_; rintro e w1 ⟨rfl, hb⟩) | go_in)
  go_ret3
  exact ⟨_, _, _, _, rfl, Kd.C_nil _ _, hb⟩
set_option maxRecDepth 100000 in
theorem rbin_198p (w : World) (g o n c k : Nat) (x0 x1 x2 x3 : Int) (r : List Int) (hr : RB w g o (198 :: x0 :: x1 :: x2 :: x3 :: r)) (hn : n = r.length + 5) (hc : n ≤ c) (hq0 : isB x0) (hq1 : isB x1) (hq2 : isB x2) (hq3 : isB x3) (hv : x0 * 16777216 + x1 * 65536 + x2 * 256 + x3 = (k : Int)) (hk0 : 0 < k) (hk : k ≤ r.length) :
    Calls Tryz.prog 101 #[.slice (some ⟨g, o, none⟩) n c, .slice none 0 0, .bool false] w (RetB (r.take k) (r.length - k) w) := by
  have hg := hr.lt
  have hc0 := hr.c0
  obtain ⟨o1, hs1, hr1⟩ := cut1 g o n c (r.length + 4) (x0 :: x1 :: x2 :: x3 :: r) 198 (by omega) (by simp) hc
  obtain ⟨o2, hs2, hr2⟩ := cut4 g o1 (r.length + 4) (c - 1) r.length r x0 x1 x2 x3 rfl rfl (by omega)
  obtain ⟨o4, hs4, _⟩ := cutRB g o2 r.length (c - 1 - 4) k r rfl (by omega) (by omega)
  have hrr := hr2 w (hr1 w hr)
  have hmk := fun W => run_make_row' (P := Tryz.prog) 22 5 (.int .u8 0) 1 Tryz.underlying22 info5 rfl .i64 .i64 k (by omega) (by omega) W
  have H := Lib.hid (be32 w g o1 (r.length + 4) (c - 1) x0 x1 x2 x3 r (hr1 w hr) rfl hq0 hq1 hq2 hq3)
  rw [hv] at H
  have hkb : (k : Int) ≤ x0 * 16777216 + x1 * 65536 + x2 * 256 + x3 := by omega
  have HRR := Lib.hid hrr
  clear hr hr1 hr2 hv hrr
  subst hn
  obtain ⟨ha0, hb0⟩ := hq0
  obtain ⟨ha1, hb1⟩ := hq1
  obtain ⟨ha2, hb2⟩ := hq2
  obtain ⟨ha3, hb3⟩ := hq3
  have hki : (0 : Int) < (k : Int) := by omega
  go_enter Tryz.func101, Tryz.ntmps101
  go_wp2_with (first | (go_at_call 85; refine H.out.mono ?_; rintro e w1 ⟨rfl, hb⟩; have hcp := copyMade w1 g o2 r.length (c - 1 - 4) k r (HRR.out.below hb) rfl (by omega); have HBL := Lib.hid (copyMade_bl' w1 k r (by omega))) | go_in)
  go_ret3
  exact ⟨_, _, _, _, by rw [List.length_take, Nat.min_eq_left (by omega)]; rfl, (BL.rb HBL.out).cb (by rw [List.length_take]; omega), below_step (hb) (copyMade_below w1 k _)⟩
end Go.Proofs.YtmliokplekeljaaGreatDoor.M

namespace Go.Proofs.YtmliokplekeljaaGreatDoor.M
open Go.RowKit Go.Proofs.YtmliokplekeljaaGreatDoorW.PrintWords
set_option linter.unusedVariables false
set_option linter.unusedSimpArgs false

theorem run63 (x : Int) (w : World) : (callFunc 63 #[.int .u64 x]).run Tryz.prog w = .ok (.value (.float .f64 x.toNat)) w := by
  rw [@run_callFunc_extern Tryz.prog 63 _ Extern.MathFloatBits.float64frombits Tryz.func63 (by kernel_rfl) (by kernel_rfl) (by kernel_rfl) (by kernel_rfl)]; rfl
theorem run61 (x : Nat) (w : World) : (callFunc 61 #[.float .f64 x]).run Tryz.prog w = .ok (.value (.int .u64 (x : Int))) w := by
  rw [@run_callFunc_extern Tryz.prog 61 _ Extern.MathFloatBits.float64bits Tryz.func61 (by kernel_rfl) (by kernel_rfl) (by kernel_rfl) (by kernel_rfl)]; rfl
theorem run67 (x : Int) (w : World) : (callFunc 67 #[.int .u32 x]).run Tryz.prog w = .ok (.value (.float .f32 x.toNat)) w := by
  rw [@run_callFunc_extern Tryz.prog 67 _ Extern.MathFloatBits.float32frombits Tryz.func67 (by kernel_rfl) (by kernel_rfl) (by kernel_rfl) (by kernel_rfl)]; rfl
theorem run65 (x : Nat) (w : World) : (callFunc 65 #[.float .f32 x]).run Tryz.prog w = .ok (.value (.int .u32 (x : Int))) w := by
  rw [@run_callFunc_extern Tryz.prog 65 _ Extern.MathFloatBits.float32bits Tryz.func65 (by kernel_rfl) (by kernel_rfl) (by kernel_rfl) (by kernel_rfl)]; rfl
theorem cutLit (b o n c : Nat) (k : Nat) (l : List Int) (m : Nat) (hn : n = l.length) (hm : n = m + k) (hc : n ≤ c) :
    ∃ o' : Nat, (∀ W : World, (Instr.slice 22 (.slice (some ⟨b, o, none⟩) n c) (some (.int .i64 (k : Int))) none none).run Tryz.prog W = .ok (.slice (some ⟨b, o', none⟩) m (c - k)) W) := by
  obtain ⟨o', h1, h2⟩ := cutRB b o n c k l hn (by omega) hc
  exact ⟨o', fun W => by have := h1 W; rw [show n - k = m from by omega] at this; exact this⟩
theorem cut5 (b o n c : Nat) (l : List Int) (m : Nat) (hn : n = l.length) (hm : n = m + 5) (hc : n ≤ c) :
    ∃ o' : Nat, (∀ W : World, (Instr.slice 22 (.slice (some ⟨b, o, none⟩) n c) (some (.int .i64 5)) none none).run Tryz.prog W = .ok (.slice (some ⟨b, o', none⟩) m (c - 5)) W) := cutLit b o n c 5 l m hn hm hc
theorem cut9 (b o n c : Nat) (l : List Int) (m : Nat) (hn : n = l.length) (hm : n = m + 9) (hc : n ≤ c) :
    ∃ o' : Nat, (∀ W : World, (Instr.slice 22 (.slice (some ⟨b, o, none⟩) n c) (some (.int .i64 9)) none none).run Tryz.prog W = .ok (.slice (some ⟨b, o', none⟩) m (c - 9)) W) := cutLit b o n c 9 l m hn hm hc

set_option maxRecDepth 100000 in
theorem rf_202 (w : World) (g o n c : Nat) (x0 x1 x2 x3 : Int) (r : List Int) (hr : RB w g o (202 :: x0 :: x1 :: x2 :: x3 :: r)) (hn : n = r.length + 5) (hc : n ≤ c) (hx0 : isB x0) (hx1 : isB x1) (hx2 : isB x2) (hx3 : isB x3) :
    Calls Tryz.prog 64 #[.slice (some ⟨g, o, none⟩) n c] w (Ret3 (.float .f32 (x0 * 16777216 + x1 * 65536 + x2 * 256 + x3).toNat) r.length .nilIface w) := by
  have hg := hr.lt
  have hc0 := hr.c0
  obtain ⟨o1, hs1⟩ := cut5 g o n c (202 :: x0 :: x1 :: x2 :: x3 :: r) r.length (by simp; omega) (by omega) hc
  have H := Lib.hid (getM32 w g o n c 202 x0 x1 x2 x3 r hr hn hx0 hx1 hx2 hx3)
  obtain ⟨y, hy⟩ : ∃ y, y = x0 * 16777216 + x1 * 65536 + x2 * 256 + x3 := ⟨_, rfl⟩
  rw [← hy] at H
  have HY := Lib.hid hy
  clear hr hy
  subst hn
  have hf := run67 y
  go_enter Tryz.func64, Tryz.ntmps64
  go_wp2_with (go_at_call 105; refine H.out.mono ?_; rintro e w1 ⟨rfl, hb⟩)
  go_ret3
  exact ⟨_, _, by rw [← HY.out]; rfl, hb⟩
set_option maxRecDepth 100000 in
theorem rf_202s (w : World) (g o n c : Nat) (r : List Int) (hG : Glob w) (hr : RB w g o (202 :: r)) (hn : n = r.length + 1) (hc : n ≤ c) (hl : r.length < 4) :
    Calls Tryz.prog 64 #[.slice (some ⟨g, o, none⟩) n c] w (Ret3 (.float .f32 0) 0 eShort w) := by
  have hg := hr.lt
  have hc0 := hr.c0
  have h0 := hG.2.1
  clear hr hG
  subst hn
  go_enter Tryz.func64, Tryz.ntmps64
  go_wp2
  go_ret3
  exact ⟨_, _, rfl, Below.refl _ _⟩
set_option maxRecDepth 100000 in
theorem rf_203 (w : World) (g o n c : Nat) (x0 x1 x2 x3 x4 x5 x6 x7 : Int) (r : List Int) (hr : RB w g o (203 :: x0 :: x1 :: x2 :: x3 :: x4 :: x5 :: x6 :: x7 :: r)) (hn : n = r.length + 9) (hc : n ≤ c) (hx0 : isB x0) (hx1 : isB x1) (hx2 : isB x2) (hx3 : isB x3) (hx4 : isB x4) (hx5 : isB x5) (hx6 : isB x6) (hx7 : isB x7) :
    Calls Tryz.prog 60 #[.slice (some ⟨g, o, none⟩) n c] w (Ret3 (.float .f64 (x0 * 72057594037927936 + x1 * 281474976710656 + x2 * 1099511627776 + x3 * 4294967296 + x4 * 16777216 + x5 * 65536 + x6 * 256 + x7).toNat) r.length .nilIface w) := by
  have hg := hr.lt
  have hc0 := hr.c0
  obtain ⟨o1, hs1⟩ := cut9 g o n c (203 :: x0 :: x1 :: x2 :: x3 :: x4 :: x5 :: x6 :: x7 :: r) r.length (by simp; omega) (by omega) hc
  have H := Lib.hid (getM64 w g o n c 203 x0 x1 x2 x3 x4 x5 x6 x7 r hr hn hx0 hx1 hx2 hx3 hx4 hx5 hx6 hx7)
  obtain ⟨y, hy⟩ : ∃ y, y = x0 * 72057594037927936 + x1 * 281474976710656 + x2 * 1099511627776 + x3 * 4294967296 + x4 * 16777216 + x5 * 65536 + x6 * 256 + x7 := ⟨_, rfl⟩
  rw [← hy] at H
  have HY := Lib.hid hy
  clear hr hy
  subst hn
  have hf := run63 y
  go_enter Tryz.func60, Tryz.ntmps60
  go_wp2_with (go_at_call 102; refine H.out.mono ?_; rintro e w1 ⟨rfl, hb⟩)
  go_ret3
  exact ⟨_, _, by rw [← HY.out]; rfl, hb⟩
set_option maxRecDepth 100000 in
theorem rf_203s (w : World) (g o n c : Nat) (r : List Int) (hG : Glob w) (hr : RB w g o (203 :: r)) (hn : n = r.length + 1) (hc : n ≤ c) (hl : r.length < 8) :
    Calls Tryz.prog 60 #[.slice (some ⟨g, o, none⟩) n c] w (Ret3 (.float .f64 0) 0 eShort w) := by
  have hg := hr.lt
  have hc0 := hr.c0
  have h0 := hG.2.1
  clear hr hG
  subst hn
  by_cases h4 : 4 ≤ r.length
  · go_enter Tryz.func60, Tryz.ntmps60
    go_wp2
    go_ret3
    exact ⟨_, _, rfl, Below.refl _ _⟩
  · have h4' : decide ((5 : Int) ≤ (r.length : Int) + 1) = false := by simp; omega
    go_enter Tryz.func60, Tryz.ntmps60
    go_wp2
    go_ret3
    exact ⟨_, _, rfl, Below.refl _ _⟩
end Go.Proofs.YtmliokplekeljaaGreatDoor.M

namespace Go.Proofs.YtmliokplekeljaaGreatDoor.M
open Go.RowKit Go.Proofs.YtmliokplekeljaaGreatDoorW.PrintWords
set_option linter.unusedVariables false
set_option linter.unusedSimpArgs false

set_option maxRecDepth 100000 in
theorem rz_217h (w : World) (g o n c : Nat) (r : List Int) (hG : Glob w) (hr : RB w g o (217 :: r)) (hn : n = r.length + 1) (hc : n ≤ c) (hl : r.length < 1) :
    Calls Tryz.prog 98 #[.slice (some ⟨g, o, none⟩) n c] w (Ret3 (.slice none 0 0) 0 eShort w) := by
  have hg := hr.lt
  have hc0 := hr.c0
  have h0 := hG.2.1
  obtain ⟨o1, hs1, hr1⟩ := cut1 g o n c r.length r 217 (by omega) (by simp) hc
  clear hr hr1 hG
  subst hn
  go_enter Tryz.func98, Tryz.ntmps98
  go_wp2
  go_ret3
  exact ⟨_, _, rfl, Below.refl _ _⟩
set_option maxRecDepth 100000 in
theorem rz_218h (w : World) (g o n c : Nat) (r : List Int) (hG : Glob w) (hr : RB w g o (218 :: r)) (hn : n = r.length + 1) (hc : n ≤ c) (hl : r.length < 2) :
    Calls Tryz.prog 98 #[.slice (some ⟨g, o, none⟩) n c] w (Ret3 (.slice none 0 0) 0 eShort w) := by
  have hg := hr.lt
  have hc0 := hr.c0
  have h0 := hG.2.1
  obtain ⟨o1, hs1, hr1⟩ := cut1 g o n c r.length r 218 (by omega) (by simp) hc
  clear hr hr1 hG
  subst hn
  go_enter Tryz.func98, Tryz.ntmps98
  go_wp2
  go_ret3
  exact ⟨_, _, rfl, Below.refl _ _⟩
set_option maxRecDepth 100000 in
theorem rz_219h (w : World) (g o n c : Nat) (r : List Int) (hG : Glob w) (hr : RB w g o (219 :: r)) (hn : n = r.length + 1) (hc : n ≤ c) (hl : r.length < 4) :
    Calls Tryz.prog 98 #[.slice (some ⟨g, o, none⟩) n c] w (Ret3 (.slice none 0 0) 0 eShort w) := by
  have hg := hr.lt
  have hc0 := hr.c0
  have h0 := hG.2.1
  obtain ⟨o1, hs1, hr1⟩ := cut1 g o n c r.length r 219 (by omega) (by simp) hc
  clear hr hr1 hG
  subst hn
  go_enter Tryz.func98, Tryz.ntmps98
  go_wp2
  go_ret3
  exact ⟨_, _, rfl, Below.refl _ _⟩
set_option maxRecDepth 100000 in
theorem rbin_196h (w : World) (g o n c : Nat) (r : List Int) (hG : Glob w) (hr : RB w g o (196 :: r)) (hn : n = r.length + 1) (hc : n ≤ c) (hl : r.length < 1) :
    Calls Tryz.prog 101 #[.slice (some ⟨g, o, none⟩) n c, .slice none 0 0, .bool false] w (Ret3 (.slice none 0 0) 0 eShort w) := by
  have hg := hr.lt
  have hc0 := hr.c0
  have h0 := hG.2.1
  obtain ⟨o1, hs1, hr1⟩ := cut1 g o n c r.length r 196 (by omega) (by simp) hc
  clear hr hr1 hG
  subst hn
  go_enter Tryz.func101, Tryz.ntmps101
  go_wp2
  go_ret3
  exact ⟨_, _, rfl, Below.refl _ _⟩
set_option maxRecDepth 100000 in
theorem rbin_197h (w : World) (g o n c : Nat) (r : List Int) (hG : Glob w) (hr : RB w g o (197 :: r)) (hn : n = r.length + 1) (hc : n ≤ c) (hl : r.length < 2) :
    Calls Tryz.prog 101 #[.slice (some ⟨g, o, none⟩) n c, .slice none 0 0, .bool false] w (Ret3 (.slice none 0 0) 0 eShort w) := by
  have hg := hr.lt
  have hc0 := hr.c0
  have h0 := hG.2.1
  obtain ⟨o1, hs1, hr1⟩ := cut1 g o n c r.length r 197 (by omega) (by simp) hc
  clear hr hr1 hG
  subst hn
  go_enter Tryz.func101, Tryz.ntmps101
  go_wp2
  go_ret3
  exact ⟨_, _, rfl, Below.refl _ _⟩
set_option maxRecDepth 100000 in
theorem rbin_198h (w : World) (g o n c : Nat) (r : List Int) (hG : Glob w) (hr : RB w g o (198 :: r)) (hn : n = r.length + 1) (hc : n ≤ c) (hl : r.length < 4) :
    Calls Tryz.prog 101 #[.slice (some ⟨g, o, none⟩) n c, .slice none 0 0, .bool false] w (Ret3 (.slice none 0 0) 0 eShort w) := by
  have hg := hr.lt
  have hc0 := hr.c0
  have h0 := hG.2.1
  obtain ⟨o1, hs1, hr1⟩ := cut1 g o n c r.length r 198 (by omega) (by simp) hc
  clear hr hr1 hG
  subst hn
  go_enter Tryz.func101, Tryz.ntmps101
  go_wp2
  go_ret3
  exact ⟨_, _, rfl, Below.refl _ _⟩
abbrev eMap : Value := .iface 76 (.agg #[.int .u8 4, .int .u8 3, .string ByteArray.empty])
set_option maxRecDepth 100000 in
theorem rah_mfix (w : World) (g o n c : Nat) (v : Int) (r : List Int) (hr : RB w g o (v :: r)) (hn : n = r.length + 1) (hc : n ≤ c) (h0 : 128 ≤ v) (h1 : v < 144) (ht : (bs v).2.2 = 3) :
    Calls Tryz.prog 47 #[.slice (some ⟨g, o, none⟩) n c] w (Ret3 (.int .u32 0) 0 eMap w) := by
  have hg := hr.lt
  have hc0 := hr.c0
  obtain ⟨o1, hs1, hr1⟩ := cut1 g o n c r.length r v (by omega) (by simp) hc
  clear hr hr1
  subst hn
  have hb2 : Go.bits .and .u8 v 240 = 128 := by rw [and240 v (by omega) (by omega)]; omega
  have HM := Lib.hid (badPrefix_map v (by omega) (by omega) ht)
  clear ht
  go_enter Tryz.func47, Tryz.ntmps47
  go_wp2_with (first | (go_at_call 86; refine (HM.out _).mono ?_; rintro e w1 ⟨rfl, hb⟩) | go_in)
  go_ret3
  exact ⟨_, _, rfl, hb⟩
set_option maxRecDepth 100000 in
theorem rah_222m (w : World) (g o n c : Nat) (r : List Int) (hr : RB w g o (222 :: r)) (hn : n = r.length + 1) (hc : n ≤ c) (ht : (bs 222).2.2 = 3) :
    Calls Tryz.prog 47 #[.slice (some ⟨g, o, none⟩) n c] w (Ret3 (.int .u32 0) 0 eMap w) := by
  have hg := hr.lt
  have hc0 := hr.c0
  obtain ⟨o1, hs1, hr1⟩ := cut1 g o n c r.length r 222 (by omega) (by simp) hc
  clear hr hr1
  subst hn
  have HM := Lib.hid (badPrefix_map 222 (by omega) (by omega) ht)
  clear ht
  go_enter Tryz.func47, Tryz.ntmps47
  go_wp2_with (first | (go_at_call 86; refine (HM.out _).mono ?_; rintro e w1 ⟨rfl, hb⟩) | go_in)
  go_ret3
  exact ⟨_, _, rfl, hb⟩
set_option maxRecDepth 100000 in
theorem rah_223m (w : World) (g o n c : Nat) (r : List Int) (hr : RB w g o (223 :: r)) (hn : n = r.length + 1) (hc : n ≤ c) (ht : (bs 223).2.2 = 3) :
    Calls Tryz.prog 47 #[.slice (some ⟨g, o, none⟩) n c] w (Ret3 (.int .u32 0) 0 eMap w) := by
  have hg := hr.lt
  have hc0 := hr.c0
  obtain ⟨o1, hs1, hr1⟩ := cut1 g o n c r.length r 223 (by omega) (by simp) hc
  clear hr hr1
  subst hn
  have HM := Lib.hid (badPrefix_map 223 (by omega) (by omega) ht)
  clear ht
  go_enter Tryz.func47, Tryz.ntmps47
  go_wp2_with (first | (go_at_call 86; refine (HM.out _).mono ?_; rintro e w1 ⟨rfl, hb⟩) | go_in)
  go_ret3
  exact ⟨_, _, rfl, hb⟩

theorem conv_rb (w : World) (g o k c : Nat) (xs : List Int) (h : RB w g o xs) (hk : xs.length = k) : (convert 22 9 (.slice (some ⟨g, o, none⟩) k c)).run Tryz.prog w = .ok (.string (strOfNums xs)) w :=
  run_convert_bytes_arg (P := Tryz.prog) w 22 5 Tryz.underlying22 (by kernel_rfl) g o k c xs hk (fun i hi => by rw [← getD_rd]; exact h.cell i (by omega)) 9 (by kernel_rfl)
theorem bytes_str {xs : List Int} (h : ∀ x, x ∈ xs → isB x) : bytesOf (strOfNums xs) = xs := by
  rw [bytesOf, strOfNums_data, List.map_map]
  conv => rhs; rw [← List.map_id xs]
  refine List.map_congr_left fun x hx => ?_
  obtain ⟨h0, h1⟩ := h x hx
  simp only [Function.comp]
  have : (UInt8.ofNat x.toNat).toNat = x.toNat := by rw [UInt8.toNat_ofNat']; omega
  simp only [this, id]; omega
/-- A text that is read. -/
def RetT (s : ByteArray) (m : Nat) (w : World) (e : Ending) (w' : World) : Prop := ∃ A c, e = .returned (.tuple #[.string s, .slice A m c, .nilIface]) ∧ Below w.heap.size w w'
set_option maxRecDepth 100000 in
theorem rs_ok (w : World) (g n c : Nat) (xs : List Int) (m : Nat) (H : Calls Tryz.prog 98 #[.slice (some ⟨g, 0, none⟩) n c] w (RetZ g xs m w)) :
    Calls Tryz.prog 56 #[.slice (some ⟨g, 0, none⟩) n c] w (RetT (strOfNums xs) m w) := by
  have HH := Lib.hid H
  clear H
  go_enter Tryz.func56, Tryz.ntmps56
  go_wp2_with (go_at_call 98; refine HH.out.mono ?_; rintro e w1 ⟨o, c1, A, c', rfl, hrb, hb⟩; have hcv := conv_rb w1 g o xs.length c1 xs hrb rfl)
  go_ret3
  exact ⟨_, _, rfl, hb⟩
set_option maxRecDepth 100000 in
theorem rs_short (w : World) (g n c : Nat) (m : Nat) (H : Calls Tryz.prog 98 #[.slice (some ⟨g, 0, none⟩) n c] w (Ret3 (.slice none 0 0) m eShort w)) :
    Calls Tryz.prog 56 #[.slice (some ⟨g, 0, none⟩) n c] w (Ret3 (.string ByteArray.empty) m eShort w) := by
  have HH := Lib.hid H
  clear H
  have hcv : ∀ W : World, (convert 22 9 (.slice none 0 0)).run Tryz.prog W = .ok (.string ByteArray.empty) W := fun W => run_convert_bytes_nil (P := Tryz.prog) W 22 5 Tryz.underlying22 (by kernel_rfl) 0 0 9 (by kernel_rfl)
  go_enter Tryz.func56, Tryz.ntmps56
  go_wp2_with (go_at_call 98; refine HH.out.mono ?_; rintro e w1 ⟨A, c', rfl, hb⟩)
  go_ret3
  exact ⟨_, _, rfl, hb⟩
set_option maxRecDepth 100000 in
theorem rbb_ok (w : World) (v : Value) (xs : List Int) (m : Nat) (H : Calls Tryz.prog 101 #[v, .slice none 0 0, .bool false] w (RetB xs m w)) :
    Calls Tryz.prog 58 #[v, .slice none 0 0] w (RetB xs m w) := by
  have HH := Lib.hid H
  clear H
  go_enter Tryz.func58, Tryz.ntmps58
  go_wp2_with (go_at_call 101; refine HH.out.mono ?_; rintro e w1 ⟨A, c1, A', c', rfl, hrb, hb⟩)
  go_ret3
  exact ⟨_, _, _, _, rfl, hrb, hb⟩
set_option maxRecDepth 100000 in
theorem rbb_short (w : World) (v : Value) (m : Nat) (H : Calls Tryz.prog 101 #[v, .slice none 0 0, .bool false] w (Ret3 (.slice none 0 0) m eShort w)) :
    Calls Tryz.prog 58 #[v, .slice none 0 0] w (Ret3 (.slice none 0 0) m eShort w) := by
  have HH := Lib.hid H
  clear H
  go_enter Tryz.func58, Tryz.ntmps58
  go_wp2_with (go_at_call 101; refine HH.out.mono ?_; rintro e w1 ⟨A, c1, rfl, hb⟩)
  go_ret3
  exact ⟨_, _, rfl, hb⟩
end Go.Proofs.YtmliokplekeljaaGreatDoor.M
