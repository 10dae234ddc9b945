/- msgp.getSize by contracts. -/
import Derived.Test.YtmliokplekeljaaGreatDoorN20
namespace Go.Proofs.YtmliokplekeljaaGreatDoor.M
open Go.RowKit Go.Proofs.YtmliokplekeljaaGreatDoorW.PrintWords
set_option linter.unusedVariables false
set_option linter.unusedSimpArgs false

/-- What getSize hands back. -/
def RetG (s a : Int) (E : Value) (w : World) (e : Ending) (w' : World) : Prop := e = .returned (.tuple #[.int .u64 s, .int .u64 a, E]) ∧ Below w.heap.size w w'
set_option maxRecDepth 100000 in
theorem gs_nil (w : World) (A : Option Addr) (c : Nat) (hG : Glob w) : Calls Tryz.prog 94 #[.slice A 0 c] w (RetG 0 0 eShort w) := by
  have h0 := hG.2.1
  clear hG
  go_enter Tryz.func94, Tryz.ntmps94
  go_wp2
  go_quiet (fail)
  go_wp2
  go_ret3
  exact ⟨rfl, pw_below_drewN (Below.refl _ _) _⟩
set_option maxRecDepth 100000 in
/-- A first byte without a meaning. -/
theorem gs_193 (w : World) (g o n c : Nat) (r : List Int) (hr : RB w g o (193 :: r)) (hn : n = r.length + 1) : Calls Tryz.prog 94 #[.slice (some ⟨g, o, none⟩) n c] w (RetG 0 0 (.iface 81 (.int .u8 193)) w) := by
  have hg := hr.lt
  have hc0 := hr.c0
  have HS : Hid (∀ W : World, Calls Tryz.prog 55 #[.int .u8 193] W fun e w' => e = .returned (.agg #[.int .u8 0, .int .i8 0, .int .u8 0, .int .u8 0]) ∧ Below W.heap.size W w') := Lib.hid (fun W => getBytespec_any 193 (by omega) (by omega) W)
  clear hr
  subst hn
  go_enter Tryz.func94, Tryz.ntmps94
  go_wp2_with (go_at_call 55; refine (HS.out _).mono ?_; rintro e w1 ⟨rfl, hb⟩)
  go_quiet (fail)
  go_wp2_with (fail)
  go_ret3
  exact ⟨rfl, pw_below_drewN (below_alloc hb _) _⟩
set_option maxRecDepth 100000 in
/-- A length that the first byte tells. -/
theorem gs_fix (w : World) (g o n c : Nat) (v s x t : Int) (r : List Int) (hr : RB w g o (v :: r)) (hn : n = r.length + 1) (h0 : 0 ≤ v) (h1 : v < 256) (hb3 : bs v = (s, x, t)) (hs0 : 0 < s) (hs1 : s < 256) (hx0 : 0 ≤ x) (hx1 : x < 128) : Calls Tryz.prog 94 #[.slice (some ⟨g, o, none⟩) n c] w (RetG s x .nilIface w) := by
  have hg := hr.lt
  have hc0 := hr.c0
  have HS := Lib.hid (getBytespec_any v h0 h1)
  rw [hb3] at HS
  have q0 : (s == 0) = false := by simp; omega
  have hwx : IntKind.u64.wrap x = x := wraps_u64 _ (by omega) (by omega)
  have hws : IntKind.u64.wrap s = s := wraps_u64 _ (by omega) (by omega)
  clear hr hb3
  subst hn
  go_enter Tryz.func94, Tryz.ntmps94
  go_wp2_with (go_at_call 55; refine (HS.out _).mono ?_; rintro e w1 ⟨rfl, hb⟩)
  go_quiet (fail)
  go_wp2_with (fail)
  go_ret3
  exact ⟨rfl, pw_below_drewN (below_alloc hb _) _⟩
set_option maxRecDepth 100000 in
theorem gs_196s (w : World) (g o n c : Nat) (r : List Int) (hG : Glob w) (hr : RB w g o (196 :: r)) (hn : n = r.length + 1) (hl : n < 2) : Calls Tryz.prog 94 #[.slice (some ⟨g, o, none⟩) n c] w (RetG 0 0 eShort w) := by
  have hg := hr.lt
  have hc0 := hr.c0
  have HS : Hid (∀ W : World, Calls Tryz.prog 55 #[.int .u8 196] W fun e w' => e = .returned (.agg #[.int .u8 2, .int .i8 (-1), .int .u8 2, .int .u8 0]) ∧ Below W.heap.size W w') := Lib.hid (fun W => getBytespec_any 196 (by omega) (by omega) W)
  have hlt : ((r.length : Int) + 1) < 2 := by omega
  have HG := Lib.hid hG
  clear hr hl hG
  subst hn
  go_enter Tryz.func94, Tryz.ntmps94
  go_wp2_with (go_at_call 55; refine (HS.out _).mono ?_; rintro e w1 ⟨rfl, hb⟩; have h0 := (HG.out.below hb).2.1; have h5 : 0 < w1.heap.size := Nat.lt_of_lt_of_le (by decide) (HG.out.below hb).1)
  go_quiet (fail)
  go_wp2_with (fail)
  go_quiet (fail)
  go_wp2_with (fail)
  go_ret3
  exact ⟨rfl, pw_below_drewN (pw_below_drewN (below_alloc hb _) _) _⟩
set_option maxRecDepth 100000 in
theorem gs_196 (w : World) (g o n c : Nat) (x0 : Int) (r : List Int) (hr : RB w g o (196 :: x0 :: r)) (hn : n = r.length + 2) (hc : n ≤ c) (hx0 : isB x0) : Calls Tryz.prog 94 #[.slice (some ⟨g, o, none⟩) n c] w (RetG (2 + (x0)) (0) .nilIface w) := by
  have hg := hr.lt
  have hc0 := hr.c0
  have HS : Hid (∀ W : World, Calls Tryz.prog 55 #[.int .u8 196] W fun e w' => e = .returned (.agg #[.int .u8 2, .int .i8 (-1), .int .u8 2, .int .u8 0]) ∧ Below W.heap.size W w') := Lib.hid (fun W => getBytespec_any 196 (by omega) (by omega) W)
  have hc1 := hr.c1
  clear hr
  subst hn
  obtain ⟨ha, hb0⟩ := hx0
  have hsum : IntKind.u64.wrap (2 + x0) = 2 + x0 := wraps_u64 _ (by omega) (by omega)
  go_enter Tryz.func94, Tryz.ntmps94
  go_wp2_with (go_at_call 55; refine (HS.out _).mono ?_; rintro e w1 ⟨rfl, hb⟩; have hd1 := (hb.cell (p := ⟨g, o + 1, none⟩) hg).trans hc1; have hg1 := Nat.lt_of_lt_of_le hg hb.size)
  go_quiet (fail)
  go_wp2_with (fail)
  go_ret3
  exact ⟨rfl, pw_below_drewN (below_alloc hb _) _⟩
set_option maxRecDepth 100000 in
theorem gs_197s (w : World) (g o n c : Nat) (r : List Int) (hG : Glob w) (hr : RB w g o (197 :: r)) (hn : n = r.length + 1) (hl : n < 3) : Calls Tryz.prog 94 #[.slice (some ⟨g, o, none⟩) n c] w (RetG 0 0 eShort w) := by
  have hg := hr.lt
  have hc0 := hr.c0
  have HS : Hid (∀ W : World, Calls Tryz.prog 55 #[.int .u8 197] W fun e w' => e = .returned (.agg #[.int .u8 3, .int .i8 (-2), .int .u8 2, .int .u8 0]) ∧ Below W.heap.size W w') := Lib.hid (fun W => getBytespec_any 197 (by omega) (by omega) W)
  have hlt : ((r.length : Int) + 1) < 3 := by omega
  have HG := Lib.hid hG
  clear hr hl hG
  subst hn
  go_enter Tryz.func94, Tryz.ntmps94
  go_wp2_with (go_at_call 55; refine (HS.out _).mono ?_; rintro e w1 ⟨rfl, hb⟩; have h0 := (HG.out.below hb).2.1; have h5 : 0 < w1.heap.size := Nat.lt_of_lt_of_le (by decide) (HG.out.below hb).1)
  go_quiet (fail)
  go_wp2_with (fail)
  go_quiet (fail)
  go_wp2_with (fail)
  go_ret3
  exact ⟨rfl, pw_below_drewN (pw_below_drewN (below_alloc hb _) _) _⟩
set_option maxRecDepth 100000 in
theorem gs_197 (w : World) (g o n c : Nat) (x0 x1 : Int) (r : List Int) (hr : RB w g o (197 :: x0 :: x1 :: r)) (hn : n = r.length + 3) (hc : n ≤ c) (hx0 : isB x0) (hx1 : isB x1) : Calls Tryz.prog 94 #[.slice (some ⟨g, o, none⟩) n c] w (RetG (3 + (x0 * 256 + x1)) (0) .nilIface w) := by
  have hg := hr.lt
  have hc0 := hr.c0
  have HS : Hid (∀ W : World, Calls Tryz.prog 55 #[.int .u8 197] W fun e w' => e = .returned (.agg #[.int .u8 3, .int .i8 (-2), .int .u8 2, .int .u8 0]) ∧ Below W.heap.size W w') := Lib.hid (fun W => getBytespec_any 197 (by omega) (by omega) W)
  obtain ⟨o1, hs1, hr1⟩ := cut1 g o n c (r.length + 2) (x0 :: x1 :: r) 197 (by omega) (by simp) hc
  have HB := Lib.hid (fun (W : World) (hW : Below w.heap.size w W) => be16 W g o1 (r.length + 2) (c - 1) x0 x1 r ((hr1 w hr).below hW) rfl hx0 hx1)
  clear hr hr1
  subst hn
  obtain ⟨ha0, hb0⟩ := hx0
  obtain ⟨ha1, hb1⟩ := hx1
  have hn0 : 0 ≤ x0 * 256 + x1 ∧ x0 * 256 + x1 < 65536 := by omega
  obtain ⟨hn1, hn2⟩ := hn0
  have hsum : IntKind.u64.wrap (3 + (x0 * 256 + x1)) = 3 + (x0 * 256 + x1) := wraps_u64 _ (by omega) (by omega)
  have hwu : IntKind.u64.wrap (x0 * 256 + x1) = x0 * 256 + x1 := wraps_u64 _ (by omega) (by omega)
  have hws : IntKind.u64.wrap 3 = 3 := wraps_u64 _ (by omega) (by omega)
  clear hn1 hn2 ha0 hb0 ha1 hb1
  go_enter Tryz.func94, Tryz.ntmps94
  go_wp2_with (go_at_call 55; refine (HS.out _).mono ?_; rintro e w1 ⟨rfl, hb⟩)
  go_quiet (fail)
  go_wp2_with (fail)
  go_region_held3 (fun w' => True) (trivial) ((go_at_call 84; refine (HB.out _ (below_drew (pw_below_drewN (below_alloc hb _) _))).mono ?_; rintro e w2 ⟨rfl, hb2⟩))
  go_wp2_with (fail)
  go_ret3
  exact ⟨rfl, belowT (below_drew (pw_below_drewN (below_alloc hb _) _)) hb2⟩
set_option maxRecDepth 100000 in
theorem gs_198s (w : World) (g o n c : Nat) (r : List Int) (hG : Glob w) (hr : RB w g o (198 :: r)) (hn : n = r.length + 1) (hl : n < 5) : Calls Tryz.prog 94 #[.slice (some ⟨g, o, none⟩) n c] w (RetG 0 0 eShort w) := by
  have hg := hr.lt
  have hc0 := hr.c0
  have HS : Hid (∀ W : World, Calls Tryz.prog 55 #[.int .u8 198] W fun e w' => e = .returned (.agg #[.int .u8 5, .int .i8 (-3), .int .u8 2, .int .u8 0]) ∧ Below W.heap.size W w') := Lib.hid (fun W => getBytespec_any 198 (by omega) (by omega) W)
  have hlt : ((r.length : Int) + 1) < 5 := by omega
  have HG := Lib.hid hG
  clear hr hl hG
  subst hn
  go_enter Tryz.func94, Tryz.ntmps94
  go_wp2_with (go_at_call 55; refine (HS.out _).mono ?_; rintro e w1 ⟨rfl, hb⟩; have h0 := (HG.out.below hb).2.1; have h5 : 0 < w1.heap.size := Nat.lt_of_lt_of_le (by decide) (HG.out.below hb).1)
  go_quiet (fail)
  go_wp2_with (fail)
  go_quiet (fail)
  go_wp2_with (fail)
  go_ret3
  exact ⟨rfl, pw_below_drewN (pw_below_drewN (below_alloc hb _) _) _⟩
set_option maxRecDepth 100000 in
theorem gs_198 (w : World) (g o n c : Nat) (x0 x1 x2 x3 : Int) (r : List Int) (hr : RB w g o (198 :: x0 :: x1 :: x2 :: x3 :: r)) (hn : n = r.length + 5) (hc : n ≤ c) (hx0 : isB x0) (hx1 : isB x1) (hx2 : isB x2) (hx3 : isB x3) : Calls Tryz.prog 94 #[.slice (some ⟨g, o, none⟩) n c] w (RetG (5 + (x0 * 16777216 + x1 * 65536 + x2 * 256 + x3)) (0) .nilIface w) := by
  have hg := hr.lt
  have hc0 := hr.c0
  have HS : Hid (∀ W : World, Calls Tryz.prog 55 #[.int .u8 198] W fun e w' => e = .returned (.agg #[.int .u8 5, .int .i8 (-3), .int .u8 2, .int .u8 0]) ∧ Below W.heap.size W w') := Lib.hid (fun W => getBytespec_any 198 (by omega) (by omega) W)
  obtain ⟨o1, hs1, hr1⟩ := cut1 g o n c (r.length + 4) (x0 :: x1 :: x2 :: x3 :: r) 198 (by omega) (by simp) hc
  have HB := Lib.hid (fun (W : World) (hW : Below w.heap.size w W) => be32 W g o1 (r.length + 4) (c - 1) x0 x1 x2 x3 r ((hr1 w hr).below hW) rfl hx0 hx1 hx2 hx3)
  clear hr hr1
  subst hn
  obtain ⟨ha0, hb0⟩ := hx0
  obtain ⟨ha1, hb1⟩ := hx1
  obtain ⟨ha2, hb2⟩ := hx2
  obtain ⟨ha3, hb3⟩ := hx3
  have hn0 : 0 ≤ x0 * 16777216 + x1 * 65536 + x2 * 256 + x3 ∧ x0 * 16777216 + x1 * 65536 + x2 * 256 + x3 < 4294967296 := by omega
  obtain ⟨hn1, hn2⟩ := hn0
  have hsum : IntKind.u64.wrap (5 + (x0 * 16777216 + x1 * 65536 + x2 * 256 + x3)) = 5 + (x0 * 16777216 + x1 * 65536 + x2 * 256 + x3) := wraps_u64 _ (by omega) (by omega)
  have hwu : IntKind.u64.wrap (x0 * 16777216 + x1 * 65536 + x2 * 256 + x3) = x0 * 16777216 + x1 * 65536 + x2 * 256 + x3 := wraps_u64 _ (by omega) (by omega)
  have hws : IntKind.u64.wrap 5 = 5 := wraps_u64 _ (by omega) (by omega)
  clear hn1 hn2 ha0 hb0 ha1 hb1 ha2 hb2 ha3 hb3
  go_enter Tryz.func94, Tryz.ntmps94
  go_wp2_with (go_at_call 55; refine (HS.out _).mono ?_; rintro e w1 ⟨rfl, hb⟩)
  go_quiet (fail)
  go_wp2_with (fail)
  go_region_held3 (fun w' => True) (trivial) ((go_at_call 85; refine (HB.out _ (below_drew (pw_below_drewN (below_alloc hb _) _))).mono ?_; rintro e w2 ⟨rfl, hb2⟩))
  go_wp2_with (fail)
  go_ret3
  exact ⟨rfl, belowT (below_drew (pw_below_drewN (below_alloc hb _) _)) hb2⟩
set_option maxRecDepth 100000 in
theorem gs_199s (w : World) (g o n c : Nat) (r : List Int) (hG : Glob w) (hr : RB w g o (199 :: r)) (hn : n = r.length + 1) (hl : n < 3) : Calls Tryz.prog 94 #[.slice (some ⟨g, o, none⟩) n c] w (RetG 0 0 eShort w) := by
  have hg := hr.lt
  have hc0 := hr.c0
  have HS : Hid (∀ W : World, Calls Tryz.prog 55 #[.int .u8 199] W fun e w' => e = .returned (.agg #[.int .u8 3, .int .i8 (-1), .int .u8 12, .int .u8 0]) ∧ Below W.heap.size W w') := Lib.hid (fun W => getBytespec_any 199 (by omega) (by omega) W)
  have hlt : ((r.length : Int) + 1) < 3 := by omega
  have HG := Lib.hid hG
  clear hr hl hG
  subst hn
  go_enter Tryz.func94, Tryz.ntmps94
  go_wp2_with (go_at_call 55; refine (HS.out _).mono ?_; rintro e w1 ⟨rfl, hb⟩; have h0 := (HG.out.below hb).2.1; have h5 : 0 < w1.heap.size := Nat.lt_of_lt_of_le (by decide) (HG.out.below hb).1)
  go_quiet (fail)
  go_wp2_with (fail)
  go_quiet (fail)
  go_wp2_with (fail)
  go_ret3
  exact ⟨rfl, pw_below_drewN (pw_below_drewN (below_alloc hb _) _) _⟩
set_option maxRecDepth 100000 in
theorem gs_200s (w : World) (g o n c : Nat) (r : List Int) (hG : Glob w) (hr : RB w g o (200 :: r)) (hn : n = r.length + 1) (hl : n < 4) : Calls Tryz.prog 94 #[.slice (some ⟨g, o, none⟩) n c] w (RetG 0 0 eShort w) := by
  have hg := hr.lt
  have hc0 := hr.c0
  have HS : Hid (∀ W : World, Calls Tryz.prog 55 #[.int .u8 200] W fun e w' => e = .returned (.agg #[.int .u8 4, .int .i8 (-2), .int .u8 12, .int .u8 0]) ∧ Below W.heap.size W w') := Lib.hid (fun W => getBytespec_any 200 (by omega) (by omega) W)
  have hlt : ((r.length : Int) + 1) < 4 := by omega
  have HG := Lib.hid hG
  clear hr hl hG
  subst hn
  go_enter Tryz.func94, Tryz.ntmps94
  go_wp2_with (go_at_call 55; refine (HS.out _).mono ?_; rintro e w1 ⟨rfl, hb⟩; have h0 := (HG.out.below hb).2.1; have h5 : 0 < w1.heap.size := Nat.lt_of_lt_of_le (by decide) (HG.out.below hb).1)
  go_quiet (fail)
  go_wp2_with (fail)
  go_quiet (fail)
  go_wp2_with (fail)
  go_ret3
  exact ⟨rfl, pw_below_drewN (pw_below_drewN (below_alloc hb _) _) _⟩
set_option maxRecDepth 100000 in
theorem gs_201s (w : World) (g o n c : Nat) (r : List Int) (hG : Glob w) (hr : RB w g o (201 :: r)) (hn : n = r.length + 1) (hl : n < 6) : Calls Tryz.prog 94 #[.slice (some ⟨g, o, none⟩) n c] w (RetG 0 0 eShort w) := by
  have hg := hr.lt
  have hc0 := hr.c0
  have HS : Hid (∀ W : World, Calls Tryz.prog 55 #[.int .u8 201] W fun e w' => e = .returned (.agg #[.int .u8 6, .int .i8 (-3), .int .u8 12, .int .u8 0]) ∧ Below W.heap.size W w') := Lib.hid (fun W => getBytespec_any 201 (by omega) (by omega) W)
  have hlt : ((r.length : Int) + 1) < 6 := by omega
  have HG := Lib.hid hG
  clear hr hl hG
  subst hn
  go_enter Tryz.func94, Tryz.ntmps94
  go_wp2_with (go_at_call 55; refine (HS.out _).mono ?_; rintro e w1 ⟨rfl, hb⟩; have h0 := (HG.out.below hb).2.1; have h5 : 0 < w1.heap.size := Nat.lt_of_lt_of_le (by decide) (HG.out.below hb).1)
  go_quiet (fail)
  go_wp2_with (fail)
  go_quiet (fail)
  go_wp2_with (fail)
  go_ret3
  exact ⟨rfl, pw_below_drewN (pw_below_drewN (below_alloc hb _) _) _⟩
set_option maxRecDepth 100000 in
theorem gs_217s (w : World) (g o n c : Nat) (r : List Int) (hG : Glob w) (hr : RB w g o (217 :: r)) (hn : n = r.length + 1) (hl : n < 2) : Calls Tryz.prog 94 #[.slice (some ⟨g, o, none⟩) n c] w (RetG 0 0 eShort w) := by
  have hg := hr.lt
  have hc0 := hr.c0
  have HS : Hid (∀ W : World, Calls Tryz.prog 55 #[.int .u8 217] W fun e w' => e = .returned (.agg #[.int .u8 2, .int .i8 (-1), .int .u8 1, .int .u8 0]) ∧ Below W.heap.size W w') := Lib.hid (fun W => getBytespec_any 217 (by omega) (by omega) W)
  have hlt : ((r.length : Int) + 1) < 2 := by omega
  have HG := Lib.hid hG
  clear hr hl hG
  subst hn
  go_enter Tryz.func94, Tryz.ntmps94
  go_wp2_with (go_at_call 55; refine (HS.out _).mono ?_; rintro e w1 ⟨rfl, hb⟩; have h0 := (HG.out.below hb).2.1; have h5 : 0 < w1.heap.size := Nat.lt_of_lt_of_le (by decide) (HG.out.below hb).1)
  go_quiet (fail)
  go_wp2_with (fail)
  go_quiet (fail)
  go_wp2_with (fail)
  go_ret3
  exact ⟨rfl, pw_below_drewN (pw_below_drewN (below_alloc hb _) _) _⟩
set_option maxRecDepth 100000 in
theorem gs_217 (w : World) (g o n c : Nat) (x0 : Int) (r : List Int) (hr : RB w g o (217 :: x0 :: r)) (hn : n = r.length + 2) (hc : n ≤ c) (hx0 : isB x0) : Calls Tryz.prog 94 #[.slice (some ⟨g, o, none⟩) n c] w (RetG (2 + (x0)) (0) .nilIface w) := by
  have hg := hr.lt
  have hc0 := hr.c0
  have HS : Hid (∀ W : World, Calls Tryz.prog 55 #[.int .u8 217] W fun e w' => e = .returned (.agg #[.int .u8 2, .int .i8 (-1), .int .u8 1, .int .u8 0]) ∧ Below W.heap.size W w') := Lib.hid (fun W => getBytespec_any 217 (by omega) (by omega) W)
  have hc1 := hr.c1
  clear hr
  subst hn
  obtain ⟨ha, hb0⟩ := hx0
  have hsum : IntKind.u64.wrap (2 + x0) = 2 + x0 := wraps_u64 _ (by omega) (by omega)
  go_enter Tryz.func94, Tryz.ntmps94
  go_wp2_with (go_at_call 55; refine (HS.out _).mono ?_; rintro e w1 ⟨rfl, hb⟩; have hd1 := (hb.cell (p := ⟨g, o + 1, none⟩) hg).trans hc1; have hg1 := Nat.lt_of_lt_of_le hg hb.size)
  go_quiet (fail)
  go_wp2_with (fail)
  go_ret3
  exact ⟨rfl, pw_below_drewN (below_alloc hb _) _⟩
set_option maxRecDepth 100000 in
theorem gs_218s (w : World) (g o n c : Nat) (r : List Int) (hG : Glob w) (hr : RB w g o (218 :: r)) (hn : n = r.length + 1) (hl : n < 3) : Calls Tryz.prog 94 #[.slice (some ⟨g, o, none⟩) n c] w (RetG 0 0 eShort w) := by
  have hg := hr.lt
  have hc0 := hr.c0
  have HS : Hid (∀ W : World, Calls Tryz.prog 55 #[.int .u8 218] W fun e w' => e = .returned (.agg #[.int .u8 3, .int .i8 (-2), .int .u8 1, .int .u8 0]) ∧ Below W.heap.size W w') := Lib.hid (fun W => getBytespec_any 218 (by omega) (by omega) W)
  have hlt : ((r.length : Int) + 1) < 3 := by omega
  have HG := Lib.hid hG
  clear hr hl hG
  subst hn
  go_enter Tryz.func94, Tryz.ntmps94
  go_wp2_with (go_at_call 55; refine (HS.out _).mono ?_; rintro e w1 ⟨rfl, hb⟩; have h0 := (HG.out.below hb).2.1; have h5 : 0 < w1.heap.size := Nat.lt_of_lt_of_le (by decide) (HG.out.below hb).1)
  go_quiet (fail)
  go_wp2_with (fail)
  go_quiet (fail)
  go_wp2_with (fail)
  go_ret3
  exact ⟨rfl, pw_below_drewN (pw_below_drewN (below_alloc hb _) _) _⟩
set_option maxRecDepth 100000 in
theorem gs_218 (w : World) (g o n c : Nat) (x0 x1 : Int) (r : List Int) (hr : RB w g o (218 :: x0 :: x1 :: r)) (hn : n = r.length + 3) (hc : n ≤ c) (hx0 : isB x0) (hx1 : isB x1) : Calls Tryz.prog 94 #[.slice (some ⟨g, o, none⟩) n c] w (RetG (3 + (x0 * 256 + x1)) (0) .nilIface w) := by
  have hg := hr.lt
  have hc0 := hr.c0
  have HS : Hid (∀ W : World, Calls Tryz.prog 55 #[.int .u8 218] W fun e w' => e = .returned (.agg #[.int .u8 3, .int .i8 (-2), .int .u8 1, .int .u8 0]) ∧ Below W.heap.size W w') := Lib.hid (fun W => getBytespec_any 218 (by omega) (by omega) W)
  obtain ⟨o1, hs1, hr1⟩ := cut1 g o n c (r.length + 2) (x0 :: x1 :: r) 218 (by omega) (by simp) hc
  have HB := Lib.hid (fun (W : World) (hW : Below w.heap.size w W) => be16 W g o1 (r.length + 2) (c - 1) x0 x1 r ((hr1 w hr).below hW) rfl hx0 hx1)
  clear hr hr1
  subst hn
  obtain ⟨ha0, hb0⟩ := hx0
  obtain ⟨ha1, hb1⟩ := hx1
  have hn0 : 0 ≤ x0 * 256 + x1 ∧ x0 * 256 + x1 < 65536 := by omega
  obtain ⟨hn1, hn2⟩ := hn0
  have hsum : IntKind.u64.wrap (3 + (x0 * 256 + x1)) = 3 + (x0 * 256 + x1) := wraps_u64 _ (by omega) (by omega)
  have hwu : IntKind.u64.wrap (x0 * 256 + x1) = x0 * 256 + x1 := wraps_u64 _ (by omega) (by omega)
  have hws : IntKind.u64.wrap 3 = 3 := wraps_u64 _ (by omega) (by omega)
  clear hn1 hn2 ha0 hb0 ha1 hb1
  go_enter Tryz.func94, Tryz.ntmps94
  go_wp2_with (go_at_call 55; refine (HS.out _).mono ?_; rintro e w1 ⟨rfl, hb⟩)
  go_quiet (fail)
  go_wp2_with (fail)
  go_region_held3 (fun w' => True) (trivial) ((go_at_call 84; refine (HB.out _ (below_drew (pw_below_drewN (below_alloc hb _) _))).mono ?_; rintro e w2 ⟨rfl, hb2⟩))
  go_wp2_with (fail)
  go_ret3
  exact ⟨rfl, belowT (below_drew (pw_below_drewN (below_alloc hb _) _)) hb2⟩
set_option maxRecDepth 100000 in
theorem gs_219s (w : World) (g o n c : Nat) (r : List Int) (hG : Glob w) (hr : RB w g o (219 :: r)) (hn : n = r.length + 1) (hl : n < 5) : Calls Tryz.prog 94 #[.slice (some ⟨g, o, none⟩) n c] w (RetG 0 0 eShort w) := by
  have hg := hr.lt
  have hc0 := hr.c0
  have HS : Hid (∀ W : World, Calls Tryz.prog 55 #[.int .u8 219] W fun e w' => e = .returned (.agg #[.int .u8 5, .int .i8 (-3), .int .u8 1, .int .u8 0]) ∧ Below W.heap.size W w') := Lib.hid (fun W => getBytespec_any 219 (by omega) (by omega) W)
  have hlt : ((r.length : Int) + 1) < 5 := by omega
  have HG := Lib.hid hG
  clear hr hl hG
  subst hn
  go_enter Tryz.func94, Tryz.ntmps94
  go_wp2_with (go_at_call 55; refine (HS.out _).mono ?_; rintro e w1 ⟨rfl, hb⟩; have h0 := (HG.out.below hb).2.1; have h5 : 0 < w1.heap.size := Nat.lt_of_lt_of_le (by decide) (HG.out.below hb).1)
  go_quiet (fail)
  go_wp2_with (fail)
  go_quiet (fail)
  go_wp2_with (fail)
  go_ret3
  exact ⟨rfl, pw_below_drewN (pw_below_drewN (below_alloc hb _) _) _⟩
set_option maxRecDepth 100000 in
theorem gs_219 (w : World) (g o n c : Nat) (x0 x1 x2 x3 : Int) (r : List Int) (hr : RB w g o (219 :: x0 :: x1 :: x2 :: x3 :: r)) (hn : n = r.length + 5) (hc : n ≤ c) (hx0 : isB x0) (hx1 : isB x1) (hx2 : isB x2) (hx3 : isB x3) : Calls Tryz.prog 94 #[.slice (some ⟨g, o, none⟩) n c] w (RetG (5 + (x0 * 16777216 + x1 * 65536 + x2 * 256 + x3)) (0) .nilIface w) := by
  have hg := hr.lt
  have hc0 := hr.c0
  have HS : Hid (∀ W : World, Calls Tryz.prog 55 #[.int .u8 219] W fun e w' => e = .returned (.agg #[.int .u8 5, .int .i8 (-3), .int .u8 1, .int .u8 0]) ∧ Below W.heap.size W w') := Lib.hid (fun W => getBytespec_any 219 (by omega) (by omega) W)
  obtain ⟨o1, hs1, hr1⟩ := cut1 g o n c (r.length + 4) (x0 :: x1 :: x2 :: x3 :: r) 219 (by omega) (by simp) hc
  have HB := Lib.hid (fun (W : World) (hW : Below w.heap.size w W) => be32 W g o1 (r.length + 4) (c - 1) x0 x1 x2 x3 r ((hr1 w hr).below hW) rfl hx0 hx1 hx2 hx3)
  clear hr hr1
  subst hn
  obtain ⟨ha0, hb0⟩ := hx0
  obtain ⟨ha1, hb1⟩ := hx1
  obtain ⟨ha2, hb2⟩ := hx2
  obtain ⟨ha3, hb3⟩ := hx3
  have hn0 : 0 ≤ x0 * 16777216 + x1 * 65536 + x2 * 256 + x3 ∧ x0 * 16777216 + x1 * 65536 + x2 * 256 + x3 < 4294967296 := by omega
  obtain ⟨hn1, hn2⟩ := hn0
  have hsum : IntKind.u64.wrap (5 + (x0 * 16777216 + x1 * 65536 + x2 * 256 + x3)) = 5 + (x0 * 16777216 + x1 * 65536 + x2 * 256 + x3) := wraps_u64 _ (by omega) (by omega)
  have hwu : IntKind.u64.wrap (x0 * 16777216 + x1 * 65536 + x2 * 256 + x3) = x0 * 16777216 + x1 * 65536 + x2 * 256 + x3 := wraps_u64 _ (by omega) (by omega)
  have hws : IntKind.u64.wrap 5 = 5 := wraps_u64 _ (by omega) (by omega)
  clear hn1 hn2 ha0 hb0 ha1 hb1 ha2 hb2 ha3 hb3
  go_enter Tryz.func94, Tryz.ntmps94
  go_wp2_with (go_at_call 55; refine (HS.out _).mono ?_; rintro e w1 ⟨rfl, hb⟩)
  go_quiet (fail)
  go_wp2_with (fail)
  go_region_held3 (fun w' => True) (trivial) ((go_at_call 85; refine (HB.out _ (below_drew (pw_below_drewN (below_alloc hb _) _))).mono ?_; rintro e w2 ⟨rfl, hb2⟩))
  go_wp2_with (fail)
  go_ret3
  exact ⟨rfl, belowT (below_drew (pw_below_drewN (below_alloc hb _) _)) hb2⟩
set_option maxRecDepth 100000 in
theorem gs_220s (w : World) (g o n c : Nat) (r : List Int) (hG : Glob w) (hr : RB w g o (220 :: r)) (hn : n = r.length + 1) (hl : n < 3) : Calls Tryz.prog 94 #[.slice (some ⟨g, o, none⟩) n c] w (RetG 0 0 eShort w) := by
  have hg := hr.lt
  have hc0 := hr.c0
  have HS : Hid (∀ W : World, Calls Tryz.prog 55 #[.int .u8 220] W fun e w' => e = .returned (.agg #[.int .u8 3, .int .i8 (-6), .int .u8 4, .int .u8 0]) ∧ Below W.heap.size W w') := Lib.hid (fun W => getBytespec_any 220 (by omega) (by omega) W)
  have hlt : ((r.length : Int) + 1) < 3 := by omega
  have HG := Lib.hid hG
  clear hr hl hG
  subst hn
  go_enter Tryz.func94, Tryz.ntmps94
  go_wp2_with (go_at_call 55; refine (HS.out _).mono ?_; rintro e w1 ⟨rfl, hb⟩; have h0 := (HG.out.below hb).2.1; have h5 : 0 < w1.heap.size := Nat.lt_of_lt_of_le (by decide) (HG.out.below hb).1)
  go_quiet (fail)
  go_wp2_with (fail)
  go_quiet (fail)
  go_wp2_with (fail)
  go_ret3
  exact ⟨rfl, pw_below_drewN (pw_below_drewN (below_alloc hb _) _) _⟩
set_option maxRecDepth 100000 in
theorem gs_220 (w : World) (g o n c : Nat) (x0 x1 : Int) (r : List Int) (hr : RB w g o (220 :: x0 :: x1 :: r)) (hn : n = r.length + 3) (hc : n ≤ c) (hx0 : isB x0) (hx1 : isB x1) : Calls Tryz.prog 94 #[.slice (some ⟨g, o, none⟩) n c] w (RetG (3) (x0 * 256 + x1) .nilIface w) := by
  have hg := hr.lt
  have hc0 := hr.c0
  have HS : Hid (∀ W : World, Calls Tryz.prog 55 #[.int .u8 220] W fun e w' => e = .returned (.agg #[.int .u8 3, .int .i8 (-6), .int .u8 4, .int .u8 0]) ∧ Below W.heap.size W w') := Lib.hid (fun W => getBytespec_any 220 (by omega) (by omega) W)
  obtain ⟨o1, hs1, hr1⟩ := cut1 g o n c (r.length + 2) (x0 :: x1 :: r) 220 (by omega) (by simp) hc
  have HB := Lib.hid (fun (W : World) (hW : Below w.heap.size w W) => be16 W g o1 (r.length + 2) (c - 1) x0 x1 r ((hr1 w hr).below hW) rfl hx0 hx1)
  clear hr hr1
  subst hn
  obtain ⟨ha0, hb0⟩ := hx0
  obtain ⟨ha1, hb1⟩ := hx1
  have hn0 : 0 ≤ x0 * 256 + x1 ∧ x0 * 256 + x1 < 65536 := by omega
  obtain ⟨hn1, hn2⟩ := hn0
  have hwu : IntKind.u64.wrap (x0 * 256 + x1) = x0 * 256 + x1 := wraps_u64 _ (by omega) (by omega)
  have hws : IntKind.u64.wrap 3 = 3 := wraps_u64 _ (by omega) (by omega)
  clear hn1 hn2 ha0 hb0 ha1 hb1
  go_enter Tryz.func94, Tryz.ntmps94
  go_wp2_with (go_at_call 55; refine (HS.out _).mono ?_; rintro e w1 ⟨rfl, hb⟩)
  go_quiet (fail)
  go_wp2_with (fail)
  go_region_held3 (fun w' => True) (trivial) ((go_at_call 84; refine (HB.out _ (below_drew (pw_below_drewN (below_alloc hb _) _))).mono ?_; rintro e w2 ⟨rfl, hb2⟩))
  go_wp2_with (fail)
  go_ret3
  exact ⟨rfl, belowT (below_drew (pw_below_drewN (below_alloc hb _) _)) hb2⟩
set_option maxRecDepth 100000 in
theorem gs_221s (w : World) (g o n c : Nat) (r : List Int) (hG : Glob w) (hr : RB w g o (221 :: r)) (hn : n = r.length + 1) (hl : n < 5) : Calls Tryz.prog 94 #[.slice (some ⟨g, o, none⟩) n c] w (RetG 0 0 eShort w) := by
  have hg := hr.lt
  have hc0 := hr.c0
  have HS : Hid (∀ W : World, Calls Tryz.prog 55 #[.int .u8 221] W fun e w' => e = .returned (.agg #[.int .u8 5, .int .i8 (-7), .int .u8 4, .int .u8 0]) ∧ Below W.heap.size W w') := Lib.hid (fun W => getBytespec_any 221 (by omega) (by omega) W)
  have hlt : ((r.length : Int) + 1) < 5 := by omega
  have HG := Lib.hid hG
  clear hr hl hG
  subst hn
  go_enter Tryz.func94, Tryz.ntmps94
  go_wp2_with (go_at_call 55; refine (HS.out _).mono ?_; rintro e w1 ⟨rfl, hb⟩; have h0 := (HG.out.below hb).2.1; have h5 : 0 < w1.heap.size := Nat.lt_of_lt_of_le (by decide) (HG.out.below hb).1)
  go_quiet (fail)
  go_wp2_with (fail)
  go_quiet (fail)
  go_wp2_with (fail)
  go_ret3
  exact ⟨rfl, pw_below_drewN (pw_below_drewN (below_alloc hb _) _) _⟩
set_option maxRecDepth 100000 in
theorem gs_221 (w : World) (g o n c : Nat) (x0 x1 x2 x3 : Int) (r : List Int) (hr : RB w g o (221 :: x0 :: x1 :: x2 :: x3 :: r)) (hn : n = r.length + 5) (hc : n ≤ c) (hx0 : isB x0) (hx1 : isB x1) (hx2 : isB x2) (hx3 : isB x3) : Calls Tryz.prog 94 #[.slice (some ⟨g, o, none⟩) n c] w (RetG (5) (x0 * 16777216 + x1 * 65536 + x2 * 256 + x3) .nilIface w) := by
  have hg := hr.lt
  have hc0 := hr.c0
  have HS : Hid (∀ W : World, Calls Tryz.prog 55 #[.int .u8 221] W fun e w' => e = .returned (.agg #[.int .u8 5, .int .i8 (-7), .int .u8 4, .int .u8 0]) ∧ Below W.heap.size W w') := Lib.hid (fun W => getBytespec_any 221 (by omega) (by omega) W)
  obtain ⟨o1, hs1, hr1⟩ := cut1 g o n c (r.length + 4) (x0 :: x1 :: x2 :: x3 :: r) 221 (by omega) (by simp) hc
  have HB := Lib.hid (fun (W : World) (hW : Below w.heap.size w W) => be32 W g o1 (r.length + 4) (c - 1) x0 x1 x2 x3 r ((hr1 w hr).below hW) rfl hx0 hx1 hx2 hx3)
  clear hr hr1
  subst hn
  obtain ⟨ha0, hb0⟩ := hx0
  obtain ⟨ha1, hb1⟩ := hx1
  obtain ⟨ha2, hb2⟩ := hx2
  obtain ⟨ha3, hb3⟩ := hx3
  have hn0 : 0 ≤ x0 * 16777216 + x1 * 65536 + x2 * 256 + x3 ∧ x0 * 16777216 + x1 * 65536 + x2 * 256 + x3 < 4294967296 := by omega
  obtain ⟨hn1, hn2⟩ := hn0
  have hwu : IntKind.u64.wrap (x0 * 16777216 + x1 * 65536 + x2 * 256 + x3) = x0 * 16777216 + x1 * 65536 + x2 * 256 + x3 := wraps_u64 _ (by omega) (by omega)
  have hws : IntKind.u64.wrap 5 = 5 := wraps_u64 _ (by omega) (by omega)
  clear hn1 hn2 ha0 hb0 ha1 hb1 ha2 hb2 ha3 hb3
  go_enter Tryz.func94, Tryz.ntmps94
  go_wp2_with (go_at_call 55; refine (HS.out _).mono ?_; rintro e w1 ⟨rfl, hb⟩)
  go_quiet (fail)
  go_wp2_with (fail)
  go_region_held3 (fun w' => True) (trivial) ((go_at_call 85; refine (HB.out _ (below_drew (pw_below_drewN (below_alloc hb _) _))).mono ?_; rintro e w2 ⟨rfl, hb2⟩))
  go_wp2_with (fail)
  go_ret3
  exact ⟨rfl, belowT (below_drew (pw_below_drewN (below_alloc hb _) _)) hb2⟩
set_option maxRecDepth 100000 in
theorem gs_222s (w : World) (g o n c : Nat) (r : List Int) (hG : Glob w) (hr : RB w g o (222 :: r)) (hn : n = r.length + 1) (hl : n < 3) : Calls Tryz.prog 94 #[.slice (some ⟨g, o, none⟩) n c] w (RetG 0 0 eShort w) := by
  have hg := hr.lt
  have hc0 := hr.c0
  have HS : Hid (∀ W : World, Calls Tryz.prog 55 #[.int .u8 222] W fun e w' => e = .returned (.agg #[.int .u8 3, .int .i8 (-4), .int .u8 3, .int .u8 0]) ∧ Below W.heap.size W w') := Lib.hid (fun W => getBytespec_any 222 (by omega) (by omega) W)
  have hlt : ((r.length : Int) + 1) < 3 := by omega
  have HG := Lib.hid hG
  clear hr hl hG
  subst hn
  go_enter Tryz.func94, Tryz.ntmps94
  go_wp2_with (go_at_call 55; refine (HS.out _).mono ?_; rintro e w1 ⟨rfl, hb⟩; have h0 := (HG.out.below hb).2.1; have h5 : 0 < w1.heap.size := Nat.lt_of_lt_of_le (by decide) (HG.out.below hb).1)
  go_quiet (fail)
  go_wp2_with (fail)
  go_quiet (fail)
  go_wp2_with (fail)
  go_ret3
  exact ⟨rfl, pw_below_drewN (pw_below_drewN (below_alloc hb _) _) _⟩
set_option maxRecDepth 100000 in
theorem gs_222 (w : World) (g o n c : Nat) (x0 x1 : Int) (r : List Int) (hr : RB w g o (222 :: x0 :: x1 :: r)) (hn : n = r.length + 3) (hc : n ≤ c) (hx0 : isB x0) (hx1 : isB x1) : Calls Tryz.prog 94 #[.slice (some ⟨g, o, none⟩) n c] w (RetG (3) (2 * (x0 * 256 + x1)) .nilIface w) := by
  have hg := hr.lt
  have hc0 := hr.c0
  have HS : Hid (∀ W : World, Calls Tryz.prog 55 #[.int .u8 222] W fun e w' => e = .returned (.agg #[.int .u8 3, .int .i8 (-4), .int .u8 3, .int .u8 0]) ∧ Below W.heap.size W w') := Lib.hid (fun W => getBytespec_any 222 (by omega) (by omega) W)
  obtain ⟨o1, hs1, hr1⟩ := cut1 g o n c (r.length + 2) (x0 :: x1 :: r) 222 (by omega) (by simp) hc
  have HB := Lib.hid (fun (W : World) (hW : Below w.heap.size w W) => be16 W g o1 (r.length + 2) (c - 1) x0 x1 r ((hr1 w hr).below hW) rfl hx0 hx1)
  clear hr hr1
  subst hn
  obtain ⟨ha0, hb0⟩ := hx0
  obtain ⟨ha1, hb1⟩ := hx1
  have hn0 : 0 ≤ x0 * 256 + x1 ∧ x0 * 256 + x1 < 65536 := by omega
  obtain ⟨hn1, hn2⟩ := hn0
  have hsum : IntKind.u64.wrap (2 * (x0 * 256 + x1)) = 2 * (x0 * 256 + x1) := wraps_u64 _ (by omega) (by omega)
  have hwu : IntKind.u64.wrap (x0 * 256 + x1) = x0 * 256 + x1 := wraps_u64 _ (by omega) (by omega)
  have hws : IntKind.u64.wrap 3 = 3 := wraps_u64 _ (by omega) (by omega)
  clear hn1 hn2 ha0 hb0 ha1 hb1
  go_enter Tryz.func94, Tryz.ntmps94
  go_wp2_with (go_at_call 55; refine (HS.out _).mono ?_; rintro e w1 ⟨rfl, hb⟩)
  go_quiet (fail)
  go_wp2_with (fail)
  go_region_held3 (fun w' => True) (trivial) ((go_at_call 84; refine (HB.out _ (below_drew (pw_below_drewN (below_alloc hb _) _))).mono ?_; rintro e w2 ⟨rfl, hb2⟩))
  go_wp2_with (fail)
  go_ret3
  exact ⟨rfl, belowT (below_drew (pw_below_drewN (below_alloc hb _) _)) hb2⟩
set_option maxRecDepth 100000 in
theorem gs_223s (w : World) (g o n c : Nat) (r : List Int) (hG : Glob w) (hr : RB w g o (223 :: r)) (hn : n = r.length + 1) (hl : n < 5) : Calls Tryz.prog 94 #[.slice (some ⟨g, o, none⟩) n c] w (RetG 0 0 eShort w) := by
  have hg := hr.lt
  have hc0 := hr.c0
  have HS : Hid (∀ W : World, Calls Tryz.prog 55 #[.int .u8 223] W fun e w' => e = .returned (.agg #[.int .u8 5, .int .i8 (-5), .int .u8 3, .int .u8 0]) ∧ Below W.heap.size W w') := Lib.hid (fun W => getBytespec_any 223 (by omega) (by omega) W)
  have hlt : ((r.length : Int) + 1) < 5 := by omega
  have HG := Lib.hid hG
  clear hr hl hG
  subst hn
  go_enter Tryz.func94, Tryz.ntmps94
  go_wp2_with (go_at_call 55; refine (HS.out _).mono ?_; rintro e w1 ⟨rfl, hb⟩; have h0 := (HG.out.below hb).2.1; have h5 : 0 < w1.heap.size := Nat.lt_of_lt_of_le (by decide) (HG.out.below hb).1)
  go_quiet (fail)
  go_wp2_with (fail)
  go_quiet (fail)
  go_wp2_with (fail)
  go_ret3
  exact ⟨rfl, pw_below_drewN (pw_below_drewN (below_alloc hb _) _) _⟩
set_option maxRecDepth 100000 in
theorem gs_223 (w : World) (g o n c : Nat) (x0 x1 x2 x3 : Int) (r : List Int) (hr : RB w g o (223 :: x0 :: x1 :: x2 :: x3 :: r)) (hn : n = r.length + 5) (hc : n ≤ c) (hx0 : isB x0) (hx1 : isB x1) (hx2 : isB x2) (hx3 : isB x3) : Calls Tryz.prog 94 #[.slice (some ⟨g, o, none⟩) n c] w (RetG (5) (2 * (x0 * 16777216 + x1 * 65536 + x2 * 256 + x3)) .nilIface w) := by
  have hg := hr.lt
  have hc0 := hr.c0
  have HS : Hid (∀ W : World, Calls Tryz.prog 55 #[.int .u8 223] W fun e w' => e = .returned (.agg #[.int .u8 5, .int .i8 (-5), .int .u8 3, .int .u8 0]) ∧ Below W.heap.size W w') := Lib.hid (fun W => getBytespec_any 223 (by omega) (by omega) W)
  obtain ⟨o1, hs1, hr1⟩ := cut1 g o n c (r.length + 4) (x0 :: x1 :: x2 :: x3 :: r) 223 (by omega) (by simp) hc
  have HB := Lib.hid (fun (W : World) (hW : Below w.heap.size w W) => be32 W g o1 (r.length + 4) (c - 1) x0 x1 x2 x3 r ((hr1 w hr).below hW) rfl hx0 hx1 hx2 hx3)
  clear hr hr1
  subst hn
  obtain ⟨ha0, hb0⟩ := hx0
  obtain ⟨ha1, hb1⟩ := hx1
  obtain ⟨ha2, hb2⟩ := hx2
  obtain ⟨ha3, hb3⟩ := hx3
  have hn0 : 0 ≤ x0 * 16777216 + x1 * 65536 + x2 * 256 + x3 ∧ x0 * 16777216 + x1 * 65536 + x2 * 256 + x3 < 4294967296 := by omega
  obtain ⟨hn1, hn2⟩ := hn0
  have hsum : IntKind.u64.wrap (2 * (x0 * 16777216 + x1 * 65536 + x2 * 256 + x3)) = 2 * (x0 * 16777216 + x1 * 65536 + x2 * 256 + x3) := wraps_u64 _ (by omega) (by omega)
  have hwu : IntKind.u64.wrap (x0 * 16777216 + x1 * 65536 + x2 * 256 + x3) = x0 * 16777216 + x1 * 65536 + x2 * 256 + x3 := wraps_u64 _ (by omega) (by omega)
  have hws : IntKind.u64.wrap 5 = 5 := wraps_u64 _ (by omega) (by omega)
  clear hn1 hn2 ha0 hb0 ha1 hb1 ha2 hb2 ha3 hb3
  go_enter Tryz.func94, Tryz.ntmps94
  go_wp2_with (go_at_call 55; refine (HS.out _).mono ?_; rintro e w1 ⟨rfl, hb⟩)
  go_quiet (fail)
  go_wp2_with (fail)
  go_region_held3 (fun w' => True) (trivial) ((go_at_call 85; refine (HB.out _ (below_drew (pw_below_drewN (below_alloc hb _) _))).mono ?_; rintro e w2 ⟨rfl, hb2⟩))
  go_wp2_with (fail)
  go_ret3
  exact ⟨rfl, belowT (below_drew (pw_below_drewN (below_alloc hb _) _)) hb2⟩
end Go.Proofs.YtmliokplekeljaaGreatDoor.M

namespace Go.Proofs.YtmliokplekeljaaGreatDoor.M
open Go.RowKit Go.Proofs.YtmliokplekeljaaGreatDoorW.PrintWords
set_option linter.unusedVariables false
set_option linter.unusedSimpArgs false

/-- An error that the reading makes. -/
def IsErr (E : Value) : Prop := ∃ t v, E = .iface t v ∧ ((t = 212 ∧ v = .agg #[]) ∨ t = 81)
theorem isErr_short : IsErr eShort := ⟨212, .agg #[], rfl, Or.inl ⟨rfl, rfl⟩⟩
theorem isErr_pre (v : Value) : IsErr (.iface 81 v) := ⟨81, v, rfl, Or.inr rfl⟩
/-- What skipDepth hands back. -/
def SkipPost (w : World) (g : Nat) (R : Res) (e : Ending) (w' : World) : Prop := ∃ (A : Option Addr) (n c : Nat) (E : Value), e = .returned (.tuple #[.slice A n c, E]) ∧ Below w.heap.size w w' ∧
  match R with
  | .bad => IsErr E
  | .unsaid => True
  | .ok out r => E = .nilIface ∧ n = r.length ∧ n ≤ c ∧ ∃ o, A = some ⟨g, o, none⟩ ∧ RB w' g o r

theorem cutRBu (b o n c : Nat) (k : Nat) (l : List Int) (hn : n = l.length) (hk : k ≤ n) (hc : n ≤ c) :
    ∃ o' : Nat, (∀ W : World, (Instr.slice 22 (.slice (some ⟨b, o, none⟩) n c) (some (.int .u64 (k : Int))) none none).run Tryz.prog W = .ok (.slice (some ⟨b, o', none⟩) (n - k) (c - k)) W) ∧ (∀ w, RB w b o l → RB w b o' (l.drop k)) := by
  subst hn
  obtain ⟨i0, hi, hzz⟩ := Option.map_eq_some_iff.1 info5
  simp only [Prod.mk.injEq] at hzz
  refine ⟨if c = k then o else o + k, fun W => ?_, fun w h => ⟨h.lt, fun i hi => ?_⟩⟩
  · have hel : Tryz.prog.elem 22 = 5 := by simp [Program.elem, Tryz.underlying22]
    have hu : Tryz.prog.underlying 22 = some (.slice (Tryz.prog.elem 22)) := by rw [hel]; exact Tryz.underlying22
    rw [run_slice_l W 22 (some ⟨b, o, none⟩) l.length c hu .u64 (k : Int) (Int.natCast_nonneg _) (by omega), hel]
    by_cases hck : c = k
    · simp [sizeOf, typeInfo, hi, hzz.2.1, sliced, Result.andThen, hck]
    · by_cases hk0 : k = 0
      · subst hk0; simp [sizeOf, typeInfo, hi, hzz.2.1, sliced, Result.andThen, hck, Addr.add]
      · simp [sizeOf, typeInfo, hi, hzz.2.1, sliced, Result.andThen, hck, Addr.add, hk0]
  · rw [List.length_drop] at hi
    rw [if_neg (by omega)]
    have := h.cell (k + i) (by omega)
    rw [Nat.add_assoc]
    rw [this]
    simp [rd, List.getD_eq_getElem?_getD, List.getElem?_drop, show ((k : Int) + (i : Int)).toNat = k + i from by omega]

set_option maxRecDepth 100000 in
theorem sk_err (w : World) (A : Option Addr) (n c : Nat) (k : Int) (hk : 0 ≤ k) (hk2 : k ≤ 2000) (t : TypeId) (v : Value) (s a : Int) (H : Calls Tryz.prog 94 #[.slice A n c] w (RetG s a (.iface t v) w)) :
    Calls Tryz.prog 51 #[.slice A n c, .int .i64 k] w fun e w' => e = .returned (.tuple #[.slice A n c, .iface t v]) ∧ Below w.heap.size w w' := by
  have HH := Lib.hid H
  clear H
  go_enter Tryz.func51, Tryz.ntmps51
  go_wp2_with (go_at_call 94; refine HH.out.mono ?_; rintro e w1 ⟨rfl, hb⟩)
  go_ret2
  exact ⟨rfl, hb⟩
set_option maxRecDepth 100000 in
theorem sk_short (w : World) (A : Option Addr) (n c : Nat) (k : Int) (hk : 0 ≤ k) (hk2 : k ≤ 2000) (hn : n ≤ 60000) (s a : Int) (hs : (n : Int) < s) (hg : Glob w) (H : Calls Tryz.prog 94 #[.slice A n c] w (RetG s a .nilIface w)) :
    Calls Tryz.prog 51 #[.slice A n c, .int .i64 k] w fun e w' => e = .returned (.tuple #[.slice A n c, eShort]) ∧ Below w.heap.size w w' := by
  have HH := Lib.hid H
  have G := Lib.hid hg
  have hwu : IntKind.u64.wrap (n : Int) = (n : Int) := wraps_u64 _ (by omega) (by omega)
  clear H hg hn
  go_enter Tryz.func51, Tryz.ntmps51
  go_wp2_with (go_at_call 94; refine HH.out.mono ?_; rintro e w1 ⟨rfl, hb⟩; have h0 := (G.out.below hb).2.1)
  go_quiet (fail)
  go_wp2_with (fail)
  go_ret2
  exact ⟨rfl, pw_below_drewN hb _⟩

/-- What holds at every round's head. -/
structure TK (w : World) (f : List Int → Res) (TOT : Res) (g : Nat) (gb o1 c1 : Nat) (rs : List Int) (wr : World) : Prop where
  le : rs.length ≤ c1
  ln : rs.length ≤ 60000
  by_ : isBs rs
  rd : RB wr gb o1 rs
  bel : Below w.heap.size w wr
  tot : ∃ outs, ploop f g outs rs = TOT
theorem TK.next {w wr w4 : World} {f : List Int → Res} (hf : Fits f) {TOT : Res} {g gb o1 c1 o2 c2 : Nat} {rs x r1 : List Int} (h : TK w f TOT (g + 1) gb o1 c1 rs wr) (hx : f rs = .ok x r1) (hc : r1.length ≤ c2) (hr : RB w4 gb o2 r1) (hb : Below w.heap.size w w4) : TK w f TOT g gb o2 c2 r1 w4 := by
  obtain ⟨hbx, hb1, ⟨p, hp, hp1, hp2⟩, _⟩ := hf rs x r1 h.by_ hx
  obtain ⟨outs, ht⟩ := h.tot
  rw [ploop, hx] at ht
  have h2 := h.ln
  rw [hp, List.length_append] at h2
  exact ⟨hc, by omega, hb1, hr, hb, _, ht⟩
theorem TK.badTot {w wr : World} {f : List Int → Res} {TOT : Res} {g gb o1 c1 : Nat} {rs : List Int} (h : TK w f TOT (g + 1) gb o1 c1 rs wr) (hx : f rs = .bad) : TOT = .bad := by
  obtain ⟨outs, ht⟩ := h.tot; rw [ploop, hx] at ht; exact ht.symm
theorem TK.unsaidTot {w wr : World} {f : List Int → Res} {TOT : Res} {g gb o1 c1 : Nat} {rs : List Int} (h : TK w f TOT (g + 1) gb o1 c1 rs wr) (hx : f rs = .unsaid) : TOT = .unsaid := by
  obtain ⟨outs, ht⟩ := h.tot; rw [ploop, hx] at ht; exact ht.symm
theorem TK.done {w wr : World} {f : List Int → Res} {TOT : Res} {gb o1 c1 : Nat} {rs : List Int} (h : TK w f TOT 0 gb o1 c1 rs wr) : SkipPost w gb TOT (.returned (.tuple #[.slice (some ⟨gb, o1, none⟩) rs.length c1, .nilIface])) wr := by
  obtain ⟨outs, ht⟩ := h.tot
  rw [ploop] at ht
  subst ht
  exact ⟨_, _, _, _, rfl, h.bel, rfl, rfl, h.le, o1, rfl, h.rd⟩

set_option maxRecDepth 100000 in
theorem sk_loop (f : List Int → Res) (hf : Fits f) (k : Int) (hk : 0 ≤ k) (hk2 : k ≤ 2000)
    (ih : ∀ (w : World) (g o c : Nat) (l : List Int), RB w g o l → isBs l → l.length ≤ c → l.length ≤ 60000 → Glob w → f l ≠ .unsaid → Calls Tryz.prog 51 #[.slice (some ⟨g, o, none⟩) l.length c, .int .i64 (k + 1)] w (SkipPost w g (f l)))
    (w : World) (gb o n c : Nat) (l r outs : List Int) (hr : RB w gb o l) (hn : n = l.length) (hc : n ≤ c) (hl : n ≤ 60000) (hg : Glob w) (S : Int) (hS : Cut l S r) (m : Nat) (hm : m < 10000000000) (hB : isBs r)
    (H : Calls Tryz.prog 94 #[.slice (some ⟨gb, o, none⟩) n c] w (RetG S m .nilIface w)) (hsaid : ploop f m outs r ≠ .unsaid) :
    Calls Tryz.prog 51 #[.slice (some ⟨gb, o, none⟩) n c, .int .i64 k] w (SkipPost w gb (ploop f m outs r)) := by
  obtain ⟨kk, rfl, h1, h2, hd⟩ := hS
  obtain ⟨o1, hs, hcb⟩ := cutRBu gb o n c kk l hn (by omega) hc
  have hmm : n - kk = r.length := by rw [hn, ← hd, List.length_drop]
  rw [hmm] at hs
  have hge : decide (n < kk) = false := by simp; omega
  have hwu : IntKind.u64.wrap (n : Int) = (n : Int) := wraps_u64 _ (by omega) (by omega)
  have HR := Lib.hid (show RB w gb o1 r ∧ r.length ≤ c - kk ∧ r.length ≤ 60000 from ⟨hd ▸ hcb w hr, by omega, by omega⟩)
  have HH := Lib.hid H
  have HIH := Lib.hid ih
  have HF := Lib.hid hf
  have HB := Lib.hid hB
  have G := Lib.hid hg
  have HM := Lib.hid hm
  obtain ⟨TOT, hTOT⟩ : ∃ TOT, TOT = ploop f m outs r := ⟨_, rfl⟩
  rw [← hTOT] at hsaid ⊢
  have HS := Lib.hid hsaid
  have HTOT := Lib.hid hTOT
  clear hTOT hr H hcb hd hmm hn h2 h1 hc ih hf hB hl hg hm hsaid
  go_enter Tryz.func51, Tryz.ntmps51
  go_wp2_with (go_at_call 94; refine HH.out.mono ?_; rintro e w1 ⟨rfl, hb⟩)
  have hTK : TK w f TOT m gb o1 (c - kk) r w1 := ⟨HR.out.2.1, HR.out.2.2, HB.out, HR.out.1.below hb, hb, outs, HTOT.out.symm⟩
  have HTK := Lib.hid hTK
  clear hb hTK
  go_loopg [0, 7] m (fun g b a wr => ∃ (oo c1 : Nat) (rs : List Int), b = .slice (some ⟨gb, oo, none⟩) rs.length c1 ∧ a = .int .u64 (g : Int) ∧ Hid (g ≤ m ∧ TK w f TOT g gb oo c1 rs wr))
  case atStart => exact ⟨o1, c - kk, r, rfl, rfl, ⟨Nat.le_refl _, HTK.out⟩⟩
  case round =>
    clear hs hwu HH HTK HTOT HR HB
    obtain ⟨oo, c1, rs, rfl, rfl, hT⟩ := hrel
    rcases gk with _ | g
    · go_wp2_with (fail)
      go_ret2
      exact hT.out.2.done
    · have hgt : (0 : Int) < ((g + 1 : Nat) : Int) := by omega
      have hsub : IntKind.u64.wrap (g : Int) = (g : Int) := by have := HM.out; have := hT.out.1; exact wraps_u64 _ (by omega) (by omega)
      rcases hfr : f rs with _ | _ | ⟨x, r1⟩
      · have HFR := Lib.hid hfr
        clear hfr
        go_wp2_with (go_at_call 51; refine (HIH.out wr gb oo c1 rs hT.out.2.rd hT.out.2.by_ hT.out.2.le hT.out.2.ln (G.out.below hT.out.2.bel) (by rw [HFR.out]; simp)).mono ?_; rintro e w3 ⟨A3, n3, c3, E, rfl, hb3, hE⟩; rw [HFR.out] at hE; obtain ⟨t, v, rfl, ht⟩ := hE)
        go_ret2
        rw [hT.out.2.badTot HFR.out]
        exact ⟨_, _, _, _, rfl, belowT hT.out.2.bel hb3, _, _, rfl, ht⟩
      · exact absurd (hT.out.2.unsaidTot hfr) HS.out
      · have HFR := Lib.hid hfr
        clear hfr
        go_wp2_with (go_at_call 51; refine (HIH.out wr gb oo c1 rs hT.out.2.rd hT.out.2.by_ hT.out.2.le hT.out.2.ln (G.out.below hT.out.2.bel) (by rw [HFR.out]; simp)).mono ?_; rintro e w3 ⟨A3, n3, c3, E, rfl, hb3, hE⟩; rw [HFR.out] at hE; obtain ⟨rfl, rfl, hc3, o3, rfl, hr3⟩ := hE)
        go_roundg g
        case measure => omega
        case rel => exact ⟨o3, c3, r1, rfl, rfl, ⟨by have := hT.out.1; omega, hT.out.2.next HF.out HFR.out hc3 hr3 (belowT hT.out.2.bel hb3)⟩⟩

/-- What getSize tells, and what it means. -/
def SizeOf (w : World) (g o n c : Nat) (l : List Int) : Hd → Prop
  | .bad => (∃ t v s a, IsErr (.iface t v) ∧ Calls Tryz.prog 94 #[.slice (some ⟨g, o, none⟩) n c] w (RetG s a (.iface t v) w)) ∨ (∃ s a, (n : Int) < s ∧ Calls Tryz.prog 94 #[.slice (some ⟨g, o, none⟩) n c] w (RetG s a .nilIface w))
  | .ext => True
  | .atom _ r _ => ∃ S, Cut l S r ∧ Calls Tryz.prog 94 #[.slice (some ⟨g, o, none⟩) n c] w (RetG S 0 .nilIface w)
  | .blob _ r k => ∃ S, (r.length < k → (n : Int) < S) ∧ (k ≤ r.length → Cut l S (r.drop k)) ∧ Calls Tryz.prog 94 #[.slice (some ⟨g, o, none⟩) n c] w (RetG S 0 .nilIface w)
  | .comp _ r m => ∃ S, Cut l S r ∧ m < 10000000000 ∧ Calls Tryz.prog 94 #[.slice (some ⟨g, o, none⟩) n c] w (RetG S (m : Int) .nilIface w)
theorem skBad {w : World} {g o n c : Nat} {l : List Int} {k : Int} (hk : 0 ≤ k) (hk2 : k ≤ 2000) (hn : n ≤ 60000) (hg : Glob w) (h : SizeOf w g o n c l .bad) : Calls Tryz.prog 51 #[.slice (some ⟨g, o, none⟩) n c, .int .i64 k] w (SkipPost w g .bad) := by
  rcases h with ⟨t, v, s, a, he, H⟩ | ⟨s, a, hs, H⟩
  · exact (sk_err w _ n c k hk hk2 t v s a H).mono fun e w' ⟨h1, h2⟩ => ⟨_, _, _, _, h1, h2, he⟩
  · exact (sk_short w _ n c k hk hk2 hn s a hs hg H).mono fun e w' ⟨h1, h2⟩ => ⟨_, _, _, _, h1, h2, isErr_short⟩
theorem skip_of (hsz : ∀ (w : World) (g o c : Nat) (l : List Int), RB w g o l → isBs l → l.length ≤ c → Glob w → SizeOf w g o l.length c l (hdOf l)) : ∀ (d : Nat), d ≤ 900 → ∀ (k : Int), 0 ≤ k → k + d ≤ 1000 → ∀ (w : World) (g o c : Nat) (l : List Int), RB w g o l → isBs l → l.length ≤ c → l.length ≤ 60000 → Glob w → parse d l ≠ .unsaid → Calls Tryz.prog 51 #[.slice (some ⟨g, o, none⟩) l.length c, .int .i64 k] w (SkipPost w g (parse d l)) := by
  intro d
  induction d with
  | zero =>
    intro _ k hk hkd w g o c l hr hB hc hl hg hs
    have h := hsz w g o c l hr hB hc hg
    have hbad : hdOf l = .bad := by
      cases hh : hdOf l with
      | bad => rfl
      | _ => exact absurd (p_zero (by rw [hh]; simp)) hs
    rw [hbad] at h
    rw [p_bad hbad]
    exact skBad hk (by omega) hl hg h
  | succ d ih =>
    intro hd k hk hkd w g o c l hr hB hc hl hg hs
    have hfit := hd_fit l hB
    have h := hsz w g o c l hr hB hc hg
    have ih' := ih (by omega) (k + 1) (by omega) (by omega)
    generalize hh : hdOf l = hd' at h hfit
    cases hd' with
    | bad => rw [p_bad hh]; exact skBad hk (by omega) hl hg h
    | ext => exact absurd (p_ext hh) hs
    | atom ct r s =>
      rw [p_atom hh] at hs ⊢
      cases s with
      | false => exact absurd rfl hs
      | true =>
        obtain ⟨S, hS, H⟩ := h
        exact sk_loop (parse d) (parse_fit d) k hk (by omega) ih' w g o _ c l r ct hr rfl hc hl hg S hS 0 (by omega) hfit.2.1 H (by simp [ploop])
    | blob h' r m =>
      rw [p_blob hh] at hs ⊢
      obtain ⟨S, h1, h2, H⟩ := h
      by_cases hlt : r.length < m
      · rw [if_pos hlt]
        exact skBad (l := l) hk (by omega) hl hg (Or.inr ⟨S, 0, h1 hlt, H⟩)
      · rw [if_neg hlt]
        exact sk_loop (parse d) (parse_fit d) k hk (by omega) ih' w g o _ c l (r.drop m) (h' ++ r.take m) hr rfl hc hl hg S (h2 (by omega)) 0 (by omega) (fun x hx => hfit.2.1 x (List.mem_of_mem_drop hx)) H (by simp [ploop])
    | comp h' r m =>
      rw [p_comp hh] at hs ⊢
      obtain ⟨S, hS, hm, H⟩ := h
      exact sk_loop (parse d) (parse_fit d) k hk (by omega) ih' w g o _ c l r h' hr rfl hc hl hg S hS m hm hfit.2.1 H hs
end Go.Proofs.YtmliokplekeljaaGreatDoor.M
