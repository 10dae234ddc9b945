/- The package's writers of numbers and heads by contracts, onto nil. -/
import Derived.Test.YtmliokplekeljaaGreatDoorN05
import Derived.Deep.RegionWith
namespace Go.Proofs.YtmliokplekeljaaGreatDoor.M
open Go.RowKit Go.Proofs.YtmliokplekeljaaGreatDoorW.PrintWords
set_option linter.unusedVariables false
set_option linter.unusedSimpArgs false

/-- ensure(nil, sz): a new block of so many bytes. -/
theorem ensure_nil (w : World) (sz : Nat) (h0 : 0 < sz) (h1 : sz ≤ 100000) : Calls Tryz.prog 88 #[.slice none 0 0, .int .i64 (sz : Int)] w fun e w' => e = .returned (.tuple #[.slice (some ⟨w.heap.size, 0, none⟩) sz sz, .int .i64 0]) ∧ w'.rowIs w.heap.size 5 sz (fun _ => bV 0) ∧ Below w.heap.size w w' := by
  have hmk := fun W => run_make_row' (P := Tryz.prog) 22 5 (.int .u8 0) 1 Tryz.underlying22 info5 rfl .i64 .i64 sz (by omega) (by omega) W
  have hcp : ∀ W, (Builtin.copy_ #[22, 22] 3 #[.slice (some ⟨w.heap.size, 0, none⟩) sz sz, .slice none 0 0]).run Tryz.prog W = .ok (.int .i64 0) W := fun W => run_copy_none (P := Tryz.prog) W 22 22 3 5 _ none sz sz 0 0 Tryz.underlying22 (by kernel_rfl) (Nat.zero_min _)
  have hs : (0 : Int) < (sz : Int) := by omega
  have HR := Lib.hid (World.rowIs_made w (.int .u8 0) sz 5)
  go_enter Tryz.func88, Tryz.ntmps88
  go_wp2
  go_ret2
  exact ⟨rfl, HR.out, (Below.refl _ _).alloc (Nat.le_refl _) _⟩
theorem or224' : ∀ n : Fin 256, 224 ≤ n.val → Go.bits .or .u8 ((n.val : Nat) : Int) 224 = ((n.val : Nat) : Int) := by decide +kernel
theorem or224 (v : Int) (h0 : 224 ≤ v) (h1 : v < 256) : Go.bits .or .u8 v 224 = v := by
  have := or224' ⟨v.toNat, by omega⟩ (by show 224 ≤ v.toNat; omega)
  rw [show ((v.toNat : Nat) : Int) = v from by omega] at this
  exact this
theorem orB' : ∀ n : Fin 16, Go.bits .or .u8 144 ((n.val : Nat) : Int) = 144 + ((n.val : Nat) : Int) ∧ Go.bits .or .u8 ((n.val : Nat) : Int) 144 = 144 + ((n.val : Nat) : Int) ∧ Go.bits .or .u8 128 ((n.val : Nat) : Int) = 128 + ((n.val : Nat) : Int) := by decide +kernel
theorem orB (v : Int) (h0 : 0 ≤ v) (h1 : v < 16) : Go.bits .or .u8 144 v = 144 + v ∧ Go.bits .or .u8 v 144 = 144 + v ∧ Go.bits .or .u8 128 v = 128 + v := by
  have := orB' ⟨v.toNat, by omega⟩
  rw [show ((v.toNat : Nat) : Int) = v from by omega] at this
  exact this
theorem orT' : ∀ n : Fin 32, Go.bits .or .u8 ((n.val : Nat) : Int) 160 = 160 + ((n.val : Nat) : Int) ∧ Go.bits .or .u8 160 ((n.val : Nat) : Int) = 160 + ((n.val : Nat) : Int) := by decide +kernel
theorem orT (v : Int) (h0 : 0 ≤ v) (h1 : v < 32) : Go.bits .or .u8 v 160 = 160 + v ∧ Go.bits .or .u8 160 v = 160 + v := by
  have := orT' ⟨v.toNat, by omega⟩
  rw [show ((v.toNat : Nat) : Int) = v from by omega] at this
  exact this
/-- What a writer leaves. -/
def Wrote (xs : List Int) (w : World) (e : Ending) (w' : World) : Prop := ∃ v, e = .returned v ∧ OB w' w.heap.size v xs ∧ Below w.heap.size w w'
theorem OB.congr {w : World} {base : Nat} {v : Value} {xs ys : List Int} (h : OB w base v xs) (e : xs = ys) : OB w base v ys := e ▸ h
theorem CB_box (w : World) (x : Int) : CB (w.alloc (.cells #[.int .u8 x] 5)) (some ⟨w.heap.size, 0, none⟩) [x] := by
  have h := World.rowIs_alloc w #[.int .u8 x] 5 (fun j => bV ([x].getD j 0)) (by intro i hi; simp at hi; subst hi; rfl)
  exact (BL.rb (xs := [x]) h).cb (by simp)
theorem OB_nil (w : World) : OB w w.heap.size (.slice none 0 0) [] := Kd.R_nil _ _ _ _ _

theorem bl2 {w : World} {g : Nat} (f : Nat → Value) (a0 a1 : Int) (h : w.rowIs g 5 2 f) : BL ((w.setCell ⟨g, 0, none⟩ (bV a0)).setCell ⟨g, 1, none⟩ (bV a1)) g [a0, a1] := by
  refine World.rowIs.congr ((h.set 0 (bV a0)).set 1 (bV a1)) (fun i hi => ?_)
  match i, hi with
  | 0, _ => rfl
  | 1, _ => rfl
theorem bel2 {w w1 : World} (u : Nat → Value) (hb : Below w.heap.size w w1) : Below w.heap.size w ((w1.setCell ⟨w.heap.size, 0, none⟩ (u 0)).setCell ⟨w.heap.size, 1, none⟩ (u 1)) := ((hb.setCell (p := ⟨w.heap.size, 0, none⟩) (Nat.le_refl _) (u 0)).setCell (p := ⟨w.heap.size, 1, none⟩) (Nat.le_refl _) (u 1))
theorem bl3 {w : World} {g : Nat} (f : Nat → Value) (a0 a1 a2 : Int) (h : w.rowIs g 5 3 f) : BL (((w.setCell ⟨g, 0, none⟩ (bV a0)).setCell ⟨g, 1, none⟩ (bV a1)).setCell ⟨g, 2, none⟩ (bV a2)) g [a0, a1, a2] := by
  refine World.rowIs.congr (((h.set 0 (bV a0)).set 1 (bV a1)).set 2 (bV a2)) (fun i hi => ?_)
  match i, hi with
  | 0, _ => rfl
  | 1, _ => rfl
  | 2, _ => rfl
theorem bel3 {w w1 : World} (u : Nat → Value) (hb : Below w.heap.size w w1) : Below w.heap.size w (((w1.setCell ⟨w.heap.size, 0, none⟩ (u 0)).setCell ⟨w.heap.size, 1, none⟩ (u 1)).setCell ⟨w.heap.size, 2, none⟩ (u 2)) := (((hb.setCell (p := ⟨w.heap.size, 0, none⟩) (Nat.le_refl _) (u 0)).setCell (p := ⟨w.heap.size, 1, none⟩) (Nat.le_refl _) (u 1)).setCell (p := ⟨w.heap.size, 2, none⟩) (Nat.le_refl _) (u 2))
theorem bl5 {w : World} {g : Nat} (f : Nat → Value) (a0 a1 a2 a3 a4 : Int) (h : w.rowIs g 5 5 f) : BL (((((w.setCell ⟨g, 0, none⟩ (bV a0)).setCell ⟨g, 1, none⟩ (bV a1)).setCell ⟨g, 2, none⟩ (bV a2)).setCell ⟨g, 3, none⟩ (bV a3)).setCell ⟨g, 4, none⟩ (bV a4)) g [a0, a1, a2, a3, a4] := by
  refine World.rowIs.congr (((((h.set 0 (bV a0)).set 1 (bV a1)).set 2 (bV a2)).set 3 (bV a3)).set 4 (bV a4)) (fun i hi => ?_)
  match i, hi with
  | 0, _ => rfl
  | 1, _ => rfl
  | 2, _ => rfl
  | 3, _ => rfl
  | 4, _ => rfl
theorem bel5 {w w1 : World} (u : Nat → Value) (hb : Below w.heap.size w w1) : Below w.heap.size w (((((w1.setCell ⟨w.heap.size, 0, none⟩ (u 0)).setCell ⟨w.heap.size, 1, none⟩ (u 1)).setCell ⟨w.heap.size, 2, none⟩ (u 2)).setCell ⟨w.heap.size, 3, none⟩ (u 3)).setCell ⟨w.heap.size, 4, none⟩ (u 4)) := (((((hb.setCell (p := ⟨w.heap.size, 0, none⟩) (Nat.le_refl _) (u 0)).setCell (p := ⟨w.heap.size, 1, none⟩) (Nat.le_refl _) (u 1)).setCell (p := ⟨w.heap.size, 2, none⟩) (Nat.le_refl _) (u 2)).setCell (p := ⟨w.heap.size, 3, none⟩) (Nat.le_refl _) (u 3)).setCell (p := ⟨w.heap.size, 4, none⟩) (Nat.le_refl _) (u 4))
theorem bl9 {w : World} {g : Nat} (f : Nat → Value) (a0 a1 a2 a3 a4 a5 a6 a7 a8 : Int) (h : w.rowIs g 5 9 f) : BL (((((((((w.setCell ⟨g, 0, none⟩ (bV a0)).setCell ⟨g, 1, none⟩ (bV a1)).setCell ⟨g, 2, none⟩ (bV a2)).setCell ⟨g, 3, none⟩ (bV a3)).setCell ⟨g, 4, none⟩ (bV a4)).setCell ⟨g, 5, none⟩ (bV a5)).setCell ⟨g, 6, none⟩ (bV a6)).setCell ⟨g, 7, none⟩ (bV a7)).setCell ⟨g, 8, none⟩ (bV a8)) g [a0, a1, a2, a3, a4, a5, a6, a7, a8] := by
  refine World.rowIs.congr (((((((((h.set 0 (bV a0)).set 1 (bV a1)).set 2 (bV a2)).set 3 (bV a3)).set 4 (bV a4)).set 5 (bV a5)).set 6 (bV a6)).set 7 (bV a7)).set 8 (bV a8)) (fun i hi => ?_)
  match i, hi with
  | 0, _ => rfl
  | 1, _ => rfl
  | 2, _ => rfl
  | 3, _ => rfl
  | 4, _ => rfl
  | 5, _ => rfl
  | 6, _ => rfl
  | 7, _ => rfl
  | 8, _ => rfl
theorem bel9 {w w1 : World} (u : Nat → Value) (hb : Below w.heap.size w w1) : Below w.heap.size w (((((((((w1.setCell ⟨w.heap.size, 0, none⟩ (u 0)).setCell ⟨w.heap.size, 1, none⟩ (u 1)).setCell ⟨w.heap.size, 2, none⟩ (u 2)).setCell ⟨w.heap.size, 3, none⟩ (u 3)).setCell ⟨w.heap.size, 4, none⟩ (u 4)).setCell ⟨w.heap.size, 5, none⟩ (u 5)).setCell ⟨w.heap.size, 6, none⟩ (u 6)).setCell ⟨w.heap.size, 7, none⟩ (u 7)).setCell ⟨w.heap.size, 8, none⟩ (u 8)) := (((((((((hb.setCell (p := ⟨w.heap.size, 0, none⟩) (Nat.le_refl _) (u 0)).setCell (p := ⟨w.heap.size, 1, none⟩) (Nat.le_refl _) (u 1)).setCell (p := ⟨w.heap.size, 2, none⟩) (Nat.le_refl _) (u 2)).setCell (p := ⟨w.heap.size, 3, none⟩) (Nat.le_refl _) (u 3)).setCell (p := ⟨w.heap.size, 4, none⟩) (Nat.le_refl _) (u 4)).setCell (p := ⟨w.heap.size, 5, none⟩) (Nat.le_refl _) (u 5)).setCell (p := ⟨w.heap.size, 6, none⟩) (Nat.le_refl _) (u 6)).setCell (p := ⟨w.heap.size, 7, none⟩) (Nat.le_refl _) (u 7)).setCell (p := ⟨w.heap.size, 8, none⟩) (Nat.le_refl _) (u 8))
set_option maxRecDepth 100000 in
theorem wi_fix (w : World) (n : Int) (h0 : 0 ≤ n) (h1 : n ≤ 127) : Calls Tryz.prog 42 #[.int .i64 n] w (Wrote [n % 256] w) := by
  have hb1 : Go.bits .and .u8 n 127 = n := by rw [and127 _ (by omega) (by omega)]; omega
  go_enter Tryz.func42, Tryz.ntmps42
  go_wp2_with (first | (at_builtin; refine Kd.R_append_row (w0 := w) (Value.int .u8) 0 w.heap.size rfl (.tmp 35) (.tmp 39) 22 5 (.int .u8 0) 1 rfl Tryz.underlying22 info5 rfl (by decide) (.slice none 0 0) [] [n] (some ⟨w.heap.size, 0, none⟩) 1 1 (fun _ => True) (by rfl) (by rfl) (fun _ _ => trivial) (Kd.R_nil _ _ _ _ _) (CB_box w _) ((Below.refl _ _).alloc (Nat.le_refl _) _) (by simp) (by simp) ?_; intro v1 w1 hR hb hg hat) | go_in)
  go_ret
  exact ⟨_, rfl, OB.congr hR (by show [n] = [n % 256]; simp only [List.cons.injEq, and_true]; omega), hb⟩
set_option maxRecDepth 100000 in
theorem wi_nfix (w : World) (n : Int) (h0 : -32 ≤ n) (h1 : n < 0) : Calls Tryz.prog 42 #[.int .i64 n] w (Wrote [n % 256] w) := by
  have hbo := or224 (n % 256) (by omega) (by omega)
  go_enter Tryz.func42, Tryz.ntmps42
  go_wp2_with (first | (at_builtin; refine Kd.R_append_row (w0 := w) (Value.int .u8) 0 w.heap.size rfl (.tmp 85) (.tmp 89) 22 5 (.int .u8 0) 1 rfl Tryz.underlying22 info5 rfl (by decide) (.slice none 0 0) [] [n % 256] (some ⟨w.heap.size, 0, none⟩) 1 1 (fun _ => True) (by rfl) (by rfl) (fun _ _ => trivial) (Kd.R_nil _ _ _ _ _) (CB_box w _) ((Below.refl _ _).alloc (Nat.le_refl _) _) (by simp) (by simp) ?_; intro v1 w1 hR hb hg hat) | go_in)
  go_ret
  exact ⟨_, rfl, OB.congr hR (by rfl), hb⟩
set_option maxRecDepth 100000 in
theorem wi_208 (w : World) (n : Int) (h0 : -128 ≤ n) (h1 : n < -32) : Calls Tryz.prog 42 #[.int .i64 n] w (Wrote [208, n % 256] w) := by
  have H := Lib.hid (ensure_nil w 2 (by omega) (by omega))
  go_enter Tryz.func42, Tryz.ntmps42
  go_wp2_with (first | (go_at_call 88; refine H.out.mono ?_; rintro e w1 ⟨rfl, hrow, hb⟩; have k0 := hrow.cell (i := 0) (by omega); have f0 := hrow.frozen 0; have k1 := hrow.cell (i := 1) (by omega); have f1 := hrow.frozen 1; have HROW := Lib.hid hrow; clear hrow) | go_in)
  go_end0
  go_wp2
  go_ret
  exact ⟨_, rfl, OB.congr ((bl2 _ _ _ HROW.out).ob (Nat.le_refl _) (by simp)) (by first | rfl | (simp only [List.cons.injEq, and_true, true_and]; done) | (simp only [List.cons.injEq, and_true, true_and]; omega)), bel2 (fun i => bV (([_, _] : List Int).getD i 0)) hb⟩
set_option maxRecDepth 100000 in
theorem wi_209p (w : World) (n : Int) (h0 : 128 ≤ n) (h1 : n ≤ 32767) : Calls Tryz.prog 42 #[.int .i64 n] w (Wrote [209, n / 256 % 256, n % 256] w) := by
  have H := Lib.hid (ensure_nil w 3 (by omega) (by omega))
  go_enter Tryz.func42, Tryz.ntmps42
  go_wp2_with (first | (go_at_call 88; refine H.out.mono ?_; rintro e w1 ⟨rfl, hrow, hb⟩; have k0 := hrow.cell (i := 0) (by omega); have f0 := hrow.frozen 0; have k1 := hrow.cell (i := 1) (by omega); have f1 := hrow.frozen 1; have k2 := hrow.cell (i := 2) (by omega); have f2 := hrow.frozen 2; have HROW := Lib.hid hrow; clear hrow) | go_in)
  go_end0
  go_wp2
  go_ret
  exact ⟨_, rfl, OB.congr ((bl3 _ _ _ _ HROW.out).ob (Nat.le_refl _) (by simp)) (by first | rfl | (simp only [List.cons.injEq, and_true, true_and]; done) | (simp only [List.cons.injEq, and_true, true_and]; omega)), bel3 (fun i => bV (([_, _, _] : List Int).getD i 0)) hb⟩
set_option maxRecDepth 100000 in
theorem wi_209n (w : World) (n : Int) (h0 : -32768 ≤ n) (h1 : n ≤ -129) : Calls Tryz.prog 42 #[.int .i64 n] w (Wrote [209, n / 256 % 256, n % 256] w) := by
  have H := Lib.hid (ensure_nil w 3 (by omega) (by omega))
  go_enter Tryz.func42, Tryz.ntmps42
  go_wp2_with (first | (go_at_call 88; refine H.out.mono ?_; rintro e w1 ⟨rfl, hrow, hb⟩; have k0 := hrow.cell (i := 0) (by omega); have f0 := hrow.frozen 0; have k1 := hrow.cell (i := 1) (by omega); have f1 := hrow.frozen 1; have k2 := hrow.cell (i := 2) (by omega); have f2 := hrow.frozen 2; have HROW := Lib.hid hrow; clear hrow) | go_in)
  go_end0
  go_wp2
  go_ret
  exact ⟨_, rfl, OB.congr ((bl3 _ _ _ _ HROW.out).ob (Nat.le_refl _) (by simp)) (by first | rfl | (simp only [List.cons.injEq, and_true, true_and]; done) | (simp only [List.cons.injEq, and_true, true_and]; omega)), bel3 (fun i => bV (([_, _, _] : List Int).getD i 0)) hb⟩
set_option maxRecDepth 100000 in
theorem wi_210p (w : World) (n : Int) (h0 : 32768 ≤ n) (h1 : n ≤ 2147483647) : Calls Tryz.prog 42 #[.int .i64 n] w (Wrote [210, n / 16777216 % 256, n / 65536 % 256, n / 256 % 256, n % 256] w) := by
  have H := Lib.hid (ensure_nil w 5 (by omega) (by omega))
  go_enter Tryz.func42, Tryz.ntmps42
  go_wp2_with (first | (go_at_call 88; refine H.out.mono ?_; rintro e w1 ⟨rfl, hrow, hb⟩; have k0 := hrow.cell (i := 0) (by omega); have f0 := hrow.frozen 0; have k1 := hrow.cell (i := 1) (by omega); have f1 := hrow.frozen 1; have k2 := hrow.cell (i := 2) (by omega); have f2 := hrow.frozen 2; have k3 := hrow.cell (i := 3) (by omega); have f3 := hrow.frozen 3; have k4 := hrow.cell (i := 4) (by omega); have f4 := hrow.frozen 4; have HROW := Lib.hid hrow; clear hrow) | go_in)
  go_end0
  go_wp2
  go_ret
  exact ⟨_, rfl, OB.congr ((bl5 _ _ _ _ _ _ HROW.out).ob (Nat.le_refl _) (by simp)) (by first | rfl | (simp only [List.cons.injEq, and_true, true_and]; done) | (simp only [List.cons.injEq, and_true, true_and]; omega)), bel5 (fun i => bV (([_, _, _, _, _] : List Int).getD i 0)) hb⟩
set_option maxRecDepth 100000 in
theorem wi_210n (w : World) (n : Int) (h0 : -2147483648 ≤ n) (h1 : n ≤ -32769) : Calls Tryz.prog 42 #[.int .i64 n] w (Wrote [210, n / 16777216 % 256, n / 65536 % 256, n / 256 % 256, n % 256] w) := by
  have H := Lib.hid (ensure_nil w 5 (by omega) (by omega))
  go_enter Tryz.func42, Tryz.ntmps42
  go_wp2_with (first | (go_at_call 88; refine H.out.mono ?_; rintro e w1 ⟨rfl, hrow, hb⟩; have k0 := hrow.cell (i := 0) (by omega); have f0 := hrow.frozen 0; have k1 := hrow.cell (i := 1) (by omega); have f1 := hrow.frozen 1; have k2 := hrow.cell (i := 2) (by omega); have f2 := hrow.frozen 2; have k3 := hrow.cell (i := 3) (by omega); have f3 := hrow.frozen 3; have k4 := hrow.cell (i := 4) (by omega); have f4 := hrow.frozen 4; have HROW := Lib.hid hrow; clear hrow) | go_in)
  go_end0
  go_wp2
  go_ret
  exact ⟨_, rfl, OB.congr ((bl5 _ _ _ _ _ _ HROW.out).ob (Nat.le_refl _) (by simp)) (by first | rfl | (simp only [List.cons.injEq, and_true, true_and]; done) | (simp only [List.cons.injEq, and_true, true_and]; omega)), bel5 (fun i => bV (([_, _, _, _, _] : List Int).getD i 0)) hb⟩
set_option maxRecDepth 100000 in
theorem wi_211p (w : World) (n : Int) (h0 : 2147483648 ≤ n) (h1 : n ≤ 9223372036854775807) : Calls Tryz.prog 42 #[.int .i64 n] w (Wrote [211, n / 72057594037927936 % 256, n / 281474976710656 % 256, n / 1099511627776 % 256, n / 4294967296 % 256, n / 16777216 % 256, n / 65536 % 256, n / 256 % 256, n % 256] w) := by
  have H := Lib.hid (ensure_nil w 9 (by omega) (by omega))
  go_enter Tryz.func42, Tryz.ntmps42
  go_wp2_with (first | (go_at_call 88; refine H.out.mono ?_; rintro e w1 ⟨rfl, hrow, hb⟩; have k0 := hrow.cell (i := 0) (by omega); have f0 := hrow.frozen 0; have k1 := hrow.cell (i := 1) (by omega); have f1 := hrow.frozen 1; have k2 := hrow.cell (i := 2) (by omega); have f2 := hrow.frozen 2; have k3 := hrow.cell (i := 3) (by omega); have f3 := hrow.frozen 3; have k4 := hrow.cell (i := 4) (by omega); have f4 := hrow.frozen 4; have k5 := hrow.cell (i := 5) (by omega); have f5 := hrow.frozen 5; have k6 := hrow.cell (i := 6) (by omega); have f6 := hrow.frozen 6; have k7 := hrow.cell (i := 7) (by omega); have f7 := hrow.frozen 7; have k8 := hrow.cell (i := 8) (by omega); have f8 := hrow.frozen 8; have HROW := Lib.hid hrow; clear hrow) | go_in)
  go_end0
  go_wp2
  go_ret
  exact ⟨_, rfl, OB.congr ((bl9 _ _ _ _ _ _ _ _ _ _ HROW.out).ob (Nat.le_refl _) (by simp)) (by first | rfl | (simp only [List.cons.injEq, and_true, true_and]; done) | (simp only [List.cons.injEq, and_true, true_and]; omega)), bel9 (fun i => bV (([_, _, _, _, _, _, _, _, _] : List Int).getD i 0)) hb⟩
set_option maxRecDepth 100000 in
theorem wi_211n (w : World) (n : Int) (h0 : -9223372036854775808 ≤ n) (h1 : n ≤ -2147483649) : Calls Tryz.prog 42 #[.int .i64 n] w (Wrote [211, n / 72057594037927936 % 256, n / 281474976710656 % 256, n / 1099511627776 % 256, n / 4294967296 % 256, n / 16777216 % 256, n / 65536 % 256, n / 256 % 256, n % 256] w) := by
  have H := Lib.hid (ensure_nil w 9 (by omega) (by omega))
  go_enter Tryz.func42, Tryz.ntmps42
  go_wp2_with (first | (go_at_call 88; refine H.out.mono ?_; rintro e w1 ⟨rfl, hrow, hb⟩; have k0 := hrow.cell (i := 0) (by omega); have f0 := hrow.frozen 0; have k1 := hrow.cell (i := 1) (by omega); have f1 := hrow.frozen 1; have k2 := hrow.cell (i := 2) (by omega); have f2 := hrow.frozen 2; have k3 := hrow.cell (i := 3) (by omega); have f3 := hrow.frozen 3; have k4 := hrow.cell (i := 4) (by omega); have f4 := hrow.frozen 4; have k5 := hrow.cell (i := 5) (by omega); have f5 := hrow.frozen 5; have k6 := hrow.cell (i := 6) (by omega); have f6 := hrow.frozen 6; have k7 := hrow.cell (i := 7) (by omega); have f7 := hrow.frozen 7; have k8 := hrow.cell (i := 8) (by omega); have f8 := hrow.frozen 8; have HROW := Lib.hid hrow; clear hrow) | go_in)
  go_end0
  go_wp2
  go_ret
  exact ⟨_, rfl, OB.congr ((bl9 _ _ _ _ _ _ _ _ _ _ HROW.out).ob (Nat.le_refl _) (by simp)) (by first | rfl | (simp only [List.cons.injEq, and_true, true_and]; done) | (simp only [List.cons.injEq, and_true, true_and]; omega)), bel9 (fun i => bV (([_, _, _, _, _, _, _, _, _] : List Int).getD i 0)) hb⟩
set_option maxRecDepth 100000 in
theorem wu_fix (w : World) (n : Int) (h0 : 0 ≤ n) (h1 : n ≤ 127) : Calls Tryz.prog 44 #[.int .u64 n] w (Wrote [n % 256] w) := by
  have hb1 : Go.bits .and .u8 n 127 = n := by rw [and127 _ (by omega) (by omega)]; omega
  go_enter Tryz.func44, Tryz.ntmps44
  go_wp2_with (first | (at_builtin; refine Kd.R_append_row (w0 := w) (Value.int .u8) 0 w.heap.size rfl (.tmp 27) (.tmp 31) 22 5 (.int .u8 0) 1 rfl Tryz.underlying22 info5 rfl (by decide) (.slice none 0 0) [] [n] (some ⟨w.heap.size, 0, none⟩) 1 1 (fun _ => True) (by rfl) (by rfl) (fun _ _ => trivial) (Kd.R_nil _ _ _ _ _) (CB_box w _) ((Below.refl _ _).alloc (Nat.le_refl _) _) (by simp) (by simp) ?_; intro v1 w1 hR hb hg hat) | go_in)
  go_ret
  exact ⟨_, rfl, OB.congr hR (by show [n] = [n % 256]; simp only [List.cons.injEq, and_true]; omega), hb⟩
set_option maxRecDepth 100000 in
theorem wu_204 (w : World) (n : Int) (h0 : 128 ≤ n) (h1 : n ≤ 255) : Calls Tryz.prog 44 #[.int .u64 n] w (Wrote [204, n % 256] w) := by
  have H := Lib.hid (ensure_nil w 2 (by omega) (by omega))
  go_enter Tryz.func44, Tryz.ntmps44
  go_wp2_with (first | (go_at_call 88; refine H.out.mono ?_; rintro e w1 ⟨rfl, hrow, hb⟩; have k0 := hrow.cell (i := 0) (by omega); have f0 := hrow.frozen 0; have k1 := hrow.cell (i := 1) (by omega); have f1 := hrow.frozen 1; have HROW := Lib.hid hrow; clear hrow) | go_in)
  go_end0
  go_wp2
  go_ret
  exact ⟨_, rfl, OB.congr ((bl2 _ _ _ HROW.out).ob (Nat.le_refl _) (by simp)) (by first | rfl | (simp only [List.cons.injEq, and_true, true_and]; done) | (simp only [List.cons.injEq, and_true, true_and]; omega)), bel2 (fun i => bV (([_, _] : List Int).getD i 0)) hb⟩
set_option maxRecDepth 100000 in
theorem wu_205 (w : World) (n : Int) (h0 : 256 ≤ n) (h1 : n ≤ 65535) : Calls Tryz.prog 44 #[.int .u64 n] w (Wrote [205, n / 256 % 256, n % 256] w) := by
  have H := Lib.hid (ensure_nil w 3 (by omega) (by omega))
  go_enter Tryz.func44, Tryz.ntmps44
  go_wp2_with (first | (go_at_call 88; refine H.out.mono ?_; rintro e w1 ⟨rfl, hrow, hb⟩; have k0 := hrow.cell (i := 0) (by omega); have f0 := hrow.frozen 0; have k1 := hrow.cell (i := 1) (by omega); have f1 := hrow.frozen 1; have k2 := hrow.cell (i := 2) (by omega); have f2 := hrow.frozen 2; have HROW := Lib.hid hrow; clear hrow) | go_in)
  go_end0
  go_wp2
  go_ret
  exact ⟨_, rfl, OB.congr ((bl3 _ _ _ _ HROW.out).ob (Nat.le_refl _) (by simp)) (by first | rfl | (simp only [List.cons.injEq, and_true, true_and]; done) | (simp only [List.cons.injEq, and_true, true_and]; omega)), bel3 (fun i => bV (([_, _, _] : List Int).getD i 0)) hb⟩
set_option maxRecDepth 100000 in
theorem wu_206 (w : World) (n : Int) (h0 : 65536 ≤ n) (h1 : n ≤ 4294967295) : Calls Tryz.prog 44 #[.int .u64 n] w (Wrote [206, n / 16777216 % 256, n / 65536 % 256, n / 256 % 256, n % 256] w) := by
  have H := Lib.hid (ensure_nil w 5 (by omega) (by omega))
  go_enter Tryz.func44, Tryz.ntmps44
  go_wp2_with (first | (go_at_call 88; refine H.out.mono ?_; rintro e w1 ⟨rfl, hrow, hb⟩; have k0 := hrow.cell (i := 0) (by omega); have f0 := hrow.frozen 0; have k1 := hrow.cell (i := 1) (by omega); have f1 := hrow.frozen 1; have k2 := hrow.cell (i := 2) (by omega); have f2 := hrow.frozen 2; have k3 := hrow.cell (i := 3) (by omega); have f3 := hrow.frozen 3; have k4 := hrow.cell (i := 4) (by omega); have f4 := hrow.frozen 4; have HROW := Lib.hid hrow; clear hrow) | go_in)
  go_end0
  go_wp2
  go_ret
  exact ⟨_, rfl, OB.congr ((bl5 _ _ _ _ _ _ HROW.out).ob (Nat.le_refl _) (by simp)) (by first | rfl | (simp only [List.cons.injEq, and_true, true_and]; done) | (simp only [List.cons.injEq, and_true, true_and]; omega)), bel5 (fun i => bV (([_, _, _, _, _] : List Int).getD i 0)) hb⟩
set_option maxRecDepth 100000 in
theorem wu_207 (w : World) (n : Int) (h0 : 4294967296 ≤ n) (h1 : n ≤ 18446744073709551615) : Calls Tryz.prog 44 #[.int .u64 n] w (Wrote [207, n / 72057594037927936 % 256, n / 281474976710656 % 256, n / 1099511627776 % 256, n / 4294967296 % 256, n / 16777216 % 256, n / 65536 % 256, n / 256 % 256, n % 256] w) := by
  have H := Lib.hid (ensure_nil w 9 (by omega) (by omega))
  go_enter Tryz.func44, Tryz.ntmps44
  go_wp2_with (first | (go_at_call 88; refine H.out.mono ?_; rintro e w1 ⟨rfl, hrow, hb⟩; have k0 := hrow.cell (i := 0) (by omega); have f0 := hrow.frozen 0; have k1 := hrow.cell (i := 1) (by omega); have f1 := hrow.frozen 1; have k2 := hrow.cell (i := 2) (by omega); have f2 := hrow.frozen 2; have k3 := hrow.cell (i := 3) (by omega); have f3 := hrow.frozen 3; have k4 := hrow.cell (i := 4) (by omega); have f4 := hrow.frozen 4; have k5 := hrow.cell (i := 5) (by omega); have f5 := hrow.frozen 5; have k6 := hrow.cell (i := 6) (by omega); have f6 := hrow.frozen 6; have k7 := hrow.cell (i := 7) (by omega); have f7 := hrow.frozen 7; have k8 := hrow.cell (i := 8) (by omega); have f8 := hrow.frozen 8; have HROW := Lib.hid hrow; clear hrow) | go_in)
  go_end0
  go_wp2
  go_ret
  exact ⟨_, rfl, OB.congr ((bl9 _ _ _ _ _ _ _ _ _ _ HROW.out).ob (Nat.le_refl _) (by simp)) (by first | rfl | (simp only [List.cons.injEq, and_true, true_and]; done) | (simp only [List.cons.injEq, and_true, true_and]; omega)), bel9 (fun i => bV (([_, _, _, _, _, _, _, _, _] : List Int).getD i 0)) hb⟩
set_option maxRecDepth 100000 in
theorem wa_fix (w : World) (n : Int) (h0 : 0 ≤ n) (h1 : n ≤ 15) : Calls Tryz.prog 21 #[.int .u32 n] w (Wrote [144 + n] w) := by
  have hb1 : Go.bits .and .u8 n 15 = n := by rw [and15 _ (by omega) (by omega)]; omega
  have hb2 := (orB n (by omega) (by omega)).2.1
  go_enter Tryz.func21, Tryz.ntmps21
  go_wp2_with (first | (at_builtin; refine Kd.R_append_row (w0 := w) (Value.int .u8) 0 w.heap.size rfl (.tmp 23) (.tmp 27) 22 5 (.int .u8 0) 1 rfl Tryz.underlying22 info5 rfl (by decide) (.slice none 0 0) [] [144 + n] (some ⟨w.heap.size, 0, none⟩) 1 1 (fun _ => True) (by rfl) (by rfl) (fun _ _ => trivial) (Kd.R_nil _ _ _ _ _) (CB_box w _) ((Below.refl _ _).alloc (Nat.le_refl _) _) (by simp) (by simp) ?_; intro v1 w1 hR hb hg hat) | go_in)
  go_ret
  exact ⟨_, rfl, OB.congr hR (by rfl), hb⟩
set_option maxRecDepth 100000 in
theorem wm_fix (w : World) (n : Int) (h0 : 0 ≤ n) (h1 : n ≤ 15) : Calls Tryz.prog 23 #[.int .u32 n] w (Wrote [128 + n] w) := by
  have hb1 : Go.bits .and .u8 n 15 = n := by rw [and15 _ (by omega) (by omega)]; omega
  have hb2 := (orB n (by omega) (by omega)).2.2
  go_enter Tryz.func23, Tryz.ntmps23
  go_wp2_with (first | (at_builtin; refine Kd.R_append_row (w0 := w) (Value.int .u8) 0 w.heap.size rfl (.tmp 23) (.tmp 27) 22 5 (.int .u8 0) 1 rfl Tryz.underlying22 info5 rfl (by decide) (.slice none 0 0) [] [128 + n] (some ⟨w.heap.size, 0, none⟩) 1 1 (fun _ => True) (by rfl) (by rfl) (fun _ _ => trivial) (Kd.R_nil _ _ _ _ _) (CB_box w _) ((Below.refl _ _).alloc (Nat.le_refl _) _) (by simp) (by simp) ?_; intro v1 w1 hR hb hg hat) | go_in)
  go_ret
  exact ⟨_, rfl, OB.congr hR (by rfl), hb⟩
set_option maxRecDepth 100000 in
theorem wa_220 (w : World) (n : Int) (h0 : 16 ≤ n) (h1 : n ≤ 65535) : Calls Tryz.prog 21 #[.int .u32 n] w (Wrote [220, n / 256 % 256, n % 256] w) := by
  have H := Lib.hid (ensure_nil w 3 (by omega) (by omega))
  go_enter Tryz.func21, Tryz.ntmps21
  go_wp2_with (first | (go_at_call 88; refine H.out.mono ?_; rintro e w1 ⟨rfl, hrow, hb⟩; have k0 := hrow.cell (i := 0) (by omega); have f0 := hrow.frozen 0; have k1 := hrow.cell (i := 1) (by omega); have f1 := hrow.frozen 1; have k2 := hrow.cell (i := 2) (by omega); have f2 := hrow.frozen 2; have HROW := Lib.hid hrow; clear hrow) | go_in)
  go_end0
  go_wp2
  go_ret
  exact ⟨_, rfl, OB.congr ((bl3 _ _ _ _ HROW.out).ob (Nat.le_refl _) (by simp)) (by first | rfl | (simp only [List.cons.injEq, and_true, true_and]; done) | (simp only [List.cons.injEq, and_true, true_and]; omega)), bel3 (fun i => bV (([_, _, _] : List Int).getD i 0)) hb⟩
set_option maxRecDepth 100000 in
theorem wa_221 (w : World) (n : Int) (h0 : 65536 ≤ n) (h1 : n ≤ 4294967295) : Calls Tryz.prog 21 #[.int .u32 n] w (Wrote [221, n / 16777216 % 256, n / 65536 % 256, n / 256 % 256, n % 256] w) := by
  have H := Lib.hid (ensure_nil w 5 (by omega) (by omega))
  go_enter Tryz.func21, Tryz.ntmps21
  go_wp2_with (first | (go_at_call 88; refine H.out.mono ?_; rintro e w1 ⟨rfl, hrow, hb⟩; have k0 := hrow.cell (i := 0) (by omega); have f0 := hrow.frozen 0; have k1 := hrow.cell (i := 1) (by omega); have f1 := hrow.frozen 1; have k2 := hrow.cell (i := 2) (by omega); have f2 := hrow.frozen 2; have k3 := hrow.cell (i := 3) (by omega); have f3 := hrow.frozen 3; have k4 := hrow.cell (i := 4) (by omega); have f4 := hrow.frozen 4; have HROW := Lib.hid hrow; clear hrow) | go_in)
  go_end0
  go_wp2
  go_ret
  exact ⟨_, rfl, OB.congr ((bl5 _ _ _ _ _ _ HROW.out).ob (Nat.le_refl _) (by simp)) (by first | rfl | (simp only [List.cons.injEq, and_true, true_and]; done) | (simp only [List.cons.injEq, and_true, true_and]; omega)), bel5 (fun i => bV (([_, _, _, _, _] : List Int).getD i 0)) hb⟩
set_option maxRecDepth 100000 in
theorem wm_222 (w : World) (n : Int) (h0 : 16 ≤ n) (h1 : n ≤ 65535) : Calls Tryz.prog 23 #[.int .u32 n] w (Wrote [222, n / 256 % 256, n % 256] w) := by
  have H := Lib.hid (ensure_nil w 3 (by omega) (by omega))
  go_enter Tryz.func23, Tryz.ntmps23
  go_wp2_with (first | (go_at_call 88; refine H.out.mono ?_; rintro e w1 ⟨rfl, hrow, hb⟩; have k0 := hrow.cell (i := 0) (by omega); have f0 := hrow.frozen 0; have k1 := hrow.cell (i := 1) (by omega); have f1 := hrow.frozen 1; have k2 := hrow.cell (i := 2) (by omega); have f2 := hrow.frozen 2; have HROW := Lib.hid hrow; clear hrow) | go_in)
  go_end0
  go_wp2
  go_ret
  exact ⟨_, rfl, OB.congr ((bl3 _ _ _ _ HROW.out).ob (Nat.le_refl _) (by simp)) (by first | rfl | (simp only [List.cons.injEq, and_true, true_and]; done) | (simp only [List.cons.injEq, and_true, true_and]; omega)), bel3 (fun i => bV (([_, _, _] : List Int).getD i 0)) hb⟩
set_option maxRecDepth 100000 in
theorem wm_223 (w : World) (n : Int) (h0 : 65536 ≤ n) (h1 : n ≤ 4294967295) : Calls Tryz.prog 23 #[.int .u32 n] w (Wrote [223, n / 16777216 % 256, n / 65536 % 256, n / 256 % 256, n % 256] w) := by
  have H := Lib.hid (ensure_nil w 5 (by omega) (by omega))
  go_enter Tryz.func23, Tryz.ntmps23
  go_wp2_with (first | (go_at_call 88; refine H.out.mono ?_; rintro e w1 ⟨rfl, hrow, hb⟩; have k0 := hrow.cell (i := 0) (by omega); have f0 := hrow.frozen 0; have k1 := hrow.cell (i := 1) (by omega); have f1 := hrow.frozen 1; have k2 := hrow.cell (i := 2) (by omega); have f2 := hrow.frozen 2; have k3 := hrow.cell (i := 3) (by omega); have f3 := hrow.frozen 3; have k4 := hrow.cell (i := 4) (by omega); have f4 := hrow.frozen 4; have HROW := Lib.hid hrow; clear hrow) | go_in)
  go_end0
  go_wp2
  go_ret
  exact ⟨_, rfl, OB.congr ((bl5 _ _ _ _ _ _ HROW.out).ob (Nat.le_refl _) (by simp)) (by first | rfl | (simp only [List.cons.injEq, and_true, true_and]; done) | (simp only [List.cons.injEq, and_true, true_and]; omega)), bel5 (fun i => bV (([_, _, _, _, _] : List Int).getD i 0)) hb⟩
set_option maxRecDepth 100000 in
theorem wn (w : World)  : Calls Tryz.prog 46 #[] w (Wrote [192] w) := by
  go_enter Tryz.func46, Tryz.ntmps46
  go_wp2_with (first | (at_builtin; refine Kd.R_append_row (w0 := w) (Value.int .u8) 0 w.heap.size rfl (.tmp 3) (.tmp 4) 22 5 (.int .u8 0) 1 rfl Tryz.underlying22 info5 rfl (by decide) (.slice none 0 0) [] [192] (some ⟨w.heap.size, 0, none⟩) 1 1 (fun _ => True) (by rfl) (by rfl) (fun _ _ => trivial) (Kd.R_nil _ _ _ _ _) (CB_box w _) ((Below.refl _ _).alloc (Nat.le_refl _) _) (by simp) (by simp) ?_; intro v1 w1 hR hb hg hat) | go_in)
  go_ret
  exact ⟨_, rfl, OB.congr hR (by rfl), hb⟩
set_option maxRecDepth 100000 in
theorem wb_t (w : World)  : Calls Tryz.prog 40 #[.bool true] w (Wrote [195] w) := by
  go_enter Tryz.func40, Tryz.ntmps40
  go_wp2_with (first | (at_builtin; refine Kd.R_append_row (w0 := w) (Value.int .u8) 0 w.heap.size rfl (.tmp 6) (.tmp 7) 22 5 (.int .u8 0) 1 rfl Tryz.underlying22 info5 rfl (by decide) (.slice none 0 0) [] [195] (some ⟨w.heap.size, 0, none⟩) 1 1 (fun _ => True) (by rfl) (by rfl) (fun _ _ => trivial) (Kd.R_nil _ _ _ _ _) (CB_box w _) ((Below.refl _ _).alloc (Nat.le_refl _) _) (by simp) (by simp) ?_; intro v1 w1 hR hb hg hat) | go_in)
  go_ret
  exact ⟨_, rfl, OB.congr hR (by rfl), hb⟩
set_option maxRecDepth 100000 in
theorem wb_f (w : World)  : Calls Tryz.prog 40 #[.bool false] w (Wrote [194] w) := by
  go_enter Tryz.func40, Tryz.ntmps40
  go_wp2_with (first | (at_builtin; refine Kd.R_append_row (w0 := w) (Value.int .u8) 0 w.heap.size rfl (.tmp 9) (.tmp 10) 22 5 (.int .u8 0) 1 rfl Tryz.underlying22 info5 rfl (by decide) (.slice none 0 0) [] [194] (some ⟨w.heap.size, 0, none⟩) 1 1 (fun _ => True) (by rfl) (by rfl) (fun _ _ => trivial) (Kd.R_nil _ _ _ _ _) (CB_box w _) ((Below.refl _ _).alloc (Nat.le_refl _) _) (by simp) (by simp) ?_; intro v1 w1 hR hb hg hat) | go_in)
  go_ret
  exact ⟨_, rfl, OB.congr hR (by rfl), hb⟩
end Go.Proofs.YtmliokplekeljaaGreatDoor.M

namespace Go.Proofs.YtmliokplekeljaaGreatDoor.M
open Go.RowKit Go.Proofs.YtmliokplekeljaaGreatDoorW.PrintWords
set_option linter.unusedVariables false
set_option linter.unusedSimpArgs false

/-- The cells of a row whose first ones are these. -/
def hdF (xs : List Int) (f : Nat → Value) : Nat → Value := fun j => if j < xs.length then bV (xs.getD j 0) else f j

set_option maxRecDepth 100000 in
theorem pre8 (w : World) (g sz : Nat) (f : Nat → Value) (hrow : Hid (w.rowIs g 5 sz f)) (hsz : 2 ≤ sz) (p x : Int) (h0 : 0 ≤ x) (h1 : x < 256) :
    Calls Tryz.prog 100 #[.slice (some ⟨g, 0, none⟩) sz sz, .int .u8 p, .int .u8 x] w fun e w' => e = .returned (.tuple #[]) ∧ w'.rowIs g 5 sz (hdF [p, x % 256] f) ∧ Below g w w' := by
  have k0 := hrow.out.cell (i := 0) (by omega)
  have f0 := hrow.out.frozen 0
  have k1 := hrow.out.cell (i := 1) (by omega)
  have f1 := hrow.out.frozen 1
  go_enter Tryz.func100, Tryz.ntmps100
  go_wp2
  go_end0
  refine ⟨rfl, World.rowIs.congr ((hrow.out.set 0 _).set 1 _) (fun i hi => ?_), (((Below.refl g w).setCell (Nat.le_refl _) _).setCell (Nat.le_refl _) _)⟩
  unfold hdF
  by_cases hi : i < 2
  · rw [if_pos (show i < ([p, x % 256] : List Int).length from hi)]
    match i, hi with
    | 0, _ => exact congrArg bV (by first | rfl | (simp only [List.getD_cons_zero, List.getD_cons_succ]; omega))
    | 1, _ => exact congrArg bV (by first | rfl | (simp only [List.getD_cons_zero, List.getD_cons_succ]; omega))
  · rw [if_neg (show ¬ i < ([p, x % 256] : List Int).length from hi)]
    rw [if_neg (show ¬ i = 1 by omega)]; rw [if_neg (show ¬ i = 0 by omega)]
set_option maxRecDepth 100000 in
theorem pre16 (w : World) (g sz : Nat) (f : Nat → Value) (hrow : Hid (w.rowIs g 5 sz f)) (hsz : 3 ≤ sz) (p x : Int) (h0 : 0 ≤ x) (h1 : x < 65536) :
    Calls Tryz.prog 89 #[.slice (some ⟨g, 0, none⟩) sz sz, .int .u8 p, .int .u16 x] w fun e w' => e = .returned (.tuple #[]) ∧ w'.rowIs g 5 sz (hdF [p, x / 256 % 256, x % 256] f) ∧ Below g w w' := by
  have k0 := hrow.out.cell (i := 0) (by omega)
  have f0 := hrow.out.frozen 0
  have k1 := hrow.out.cell (i := 1) (by omega)
  have f1 := hrow.out.frozen 1
  have k2 := hrow.out.cell (i := 2) (by omega)
  have f2 := hrow.out.frozen 2
  go_enter Tryz.func89, Tryz.ntmps89
  go_wp2
  go_end0
  refine ⟨rfl, World.rowIs.congr (((hrow.out.set 0 _).set 1 _).set 2 _) (fun i hi => ?_), ((((Below.refl g w).setCell (Nat.le_refl _) _).setCell (Nat.le_refl _) _).setCell (Nat.le_refl _) _)⟩
  unfold hdF
  by_cases hi : i < 3
  · rw [if_pos (show i < ([p, x / 256 % 256, x % 256] : List Int).length from hi)]
    match i, hi with
    | 0, _ => exact congrArg bV (by first | rfl | (simp only [List.getD_cons_zero, List.getD_cons_succ]; omega))
    | 1, _ => exact congrArg bV (by first | rfl | (simp only [List.getD_cons_zero, List.getD_cons_succ]; omega))
    | 2, _ => exact congrArg bV (by first | rfl | (simp only [List.getD_cons_zero, List.getD_cons_succ]; omega))
  · rw [if_neg (show ¬ i < ([p, x / 256 % 256, x % 256] : List Int).length from hi)]
    rw [if_neg (show ¬ i = 2 by omega)]; rw [if_neg (show ¬ i = 1 by omega)]; rw [if_neg (show ¬ i = 0 by omega)]
set_option maxRecDepth 100000 in
theorem pre32 (w : World) (g sz : Nat) (f : Nat → Value) (hrow : Hid (w.rowIs g 5 sz f)) (hsz : 5 ≤ sz) (p x : Int) (h0 : 0 ≤ x) (h1 : x < 4294967296) :
    Calls Tryz.prog 90 #[.slice (some ⟨g, 0, none⟩) sz sz, .int .u8 p, .int .u32 x] w fun e w' => e = .returned (.tuple #[]) ∧ w'.rowIs g 5 sz (hdF [p, x / 16777216 % 256, x / 65536 % 256, x / 256 % 256, x % 256] f) ∧ Below g w w' := by
  have k0 := hrow.out.cell (i := 0) (by omega)
  have f0 := hrow.out.frozen 0
  have k1 := hrow.out.cell (i := 1) (by omega)
  have f1 := hrow.out.frozen 1
  have k2 := hrow.out.cell (i := 2) (by omega)
  have f2 := hrow.out.frozen 2
  have k3 := hrow.out.cell (i := 3) (by omega)
  have f3 := hrow.out.frozen 3
  have k4 := hrow.out.cell (i := 4) (by omega)
  have f4 := hrow.out.frozen 4
  go_enter Tryz.func90, Tryz.ntmps90
  go_wp2
  go_end0
  refine ⟨rfl, World.rowIs.congr (((((hrow.out.set 0 _).set 1 _).set 2 _).set 3 _).set 4 _) (fun i hi => ?_), ((((((Below.refl g w).setCell (Nat.le_refl _) _).setCell (Nat.le_refl _) _).setCell (Nat.le_refl _) _).setCell (Nat.le_refl _) _).setCell (Nat.le_refl _) _)⟩
  unfold hdF
  by_cases hi : i < 5
  · rw [if_pos (show i < ([p, x / 16777216 % 256, x / 65536 % 256, x / 256 % 256, x % 256] : List Int).length from hi)]
    match i, hi with
    | 0, _ => exact congrArg bV (by first | rfl | (simp only [List.getD_cons_zero, List.getD_cons_succ]; omega))
    | 1, _ => exact congrArg bV (by first | rfl | (simp only [List.getD_cons_zero, List.getD_cons_succ]; omega))
    | 2, _ => exact congrArg bV (by first | rfl | (simp only [List.getD_cons_zero, List.getD_cons_succ]; omega))
    | 3, _ => exact congrArg bV (by first | rfl | (simp only [List.getD_cons_zero, List.getD_cons_succ]; omega))
    | 4, _ => exact congrArg bV (by first | rfl | (simp only [List.getD_cons_zero, List.getD_cons_succ]; omega))
  · rw [if_neg (show ¬ i < ([p, x / 16777216 % 256, x / 65536 % 256, x / 256 % 256, x % 256] : List Int).length from hi)]
    rw [if_neg (show ¬ i = 4 by omega)]; rw [if_neg (show ¬ i = 3 by omega)]; rw [if_neg (show ¬ i = 2 by omega)]; rw [if_neg (show ¬ i = 1 by omega)]; rw [if_neg (show ¬ i = 0 by omega)]
set_option maxRecDepth 100000 in
theorem pre64 (w : World) (g sz : Nat) (f : Nat → Value) (hrow : Hid (w.rowIs g 5 sz f)) (hsz : 9 ≤ sz) (p x : Int) (h0 : 0 ≤ x) (h1 : x < 18446744073709551616) :
    Calls Tryz.prog 103 #[.slice (some ⟨g, 0, none⟩) sz sz, .int .u8 p, .int .u64 x] w fun e w' => e = .returned (.tuple #[]) ∧ w'.rowIs g 5 sz (hdF [p, x / 72057594037927936 % 256, x / 281474976710656 % 256, x / 1099511627776 % 256, x / 4294967296 % 256, x / 16777216 % 256, x / 65536 % 256, x / 256 % 256, x % 256] f) ∧ Below g w w' := by
  have k0 := hrow.out.cell (i := 0) (by omega)
  have f0 := hrow.out.frozen 0
  have k1 := hrow.out.cell (i := 1) (by omega)
  have f1 := hrow.out.frozen 1
  have k2 := hrow.out.cell (i := 2) (by omega)
  have f2 := hrow.out.frozen 2
  have k3 := hrow.out.cell (i := 3) (by omega)
  have f3 := hrow.out.frozen 3
  have k4 := hrow.out.cell (i := 4) (by omega)
  have f4 := hrow.out.frozen 4
  have k5 := hrow.out.cell (i := 5) (by omega)
  have f5 := hrow.out.frozen 5
  have k6 := hrow.out.cell (i := 6) (by omega)
  have f6 := hrow.out.frozen 6
  have k7 := hrow.out.cell (i := 7) (by omega)
  have f7 := hrow.out.frozen 7
  have k8 := hrow.out.cell (i := 8) (by omega)
  have f8 := hrow.out.frozen 8
  go_enter Tryz.func103, Tryz.ntmps103
  go_wp2
  go_end0
  refine ⟨rfl, World.rowIs.congr (((((((((hrow.out.set 0 _).set 1 _).set 2 _).set 3 _).set 4 _).set 5 _).set 6 _).set 7 _).set 8 _) (fun i hi => ?_), ((((((((((Below.refl g w).setCell (Nat.le_refl _) _).setCell (Nat.le_refl _) _).setCell (Nat.le_refl _) _).setCell (Nat.le_refl _) _).setCell (Nat.le_refl _) _).setCell (Nat.le_refl _) _).setCell (Nat.le_refl _) _).setCell (Nat.le_refl _) _).setCell (Nat.le_refl _) _)⟩
  unfold hdF
  by_cases hi : i < 9
  · rw [if_pos (show i < ([p, x / 72057594037927936 % 256, x / 281474976710656 % 256, x / 1099511627776 % 256, x / 4294967296 % 256, x / 16777216 % 256, x / 65536 % 256, x / 256 % 256, x % 256] : List Int).length from hi)]
    match i, hi with
    | 0, _ => exact congrArg bV (by first | rfl | (simp only [List.getD_cons_zero, List.getD_cons_succ]; omega))
    | 1, _ => exact congrArg bV (by first | rfl | (simp only [List.getD_cons_zero, List.getD_cons_succ]; omega))
    | 2, _ => exact congrArg bV (by first | rfl | (simp only [List.getD_cons_zero, List.getD_cons_succ]; omega))
    | 3, _ => exact congrArg bV (by first | rfl | (simp only [List.getD_cons_zero, List.getD_cons_succ]; omega))
    | 4, _ => exact congrArg bV (by first | rfl | (simp only [List.getD_cons_zero, List.getD_cons_succ]; omega))
    | 5, _ => exact congrArg bV (by first | rfl | (simp only [List.getD_cons_zero, List.getD_cons_succ]; omega))
    | 6, _ => exact congrArg bV (by first | rfl | (simp only [List.getD_cons_zero, List.getD_cons_succ]; omega))
    | 7, _ => exact congrArg bV (by first | rfl | (simp only [List.getD_cons_zero, List.getD_cons_succ]; omega))
    | 8, _ => exact congrArg bV (by first | rfl | (simp only [List.getD_cons_zero, List.getD_cons_succ]; omega))
  · rw [if_neg (show ¬ i < ([p, x / 72057594037927936 % 256, x / 281474976710656 % 256, x / 1099511627776 % 256, x / 4294967296 % 256, x / 16777216 % 256, x / 65536 % 256, x / 256 % 256, x % 256] : List Int).length from hi)]
    rw [if_neg (show ¬ i = 8 by omega)]; rw [if_neg (show ¬ i = 7 by omega)]; rw [if_neg (show ¬ i = 6 by omega)]; rw [if_neg (show ¬ i = 5 by omega)]; rw [if_neg (show ¬ i = 4 by omega)]; rw [if_neg (show ¬ i = 3 by omega)]; rw [if_neg (show ¬ i = 2 by omega)]; rw [if_neg (show ¬ i = 1 by omega)]; rw [if_neg (show ¬ i = 0 by omega)]
/-- A block that begins with a head. -/
theorem hdF_bl {w : World} {g : Nat} {n : Nat} {f : Nat → Value} (xs : List Int) (h : w.rowIs g 5 n (hdF xs f)) (hn : xs.length = n) : BL w g xs := by
  subst hn
  exact World.rowIs.congr h (fun i hi => by unfold hdF; rw [if_pos hi])
theorem below_base {w w1 w2 : World} (hb : Below w.heap.size w w1) (hg : Below w.heap.size w1 w2) : Below w.heap.size w w2 := hb.trans hg

set_option maxRecDepth 100000 in
theorem wf_203 (w : World) (n : Int) (h0 : 0 ≤ n) (h1 : n < 18446744073709551616) : Calls Tryz.prog 36 #[.int .u64 n] w (Wrote [203, n / 72057594037927936 % 256, n / 281474976710656 % 256, n / 1099511627776 % 256, n / 4294967296 % 256, n / 16777216 % 256, n / 65536 % 256, n / 256 % 256, n % 256] w) := by
  have H := Lib.hid (ensure_nil w 9 (by omega) (by omega))
  have hf := run63 n
  have hf2 := run61 n.toNat
  have hnn : ((n.toNat : Nat) : Int) = n := by omega
  rw [hnn] at hf2
  clear hnn
  have HH := Lib.hid (And.intro h0 h1)
  clear h0 h1
  go_enter Tryz.func36, Tryz.ntmps36
  go_wp2_with (first | (go_at_call 88; refine H.out.mono ?_; rintro e w1 ⟨rfl, hrow, hb⟩; have HROW := Lib.hid hrow; clear hrow) | go_in)
  go_region_with (go_at_call 103; refine (pre64 _ _ _ _ (Lib.hid (World.rowIs.drew HROW.out)) (by omega) 203 n HH.out.1 HH.out.2).mono ?_; rintro e w2 ⟨rfl, hr2, hb2⟩)
  all_goals go_wp2
  all_goals go_ret
  all_goals exact ⟨_, rfl, (hdF_bl _ hr2 rfl).ob (Nat.le_refl _) (by simp), (below_drew hb).trans hb2⟩
set_option maxRecDepth 100000 in
theorem wf_202 (w : World) (n : Int) (h0 : 0 ≤ n) (h1 : n < 4294967296) : Calls Tryz.prog 38 #[.int .u32 n] w (Wrote [202, n / 16777216 % 256, n / 65536 % 256, n / 256 % 256, n % 256] w) := by
  have H := Lib.hid (ensure_nil w 5 (by omega) (by omega))
  have hf := run67 n
  have hf2 := run65 n.toNat
  have hnn : ((n.toNat : Nat) : Int) = n := by omega
  rw [hnn] at hf2
  clear hnn
  have HH := Lib.hid (And.intro h0 h1)
  clear h0 h1
  go_enter Tryz.func38, Tryz.ntmps38
  go_wp2_with (first | (go_at_call 88; refine H.out.mono ?_; rintro e w1 ⟨rfl, hrow, hb⟩; have HROW := Lib.hid hrow; clear hrow) | go_in)
  go_region_with (go_at_call 90; refine (pre32 _ _ _ _ (Lib.hid (World.rowIs.drew HROW.out)) (by omega) 202 n HH.out.1 HH.out.2).mono ?_; rintro e w2 ⟨rfl, hr2, hb2⟩)
  all_goals go_wp2
  all_goals go_ret
  all_goals exact ⟨_, rfl, (hdF_bl _ hr2 rfl).ob (Nat.le_refl _) (by simp), (below_drew hb).trans hb2⟩
end Go.Proofs.YtmliokplekeljaaGreatDoor.M
