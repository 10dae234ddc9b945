/- slices.Clone by contract, and impl.Kind. -/
import Derived.Test.YtmliokplekeljaaGreatDoorN01
import Derived.WalkSpells
import Derived.Deep.DeepMust
import Derived.Lib.EndianBits
import Derived.Deep.QuietTactic
import Derived.BigQuiet
namespace Go.Proofs.YtmliokplekeljaaGreatDoor.M
open Go.RowKit Go.Proofs.YtmliokplekeljaaGreatDoorW.PrintWords
set_option linter.unusedVariables false
set_option linter.unusedSimpArgs false

theorem info5 : (Tryz.prog.info? 5).map (fun i => (i.zero, i.size, i.bytes)) = some (some (.int .u8 0), 1, 1) := by kernel_rfl
/-- A row of bytes of the call's own. -/
abbrev OB (w : World) (base : Nat) (v : Value) (l : List Int) : Prop := Kd.R (Kd.int .u8) 5 w base (fun _ => True) v l

theorem CB.none_ {w : World} {l : List Int} (h : CB w none l) : l = [] := by
  rcases l with _ | ⟨v, t⟩
  · rfl
  · obtain ⟨ad, h, _⟩ := h.head
    cases h

theorem OB_empty (w : World) : OB (w.alloc (.cells #[] 5)) w.heap.size (.slice (some ⟨w.heap.size, 0, none⟩) 0 0) [] := by
  have h := World.ownsRow_lit (base := w.heap.size) (e := 5) (size := 1) w #[] 0 (Nat.le_refl _) (by simp) (by simp)
  exact Kd.R_of_own (xs := []) h (fun _ _ => trivial)

set_option maxRecDepth 100000 in
theorem clone_any (w : World) (A : Option Addr) (c : Nat) (l : List Int) (hr : CB w A l) (hl : l.length ≤ 140737488355327) :
    Calls Tryz.prog 25 #[.slice A l.length c] w fun e w' => ∃ v, e = .returned v ∧ OB w' w.heap.size v l ∧ Below w.heap.size w w' := by
  rcases A with _ | ad
  · obtain rfl := hr.none_
    have hq := fun W => Lib.run_eql_slice_nil (P := Tryz.prog) W 22 5 none 0 c 0 0 Tryz.underlying22
    go_enter Tryz.func25, Tryz.ntmps25
    go_wp2
    go_ret
    exact ⟨_, rfl, Kd.R_nil _ _ _ _ _, Below.refl _ _⟩
  · have hq := fun W => Lib.run_eql_slice_nil (P := Tryz.prog) W 22 5 (some ad) l.length c 0 0 Tryz.underlying22
    go_enter Tryz.func25, Tryz.ntmps25
    go_wp2_with (at_builtin; refine Kd.R_append_row (w0 := w) (Value.int .u8) 0 w.heap.size rfl (.tmp 5) (.tmp 6) 22 5 (.int .u8 0) 1 rfl Tryz.underlying22 info5 rfl (by decide) (.slice (some ⟨w.heap.size, 0, none⟩) 0 0) [] l (some ad) l.length c (fun _ => True) (by rfl) (by rfl) (fun _ _ => trivial) (OB_empty w) (Kd.C_below hr ((Below.refl _ _).alloc (Nat.le_refl _) _)) ((Below.refl _ _).alloc (Nat.le_refl _) _) (by simp) (by simp; omega) ?_; intro v1 w1 hR hb hg hat)
    go_ret
    exact ⟨_, rfl, hR, hb⟩

/-- What the call itself made, laid open: nil or empty, or the head of a block. -/
theorem OB.reads {w : World} {base : Nat} {v : Value} {l : List Int} (h : OB w base v l) : ∃ A c, v = .slice A l.length c ∧ l.length ≤ c ∧ CB w A l := Kd.R_reads h
theorem OB.form {w : World} {base : Nat} {v : Value} {x : Int} {l : List Int} (h : OB w base v (x :: l)) : ∃ g c, v = .slice (some ⟨g, 0, none⟩) (x :: l).length c ∧ (x :: l).length ≤ c ∧ base ≤ g ∧ g < w.heap.size ∧ CB w (some ⟨g, 0, none⟩) (x :: l) := by
  obtain ⟨A, c, rfl, hc, hr⟩ := h.reads
  obtain ⟨g, cap, hv, hb, hg, _⟩ := Kd.R_form h (by simp)
  injection hv with h1 h2 h3
  subst h1
  exact ⟨g, c, rfl, hc, hb, hg, hr⟩

/-- impl.Kind at no byte. -/
theorem kind_nil (w : World) (A : Option Addr) (c : Nat) (hr : CB w A []) : Calls Tryz.prog 18 #[.slice A 0 c] w fun e w' => e = .returned (.int .i64 0) ∧ Below w.heap.size w w' := by
  have H := Lib.hid (fun W (h : CB W A []) => clone_any W A c [] h (by simp))
  go_enter Tryz.func18, Tryz.ntmps18
  go_wp2_with (first | (go_at_call 25; refine (H.out _ hr).mono ?_; rintro e w1 ⟨v, rfl, hR, hb⟩; obtain ⟨A1, c1, rfl, _, _⟩ := hR.reads) | (go_at_call 30; refine (nextType_nil A1 c1 _).mono ?_; rintro e w2 ⟨rfl, rfl⟩))
  go_ret
  exact ⟨rfl, hb⟩
end Go.Proofs.YtmliokplekeljaaGreatDoor.M

namespace Go.Proofs.YtmliokplekeljaaGreatDoor.M
open Go.RowKit Go.Proofs.YtmliokplekeljaaGreatDoorW.PrintWords
set_option linter.unusedVariables false
set_option linter.unusedSimpArgs false

/-- A whole number of a byte. -/
abbrev isB (x : Int) : Prop := 0 ≤ x ∧ x < 256
/-- Bytes at the place (b, o). -/
structure RB (w : World) (b o : Nat) (l : List Int) : Prop where
  lt : b < w.heap.size
  cell : ∀ i, i < l.length → w.cell? ⟨b, o + i, none⟩ = some (.int .u8 (rd l i))
theorem RB.below {w w' : World} {b o : Nat} {l : List Int} (h : RB w b o l) (hb : Below w.heap.size w w') : RB w' b o l :=
  ⟨Nat.lt_of_lt_of_le h.lt hb.size, fun i hi => (hb.cell (p := ⟨b, o + i, none⟩) h.lt).trans (h.cell i hi)⟩
theorem RB.of_CB {w : World} {g : Nat} {l : List Int} (h : CB w (some ⟨g, 0, none⟩) l) (hg : g < w.heap.size) : RB w g 0 l := by
  refine ⟨hg, fun i hi => ?_⟩
  obtain ⟨ad, h1, h2⟩ := h.at_ i hi
  injection h1 with h1
  subst h1
  rw [add_plain] at h2
  simpa using h2
theorem RB.c0 {w : World} {b o : Nat} {x : Int} {l : List Int} (h : RB w b o (x :: l)) : w.cell? ⟨b, o, none⟩ = some (.int .u8 x) := h.cell 0 (by simp)
theorem RB.c1 {w : World} {b o : Nat} {x y : Int} {l : List Int} (h : RB w b o (x :: y :: l)) : w.cell? ⟨b, o + 1, none⟩ = some (.int .u8 y) := h.cell 1 (by simp)
theorem RB.c2 {w : World} {b o : Nat} {x y z : Int} {l : List Int} (h : RB w b o (x :: y :: z :: l)) : w.cell? ⟨b, o + 2, none⟩ = some (.int .u8 z) := h.cell 2 (by simp)
theorem ret_int {k : IntKind} {a b : Int} (h : a = b) : Ending.returned (.int k a) = .returned (.int k b) := by rw [h]
theorem RB.c3 {w : World} {b o : Nat} {x y z u : Int} {l : List Int} (h : RB w b o (x :: y :: z :: u :: l)) : w.cell? ⟨b, o + 3, none⟩ = some (.int .u8 u) := h.cell 3 (by simp)
theorem RB.c4 {w : World} {b o : Nat} {x0 x1 x2 x3 x4 : Int} {l : List Int} (h : RB w b o (x0 :: x1 :: x2 :: x3 :: x4 :: l)) : w.cell? ⟨b, o + 4, none⟩ = some (.int .u8 x4) := h.cell 4 (by simp)
theorem RB.c5 {w : World} {b o : Nat} {x0 x1 x2 x3 x4 x5 : Int} {l : List Int} (h : RB w b o (x0 :: x1 :: x2 :: x3 :: x4 :: x5 :: l)) : w.cell? ⟨b, o + 5, none⟩ = some (.int .u8 x5) := h.cell 5 (by simp)
theorem RB.c6 {w : World} {b o : Nat} {x0 x1 x2 x3 x4 x5 x6 : Int} {l : List Int} (h : RB w b o (x0 :: x1 :: x2 :: x3 :: x4 :: x5 :: x6 :: l)) : w.cell? ⟨b, o + 6, none⟩ = some (.int .u8 x6) := h.cell 6 (by simp)
theorem RB.c7 {w : World} {b o : Nat} {x0 x1 x2 x3 x4 x5 x6 x7 : Int} {l : List Int} (h : RB w b o (x0 :: x1 :: x2 :: x3 :: x4 :: x5 :: x6 :: x7 :: l)) : w.cell? ⟨b, o + 7, none⟩ = some (.int .u8 x7) := h.cell 7 (by simp)
theorem RB.c8 {w : World} {b o : Nat} {x0 x1 x2 x3 x4 x5 x6 x7 x8 : Int} {l : List Int} (h : RB w b o (x0 :: x1 :: x2 :: x3 :: x4 :: x5 :: x6 :: x7 :: x8 :: l)) : w.cell? ⟨b, o + 8, none⟩ = some (.int .u8 x8) := h.cell 8 (by simp)
/-- xs[k:]. -/
theorem cutRB (b o n c : Nat) (k : Nat) (l : List Int) (hn : n = l.length) (hk : k ≤ n) (hc : n ≤ c) :
    ∃ o' : Nat, (∀ W : World, (Instr.slice 22 (.slice (some ⟨b, o, none⟩) n c) (some (.int .i64 (k : Int))) none none).run Tryz.prog W = .ok (.slice (some ⟨b, o', none⟩) (n - k) (c - k)) W) ∧ (∀ w, RB w b o l → RB w b o' (l.drop k)) := by
  subst hn
  obtain ⟨i0, hi, hzz⟩ := Option.map_eq_some_iff.1 info5
  simp only [Prod.mk.injEq] at hzz
  refine ⟨if c = k then o else o + k, fun W => ?_, fun w h => ⟨h.lt, fun i hi => ?_⟩⟩
  · have hel : Tryz.prog.elem 22 = 5 := by simp [Program.elem, Tryz.underlying22]
    have hu : Tryz.prog.underlying 22 = some (.slice (Tryz.prog.elem 22)) := by rw [hel]; exact Tryz.underlying22
    rw [run_slice_l W 22 (some ⟨b, o, none⟩) l.length c hu .i64 (k : Int) (Int.natCast_nonneg _) (by omega), hel]
    by_cases hck : c = k
    · simp [sizeOf, typeInfo, hi, hzz.2.1, sliced, Result.andThen, hck]
    · by_cases hk0 : k = 0
      · subst hk0; simp [sizeOf, typeInfo, hi, hzz.2.1, sliced, Result.andThen, hck, Addr.add]
      · simp [sizeOf, typeInfo, hi, hzz.2.1, sliced, Result.andThen, hck, Addr.add, hk0]
  · rw [List.length_drop] at hi
    rw [if_neg (by omega)]
    have := h.cell (k + i) (by omega)
    rw [Nat.add_assoc]
    rw [this]
    simp [rd, List.getD_eq_getElem?_getD, List.getElem?_drop, show ((k : Int) + (i : Int)).toNat = k + i from by omega]

theorem bits_or_comm (k : IntKind) (a b : Int) : Go.bits .or k a b = Go.bits .or k b a := by
  simp only [Go.bits, BitVec.or_comm]

theorem u32_hi8 {x y : Int} (hy0 : 0 ≤ y) (hy : y < 256) (hx0 : 0 ≤ x) (hx : x % 256 = 0) (hx1 : x < 4294967296) : Go.bits .or .u32 x y = x + y := by rw [bits_or_comm, u32_or8 (y := y) (x := x) hy0 hy hx0 hx hx1, Int.add_comm]
theorem u32_hi16 {x y : Int} (hy0 : 0 ≤ y) (hy : y < 65536) (hx0 : 0 ≤ x) (hx : x % 65536 = 0) (hx1 : x < 4294967296) : Go.bits .or .u32 x y = x + y := by rw [bits_or_comm, u32_or16 (y := y) (x := x) hy0 hy hx0 hx hx1, Int.add_comm]
theorem u32_hi24 {x y : Int} (hy0 : 0 ≤ y) (hy : y < 16777216) (hx0 : 0 ≤ x) (hx : x % 16777216 = 0) (hx1 : x < 4294967296) : Go.bits .or .u32 x y = x + y := by rw [bits_or_comm, u32_or24 (y := y) (x := x) hy0 hy hx0 hx hx1, Int.add_comm]
theorem u64_hi8 {x y : Int} (hy0 : 0 ≤ y) (hy : y < 256) (hx0 : 0 ≤ x) (hx : x % 256 = 0) (hx1 : x < 18446744073709551616) : Go.bits .or .u64 x y = x + y := by rw [bits_or_comm, u64_or8 (y := y) (x := x) hy0 hy hx0 hx hx1, Int.add_comm]
theorem u64_hi16 {x y : Int} (hy0 : 0 ≤ y) (hy : y < 65536) (hx0 : 0 ≤ x) (hx : x % 65536 = 0) (hx1 : x < 18446744073709551616) : Go.bits .or .u64 x y = x + y := by rw [bits_or_comm, u64_or16 (y := y) (x := x) hy0 hy hx0 hx hx1, Int.add_comm]
theorem u64_hi24 {x y : Int} (hy0 : 0 ≤ y) (hy : y < 16777216) (hx0 : 0 ≤ x) (hx : x % 16777216 = 0) (hx1 : x < 18446744073709551616) : Go.bits .or .u64 x y = x + y := by rw [bits_or_comm, u64_or24 (y := y) (x := x) hy0 hy hx0 hx hx1, Int.add_comm]
theorem u64_hi32 {x y : Int} (hy0 : 0 ≤ y) (hy : y < 4294967296) (hx0 : 0 ≤ x) (hx : x % 4294967296 = 0) (hx1 : x < 18446744073709551616) : Go.bits .or .u64 x y = x + y := by rw [bits_or_comm, u64_or32 (y := y) (x := x) hy0 hy hx0 hx hx1, Int.add_comm]
theorem u64_hi40 {x y : Int} (hy0 : 0 ≤ y) (hy : y < 1099511627776) (hx0 : 0 ≤ x) (hx : x % 1099511627776 = 0) (hx1 : x < 18446744073709551616) : Go.bits .or .u64 x y = x + y := by rw [bits_or_comm, u64_or40 (y := y) (x := x) hy0 hy hx0 hx hx1, Int.add_comm]
theorem u64_hi48 {x y : Int} (hy0 : 0 ≤ y) (hy : y < 281474976710656) (hx0 : 0 ≤ x) (hx : x % 281474976710656 = 0) (hx1 : x < 18446744073709551616) : Go.bits .or .u64 x y = x + y := by rw [bits_or_comm, u64_or48 (y := y) (x := x) hy0 hy hx0 hx hx1, Int.add_comm]
theorem u64_hi56 {x y : Int} (hy0 : 0 ≤ y) (hy : y < 72057594037927936) (hx0 : 0 ≤ x) (hx : x % 72057594037927936 = 0) (hx1 : x < 18446744073709551616) : Go.bits .or .u64 x y = x + y := by rw [bits_or_comm, u64_or56 (y := y) (x := x) hy0 hy hx0 hx hx1, Int.add_comm]
set_option maxRecDepth 100000 in
theorem be16 (w : World) (g o n c : Nat) (x0 x1 : Int) (r : List Int) (hr : RB w g o (x0 :: x1 :: r)) (hn : n = r.length + 2) (h0 : isB x0) (h1 : isB x1) :
    Calls Tryz.prog 84 #[.agg #[], .slice (some ⟨g, o, none⟩) n c] w fun e w' => e = .returned (.int .u16 (x0 * 256 + x1)) ∧ Below w.heap.size w w' := by
  have hg := hr.lt
  have hc0 := hr.c0
  have hc1 := hr.c1
  clear hr
  obtain rfl : n = r.length + 1 + 1 := by omega
  clear hn
  obtain ⟨ha0, hb0⟩ := h0
  obtain ⟨ha1, hb1⟩ := h1
  have ho1 := u16_or8 (y := x1) (x := x0 * 256) (by omega) (by omega) (by omega) (by omega) (by omega)
  go_enter Tryz.func84, Tryz.ntmps84
  go_wp2
  go_quiet (fail)
  go_wp2
  go_ret
  exact ⟨ret_int (by omega), pw_below_drewN ((Below.refl _ _).alloc (Nat.le_refl _) _) _⟩

set_option maxRecDepth 100000 in
theorem be32 (w : World) (g o n c : Nat) (x0 x1 x2 x3 : Int) (r : List Int) (hr : RB w g o (x0 :: x1 :: x2 :: x3 :: r)) (hn : n = r.length + 4) (h0 : isB x0) (h1 : isB x1) (h2 : isB x2) (h3 : isB x3) :
    Calls Tryz.prog 85 #[.agg #[], .slice (some ⟨g, o, none⟩) n c] w fun e w' => e = .returned (.int .u32 (x0 * 16777216 + x1 * 65536 + x2 * 256 + x3)) ∧ Below w.heap.size w w' := by
  have hg := hr.lt
  have hc0 := hr.c0
  have hc1 := hr.c1
  have hc2 := hr.c2
  have hc3 := hr.c3
  clear hr
  obtain rfl : n = r.length + 1 + 1 + 1 + 1 := by omega
  clear hn
  obtain ⟨ha0, hb0⟩ := h0
  obtain ⟨ha1, hb1⟩ := h1
  obtain ⟨ha2, hb2⟩ := h2
  obtain ⟨ha3, hb3⟩ := h3
  have ho1 := u32_or8 (y := x3) (x := x2 * 256) (by omega) (by omega) (by omega) (by omega) (by omega)
  have ho2 := u32_or16 (y := x3 + x2 * 256) (x := x1 * 65536) (by omega) (by omega) (by omega) (by omega) (by omega)
  have ho3 := u32_or24 (y := x3 + x2 * 256 + x1 * 65536) (x := x0 * 16777216) (by omega) (by omega) (by omega) (by omega) (by omega)
  go_enter Tryz.func85, Tryz.ntmps85
  go_wp2
  go_quiet (fail)
  go_wp2
  go_ret
  exact ⟨ret_int (by omega), pw_below_drewN ((Below.refl _ _).alloc (Nat.le_refl _) _) _⟩

set_option maxRecDepth 100000 in
theorem be64 (w : World) (g o n c : Nat) (x0 x1 x2 x3 x4 x5 x6 x7 : Int) (r : List Int) (hr : RB w g o (x0 :: x1 :: x2 :: x3 :: x4 :: x5 :: x6 :: x7 :: r)) (hn : n = r.length + 8) (h0 : isB x0) (h1 : isB x1) (h2 : isB x2) (h3 : isB x3) (h4 : isB x4) (h5 : isB x5) (h6 : isB x6) (h7 : isB x7) :
    Calls Tryz.prog 110 #[.agg #[], .slice (some ⟨g, o, none⟩) n c] w fun e w' => e = .returned (.int .u64 (x0 * 72057594037927936 + x1 * 281474976710656 + x2 * 1099511627776 + x3 * 4294967296 + x4 * 16777216 + x5 * 65536 + x6 * 256 + x7)) ∧ Below w.heap.size w w' := by
  have hg := hr.lt
  have hc0 := hr.c0
  have hc1 := hr.c1
  have hc2 := hr.c2
  have hc3 := hr.c3
  have hc4 := hr.c4
  have hc5 := hr.c5
  have hc6 := hr.c6
  have hc7 := hr.c7
  clear hr
  obtain rfl : n = r.length + 1 + 1 + 1 + 1 + 1 + 1 + 1 + 1 := by omega
  clear hn
  obtain ⟨ha0, hb0⟩ := h0
  obtain ⟨ha1, hb1⟩ := h1
  obtain ⟨ha2, hb2⟩ := h2
  obtain ⟨ha3, hb3⟩ := h3
  obtain ⟨ha4, hb4⟩ := h4
  obtain ⟨ha5, hb5⟩ := h5
  obtain ⟨ha6, hb6⟩ := h6
  obtain ⟨ha7, hb7⟩ := h7
  have ho1 := u64_or8 (y := x7) (x := x6 * 256) (by omega) (by omega) (by omega) (by omega) (by omega)
  have ho2 := u64_or16 (y := x7 + x6 * 256) (x := x5 * 65536) (by omega) (by omega) (by omega) (by omega) (by omega)
  have ho3 := u64_or24 (y := x7 + x6 * 256 + x5 * 65536) (x := x4 * 16777216) (by omega) (by omega) (by omega) (by omega) (by omega)
  have ho4 := u64_or32 (y := x7 + x6 * 256 + x5 * 65536 + x4 * 16777216) (x := x3 * 4294967296) (by omega) (by omega) (by omega) (by omega) (by omega)
  have ho5 := u64_or40 (y := x7 + x6 * 256 + x5 * 65536 + x4 * 16777216 + x3 * 4294967296) (x := x2 * 1099511627776) (by omega) (by omega) (by omega) (by omega) (by omega)
  have ho6 := u64_or48 (y := x7 + x6 * 256 + x5 * 65536 + x4 * 16777216 + x3 * 4294967296 + x2 * 1099511627776) (x := x1 * 281474976710656) (by omega) (by omega) (by omega) (by omega) (by omega)
  have ho7 := u64_or56 (y := x7 + x6 * 256 + x5 * 65536 + x4 * 16777216 + x3 * 4294967296 + x2 * 1099511627776 + x1 * 281474976710656) (x := x0 * 72057594037927936) (by omega) (by omega) (by omega) (by omega) (by omega)
  go_enter Tryz.func110, Tryz.ntmps110
  go_wp2
  go_quiet (fail)
  go_wp2
  go_ret
  exact ⟨ret_int (by omega), pw_below_drewN ((Below.refl _ _).alloc (Nat.le_refl _) _) _⟩

set_option maxRecDepth 100000 in
theorem getM32 (w : World) (g o n c : Nat) (p x0 x1 x2 x3 : Int) (r : List Int) (hr : RB w g o (p :: x0 :: x1 :: x2 :: x3 :: r)) (hn : n = r.length + 5) (h0 : isB x0) (h1 : isB x1) (h2 : isB x2) (h3 : isB x3) :
    Calls Tryz.prog 105 #[.slice (some ⟨g, o, none⟩) n c] w fun e w' => e = .returned (.int .u32 (x0 * 16777216 + x1 * 65536 + x2 * 256 + x3)) ∧ Below w.heap.size w w' := by
  have hg := hr.lt
  have hc0 := hr.c0
  have hc1 := hr.c1
  have hc2 := hr.c2
  have hc3 := hr.c3
  have hc4 := hr.c4
  clear hr
  obtain rfl : n = r.length + 1 + 1 + 1 + 1 + 1 := by omega
  clear hn
  obtain ⟨ha0, hb0⟩ := h0
  obtain ⟨ha1, hb1⟩ := h1
  obtain ⟨ha2, hb2⟩ := h2
  obtain ⟨ha3, hb3⟩ := h3
  have ho1 := u32_hi24 (x := x0 * 16777216) (y := x1 * 65536) (by omega) (by omega) (by omega) (by omega) (by omega)
  have ho2 := u32_hi16 (x := x0 * 16777216 + x1 * 65536) (y := x2 * 256) (by omega) (by omega) (by omega) (by omega) (by omega)
  have ho3 := u32_hi8 (x := x0 * 16777216 + x1 * 65536 + x2 * 256) (y := x3) (by omega) (by omega) (by omega) (by omega) (by omega)
  go_enter Tryz.func105, Tryz.ntmps105
  go_wp2
  go_quiet (fail)
  go_wp2
  go_ret
  exact ⟨ret_int (by omega), pw_below_drewN (Below.refl _ _) _⟩

set_option maxRecDepth 100000 in
theorem getM64 (w : World) (g o n c : Nat) (p x0 x1 x2 x3 x4 x5 x6 x7 : Int) (r : List Int) (hr : RB w g o (p :: x0 :: x1 :: x2 :: x3 :: x4 :: x5 :: x6 :: x7 :: r)) (hn : n = r.length + 9) (h0 : isB x0) (h1 : isB x1) (h2 : isB x2) (h3 : isB x3) (h4 : isB x4) (h5 : isB x5) (h6 : isB x6) (h7 : isB x7) :
    Calls Tryz.prog 102 #[.slice (some ⟨g, o, none⟩) n c] w fun e w' => e = .returned (.int .u64 (x0 * 72057594037927936 + x1 * 281474976710656 + x2 * 1099511627776 + x3 * 4294967296 + x4 * 16777216 + x5 * 65536 + x6 * 256 + x7)) ∧ Below w.heap.size w w' := by
  have hg := hr.lt
  have hc0 := hr.c0
  have hc1 := hr.c1
  have hc2 := hr.c2
  have hc3 := hr.c3
  have hc4 := hr.c4
  have hc5 := hr.c5
  have hc6 := hr.c6
  have hc7 := hr.c7
  have hc8 := hr.c8
  clear hr
  obtain rfl : n = r.length + 1 + 1 + 1 + 1 + 1 + 1 + 1 + 1 + 1 := by omega
  clear hn
  obtain ⟨ha0, hb0⟩ := h0
  obtain ⟨ha1, hb1⟩ := h1
  obtain ⟨ha2, hb2⟩ := h2
  obtain ⟨ha3, hb3⟩ := h3
  obtain ⟨ha4, hb4⟩ := h4
  obtain ⟨ha5, hb5⟩ := h5
  obtain ⟨ha6, hb6⟩ := h6
  obtain ⟨ha7, hb7⟩ := h7
  have ho1 := u64_hi56 (x := x0 * 72057594037927936) (y := x1 * 281474976710656) (by omega) (by omega) (by omega) (by omega) (by omega)
  have ho2 := u64_hi48 (x := x0 * 72057594037927936 + x1 * 281474976710656) (y := x2 * 1099511627776) (by omega) (by omega) (by omega) (by omega) (by omega)
  have ho3 := u64_hi40 (x := x0 * 72057594037927936 + x1 * 281474976710656 + x2 * 1099511627776) (y := x3 * 4294967296) (by omega) (by omega) (by omega) (by omega) (by omega)
  have ho4 := u64_hi32 (x := x0 * 72057594037927936 + x1 * 281474976710656 + x2 * 1099511627776 + x3 * 4294967296) (y := x4 * 16777216) (by omega) (by omega) (by omega) (by omega) (by omega)
  have ho5 := u64_hi24 (x := x0 * 72057594037927936 + x1 * 281474976710656 + x2 * 1099511627776 + x3 * 4294967296 + x4 * 16777216) (y := x5 * 65536) (by omega) (by omega) (by omega) (by omega) (by omega)
  have ho6 := u64_hi16 (x := x0 * 72057594037927936 + x1 * 281474976710656 + x2 * 1099511627776 + x3 * 4294967296 + x4 * 16777216 + x5 * 65536) (y := x6 * 256) (by omega) (by omega) (by omega) (by omega) (by omega)
  have ho7 := u64_hi8 (x := x0 * 72057594037927936 + x1 * 281474976710656 + x2 * 1099511627776 + x3 * 4294967296 + x4 * 16777216 + x5 * 65536 + x6 * 256) (y := x7) (by omega) (by omega) (by omega) (by omega) (by omega)
  go_enter Tryz.func102, Tryz.ntmps102
  go_wp2
  go_quiet (fail)
  go_wp2
  go_ret
  exact ⟨ret_int (by omega), pw_below_drewN (Below.refl _ _) _⟩

end Go.Proofs.YtmliokplekeljaaGreatDoor.M
