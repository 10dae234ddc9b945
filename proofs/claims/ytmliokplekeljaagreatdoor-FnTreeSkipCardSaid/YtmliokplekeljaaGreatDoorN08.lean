/- The reference's HeadOf by contracts. -/
import Derived.Test.YtmliokplekeljaaGreatDoorN07
namespace Go.Proofs.YtmliokplekeljaaGreatDoor.M
open Go.RowKit Go.Proofs.YtmliokplekeljaaGreatDoorW.PrintWords Go.Proofs.YtmliokplekeljaaGreatDoorW.PrintMore PFnTreeAny
set_option linter.unusedVariables false
set_option linter.unusedSimpArgs false

theorem ref_num (w : World) (A : Option Addr) (n c : Nat) (xs : List Int) (hr : CB w A xs) (hn : n = xs.length) (hc : n ≤ c) (hB : ∀ x, x ∈ xs → isB x) (hl : xs.length ≤ 8) :
    Calls Tryz.prog 28 #[.slice A n c] w fun e w' => e = .returned (.int .u64 (beL 0 xs)) ∧ Drawn0 w w' := by
  subst hn
  exact spec_number.calls 20 A c xs (beL 0 xs) w hr hc (number_f xs hB hl)
theorem midCB (A : Option Addr) (n c lo hi : Nat) (l : List Int) (hn : n = l.length) (h1 : lo ≤ hi) (h2 : hi ≤ n) (hc : n ≤ c) :
    ∃ A' : Option Addr, (∀ W : World, (Instr.slice 22 (.slice A n c) (some (.int .i64 (lo : Int))) (some (.int .i64 (hi : Int))) none).run Tryz.prog W = .ok (.slice A' (hi - lo) (c - lo)) W) ∧ (∀ w, CB w A l → CB w A' ((l.take hi).drop lo)) := by
  subst hn
  obtain ⟨i0, hi0, hzz⟩ := Option.map_eq_some_iff.1 info5
  simp only [Prod.mk.injEq] at hzz
  obtain ⟨A', g1, g2, _⟩ := print_mid_of (P := Tryz.prog) (Value.int .u8) (0 : Int) 22 5 .i64 .i64 Tryz.underlying22 hi0 hzz.2.1 A c l (lo : Int) (hi : Int) (by omega) (by omega) (by omega) hc
  have hl : ((l.take hi).drop lo).length = hi - lo := by rw [List.length_drop, List.length_take]; omega
  simp only [Int.toNat_natCast] at g1 g2
  rw [hl] at g1
  refine ⟨A', g1, fun w h => Kd.C_of_reads (d := 0) (g2 w (Kd.reads_of_C h))⟩
/-- Behind draws, new blocks and stores into them. -/
theorem belowSet {w W : World} (h : Below w.heap.size w W) (b o : Nat) (u : Value) (hb : w.heap.size ≤ b) : Below w.heap.size w (W.setCell ⟨b, o, none⟩ u) := h.setCell hb u
theorem ref_sg (w : World) (n : Int) (s : Int) (r : Int) (h : spec_signed.f 20 n s = some r) : Calls Tryz.prog 27 #[.int .u64 n, .int .i64 s] w fun e w' => e = .returned (.int .u64 r) ∧ Drawn0 w w' := spec_signed.calls 20 n s r w h
/-- What the head tells. -/
def HdIs (K N L T S : Int) (sh : Bool) (w : World) (e : Ending) (w' : World) : Prop := e = .returned (.agg #[.int .i64 K, .int .u64 N, .int .i64 L, .int .i8 T, .int .i64 S, .bool sh]) ∧ Below w.heap.size w w'
set_option maxRecDepth 100000 in
theorem hd_nil (w : World) (A : Option Addr) (c : Nat) : Calls Tryz.prog 11 #[.slice A 0 c] w (HdIs 0 0 0 0 0 true w) := by
  go_enter Tryz.func11, Tryz.ntmps11
  go_wp2
  exact bodyPost_ret (v := (.agg #[.int .i64 0, .int .u64 0, .int .i64 0, .int .i8 0, .int .i64 0, .bool true])) (by simp [results, Tryz.results11, go_sem]) rfl ⟨rfl, (by repeat (first | exact Below.refl _ _ | apply below_alloc | apply pw_below_drewN | (refine belowSet ?_ _ _ _ (by omega))))⟩
set_option maxRecDepth 100000 in
theorem hd_fixint (w : World) (A : Option Addr) (n c : Nat) (v : Int) (r : List Int) (hr : CB w A (v :: r)) (hn : n = r.length + 1) (h0 : 0 ≤ v) (h1 : v < 128) :
    Calls Tryz.prog 11 #[.slice A n c] w (HdIs 4 v 0 0 1 false w) := by
  obtain ⟨ad, rfl, hc0⟩ := hr.head
  have hlt := World.block_lt_of_cell? w ad hc0
  replace hc0 : ∀ o, (w.alloc o).cell? ad = some (.int .u8 v) := fun o => (World.cell?_alloc_lt w o ad hlt).trans hc0
  clear hr hlt
  subst hn
  go_enter Tryz.func11, Tryz.ntmps11
  go_wp2
  exact bodyPost_ret (v := (.agg #[.int .i64 4, .int .u64 v, .int .i64 0, .int .i8 0, .int .i64 1, .bool false])) (by simp [results, Tryz.results11, go_sem]) rfl ⟨rfl, (by repeat (first | exact Below.refl _ _ | apply below_alloc | apply pw_below_drewN | (refine belowSet ?_ _ _ _ (by omega))))⟩
set_option maxRecDepth 100000 in
theorem hd_fixmap (w : World) (A : Option Addr) (n c : Nat) (v : Int) (r : List Int) (hr : CB w A (v :: r)) (hn : n = r.length + 1) (h0 : 128 ≤ v) (h1 : v < 144) :
    Calls Tryz.prog 11 #[.slice A n c] w (HdIs 10 0 (v - 128) 0 1 false w) := by
  obtain ⟨ad, rfl, hc0⟩ := hr.head
  have hlt := World.block_lt_of_cell? w ad hc0
  replace hc0 : ∀ o, (w.alloc o).cell? ad = some (.int .u8 v) := fun o => (World.cell?_alloc_lt w o ad hlt).trans hc0
  clear hr hlt
  subst hn
  have hb : Go.bits .and .u8 v 15 = v - 128 := by rw [and15 v (by omega) (by omega)]; omega
  go_enter Tryz.func11, Tryz.ntmps11
  go_wp2
  exact bodyPost_ret (v := (.agg #[.int .i64 10, .int .u64 0, .int .i64 (v - 128), .int .i8 0, .int .i64 1, .bool false])) (by simp [results, Tryz.results11, go_sem]) rfl ⟨rfl, (by repeat (first | exact Below.refl _ _ | apply below_alloc | apply pw_below_drewN | (refine belowSet ?_ _ _ _ (by omega))))⟩
set_option maxRecDepth 100000 in
theorem hd_fixarr (w : World) (A : Option Addr) (n c : Nat) (v : Int) (r : List Int) (hr : CB w A (v :: r)) (hn : n = r.length + 1) (h0 : 144 ≤ v) (h1 : v < 160) :
    Calls Tryz.prog 11 #[.slice A n c] w (HdIs 9 0 (v - 144) 0 1 false w) := by
  obtain ⟨ad, rfl, hc0⟩ := hr.head
  have hlt := World.block_lt_of_cell? w ad hc0
  replace hc0 : ∀ o, (w.alloc o).cell? ad = some (.int .u8 v) := fun o => (World.cell?_alloc_lt w o ad hlt).trans hc0
  clear hr hlt
  subst hn
  have hb : Go.bits .and .u8 v 15 = v - 144 := by rw [and15 v (by omega) (by omega)]; omega
  go_enter Tryz.func11, Tryz.ntmps11
  go_wp2
  exact bodyPost_ret (v := (.agg #[.int .i64 9, .int .u64 0, .int .i64 (v - 144), .int .i8 0, .int .i64 1, .bool false])) (by simp [results, Tryz.results11, go_sem]) rfl ⟨rfl, (by repeat (first | exact Below.refl _ _ | apply below_alloc | apply pw_below_drewN | (refine belowSet ?_ _ _ _ (by omega))))⟩
set_option maxRecDepth 100000 in
theorem hd_fixstr (w : World) (A : Option Addr) (n c : Nat) (v : Int) (r : List Int) (hr : CB w A (v :: r)) (hn : n = r.length + 1) (h0 : 160 ≤ v) (h1 : v < 192) :
    Calls Tryz.prog 11 #[.slice A n c] w (HdIs 7 0 (v - 160) 0 1 false w) := by
  obtain ⟨ad, rfl, hc0⟩ := hr.head
  have hlt := World.block_lt_of_cell? w ad hc0
  replace hc0 : ∀ o, (w.alloc o).cell? ad = some (.int .u8 v) := fun o => (World.cell?_alloc_lt w o ad hlt).trans hc0
  clear hr hlt
  subst hn
  have hb : Go.bits .and .u8 v 31 = v - 160 := by rw [and31 v (by omega) (by omega)]; omega
  go_enter Tryz.func11, Tryz.ntmps11
  go_wp2
  exact bodyPost_ret (v := (.agg #[.int .i64 7, .int .u64 0, .int .i64 (v - 160), .int .i8 0, .int .i64 1, .bool false])) (by simp [results, Tryz.results11, go_sem]) rfl ⟨rfl, (by repeat (first | exact Below.refl _ _ | apply below_alloc | apply pw_below_drewN | (refine belowSet ?_ _ _ _ (by omega))))⟩
set_option maxRecDepth 100000 in
theorem hd_192 (w : World) (A : Option Addr) (n c : Nat) (r : List Int) (hr : CB w A (192 :: r)) (hn : n = r.length + 1) :
    Calls Tryz.prog 11 #[.slice A n c] w (HdIs 1 0 0 0 1 false w) := by
  obtain ⟨ad, rfl, hc0⟩ := hr.head
  have hlt := World.block_lt_of_cell? w ad hc0
  replace hc0 : ∀ o, (w.alloc o).cell? ad = some (.int .u8 192) := fun o => (World.cell?_alloc_lt w o ad hlt).trans hc0
  clear hr hlt
  subst hn
  go_enter Tryz.func11, Tryz.ntmps11
  go_wp2
  exact bodyPost_ret (v := (.agg #[.int .i64 1, .int .u64 0, .int .i64 0, .int .i8 0, .int .i64 1, .bool false])) (by simp [results, Tryz.results11, go_sem]) rfl ⟨rfl, (by repeat (first | exact Below.refl _ _ | apply below_alloc | apply pw_below_drewN | (refine belowSet ?_ _ _ _ (by omega))))⟩
set_option maxRecDepth 100000 in
theorem hd_193 (w : World) (A : Option Addr) (n c : Nat) (r : List Int) (hr : CB w A (193 :: r)) (hn : n = r.length + 1) :
    Calls Tryz.prog 11 #[.slice A n c] w (HdIs 0 0 0 0 1 false w) := by
  obtain ⟨ad, rfl, hc0⟩ := hr.head
  have hlt := World.block_lt_of_cell? w ad hc0
  replace hc0 : ∀ o, (w.alloc o).cell? ad = some (.int .u8 193) := fun o => (World.cell?_alloc_lt w o ad hlt).trans hc0
  clear hr hlt
  subst hn
  go_enter Tryz.func11, Tryz.ntmps11
  go_wp2
  exact bodyPost_ret (v := (.agg #[.int .i64 0, .int .u64 0, .int .i64 0, .int .i8 0, .int .i64 1, .bool false])) (by simp [results, Tryz.results11, go_sem]) rfl ⟨rfl, (by repeat (first | exact Below.refl _ _ | apply below_alloc | apply pw_below_drewN | (refine belowSet ?_ _ _ _ (by omega))))⟩
set_option maxRecDepth 100000 in
theorem hd_194 (w : World) (A : Option Addr) (n c : Nat) (r : List Int) (hr : CB w A (194 :: r)) (hn : n = r.length + 1) :
    Calls Tryz.prog 11 #[.slice A n c] w (HdIs 2 0 0 0 1 false w) := by
  obtain ⟨ad, rfl, hc0⟩ := hr.head
  have hlt := World.block_lt_of_cell? w ad hc0
  replace hc0 : ∀ o, (w.alloc o).cell? ad = some (.int .u8 194) := fun o => (World.cell?_alloc_lt w o ad hlt).trans hc0
  clear hr hlt
  subst hn
  go_enter Tryz.func11, Tryz.ntmps11
  go_wp2
  exact bodyPost_ret (v := (.agg #[.int .i64 2, .int .u64 0, .int .i64 0, .int .i8 0, .int .i64 1, .bool false])) (by simp [results, Tryz.results11, go_sem]) rfl ⟨rfl, (by repeat (first | exact Below.refl _ _ | apply below_alloc | apply pw_below_drewN | (refine belowSet ?_ _ _ _ (by omega))))⟩
set_option maxRecDepth 100000 in
theorem hd_195 (w : World) (A : Option Addr) (n c : Nat) (r : List Int) (hr : CB w A (195 :: r)) (hn : n = r.length + 1) :
    Calls Tryz.prog 11 #[.slice A n c] w (HdIs 2 1 0 0 1 false w) := by
  obtain ⟨ad, rfl, hc0⟩ := hr.head
  have hlt := World.block_lt_of_cell? w ad hc0
  replace hc0 : ∀ o, (w.alloc o).cell? ad = some (.int .u8 195) := fun o => (World.cell?_alloc_lt w o ad hlt).trans hc0
  clear hr hlt
  subst hn
  go_enter Tryz.func11, Tryz.ntmps11
  go_wp2
  exact bodyPost_ret (v := (.agg #[.int .i64 2, .int .u64 1, .int .i64 0, .int .i8 0, .int .i64 1, .bool false])) (by simp [results, Tryz.results11, go_sem]) rfl ⟨rfl, (by repeat (first | exact Below.refl _ _ | apply below_alloc | apply pw_below_drewN | (refine belowSet ?_ _ _ _ (by omega))))⟩
end Go.Proofs.YtmliokplekeljaaGreatDoor.M

namespace Go.Proofs.YtmliokplekeljaaGreatDoor.M
open Go.RowKit Go.Proofs.YtmliokplekeljaaGreatDoorW.PrintWords Go.Proofs.YtmliokplekeljaaGreatDoorW.PrintMore PFnTreeAny
set_option linter.unusedVariables false
set_option linter.unusedSimpArgs false

set_option maxRecDepth 100000 in
theorem hd_nfix (w : World) (A : Option Addr) (n c : Nat) (v : Int) (r : List Int) (hr : CB w A (v :: r)) (hn : n = r.length + 1) (h0 : 224 ≤ v) (h1 : v < 256) (z : Int) (hz : spec_signed.f 20 v 1 = some z) :
    Calls Tryz.prog 11 #[.slice A n c] w (HdIs 3 z 0 0 1 false w) := by
  obtain ⟨ad, rfl, hc0⟩ := hr.head
  have hlt := World.block_lt_of_cell? w ad hc0
  replace hc0 : ∀ o, (w.alloc o).cell? ad = some (.int .u8 v) := fun o => (World.cell?_alloc_lt w o ad hlt).trans hc0
  clear hr hlt
  subst hn
  have HS := Lib.hid hz
  clear hz
  go_enter Tryz.func11, Tryz.ntmps11
  go_wp2_with (go_at_call 27; refine (ref_sg _ v 1 z HS.out).mono ?_; rintro e w1 ⟨rfl, hd⟩; obtain ⟨nq, rfl⟩ := hd.out)
  exact bodyPost_ret (v := (.agg #[.int .i64 3, .int .u64 z, .int .i64 0, .int .i8 0, .int .i64 1, .bool false])) (by simp [results, Tryz.results11, go_sem]) rfl ⟨rfl, (by repeat (first | (refine belowSet ?_ _ _ _ (by omega)) | apply below_alloc | apply pw_below_drewN | exact Below.refl _ _))⟩

end Go.Proofs.YtmliokplekeljaaGreatDoor.M
