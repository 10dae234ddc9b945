/- The reference's HeadOf by contracts, whole heads. -/
import Derived.Test.YtmliokplekeljaaGreatDoorN08
namespace Go.Proofs.YtmliokplekeljaaGreatDoor.M
open Go.RowKit Go.Proofs.YtmliokplekeljaaGreatDoorW.PrintWords Go.Proofs.YtmliokplekeljaaGreatDoorW.PrintMore PFnTreeAny
set_option linter.unusedVariables false
set_option linter.unusedSimpArgs false

set_option maxRecDepth 100000 in
theorem hd_196 (w : World) (A : Option Addr) (n c : Nat) (x0 : Int) (r : List Int) (hr : CB w A (196 :: x0 :: r)) (hn : n = r.length + 2) (hc : n ≤ c) (hx0 : isB x0) :
    Calls Tryz.prog 11 #[.slice A n c] w (HdIs 8 0 (beL 0 [x0]) 0 2 false w) := by
  obtain ⟨A', hs, hcb⟩ := midCB A n c 1 2 (196 :: x0 :: r) (by simp; omega) (by omega) (by omega) hc
  replace hs : ∀ W : World, (Instr.slice 22 (.slice A n c) (some (.int .i64 1)) (some (.int .i64 2)) none).run Tryz.prog W = .ok (.slice A' 1 (c - 1)) W := hs
  have HC := Lib.hid (show CB w A' [x0] from hcb w hr)
  obtain ⟨ad, rfl, hc0⟩ := hr.head
  have hlt := World.block_lt_of_cell? w ad hc0
  replace hc0 : ∀ o, (w.alloc o).cell? ad = some (.int .u8 196) := fun o => (World.cell?_alloc_lt w o ad hlt).trans hc0
  have HB := Lib.hid (show ∀ x, x ∈ [x0] → isB x by intro x hx; simp only [List.mem_cons, List.not_mem_nil, or_false] at hx; rcases hx with rfl <;> assumption)
  obtain ⟨y, hy⟩ : ∃ y, y = beL 0 [x0] := ⟨_, rfl⟩
  have hy0 : 0 ≤ y ∧ y ≤ 255 := by rw [hy]; obtain ⟨_, _⟩ := hx0; simp only [beL]; omega
  obtain ⟨hy0, hy1⟩ := hy0
  have HY := Lib.hid hy
  rw [← hy]
  clear hr hcb hlt hx0 hy
  subst hn
  go_enter Tryz.func11, Tryz.ntmps11
  go_wp2_with (go_at_call 28; refine (ref_num _ A' 1 (c - 1) [x0] (Kd.C_below HC.out (below_alloc (below_alloc (Below.refl _ _) _) _)) rfl (by omega) HB.out (by simp)).mono ?_; rintro e w1 ⟨rfl, hd⟩; obtain ⟨nq, rfl⟩ := hd.out; rw [← HY.out])
  exact bodyPost_ret (v := (.agg #[.int .i64 8, .int .u64 0, .int .i64 y, .int .i8 0, .int .i64 2, .bool false])) (by simp [results, Tryz.results11, go_sem]) rfl ⟨rfl, (by repeat (first | (refine belowSet ?_ _ _ _ (by omega)) | apply below_alloc | apply pw_below_drewN | exact Below.refl _ _))⟩
set_option maxRecDepth 100000 in
theorem hd_197 (w : World) (A : Option Addr) (n c : Nat) (x0 x1 : Int) (r : List Int) (hr : CB w A (197 :: x0 :: x1 :: r)) (hn : n = r.length + 3) (hc : n ≤ c) (hx0 : isB x0) (hx1 : isB x1) :
    Calls Tryz.prog 11 #[.slice A n c] w (HdIs 8 0 (beL 0 [x0, x1]) 0 3 false w) := by
  obtain ⟨A', hs, hcb⟩ := midCB A n c 1 3 (197 :: x0 :: x1 :: r) (by simp; omega) (by omega) (by omega) hc
  replace hs : ∀ W : World, (Instr.slice 22 (.slice A n c) (some (.int .i64 1)) (some (.int .i64 3)) none).run Tryz.prog W = .ok (.slice A' 2 (c - 1)) W := hs
  have HC := Lib.hid (show CB w A' [x0, x1] from hcb w hr)
  obtain ⟨ad, rfl, hc0⟩ := hr.head
  have hlt := World.block_lt_of_cell? w ad hc0
  replace hc0 : ∀ o, (w.alloc o).cell? ad = some (.int .u8 197) := fun o => (World.cell?_alloc_lt w o ad hlt).trans hc0
  have HB := Lib.hid (show ∀ x, x ∈ [x0, x1] → isB x by intro x hx; simp only [List.mem_cons, List.not_mem_nil, or_false] at hx; rcases hx with rfl | rfl <;> assumption)
  obtain ⟨y, hy⟩ : ∃ y, y = beL 0 [x0, x1] := ⟨_, rfl⟩
  have hy0 : 0 ≤ y ∧ y ≤ 65535 := by rw [hy]; obtain ⟨_, _⟩ := hx0; obtain ⟨_, _⟩ := hx1; simp only [beL]; omega
  obtain ⟨hy0, hy1⟩ := hy0
  have HY := Lib.hid hy
  rw [← hy]
  clear hr hcb hlt hx0 hx1 hy
  subst hn
  go_enter Tryz.func11, Tryz.ntmps11
  go_wp2_with (go_at_call 28; refine (ref_num _ A' 2 (c - 1) [x0, x1] (Kd.C_below HC.out (below_alloc (below_alloc (Below.refl _ _) _) _)) rfl (by omega) HB.out (by simp)).mono ?_; rintro e w1 ⟨rfl, hd⟩; obtain ⟨nq, rfl⟩ := hd.out; rw [← HY.out])
  exact bodyPost_ret (v := (.agg #[.int .i64 8, .int .u64 0, .int .i64 y, .int .i8 0, .int .i64 3, .bool false])) (by simp [results, Tryz.results11, go_sem]) rfl ⟨rfl, (by repeat (first | (refine belowSet ?_ _ _ _ (by omega)) | apply below_alloc | apply pw_below_drewN | exact Below.refl _ _))⟩
set_option maxRecDepth 100000 in
theorem hd_198 (w : World) (A : Option Addr) (n c : Nat) (x0 x1 x2 x3 : Int) (r : List Int) (hr : CB w A (198 :: x0 :: x1 :: x2 :: x3 :: r)) (hn : n = r.length + 5) (hc : n ≤ c) (hx0 : isB x0) (hx1 : isB x1) (hx2 : isB x2) (hx3 : isB x3) :
    Calls Tryz.prog 11 #[.slice A n c] w (HdIs 8 0 (beL 0 [x0, x1, x2, x3]) 0 5 false w) := by
  obtain ⟨A', hs, hcb⟩ := midCB A n c 1 5 (198 :: x0 :: x1 :: x2 :: x3 :: r) (by simp; omega) (by omega) (by omega) hc
  replace hs : ∀ W : World, (Instr.slice 22 (.slice A n c) (some (.int .i64 1)) (some (.int .i64 5)) none).run Tryz.prog W = .ok (.slice A' 4 (c - 1)) W := hs
  have HC := Lib.hid (show CB w A' [x0, x1, x2, x3] from hcb w hr)
  obtain ⟨ad, rfl, hc0⟩ := hr.head
  have hlt := World.block_lt_of_cell? w ad hc0
  replace hc0 : ∀ o, (w.alloc o).cell? ad = some (.int .u8 198) := fun o => (World.cell?_alloc_lt w o ad hlt).trans hc0
  have HB := Lib.hid (show ∀ x, x ∈ [x0, x1, x2, x3] → isB x by intro x hx; simp only [List.mem_cons, List.not_mem_nil, or_false] at hx; rcases hx with rfl | rfl | rfl | rfl <;> assumption)
  obtain ⟨y, hy⟩ : ∃ y, y = beL 0 [x0, x1, x2, x3] := ⟨_, rfl⟩
  have hy0 : 0 ≤ y ∧ y ≤ 4294967295 := by rw [hy]; obtain ⟨_, _⟩ := hx0; obtain ⟨_, _⟩ := hx1; obtain ⟨_, _⟩ := hx2; obtain ⟨_, _⟩ := hx3; simp only [beL]; omega
  obtain ⟨hy0, hy1⟩ := hy0
  have HY := Lib.hid hy
  rw [← hy]
  clear hr hcb hlt hx0 hx1 hx2 hx3 hy
  subst hn
  go_enter Tryz.func11, Tryz.ntmps11
  go_wp2_with (go_at_call 28; refine (ref_num _ A' 4 (c - 1) [x0, x1, x2, x3] (Kd.C_below HC.out (below_alloc (below_alloc (Below.refl _ _) _) _)) rfl (by omega) HB.out (by simp)).mono ?_; rintro e w1 ⟨rfl, hd⟩; obtain ⟨nq, rfl⟩ := hd.out; rw [← HY.out])
  exact bodyPost_ret (v := (.agg #[.int .i64 8, .int .u64 0, .int .i64 y, .int .i8 0, .int .i64 5, .bool false])) (by simp [results, Tryz.results11, go_sem]) rfl ⟨rfl, (by repeat (first | (refine belowSet ?_ _ _ _ (by omega)) | apply below_alloc | apply pw_below_drewN | exact Below.refl _ _))⟩
set_option maxRecDepth 100000 in
theorem hd_199 (w : World) (A : Option Addr) (n c : Nat) (x0 t : Int) (r : List Int) (hr : CB w A (199 :: x0 :: t :: r)) (hn : n = r.length + 3) (hc : n ≤ c) (hx0 : isB x0) (ht : isB t) :
    Calls Tryz.prog 11 #[.slice A n c] w (HdIs 11 0 (beL 0 [x0]) (IntKind.i8.wrap t) 3 false w) := by
  obtain ⟨A', hs, hcb⟩ := midCB A n c 1 2 (199 :: x0 :: t :: r) (by simp; omega) (by omega) (by omega) hc
  replace hs : ∀ W : World, (Instr.slice 22 (.slice A n c) (some (.int .i64 1)) (some (.int .i64 2)) none).run Tryz.prog W = .ok (.slice A' 1 (c - 1)) W := hs
  have HC := Lib.hid (show CB w A' [x0] from hcb w hr)
  obtain ⟨ad, rfl, hc0⟩ := hr.head
  have hlt := World.block_lt_of_cell? w ad hc0
  obtain ⟨ad', e', hct⟩ := hr.at_ 2 (by simp)
  injection e' with e'
  subst e'
  have hct' : w.cell? ⟨ad.block, ad.off + 2, none⟩ = some (.int .u8 t) := by simpa [rd, Addr.add] using hct
  clear hct
  replace hc0 : ∀ o, (w.alloc o).cell? ad = some (.int .u8 199) := fun o => (World.cell?_alloc_lt w o ad hlt).trans hc0
  have HB := Lib.hid (show ∀ x, x ∈ [x0] → isB x by intro x hx; simp only [List.mem_cons, List.not_mem_nil, or_false] at hx; rcases hx with rfl <;> assumption)
  obtain ⟨y, hy⟩ : ∃ y, y = beL 0 [x0] := ⟨_, rfl⟩
  have hy0 : 0 ≤ y ∧ y ≤ 255 := by rw [hy]; obtain ⟨_, _⟩ := hx0; simp only [beL]; omega
  obtain ⟨hy0, hy1⟩ := hy0
  have HY := Lib.hid hy
  rw [← hy]
  clear hr hcb hx0 ht hy
  subst hn
  go_enter Tryz.func11, Tryz.ntmps11
  go_wp2_with (go_at_call 28; refine (ref_num _ A' 1 (c - 1) [x0] (Kd.C_below HC.out (below_alloc (below_alloc (Below.refl _ _) _) _)) rfl (by omega) HB.out (by simp)).mono ?_; rintro e w1 ⟨rfl, hd⟩; obtain ⟨nq, rfl⟩ := hd.out; rw [← HY.out])
  exact bodyPost_ret (v := (.agg #[.int .i64 11, .int .u64 0, .int .i64 y, .int .i8 (IntKind.i8.wrap t), .int .i64 3, .bool false])) (by simp [results, Tryz.results11, go_sem]) rfl ⟨rfl, (by repeat (first | (refine belowSet ?_ _ _ _ (by omega)) | apply below_alloc | apply pw_below_drewN | exact Below.refl _ _))⟩
set_option maxRecDepth 100000 in
theorem hd_200 (w : World) (A : Option Addr) (n c : Nat) (x0 x1 t : Int) (r : List Int) (hr : CB w A (200 :: x0 :: x1 :: t :: r)) (hn : n = r.length + 4) (hc : n ≤ c) (hx0 : isB x0) (hx1 : isB x1) (ht : isB t) :
    Calls Tryz.prog 11 #[.slice A n c] w (HdIs 11 0 (beL 0 [x0, x1]) (IntKind.i8.wrap t) 4 false w) := by
  obtain ⟨A', hs, hcb⟩ := midCB A n c 1 3 (200 :: x0 :: x1 :: t :: r) (by simp; omega) (by omega) (by omega) hc
  replace hs : ∀ W : World, (Instr.slice 22 (.slice A n c) (some (.int .i64 1)) (some (.int .i64 3)) none).run Tryz.prog W = .ok (.slice A' 2 (c - 1)) W := hs
  have HC := Lib.hid (show CB w A' [x0, x1] from hcb w hr)
  obtain ⟨ad, rfl, hc0⟩ := hr.head
  have hlt := World.block_lt_of_cell? w ad hc0
  obtain ⟨ad', e', hct⟩ := hr.at_ 3 (by simp)
  injection e' with e'
  subst e'
  have hct' : w.cell? ⟨ad.block, ad.off + 3, none⟩ = some (.int .u8 t) := by simpa [rd, Addr.add] using hct
  clear hct
  replace hc0 : ∀ o, (w.alloc o).cell? ad = some (.int .u8 200) := fun o => (World.cell?_alloc_lt w o ad hlt).trans hc0
  have HB := Lib.hid (show ∀ x, x ∈ [x0, x1] → isB x by intro x hx; simp only [List.mem_cons, List.not_mem_nil, or_false] at hx; rcases hx with rfl | rfl <;> assumption)
  obtain ⟨y, hy⟩ : ∃ y, y = beL 0 [x0, x1] := ⟨_, rfl⟩
  have hy0 : 0 ≤ y ∧ y ≤ 65535 := by rw [hy]; obtain ⟨_, _⟩ := hx0; obtain ⟨_, _⟩ := hx1; simp only [beL]; omega
  obtain ⟨hy0, hy1⟩ := hy0
  have HY := Lib.hid hy
  rw [← hy]
  clear hr hcb hx0 hx1 ht hy
  subst hn
  go_enter Tryz.func11, Tryz.ntmps11
  go_wp2_with (go_at_call 28; refine (ref_num _ A' 2 (c - 1) [x0, x1] (Kd.C_below HC.out (below_alloc (below_alloc (Below.refl _ _) _) _)) rfl (by omega) HB.out (by simp)).mono ?_; rintro e w1 ⟨rfl, hd⟩; obtain ⟨nq, rfl⟩ := hd.out; rw [← HY.out])
  exact bodyPost_ret (v := (.agg #[.int .i64 11, .int .u64 0, .int .i64 y, .int .i8 (IntKind.i8.wrap t), .int .i64 4, .bool false])) (by simp [results, Tryz.results11, go_sem]) rfl ⟨rfl, (by repeat (first | (refine belowSet ?_ _ _ _ (by omega)) | apply below_alloc | apply pw_below_drewN | exact Below.refl _ _))⟩
set_option maxRecDepth 100000 in
theorem hd_201 (w : World) (A : Option Addr) (n c : Nat) (x0 x1 x2 x3 t : Int) (r : List Int) (hr : CB w A (201 :: x0 :: x1 :: x2 :: x3 :: t :: r)) (hn : n = r.length + 6) (hc : n ≤ c) (hx0 : isB x0) (hx1 : isB x1) (hx2 : isB x2) (hx3 : isB x3) (ht : isB t) :
    Calls Tryz.prog 11 #[.slice A n c] w (HdIs 11 0 (beL 0 [x0, x1, x2, x3]) (IntKind.i8.wrap t) 6 false w) := by
  obtain ⟨A', hs, hcb⟩ := midCB A n c 1 5 (201 :: x0 :: x1 :: x2 :: x3 :: t :: r) (by simp; omega) (by omega) (by omega) hc
  replace hs : ∀ W : World, (Instr.slice 22 (.slice A n c) (some (.int .i64 1)) (some (.int .i64 5)) none).run Tryz.prog W = .ok (.slice A' 4 (c - 1)) W := hs
  have HC := Lib.hid (show CB w A' [x0, x1, x2, x3] from hcb w hr)
  obtain ⟨ad, rfl, hc0⟩ := hr.head
  have hlt := World.block_lt_of_cell? w ad hc0
  obtain ⟨ad', e', hct⟩ := hr.at_ 5 (by simp)
  injection e' with e'
  subst e'
  have hct' : w.cell? ⟨ad.block, ad.off + 5, none⟩ = some (.int .u8 t) := by simpa [rd, Addr.add] using hct
  clear hct
  replace hc0 : ∀ o, (w.alloc o).cell? ad = some (.int .u8 201) := fun o => (World.cell?_alloc_lt w o ad hlt).trans hc0
  have HB := Lib.hid (show ∀ x, x ∈ [x0, x1, x2, x3] → isB x by intro x hx; simp only [List.mem_cons, List.not_mem_nil, or_false] at hx; rcases hx with rfl | rfl | rfl | rfl <;> assumption)
  obtain ⟨y, hy⟩ : ∃ y, y = beL 0 [x0, x1, x2, x3] := ⟨_, rfl⟩
  have hy0 : 0 ≤ y ∧ y ≤ 4294967295 := by rw [hy]; obtain ⟨_, _⟩ := hx0; obtain ⟨_, _⟩ := hx1; obtain ⟨_, _⟩ := hx2; obtain ⟨_, _⟩ := hx3; simp only [beL]; omega
  obtain ⟨hy0, hy1⟩ := hy0
  have HY := Lib.hid hy
  rw [← hy]
  clear hr hcb hx0 hx1 hx2 hx3 ht hy
  subst hn
  go_enter Tryz.func11, Tryz.ntmps11
  go_wp2_with (go_at_call 28; refine (ref_num _ A' 4 (c - 1) [x0, x1, x2, x3] (Kd.C_below HC.out (below_alloc (below_alloc (Below.refl _ _) _) _)) rfl (by omega) HB.out (by simp)).mono ?_; rintro e w1 ⟨rfl, hd⟩; obtain ⟨nq, rfl⟩ := hd.out; rw [← HY.out])
  exact bodyPost_ret (v := (.agg #[.int .i64 11, .int .u64 0, .int .i64 y, .int .i8 (IntKind.i8.wrap t), .int .i64 6, .bool false])) (by simp [results, Tryz.results11, go_sem]) rfl ⟨rfl, (by repeat (first | (refine belowSet ?_ _ _ _ (by omega)) | apply below_alloc | apply pw_below_drewN | exact Below.refl _ _))⟩
set_option maxRecDepth 100000 in
theorem hd_202 (w : World) (A : Option Addr) (n c : Nat) (x0 x1 x2 x3 : Int) (r : List Int) (hr : CB w A (202 :: x0 :: x1 :: x2 :: x3 :: r)) (hn : n = r.length + 5) (hc : n ≤ c) (hx0 : isB x0) (hx1 : isB x1) (hx2 : isB x2) (hx3 : isB x3) :
    Calls Tryz.prog 11 #[.slice A n c] w (HdIs 5 (beL 0 [x0, x1, x2, x3]) 0 0 5 false w) := by
  obtain ⟨A', hs, hcb⟩ := midCB A n c 1 5 (202 :: x0 :: x1 :: x2 :: x3 :: r) (by simp; omega) (by omega) (by omega) hc
  replace hs : ∀ W : World, (Instr.slice 22 (.slice A n c) (some (.int .i64 1)) (some (.int .i64 5)) none).run Tryz.prog W = .ok (.slice A' 4 (c - 1)) W := hs
  have HC := Lib.hid (show CB w A' [x0, x1, x2, x3] from hcb w hr)
  obtain ⟨ad, rfl, hc0⟩ := hr.head
  have hlt := World.block_lt_of_cell? w ad hc0
  replace hc0 : ∀ o, (w.alloc o).cell? ad = some (.int .u8 202) := fun o => (World.cell?_alloc_lt w o ad hlt).trans hc0
  have HB := Lib.hid (show ∀ x, x ∈ [x0, x1, x2, x3] → isB x by intro x hx; simp only [List.mem_cons, List.not_mem_nil, or_false] at hx; rcases hx with rfl | rfl | rfl | rfl <;> assumption)
  obtain ⟨y, hy⟩ : ∃ y, y = beL 0 [x0, x1, x2, x3] := ⟨_, rfl⟩
  have HY := Lib.hid hy
  rw [← hy]
  clear hr hcb hlt hx0 hx1 hx2 hx3 hy
  subst hn
  go_enter Tryz.func11, Tryz.ntmps11
  go_wp2_with (go_at_call 28; refine (ref_num _ A' 4 (c - 1) [x0, x1, x2, x3] (Kd.C_below HC.out (below_alloc (below_alloc (Below.refl _ _) _) _)) rfl (by omega) HB.out (by simp)).mono ?_; rintro e w1 ⟨rfl, hd⟩; obtain ⟨nq, rfl⟩ := hd.out; rw [← HY.out])
  exact bodyPost_ret (v := (.agg #[.int .i64 5, .int .u64 y, .int .i64 0, .int .i8 0, .int .i64 5, .bool false])) (by simp [results, Tryz.results11, go_sem]) rfl ⟨rfl, (by repeat (first | (refine belowSet ?_ _ _ _ (by omega)) | apply below_alloc | apply pw_below_drewN | exact Below.refl _ _))⟩
set_option maxRecDepth 100000 in
theorem hd_203 (w : World) (A : Option Addr) (n c : Nat) (x0 x1 x2 x3 x4 x5 x6 x7 : Int) (r : List Int) (hr : CB w A (203 :: x0 :: x1 :: x2 :: x3 :: x4 :: x5 :: x6 :: x7 :: r)) (hn : n = r.length + 9) (hc : n ≤ c) (hx0 : isB x0) (hx1 : isB x1) (hx2 : isB x2) (hx3 : isB x3) (hx4 : isB x4) (hx5 : isB x5) (hx6 : isB x6) (hx7 : isB x7) :
    Calls Tryz.prog 11 #[.slice A n c] w (HdIs 6 (beL 0 [x0, x1, x2, x3, x4, x5, x6, x7]) 0 0 9 false w) := by
  obtain ⟨A', hs, hcb⟩ := midCB A n c 1 9 (203 :: x0 :: x1 :: x2 :: x3 :: x4 :: x5 :: x6 :: x7 :: r) (by simp; omega) (by omega) (by omega) hc
  replace hs : ∀ W : World, (Instr.slice 22 (.slice A n c) (some (.int .i64 1)) (some (.int .i64 9)) none).run Tryz.prog W = .ok (.slice A' 8 (c - 1)) W := hs
  have HC := Lib.hid (show CB w A' [x0, x1, x2, x3, x4, x5, x6, x7] from hcb w hr)
  obtain ⟨ad, rfl, hc0⟩ := hr.head
  have hlt := World.block_lt_of_cell? w ad hc0
  replace hc0 : ∀ o, (w.alloc o).cell? ad = some (.int .u8 203) := fun o => (World.cell?_alloc_lt w o ad hlt).trans hc0
  have HB := Lib.hid (show ∀ x, x ∈ [x0, x1, x2, x3, x4, x5, x6, x7] → isB x by intro x hx; simp only [List.mem_cons, List.not_mem_nil, or_false] at hx; rcases hx with rfl | rfl | rfl | rfl | rfl | rfl | rfl | rfl <;> assumption)
  obtain ⟨y, hy⟩ : ∃ y, y = beL 0 [x0, x1, x2, x3, x4, x5, x6, x7] := ⟨_, rfl⟩
  have HY := Lib.hid hy
  rw [← hy]
  clear hr hcb hlt hx0 hx1 hx2 hx3 hx4 hx5 hx6 hx7 hy
  subst hn
  go_enter Tryz.func11, Tryz.ntmps11
  go_wp2_with (go_at_call 28; refine (ref_num _ A' 8 (c - 1) [x0, x1, x2, x3, x4, x5, x6, x7] (Kd.C_below HC.out (below_alloc (below_alloc (Below.refl _ _) _) _)) rfl (by omega) HB.out (by simp)).mono ?_; rintro e w1 ⟨rfl, hd⟩; obtain ⟨nq, rfl⟩ := hd.out; rw [← HY.out])
  exact bodyPost_ret (v := (.agg #[.int .i64 6, .int .u64 y, .int .i64 0, .int .i8 0, .int .i64 9, .bool false])) (by simp [results, Tryz.results11, go_sem]) rfl ⟨rfl, (by repeat (first | (refine belowSet ?_ _ _ _ (by omega)) | apply below_alloc | apply pw_below_drewN | exact Below.refl _ _))⟩
set_option maxRecDepth 100000 in
theorem hd_204 (w : World) (A : Option Addr) (n c : Nat) (x0 : Int) (r : List Int) (hr : CB w A (204 :: x0 :: r)) (hn : n = r.length + 2) (hc : n ≤ c) (hx0 : isB x0) :
    Calls Tryz.prog 11 #[.slice A n c] w (HdIs 4 (beL 0 [x0]) 0 0 2 false w) := by
  obtain ⟨A', hs, hcb⟩ := midCB A n c 1 2 (204 :: x0 :: r) (by simp; omega) (by omega) (by omega) hc
  replace hs : ∀ W : World, (Instr.slice 22 (.slice A n c) (some (.int .i64 1)) (some (.int .i64 2)) none).run Tryz.prog W = .ok (.slice A' 1 (c - 1)) W := hs
  have HC := Lib.hid (show CB w A' [x0] from hcb w hr)
  obtain ⟨ad, rfl, hc0⟩ := hr.head
  have hlt := World.block_lt_of_cell? w ad hc0
  replace hc0 : ∀ o, (w.alloc o).cell? ad = some (.int .u8 204) := fun o => (World.cell?_alloc_lt w o ad hlt).trans hc0
  have HB := Lib.hid (show ∀ x, x ∈ [x0] → isB x by intro x hx; simp only [List.mem_cons, List.not_mem_nil, or_false] at hx; rcases hx with rfl <;> assumption)
  obtain ⟨y, hy⟩ : ∃ y, y = beL 0 [x0] := ⟨_, rfl⟩
  have HY := Lib.hid hy
  rw [← hy]
  clear hr hcb hlt hx0 hy
  subst hn
  go_enter Tryz.func11, Tryz.ntmps11
  go_wp2_with (go_at_call 28; refine (ref_num _ A' 1 (c - 1) [x0] (Kd.C_below HC.out (below_alloc (below_alloc (Below.refl _ _) _) _)) rfl (by omega) HB.out (by simp)).mono ?_; rintro e w1 ⟨rfl, hd⟩; obtain ⟨nq, rfl⟩ := hd.out; rw [← HY.out])
  exact bodyPost_ret (v := (.agg #[.int .i64 4, .int .u64 y, .int .i64 0, .int .i8 0, .int .i64 2, .bool false])) (by simp [results, Tryz.results11, go_sem]) rfl ⟨rfl, (by repeat (first | (refine belowSet ?_ _ _ _ (by omega)) | apply below_alloc | apply pw_below_drewN | exact Below.refl _ _))⟩
set_option maxRecDepth 100000 in
theorem hd_205 (w : World) (A : Option Addr) (n c : Nat) (x0 x1 : Int) (r : List Int) (hr : CB w A (205 :: x0 :: x1 :: r)) (hn : n = r.length + 3) (hc : n ≤ c) (hx0 : isB x0) (hx1 : isB x1) :
    Calls Tryz.prog 11 #[.slice A n c] w (HdIs 4 (beL 0 [x0, x1]) 0 0 3 false w) := by
  obtain ⟨A', hs, hcb⟩ := midCB A n c 1 3 (205 :: x0 :: x1 :: r) (by simp; omega) (by omega) (by omega) hc
  replace hs : ∀ W : World, (Instr.slice 22 (.slice A n c) (some (.int .i64 1)) (some (.int .i64 3)) none).run Tryz.prog W = .ok (.slice A' 2 (c - 1)) W := hs
  have HC := Lib.hid (show CB w A' [x0, x1] from hcb w hr)
  obtain ⟨ad, rfl, hc0⟩ := hr.head
  have hlt := World.block_lt_of_cell? w ad hc0
  replace hc0 : ∀ o, (w.alloc o).cell? ad = some (.int .u8 205) := fun o => (World.cell?_alloc_lt w o ad hlt).trans hc0
  have HB := Lib.hid (show ∀ x, x ∈ [x0, x1] → isB x by intro x hx; simp only [List.mem_cons, List.not_mem_nil, or_false] at hx; rcases hx with rfl | rfl <;> assumption)
  obtain ⟨y, hy⟩ : ∃ y, y = beL 0 [x0, x1] := ⟨_, rfl⟩
  have HY := Lib.hid hy
  rw [← hy]
  clear hr hcb hlt hx0 hx1 hy
  subst hn
  go_enter Tryz.func11, Tryz.ntmps11
  go_wp2_with (go_at_call 28; refine (ref_num _ A' 2 (c - 1) [x0, x1] (Kd.C_below HC.out (below_alloc (below_alloc (Below.refl _ _) _) _)) rfl (by omega) HB.out (by simp)).mono ?_; rintro e w1 ⟨rfl, hd⟩; obtain ⟨nq, rfl⟩ := hd.out; rw [← HY.out])
  exact bodyPost_ret (v := (.agg #[.int .i64 4, .int .u64 y, .int .i64 0, .int .i8 0, .int .i64 3, .bool false])) (by simp [results, Tryz.results11, go_sem]) rfl ⟨rfl, (by repeat (first | (refine belowSet ?_ _ _ _ (by omega)) | apply below_alloc | apply pw_below_drewN | exact Below.refl _ _))⟩
set_option maxRecDepth 100000 in
theorem hd_206 (w : World) (A : Option Addr) (n c : Nat) (x0 x1 x2 x3 : Int) (r : List Int) (hr : CB w A (206 :: x0 :: x1 :: x2 :: x3 :: r)) (hn : n = r.length + 5) (hc : n ≤ c) (hx0 : isB x0) (hx1 : isB x1) (hx2 : isB x2) (hx3 : isB x3) :
    Calls Tryz.prog 11 #[.slice A n c] w (HdIs 4 (beL 0 [x0, x1, x2, x3]) 0 0 5 false w) := by
  obtain ⟨A', hs, hcb⟩ := midCB A n c 1 5 (206 :: x0 :: x1 :: x2 :: x3 :: r) (by simp; omega) (by omega) (by omega) hc
  replace hs : ∀ W : World, (Instr.slice 22 (.slice A n c) (some (.int .i64 1)) (some (.int .i64 5)) none).run Tryz.prog W = .ok (.slice A' 4 (c - 1)) W := hs
  have HC := Lib.hid (show CB w A' [x0, x1, x2, x3] from hcb w hr)
  obtain ⟨ad, rfl, hc0⟩ := hr.head
  have hlt := World.block_lt_of_cell? w ad hc0
  replace hc0 : ∀ o, (w.alloc o).cell? ad = some (.int .u8 206) := fun o => (World.cell?_alloc_lt w o ad hlt).trans hc0
  have HB := Lib.hid (show ∀ x, x ∈ [x0, x1, x2, x3] → isB x by intro x hx; simp only [List.mem_cons, List.not_mem_nil, or_false] at hx; rcases hx with rfl | rfl | rfl | rfl <;> assumption)
  obtain ⟨y, hy⟩ : ∃ y, y = beL 0 [x0, x1, x2, x3] := ⟨_, rfl⟩
  have HY := Lib.hid hy
  rw [← hy]
  clear hr hcb hlt hx0 hx1 hx2 hx3 hy
  subst hn
  go_enter Tryz.func11, Tryz.ntmps11
  go_wp2_with (go_at_call 28; refine (ref_num _ A' 4 (c - 1) [x0, x1, x2, x3] (Kd.C_below HC.out (below_alloc (below_alloc (Below.refl _ _) _) _)) rfl (by omega) HB.out (by simp)).mono ?_; rintro e w1 ⟨rfl, hd⟩; obtain ⟨nq, rfl⟩ := hd.out; rw [← HY.out])
  exact bodyPost_ret (v := (.agg #[.int .i64 4, .int .u64 y, .int .i64 0, .int .i8 0, .int .i64 5, .bool false])) (by simp [results, Tryz.results11, go_sem]) rfl ⟨rfl, (by repeat (first | (refine belowSet ?_ _ _ _ (by omega)) | apply below_alloc | apply pw_below_drewN | exact Below.refl _ _))⟩
set_option maxRecDepth 100000 in
theorem hd_207 (w : World) (A : Option Addr) (n c : Nat) (x0 x1 x2 x3 x4 x5 x6 x7 : Int) (r : List Int) (hr : CB w A (207 :: x0 :: x1 :: x2 :: x3 :: x4 :: x5 :: x6 :: x7 :: r)) (hn : n = r.length + 9) (hc : n ≤ c) (hx0 : isB x0) (hx1 : isB x1) (hx2 : isB x2) (hx3 : isB x3) (hx4 : isB x4) (hx5 : isB x5) (hx6 : isB x6) (hx7 : isB x7) :
    Calls Tryz.prog 11 #[.slice A n c] w (HdIs 4 (beL 0 [x0, x1, x2, x3, x4, x5, x6, x7]) 0 0 9 false w) := by
  obtain ⟨A', hs, hcb⟩ := midCB A n c 1 9 (207 :: x0 :: x1 :: x2 :: x3 :: x4 :: x5 :: x6 :: x7 :: r) (by simp; omega) (by omega) (by omega) hc
  replace hs : ∀ W : World, (Instr.slice 22 (.slice A n c) (some (.int .i64 1)) (some (.int .i64 9)) none).run Tryz.prog W = .ok (.slice A' 8 (c - 1)) W := hs
  have HC := Lib.hid (show CB w A' [x0, x1, x2, x3, x4, x5, x6, x7] from hcb w hr)
  obtain ⟨ad, rfl, hc0⟩ := hr.head
  have hlt := World.block_lt_of_cell? w ad hc0
  replace hc0 : ∀ o, (w.alloc o).cell? ad = some (.int .u8 207) := fun o => (World.cell?_alloc_lt w o ad hlt).trans hc0
  have HB := Lib.hid (show ∀ x, x ∈ [x0, x1, x2, x3, x4, x5, x6, x7] → isB x by intro x hx; simp only [List.mem_cons, List.not_mem_nil, or_false] at hx; rcases hx with rfl | rfl | rfl | rfl | rfl | rfl | rfl | rfl <;> assumption)
  obtain ⟨y, hy⟩ : ∃ y, y = beL 0 [x0, x1, x2, x3, x4, x5, x6, x7] := ⟨_, rfl⟩
  have HY := Lib.hid hy
  rw [← hy]
  clear hr hcb hlt hx0 hx1 hx2 hx3 hx4 hx5 hx6 hx7 hy
  subst hn
  go_enter Tryz.func11, Tryz.ntmps11
  go_wp2_with (go_at_call 28; refine (ref_num _ A' 8 (c - 1) [x0, x1, x2, x3, x4, x5, x6, x7] (Kd.C_below HC.out (below_alloc (below_alloc (Below.refl _ _) _) _)) rfl (by omega) HB.out (by simp)).mono ?_; rintro e w1 ⟨rfl, hd⟩; obtain ⟨nq, rfl⟩ := hd.out; rw [← HY.out])
  exact bodyPost_ret (v := (.agg #[.int .i64 4, .int .u64 y, .int .i64 0, .int .i8 0, .int .i64 9, .bool false])) (by simp [results, Tryz.results11, go_sem]) rfl ⟨rfl, (by repeat (first | (refine belowSet ?_ _ _ _ (by omega)) | apply below_alloc | apply pw_below_drewN | exact Below.refl _ _))⟩
set_option maxRecDepth 100000 in
theorem hd_208 (w : World) (A : Option Addr) (n c : Nat) (x0 : Int) (r : List Int) (hr : CB w A (208 :: x0 :: r)) (hn : n = r.length + 2) (hc : n ≤ c) (hx0 : isB x0) (z : Int) (hz : spec_signed.f 20 (beL 0 [x0]) 1 = some z) :
    Calls Tryz.prog 11 #[.slice A n c] w (HdIs 3 z 0 0 2 false w) := by
  obtain ⟨A', hs, hcb⟩ := midCB A n c 1 2 (208 :: x0 :: r) (by simp; omega) (by omega) (by omega) hc
  replace hs : ∀ W : World, (Instr.slice 22 (.slice A n c) (some (.int .i64 1)) (some (.int .i64 2)) none).run Tryz.prog W = .ok (.slice A' 1 (c - 1)) W := hs
  have HC := Lib.hid (show CB w A' [x0] from hcb w hr)
  obtain ⟨ad, rfl, hc0⟩ := hr.head
  have hlt := World.block_lt_of_cell? w ad hc0
  replace hc0 : ∀ o, (w.alloc o).cell? ad = some (.int .u8 208) := fun o => (World.cell?_alloc_lt w o ad hlt).trans hc0
  have HB := Lib.hid (show ∀ x, x ∈ [x0] → isB x by intro x hx; simp only [List.mem_cons, List.not_mem_nil, or_false] at hx; rcases hx with rfl <;> assumption)
  obtain ⟨y, hy⟩ : ∃ y, y = beL 0 [x0] := ⟨_, rfl⟩
  have HY := Lib.hid hy
  rw [← hy] at hz
  have HZ := Lib.hid hz
  clear hz
  clear hr hcb hlt hx0 hy
  subst hn
  go_enter Tryz.func11, Tryz.ntmps11
  go_wp2_with (first | (go_at_call 28; refine (ref_num _ A' 1 (c - 1) [x0] (Kd.C_below HC.out (below_alloc (below_alloc (Below.refl _ _) _) _)) rfl (by omega) HB.out (by simp)).mono ?_; rintro e w1 ⟨rfl, hd⟩; obtain ⟨nq, rfl⟩ := hd.out; rw [← HY.out]) | (go_at_call 27; refine (ref_sg _ y 1 z HZ.out).mono ?_; rintro e w2 ⟨rfl, hd2⟩; obtain ⟨nr, rfl⟩ := hd2.out))
  exact bodyPost_ret (v := (.agg #[.int .i64 3, .int .u64 z, .int .i64 0, .int .i8 0, .int .i64 2, .bool false])) (by simp [results, Tryz.results11, go_sem]) rfl ⟨rfl, (by repeat (first | (refine belowSet ?_ _ _ _ (by omega)) | apply below_alloc | apply pw_below_drewN | exact Below.refl _ _))⟩
set_option maxRecDepth 100000 in
theorem hd_209 (w : World) (A : Option Addr) (n c : Nat) (x0 x1 : Int) (r : List Int) (hr : CB w A (209 :: x0 :: x1 :: r)) (hn : n = r.length + 3) (hc : n ≤ c) (hx0 : isB x0) (hx1 : isB x1) (z : Int) (hz : spec_signed.f 20 (beL 0 [x0, x1]) 2 = some z) :
    Calls Tryz.prog 11 #[.slice A n c] w (HdIs 3 z 0 0 3 false w) := by
  obtain ⟨A', hs, hcb⟩ := midCB A n c 1 3 (209 :: x0 :: x1 :: r) (by simp; omega) (by omega) (by omega) hc
  replace hs : ∀ W : World, (Instr.slice 22 (.slice A n c) (some (.int .i64 1)) (some (.int .i64 3)) none).run Tryz.prog W = .ok (.slice A' 2 (c - 1)) W := hs
  have HC := Lib.hid (show CB w A' [x0, x1] from hcb w hr)
  obtain ⟨ad, rfl, hc0⟩ := hr.head
  have hlt := World.block_lt_of_cell? w ad hc0
  replace hc0 : ∀ o, (w.alloc o).cell? ad = some (.int .u8 209) := fun o => (World.cell?_alloc_lt w o ad hlt).trans hc0
  have HB := Lib.hid (show ∀ x, x ∈ [x0, x1] → isB x by intro x hx; simp only [List.mem_cons, List.not_mem_nil, or_false] at hx; rcases hx with rfl | rfl <;> assumption)
  obtain ⟨y, hy⟩ : ∃ y, y = beL 0 [x0, x1] := ⟨_, rfl⟩
  have HY := Lib.hid hy
  rw [← hy] at hz
  have HZ := Lib.hid hz
  clear hz
  clear hr hcb hlt hx0 hx1 hy
  subst hn
  go_enter Tryz.func11, Tryz.ntmps11
  go_wp2_with (first | (go_at_call 28; refine (ref_num _ A' 2 (c - 1) [x0, x1] (Kd.C_below HC.out (below_alloc (below_alloc (Below.refl _ _) _) _)) rfl (by omega) HB.out (by simp)).mono ?_; rintro e w1 ⟨rfl, hd⟩; obtain ⟨nq, rfl⟩ := hd.out; rw [← HY.out]) | (go_at_call 27; refine (ref_sg _ y 2 z HZ.out).mono ?_; rintro e w2 ⟨rfl, hd2⟩; obtain ⟨nr, rfl⟩ := hd2.out))
  exact bodyPost_ret (v := (.agg #[.int .i64 3, .int .u64 z, .int .i64 0, .int .i8 0, .int .i64 3, .bool false])) (by simp [results, Tryz.results11, go_sem]) rfl ⟨rfl, (by repeat (first | (refine belowSet ?_ _ _ _ (by omega)) | apply below_alloc | apply pw_below_drewN | exact Below.refl _ _))⟩
set_option maxRecDepth 100000 in
theorem hd_210 (w : World) (A : Option Addr) (n c : Nat) (x0 x1 x2 x3 : Int) (r : List Int) (hr : CB w A (210 :: x0 :: x1 :: x2 :: x3 :: r)) (hn : n = r.length + 5) (hc : n ≤ c) (hx0 : isB x0) (hx1 : isB x1) (hx2 : isB x2) (hx3 : isB x3) (z : Int) (hz : spec_signed.f 20 (beL 0 [x0, x1, x2, x3]) 4 = some z) :
    Calls Tryz.prog 11 #[.slice A n c] w (HdIs 3 z 0 0 5 false w) := by
  obtain ⟨A', hs, hcb⟩ := midCB A n c 1 5 (210 :: x0 :: x1 :: x2 :: x3 :: r) (by simp; omega) (by omega) (by omega) hc
  replace hs : ∀ W : World, (Instr.slice 22 (.slice A n c) (some (.int .i64 1)) (some (.int .i64 5)) none).run Tryz.prog W = .ok (.slice A' 4 (c - 1)) W := hs
  have HC := Lib.hid (show CB w A' [x0, x1, x2, x3] from hcb w hr)
  obtain ⟨ad, rfl, hc0⟩ := hr.head
  have hlt := World.block_lt_of_cell? w ad hc0
  replace hc0 : ∀ o, (w.alloc o).cell? ad = some (.int .u8 210) := fun o => (World.cell?_alloc_lt w o ad hlt).trans hc0
  have HB := Lib.hid (show ∀ x, x ∈ [x0, x1, x2, x3] → isB x by intro x hx; simp only [List.mem_cons, List.not_mem_nil, or_false] at hx; rcases hx with rfl | rfl | rfl | rfl <;> assumption)
  obtain ⟨y, hy⟩ : ∃ y, y = beL 0 [x0, x1, x2, x3] := ⟨_, rfl⟩
  have HY := Lib.hid hy
  rw [← hy] at hz
  have HZ := Lib.hid hz
  clear hz
  clear hr hcb hlt hx0 hx1 hx2 hx3 hy
  subst hn
  go_enter Tryz.func11, Tryz.ntmps11
  go_wp2_with (first | (go_at_call 28; refine (ref_num _ A' 4 (c - 1) [x0, x1, x2, x3] (Kd.C_below HC.out (below_alloc (below_alloc (Below.refl _ _) _) _)) rfl (by omega) HB.out (by simp)).mono ?_; rintro e w1 ⟨rfl, hd⟩; obtain ⟨nq, rfl⟩ := hd.out; rw [← HY.out]) | (go_at_call 27; refine (ref_sg _ y 4 z HZ.out).mono ?_; rintro e w2 ⟨rfl, hd2⟩; obtain ⟨nr, rfl⟩ := hd2.out))
  exact bodyPost_ret (v := (.agg #[.int .i64 3, .int .u64 z, .int .i64 0, .int .i8 0, .int .i64 5, .bool false])) (by simp [results, Tryz.results11, go_sem]) rfl ⟨rfl, (by repeat (first | (refine belowSet ?_ _ _ _ (by omega)) | apply below_alloc | apply pw_below_drewN | exact Below.refl _ _))⟩
set_option maxRecDepth 100000 in
theorem hd_211 (w : World) (A : Option Addr) (n c : Nat) (x0 x1 x2 x3 x4 x5 x6 x7 : Int) (r : List Int) (hr : CB w A (211 :: x0 :: x1 :: x2 :: x3 :: x4 :: x5 :: x6 :: x7 :: r)) (hn : n = r.length + 9) (hc : n ≤ c) (hx0 : isB x0) (hx1 : isB x1) (hx2 : isB x2) (hx3 : isB x3) (hx4 : isB x4) (hx5 : isB x5) (hx6 : isB x6) (hx7 : isB x7) (z : Int) (hz : spec_signed.f 20 (beL 0 [x0, x1, x2, x3, x4, x5, x6, x7]) 8 = some z) :
    Calls Tryz.prog 11 #[.slice A n c] w (HdIs 3 z 0 0 9 false w) := by
  obtain ⟨A', hs, hcb⟩ := midCB A n c 1 9 (211 :: x0 :: x1 :: x2 :: x3 :: x4 :: x5 :: x6 :: x7 :: r) (by simp; omega) (by omega) (by omega) hc
  replace hs : ∀ W : World, (Instr.slice 22 (.slice A n c) (some (.int .i64 1)) (some (.int .i64 9)) none).run Tryz.prog W = .ok (.slice A' 8 (c - 1)) W := hs
  have HC := Lib.hid (show CB w A' [x0, x1, x2, x3, x4, x5, x6, x7] from hcb w hr)
  obtain ⟨ad, rfl, hc0⟩ := hr.head
  have hlt := World.block_lt_of_cell? w ad hc0
  replace hc0 : ∀ o, (w.alloc o).cell? ad = some (.int .u8 211) := fun o => (World.cell?_alloc_lt w o ad hlt).trans hc0
  have HB := Lib.hid (show ∀ x, x ∈ [x0, x1, x2, x3, x4, x5, x6, x7] → isB x by intro x hx; simp only [List.mem_cons, List.not_mem_nil, or_false] at hx; rcases hx with rfl | rfl | rfl | rfl | rfl | rfl | rfl | rfl <;> assumption)
  obtain ⟨y, hy⟩ : ∃ y, y = beL 0 [x0, x1, x2, x3, x4, x5, x6, x7] := ⟨_, rfl⟩
  have HY := Lib.hid hy
  rw [← hy] at hz
  have HZ := Lib.hid hz
  clear hz
  clear hr hcb hlt hx0 hx1 hx2 hx3 hx4 hx5 hx6 hx7 hy
  subst hn
  go_enter Tryz.func11, Tryz.ntmps11
  go_wp2_with (first | (go_at_call 28; refine (ref_num _ A' 8 (c - 1) [x0, x1, x2, x3, x4, x5, x6, x7] (Kd.C_below HC.out (below_alloc (below_alloc (Below.refl _ _) _) _)) rfl (by omega) HB.out (by simp)).mono ?_; rintro e w1 ⟨rfl, hd⟩; obtain ⟨nq, rfl⟩ := hd.out; rw [← HY.out]) | (go_at_call 27; refine (ref_sg _ y 8 z HZ.out).mono ?_; rintro e w2 ⟨rfl, hd2⟩; obtain ⟨nr, rfl⟩ := hd2.out))
  exact bodyPost_ret (v := (.agg #[.int .i64 3, .int .u64 z, .int .i64 0, .int .i8 0, .int .i64 9, .bool false])) (by simp [results, Tryz.results11, go_sem]) rfl ⟨rfl, (by repeat (first | (refine belowSet ?_ _ _ _ (by omega)) | apply below_alloc | apply pw_below_drewN | exact Below.refl _ _))⟩
set_option maxRecDepth 100000 in
theorem hd_212 (w : World) (A : Option Addr) (n c : Nat) (t : Int) (r : List Int) (hr : CB w A (212 :: t :: r)) (hn : n = r.length + 2) (hc : n ≤ c) (ht : isB t) :
    Calls Tryz.prog 11 #[.slice A n c] w (HdIs 11 0 1 (IntKind.i8.wrap t) 2 false w) := by
  obtain ⟨A', hs, hcb⟩ := midCB A n c 1 1 (212 :: t :: r) (by simp; omega) (by omega) (by omega) hc
  replace hs : ∀ W : World, (Instr.slice 22 (.slice A n c) (some (.int .i64 1)) (some (.int .i64 1)) none).run Tryz.prog W = .ok (.slice A' 0 (c - 1)) W := hs
  have HC := Lib.hid (show CB w A' ([] : List Int) from hcb w hr)
  obtain ⟨ad, rfl, hc0⟩ := hr.head
  have hlt := World.block_lt_of_cell? w ad hc0
  obtain ⟨ad', e', hct⟩ := hr.at_ 1 (by simp)
  injection e' with e'
  subst e'
  have hct' : w.cell? ⟨ad.block, ad.off + 1, none⟩ = some (.int .u8 t) := by simpa [rd, Addr.add] using hct
  clear hct
  replace hc0 : ∀ o, (w.alloc o).cell? ad = some (.int .u8 212) := fun o => (World.cell?_alloc_lt w o ad hlt).trans hc0
  obtain ⟨y, hy⟩ : ∃ y, y = beL 0 ([] : List Int) := ⟨_, rfl⟩
  have hy0 : 0 ≤ y ∧ y ≤ 0 := by rw [hy]; simp only [beL]; omega
  obtain ⟨hy0, hy1⟩ := hy0
  have HY := Lib.hid hy
  clear hr hcb ht hy
  subst hn
  go_enter Tryz.func11, Tryz.ntmps11
  go_wp2_with (go_at_call 28; refine (ref_num _ A' 0 (c - 1) ([] : List Int) (Kd.C_below HC.out (below_alloc (below_alloc (Below.refl _ _) _) _)) rfl (by omega) (by simp) (by simp)).mono ?_; rintro e w1 ⟨rfl, hd⟩; obtain ⟨nq, rfl⟩ := hd.out; rw [← HY.out])
  exact bodyPost_ret (v := (.agg #[.int .i64 11, .int .u64 0, .int .i64 1, .int .i8 (IntKind.i8.wrap t), .int .i64 2, .bool false])) (by simp [results, Tryz.results11, go_sem]) rfl ⟨rfl, (by repeat (first | (refine belowSet ?_ _ _ _ (by omega)) | apply below_alloc | apply pw_below_drewN | exact Below.refl _ _))⟩
set_option maxRecDepth 100000 in
theorem hd_213 (w : World) (A : Option Addr) (n c : Nat) (t : Int) (r : List Int) (hr : CB w A (213 :: t :: r)) (hn : n = r.length + 2) (hc : n ≤ c) (ht : isB t) :
    Calls Tryz.prog 11 #[.slice A n c] w (HdIs 11 0 2 (IntKind.i8.wrap t) 2 false w) := by
  obtain ⟨A', hs, hcb⟩ := midCB A n c 1 1 (213 :: t :: r) (by simp; omega) (by omega) (by omega) hc
  replace hs : ∀ W : World, (Instr.slice 22 (.slice A n c) (some (.int .i64 1)) (some (.int .i64 1)) none).run Tryz.prog W = .ok (.slice A' 0 (c - 1)) W := hs
  have HC := Lib.hid (show CB w A' ([] : List Int) from hcb w hr)
  obtain ⟨ad, rfl, hc0⟩ := hr.head
  have hlt := World.block_lt_of_cell? w ad hc0
  obtain ⟨ad', e', hct⟩ := hr.at_ 1 (by simp)
  injection e' with e'
  subst e'
  have hct' : w.cell? ⟨ad.block, ad.off + 1, none⟩ = some (.int .u8 t) := by simpa [rd, Addr.add] using hct
  clear hct
  replace hc0 : ∀ o, (w.alloc o).cell? ad = some (.int .u8 213) := fun o => (World.cell?_alloc_lt w o ad hlt).trans hc0
  obtain ⟨y, hy⟩ : ∃ y, y = beL 0 ([] : List Int) := ⟨_, rfl⟩
  have hy0 : 0 ≤ y ∧ y ≤ 0 := by rw [hy]; simp only [beL]; omega
  obtain ⟨hy0, hy1⟩ := hy0
  have HY := Lib.hid hy
  clear hr hcb ht hy
  subst hn
  go_enter Tryz.func11, Tryz.ntmps11
  go_wp2_with (go_at_call 28; refine (ref_num _ A' 0 (c - 1) ([] : List Int) (Kd.C_below HC.out (below_alloc (below_alloc (Below.refl _ _) _) _)) rfl (by omega) (by simp) (by simp)).mono ?_; rintro e w1 ⟨rfl, hd⟩; obtain ⟨nq, rfl⟩ := hd.out; rw [← HY.out])
  exact bodyPost_ret (v := (.agg #[.int .i64 11, .int .u64 0, .int .i64 2, .int .i8 (IntKind.i8.wrap t), .int .i64 2, .bool false])) (by simp [results, Tryz.results11, go_sem]) rfl ⟨rfl, (by repeat (first | (refine belowSet ?_ _ _ _ (by omega)) | apply below_alloc | apply pw_below_drewN | exact Below.refl _ _))⟩
set_option maxRecDepth 100000 in
theorem hd_214 (w : World) (A : Option Addr) (n c : Nat) (t : Int) (r : List Int) (hr : CB w A (214 :: t :: r)) (hn : n = r.length + 2) (hc : n ≤ c) (ht : isB t) :
    Calls Tryz.prog 11 #[.slice A n c] w (HdIs 11 0 4 (IntKind.i8.wrap t) 2 false w) := by
  obtain ⟨A', hs, hcb⟩ := midCB A n c 1 1 (214 :: t :: r) (by simp; omega) (by omega) (by omega) hc
  replace hs : ∀ W : World, (Instr.slice 22 (.slice A n c) (some (.int .i64 1)) (some (.int .i64 1)) none).run Tryz.prog W = .ok (.slice A' 0 (c - 1)) W := hs
  have HC := Lib.hid (show CB w A' ([] : List Int) from hcb w hr)
  obtain ⟨ad, rfl, hc0⟩ := hr.head
  have hlt := World.block_lt_of_cell? w ad hc0
  obtain ⟨ad', e', hct⟩ := hr.at_ 1 (by simp)
  injection e' with e'
  subst e'
  have hct' : w.cell? ⟨ad.block, ad.off + 1, none⟩ = some (.int .u8 t) := by simpa [rd, Addr.add] using hct
  clear hct
  replace hc0 : ∀ o, (w.alloc o).cell? ad = some (.int .u8 214) := fun o => (World.cell?_alloc_lt w o ad hlt).trans hc0
  obtain ⟨y, hy⟩ : ∃ y, y = beL 0 ([] : List Int) := ⟨_, rfl⟩
  have hy0 : 0 ≤ y ∧ y ≤ 0 := by rw [hy]; simp only [beL]; omega
  obtain ⟨hy0, hy1⟩ := hy0
  have HY := Lib.hid hy
  clear hr hcb ht hy
  subst hn
  go_enter Tryz.func11, Tryz.ntmps11
  go_wp2_with (go_at_call 28; refine (ref_num _ A' 0 (c - 1) ([] : List Int) (Kd.C_below HC.out (below_alloc (below_alloc (Below.refl _ _) _) _)) rfl (by omega) (by simp) (by simp)).mono ?_; rintro e w1 ⟨rfl, hd⟩; obtain ⟨nq, rfl⟩ := hd.out; rw [← HY.out])
  exact bodyPost_ret (v := (.agg #[.int .i64 11, .int .u64 0, .int .i64 4, .int .i8 (IntKind.i8.wrap t), .int .i64 2, .bool false])) (by simp [results, Tryz.results11, go_sem]) rfl ⟨rfl, (by repeat (first | (refine belowSet ?_ _ _ _ (by omega)) | apply below_alloc | apply pw_below_drewN | exact Below.refl _ _))⟩
set_option maxRecDepth 100000 in
theorem hd_215 (w : World) (A : Option Addr) (n c : Nat) (t : Int) (r : List Int) (hr : CB w A (215 :: t :: r)) (hn : n = r.length + 2) (hc : n ≤ c) (ht : isB t) :
    Calls Tryz.prog 11 #[.slice A n c] w (HdIs 11 0 8 (IntKind.i8.wrap t) 2 false w) := by
  obtain ⟨A', hs, hcb⟩ := midCB A n c 1 1 (215 :: t :: r) (by simp; omega) (by omega) (by omega) hc
  replace hs : ∀ W : World, (Instr.slice 22 (.slice A n c) (some (.int .i64 1)) (some (.int .i64 1)) none).run Tryz.prog W = .ok (.slice A' 0 (c - 1)) W := hs
  have HC := Lib.hid (show CB w A' ([] : List Int) from hcb w hr)
  obtain ⟨ad, rfl, hc0⟩ := hr.head
  have hlt := World.block_lt_of_cell? w ad hc0
  obtain ⟨ad', e', hct⟩ := hr.at_ 1 (by simp)
  injection e' with e'
  subst e'
  have hct' : w.cell? ⟨ad.block, ad.off + 1, none⟩ = some (.int .u8 t) := by simpa [rd, Addr.add] using hct
  clear hct
  replace hc0 : ∀ o, (w.alloc o).cell? ad = some (.int .u8 215) := fun o => (World.cell?_alloc_lt w o ad hlt).trans hc0
  obtain ⟨y, hy⟩ : ∃ y, y = beL 0 ([] : List Int) := ⟨_, rfl⟩
  have hy0 : 0 ≤ y ∧ y ≤ 0 := by rw [hy]; simp only [beL]; omega
  obtain ⟨hy0, hy1⟩ := hy0
  have HY := Lib.hid hy
  clear hr hcb ht hy
  subst hn
  go_enter Tryz.func11, Tryz.ntmps11
  go_wp2_with (go_at_call 28; refine (ref_num _ A' 0 (c - 1) ([] : List Int) (Kd.C_below HC.out (below_alloc (below_alloc (Below.refl _ _) _) _)) rfl (by omega) (by simp) (by simp)).mono ?_; rintro e w1 ⟨rfl, hd⟩; obtain ⟨nq, rfl⟩ := hd.out; rw [← HY.out])
  exact bodyPost_ret (v := (.agg #[.int .i64 11, .int .u64 0, .int .i64 8, .int .i8 (IntKind.i8.wrap t), .int .i64 2, .bool false])) (by simp [results, Tryz.results11, go_sem]) rfl ⟨rfl, (by repeat (first | (refine belowSet ?_ _ _ _ (by omega)) | apply below_alloc | apply pw_below_drewN | exact Below.refl _ _))⟩
set_option maxRecDepth 100000 in
theorem hd_216 (w : World) (A : Option Addr) (n c : Nat) (t : Int) (r : List Int) (hr : CB w A (216 :: t :: r)) (hn : n = r.length + 2) (hc : n ≤ c) (ht : isB t) :
    Calls Tryz.prog 11 #[.slice A n c] w (HdIs 11 0 16 (IntKind.i8.wrap t) 2 false w) := by
  obtain ⟨A', hs, hcb⟩ := midCB A n c 1 1 (216 :: t :: r) (by simp; omega) (by omega) (by omega) hc
  replace hs : ∀ W : World, (Instr.slice 22 (.slice A n c) (some (.int .i64 1)) (some (.int .i64 1)) none).run Tryz.prog W = .ok (.slice A' 0 (c - 1)) W := hs
  have HC := Lib.hid (show CB w A' ([] : List Int) from hcb w hr)
  obtain ⟨ad, rfl, hc0⟩ := hr.head
  have hlt := World.block_lt_of_cell? w ad hc0
  obtain ⟨ad', e', hct⟩ := hr.at_ 1 (by simp)
  injection e' with e'
  subst e'
  have hct' : w.cell? ⟨ad.block, ad.off + 1, none⟩ = some (.int .u8 t) := by simpa [rd, Addr.add] using hct
  clear hct
  replace hc0 : ∀ o, (w.alloc o).cell? ad = some (.int .u8 216) := fun o => (World.cell?_alloc_lt w o ad hlt).trans hc0
  obtain ⟨y, hy⟩ : ∃ y, y = beL 0 ([] : List Int) := ⟨_, rfl⟩
  have hy0 : 0 ≤ y ∧ y ≤ 0 := by rw [hy]; simp only [beL]; omega
  obtain ⟨hy0, hy1⟩ := hy0
  have HY := Lib.hid hy
  clear hr hcb ht hy
  subst hn
  go_enter Tryz.func11, Tryz.ntmps11
  go_wp2_with (go_at_call 28; refine (ref_num _ A' 0 (c - 1) ([] : List Int) (Kd.C_below HC.out (below_alloc (below_alloc (Below.refl _ _) _) _)) rfl (by omega) (by simp) (by simp)).mono ?_; rintro e w1 ⟨rfl, hd⟩; obtain ⟨nq, rfl⟩ := hd.out; rw [← HY.out])
  exact bodyPost_ret (v := (.agg #[.int .i64 11, .int .u64 0, .int .i64 16, .int .i8 (IntKind.i8.wrap t), .int .i64 2, .bool false])) (by simp [results, Tryz.results11, go_sem]) rfl ⟨rfl, (by repeat (first | (refine belowSet ?_ _ _ _ (by omega)) | apply below_alloc | apply pw_below_drewN | exact Below.refl _ _))⟩
set_option maxRecDepth 100000 in
theorem hd_217 (w : World) (A : Option Addr) (n c : Nat) (x0 : Int) (r : List Int) (hr : CB w A (217 :: x0 :: r)) (hn : n = r.length + 2) (hc : n ≤ c) (hx0 : isB x0) :
    Calls Tryz.prog 11 #[.slice A n c] w (HdIs 7 0 (beL 0 [x0]) 0 2 false w) := by
  obtain ⟨A', hs, hcb⟩ := midCB A n c 1 2 (217 :: x0 :: r) (by simp; omega) (by omega) (by omega) hc
  replace hs : ∀ W : World, (Instr.slice 22 (.slice A n c) (some (.int .i64 1)) (some (.int .i64 2)) none).run Tryz.prog W = .ok (.slice A' 1 (c - 1)) W := hs
  have HC := Lib.hid (show CB w A' [x0] from hcb w hr)
  obtain ⟨ad, rfl, hc0⟩ := hr.head
  have hlt := World.block_lt_of_cell? w ad hc0
  replace hc0 : ∀ o, (w.alloc o).cell? ad = some (.int .u8 217) := fun o => (World.cell?_alloc_lt w o ad hlt).trans hc0
  have HB := Lib.hid (show ∀ x, x ∈ [x0] → isB x by intro x hx; simp only [List.mem_cons, List.not_mem_nil, or_false] at hx; rcases hx with rfl <;> assumption)
  obtain ⟨y, hy⟩ : ∃ y, y = beL 0 [x0] := ⟨_, rfl⟩
  have hy0 : 0 ≤ y ∧ y ≤ 255 := by rw [hy]; obtain ⟨_, _⟩ := hx0; simp only [beL]; omega
  obtain ⟨hy0, hy1⟩ := hy0
  have HY := Lib.hid hy
  rw [← hy]
  clear hr hcb hlt hx0 hy
  subst hn
  go_enter Tryz.func11, Tryz.ntmps11
  go_wp2_with (go_at_call 28; refine (ref_num _ A' 1 (c - 1) [x0] (Kd.C_below HC.out (below_alloc (below_alloc (Below.refl _ _) _) _)) rfl (by omega) HB.out (by simp)).mono ?_; rintro e w1 ⟨rfl, hd⟩; obtain ⟨nq, rfl⟩ := hd.out; rw [← HY.out])
  exact bodyPost_ret (v := (.agg #[.int .i64 7, .int .u64 0, .int .i64 y, .int .i8 0, .int .i64 2, .bool false])) (by simp [results, Tryz.results11, go_sem]) rfl ⟨rfl, (by repeat (first | (refine belowSet ?_ _ _ _ (by omega)) | apply below_alloc | apply pw_below_drewN | exact Below.refl _ _))⟩
set_option maxRecDepth 100000 in
theorem hd_218 (w : World) (A : Option Addr) (n c : Nat) (x0 x1 : Int) (r : List Int) (hr : CB w A (218 :: x0 :: x1 :: r)) (hn : n = r.length + 3) (hc : n ≤ c) (hx0 : isB x0) (hx1 : isB x1) :
    Calls Tryz.prog 11 #[.slice A n c] w (HdIs 7 0 (beL 0 [x0, x1]) 0 3 false w) := by
  obtain ⟨A', hs, hcb⟩ := midCB A n c 1 3 (218 :: x0 :: x1 :: r) (by simp; omega) (by omega) (by omega) hc
  replace hs : ∀ W : World, (Instr.slice 22 (.slice A n c) (some (.int .i64 1)) (some (.int .i64 3)) none).run Tryz.prog W = .ok (.slice A' 2 (c - 1)) W := hs
  have HC := Lib.hid (show CB w A' [x0, x1] from hcb w hr)
  obtain ⟨ad, rfl, hc0⟩ := hr.head
  have hlt := World.block_lt_of_cell? w ad hc0
  replace hc0 : ∀ o, (w.alloc o).cell? ad = some (.int .u8 218) := fun o => (World.cell?_alloc_lt w o ad hlt).trans hc0
  have HB := Lib.hid (show ∀ x, x ∈ [x0, x1] → isB x by intro x hx; simp only [List.mem_cons, List.not_mem_nil, or_false] at hx; rcases hx with rfl | rfl <;> assumption)
  obtain ⟨y, hy⟩ : ∃ y, y = beL 0 [x0, x1] := ⟨_, rfl⟩
  have hy0 : 0 ≤ y ∧ y ≤ 65535 := by rw [hy]; obtain ⟨_, _⟩ := hx0; obtain ⟨_, _⟩ := hx1; simp only [beL]; omega
  obtain ⟨hy0, hy1⟩ := hy0
  have HY := Lib.hid hy
  rw [← hy]
  clear hr hcb hlt hx0 hx1 hy
  subst hn
  go_enter Tryz.func11, Tryz.ntmps11
  go_wp2_with (go_at_call 28; refine (ref_num _ A' 2 (c - 1) [x0, x1] (Kd.C_below HC.out (below_alloc (below_alloc (Below.refl _ _) _) _)) rfl (by omega) HB.out (by simp)).mono ?_; rintro e w1 ⟨rfl, hd⟩; obtain ⟨nq, rfl⟩ := hd.out; rw [← HY.out])
  exact bodyPost_ret (v := (.agg #[.int .i64 7, .int .u64 0, .int .i64 y, .int .i8 0, .int .i64 3, .bool false])) (by simp [results, Tryz.results11, go_sem]) rfl ⟨rfl, (by repeat (first | (refine belowSet ?_ _ _ _ (by omega)) | apply below_alloc | apply pw_below_drewN | exact Below.refl _ _))⟩
set_option maxRecDepth 100000 in
theorem hd_219 (w : World) (A : Option Addr) (n c : Nat) (x0 x1 x2 x3 : Int) (r : List Int) (hr : CB w A (219 :: x0 :: x1 :: x2 :: x3 :: r)) (hn : n = r.length + 5) (hc : n ≤ c) (hx0 : isB x0) (hx1 : isB x1) (hx2 : isB x2) (hx3 : isB x3) :
    Calls Tryz.prog 11 #[.slice A n c] w (HdIs 7 0 (beL 0 [x0, x1, x2, x3]) 0 5 false w) := by
  obtain ⟨A', hs, hcb⟩ := midCB A n c 1 5 (219 :: x0 :: x1 :: x2 :: x3 :: r) (by simp; omega) (by omega) (by omega) hc
  replace hs : ∀ W : World, (Instr.slice 22 (.slice A n c) (some (.int .i64 1)) (some (.int .i64 5)) none).run Tryz.prog W = .ok (.slice A' 4 (c - 1)) W := hs
  have HC := Lib.hid (show CB w A' [x0, x1, x2, x3] from hcb w hr)
  obtain ⟨ad, rfl, hc0⟩ := hr.head
  have hlt := World.block_lt_of_cell? w ad hc0
  replace hc0 : ∀ o, (w.alloc o).cell? ad = some (.int .u8 219) := fun o => (World.cell?_alloc_lt w o ad hlt).trans hc0
  have HB := Lib.hid (show ∀ x, x ∈ [x0, x1, x2, x3] → isB x by intro x hx; simp only [List.mem_cons, List.not_mem_nil, or_false] at hx; rcases hx with rfl | rfl | rfl | rfl <;> assumption)
  obtain ⟨y, hy⟩ : ∃ y, y = beL 0 [x0, x1, x2, x3] := ⟨_, rfl⟩
  have hy0 : 0 ≤ y ∧ y ≤ 4294967295 := by rw [hy]; obtain ⟨_, _⟩ := hx0; obtain ⟨_, _⟩ := hx1; obtain ⟨_, _⟩ := hx2; obtain ⟨_, _⟩ := hx3; simp only [beL]; omega
  obtain ⟨hy0, hy1⟩ := hy0
  have HY := Lib.hid hy
  rw [← hy]
  clear hr hcb hlt hx0 hx1 hx2 hx3 hy
  subst hn
  go_enter Tryz.func11, Tryz.ntmps11
  go_wp2_with (go_at_call 28; refine (ref_num _ A' 4 (c - 1) [x0, x1, x2, x3] (Kd.C_below HC.out (below_alloc (below_alloc (Below.refl _ _) _) _)) rfl (by omega) HB.out (by simp)).mono ?_; rintro e w1 ⟨rfl, hd⟩; obtain ⟨nq, rfl⟩ := hd.out; rw [← HY.out])
  exact bodyPost_ret (v := (.agg #[.int .i64 7, .int .u64 0, .int .i64 y, .int .i8 0, .int .i64 5, .bool false])) (by simp [results, Tryz.results11, go_sem]) rfl ⟨rfl, (by repeat (first | (refine belowSet ?_ _ _ _ (by omega)) | apply below_alloc | apply pw_below_drewN | exact Below.refl _ _))⟩
set_option maxRecDepth 100000 in
theorem hd_220 (w : World) (A : Option Addr) (n c : Nat) (x0 x1 : Int) (r : List Int) (hr : CB w A (220 :: x0 :: x1 :: r)) (hn : n = r.length + 3) (hc : n ≤ c) (hx0 : isB x0) (hx1 : isB x1) :
    Calls Tryz.prog 11 #[.slice A n c] w (HdIs 9 0 (beL 0 [x0, x1]) 0 3 false w) := by
  obtain ⟨A', hs, hcb⟩ := midCB A n c 1 3 (220 :: x0 :: x1 :: r) (by simp; omega) (by omega) (by omega) hc
  replace hs : ∀ W : World, (Instr.slice 22 (.slice A n c) (some (.int .i64 1)) (some (.int .i64 3)) none).run Tryz.prog W = .ok (.slice A' 2 (c - 1)) W := hs
  have HC := Lib.hid (show CB w A' [x0, x1] from hcb w hr)
  obtain ⟨ad, rfl, hc0⟩ := hr.head
  have hlt := World.block_lt_of_cell? w ad hc0
  replace hc0 : ∀ o, (w.alloc o).cell? ad = some (.int .u8 220) := fun o => (World.cell?_alloc_lt w o ad hlt).trans hc0
  have HB := Lib.hid (show ∀ x, x ∈ [x0, x1] → isB x by intro x hx; simp only [List.mem_cons, List.not_mem_nil, or_false] at hx; rcases hx with rfl | rfl <;> assumption)
  obtain ⟨y, hy⟩ : ∃ y, y = beL 0 [x0, x1] := ⟨_, rfl⟩
  have hy0 : 0 ≤ y ∧ y ≤ 65535 := by rw [hy]; obtain ⟨_, _⟩ := hx0; obtain ⟨_, _⟩ := hx1; simp only [beL]; omega
  obtain ⟨hy0, hy1⟩ := hy0
  have HY := Lib.hid hy
  rw [← hy]
  clear hr hcb hlt hx0 hx1 hy
  subst hn
  go_enter Tryz.func11, Tryz.ntmps11
  go_wp2_with (go_at_call 28; refine (ref_num _ A' 2 (c - 1) [x0, x1] (Kd.C_below HC.out (below_alloc (below_alloc (Below.refl _ _) _) _)) rfl (by omega) HB.out (by simp)).mono ?_; rintro e w1 ⟨rfl, hd⟩; obtain ⟨nq, rfl⟩ := hd.out; rw [← HY.out])
  exact bodyPost_ret (v := (.agg #[.int .i64 9, .int .u64 0, .int .i64 y, .int .i8 0, .int .i64 3, .bool false])) (by simp [results, Tryz.results11, go_sem]) rfl ⟨rfl, (by repeat (first | (refine belowSet ?_ _ _ _ (by omega)) | apply below_alloc | apply pw_below_drewN | exact Below.refl _ _))⟩
set_option maxRecDepth 100000 in
theorem hd_221 (w : World) (A : Option Addr) (n c : Nat) (x0 x1 x2 x3 : Int) (r : List Int) (hr : CB w A (221 :: x0 :: x1 :: x2 :: x3 :: r)) (hn : n = r.length + 5) (hc : n ≤ c) (hx0 : isB x0) (hx1 : isB x1) (hx2 : isB x2) (hx3 : isB x3) :
    Calls Tryz.prog 11 #[.slice A n c] w (HdIs 9 0 (beL 0 [x0, x1, x2, x3]) 0 5 false w) := by
  obtain ⟨A', hs, hcb⟩ := midCB A n c 1 5 (221 :: x0 :: x1 :: x2 :: x3 :: r) (by simp; omega) (by omega) (by omega) hc
  replace hs : ∀ W : World, (Instr.slice 22 (.slice A n c) (some (.int .i64 1)) (some (.int .i64 5)) none).run Tryz.prog W = .ok (.slice A' 4 (c - 1)) W := hs
  have HC := Lib.hid (show CB w A' [x0, x1, x2, x3] from hcb w hr)
  obtain ⟨ad, rfl, hc0⟩ := hr.head
  have hlt := World.block_lt_of_cell? w ad hc0
  replace hc0 : ∀ o, (w.alloc o).cell? ad = some (.int .u8 221) := fun o => (World.cell?_alloc_lt w o ad hlt).trans hc0
  have HB := Lib.hid (show ∀ x, x ∈ [x0, x1, x2, x3] → isB x by intro x hx; simp only [List.mem_cons, List.not_mem_nil, or_false] at hx; rcases hx with rfl | rfl | rfl | rfl <;> assumption)
  obtain ⟨y, hy⟩ : ∃ y, y = beL 0 [x0, x1, x2, x3] := ⟨_, rfl⟩
  have hy0 : 0 ≤ y ∧ y ≤ 4294967295 := by rw [hy]; obtain ⟨_, _⟩ := hx0; obtain ⟨_, _⟩ := hx1; obtain ⟨_, _⟩ := hx2; obtain ⟨_, _⟩ := hx3; simp only [beL]; omega
  obtain ⟨hy0, hy1⟩ := hy0
  have HY := Lib.hid hy
  rw [← hy]
  clear hr hcb hlt hx0 hx1 hx2 hx3 hy
  subst hn
  go_enter Tryz.func11, Tryz.ntmps11
  go_wp2_with (go_at_call 28; refine (ref_num _ A' 4 (c - 1) [x0, x1, x2, x3] (Kd.C_below HC.out (below_alloc (below_alloc (Below.refl _ _) _) _)) rfl (by omega) HB.out (by simp)).mono ?_; rintro e w1 ⟨rfl, hd⟩; obtain ⟨nq, rfl⟩ := hd.out; rw [← HY.out])
  exact bodyPost_ret (v := (.agg #[.int .i64 9, .int .u64 0, .int .i64 y, .int .i8 0, .int .i64 5, .bool false])) (by simp [results, Tryz.results11, go_sem]) rfl ⟨rfl, (by repeat (first | (refine belowSet ?_ _ _ _ (by omega)) | apply below_alloc | apply pw_below_drewN | exact Below.refl _ _))⟩
set_option maxRecDepth 100000 in
theorem hd_222 (w : World) (A : Option Addr) (n c : Nat) (x0 x1 : Int) (r : List Int) (hr : CB w A (222 :: x0 :: x1 :: r)) (hn : n = r.length + 3) (hc : n ≤ c) (hx0 : isB x0) (hx1 : isB x1) :
    Calls Tryz.prog 11 #[.slice A n c] w (HdIs 10 0 (beL 0 [x0, x1]) 0 3 false w) := by
  obtain ⟨A', hs, hcb⟩ := midCB A n c 1 3 (222 :: x0 :: x1 :: r) (by simp; omega) (by omega) (by omega) hc
  replace hs : ∀ W : World, (Instr.slice 22 (.slice A n c) (some (.int .i64 1)) (some (.int .i64 3)) none).run Tryz.prog W = .ok (.slice A' 2 (c - 1)) W := hs
  have HC := Lib.hid (show CB w A' [x0, x1] from hcb w hr)
  obtain ⟨ad, rfl, hc0⟩ := hr.head
  have hlt := World.block_lt_of_cell? w ad hc0
  replace hc0 : ∀ o, (w.alloc o).cell? ad = some (.int .u8 222) := fun o => (World.cell?_alloc_lt w o ad hlt).trans hc0
  have HB := Lib.hid (show ∀ x, x ∈ [x0, x1] → isB x by intro x hx; simp only [List.mem_cons, List.not_mem_nil, or_false] at hx; rcases hx with rfl | rfl <;> assumption)
  obtain ⟨y, hy⟩ : ∃ y, y = beL 0 [x0, x1] := ⟨_, rfl⟩
  have hy0 : 0 ≤ y ∧ y ≤ 65535 := by rw [hy]; obtain ⟨_, _⟩ := hx0; obtain ⟨_, _⟩ := hx1; simp only [beL]; omega
  obtain ⟨hy0, hy1⟩ := hy0
  have HY := Lib.hid hy
  rw [← hy]
  clear hr hcb hlt hx0 hx1 hy
  subst hn
  go_enter Tryz.func11, Tryz.ntmps11
  go_wp2_with (go_at_call 28; refine (ref_num _ A' 2 (c - 1) [x0, x1] (Kd.C_below HC.out (below_alloc (below_alloc (Below.refl _ _) _) _)) rfl (by omega) HB.out (by simp)).mono ?_; rintro e w1 ⟨rfl, hd⟩; obtain ⟨nq, rfl⟩ := hd.out; rw [← HY.out])
  exact bodyPost_ret (v := (.agg #[.int .i64 10, .int .u64 0, .int .i64 y, .int .i8 0, .int .i64 3, .bool false])) (by simp [results, Tryz.results11, go_sem]) rfl ⟨rfl, (by repeat (first | (refine belowSet ?_ _ _ _ (by omega)) | apply below_alloc | apply pw_below_drewN | exact Below.refl _ _))⟩
set_option maxRecDepth 100000 in
theorem hd_223 (w : World) (A : Option Addr) (n c : Nat) (x0 x1 x2 x3 : Int) (r : List Int) (hr : CB w A (223 :: x0 :: x1 :: x2 :: x3 :: r)) (hn : n = r.length + 5) (hc : n ≤ c) (hx0 : isB x0) (hx1 : isB x1) (hx2 : isB x2) (hx3 : isB x3) :
    Calls Tryz.prog 11 #[.slice A n c] w (HdIs 10 0 (beL 0 [x0, x1, x2, x3]) 0 5 false w) := by
  obtain ⟨A', hs, hcb⟩ := midCB A n c 1 5 (223 :: x0 :: x1 :: x2 :: x3 :: r) (by simp; omega) (by omega) (by omega) hc
  replace hs : ∀ W : World, (Instr.slice 22 (.slice A n c) (some (.int .i64 1)) (some (.int .i64 5)) none).run Tryz.prog W = .ok (.slice A' 4 (c - 1)) W := hs
  have HC := Lib.hid (show CB w A' [x0, x1, x2, x3] from hcb w hr)
  obtain ⟨ad, rfl, hc0⟩ := hr.head
  have hlt := World.block_lt_of_cell? w ad hc0
  replace hc0 : ∀ o, (w.alloc o).cell? ad = some (.int .u8 223) := fun o => (World.cell?_alloc_lt w o ad hlt).trans hc0
  have HB := Lib.hid (show ∀ x, x ∈ [x0, x1, x2, x3] → isB x by intro x hx; simp only [List.mem_cons, List.not_mem_nil, or_false] at hx; rcases hx with rfl | rfl | rfl | rfl <;> assumption)
  obtain ⟨y, hy⟩ : ∃ y, y = beL 0 [x0, x1, x2, x3] := ⟨_, rfl⟩
  have hy0 : 0 ≤ y ∧ y ≤ 4294967295 := by rw [hy]; obtain ⟨_, _⟩ := hx0; obtain ⟨_, _⟩ := hx1; obtain ⟨_, _⟩ := hx2; obtain ⟨_, _⟩ := hx3; simp only [beL]; omega
  obtain ⟨hy0, hy1⟩ := hy0
  have HY := Lib.hid hy
  rw [← hy]
  clear hr hcb hlt hx0 hx1 hx2 hx3 hy
  subst hn
  go_enter Tryz.func11, Tryz.ntmps11
  go_wp2_with (go_at_call 28; refine (ref_num _ A' 4 (c - 1) [x0, x1, x2, x3] (Kd.C_below HC.out (below_alloc (below_alloc (Below.refl _ _) _) _)) rfl (by omega) HB.out (by simp)).mono ?_; rintro e w1 ⟨rfl, hd⟩; obtain ⟨nq, rfl⟩ := hd.out; rw [← HY.out])
  exact bodyPost_ret (v := (.agg #[.int .i64 10, .int .u64 0, .int .i64 y, .int .i8 0, .int .i64 5, .bool false])) (by simp [results, Tryz.results11, go_sem]) rfl ⟨rfl, (by repeat (first | (refine belowSet ?_ _ _ _ (by omega)) | apply below_alloc | apply pw_below_drewN | exact Below.refl _ _))⟩
end Go.Proofs.YtmliokplekeljaaGreatDoor.M
