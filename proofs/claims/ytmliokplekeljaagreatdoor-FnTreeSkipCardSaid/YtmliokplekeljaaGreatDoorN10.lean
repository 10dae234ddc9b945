/- The reference's HeadOf by contracts, heads that are cut short. -/
import Derived.Test.YtmliokplekeljaaGreatDoorN08
namespace Go.Proofs.YtmliokplekeljaaGreatDoor.M
open Go.RowKit Go.Proofs.YtmliokplekeljaaGreatDoorW.PrintWords Go.Proofs.YtmliokplekeljaaGreatDoorW.PrintMore PFnTreeAny
set_option linter.unusedVariables false
set_option linter.unusedSimpArgs false

set_option maxRecDepth 100000 in
theorem hd_196s (w : World) (A : Option Addr) (n c : Nat) (r : List Int) (hr : CB w A (196 :: r)) (hn : n = r.length + 1) (hl : r.length < 1) :
    Calls Tryz.prog 11 #[.slice A n c] w (HdIs 8 0 0 0 0 true w) := by
  obtain ⟨ad, rfl, hc0⟩ := hr.head
  have hlt := World.block_lt_of_cell? w ad hc0
  replace hc0 : ∀ o, (w.alloc o).cell? ad = some (.int .u8 196) := fun o => (World.cell?_alloc_lt w o ad hlt).trans hc0
  clear hr hlt
  subst hn
  go_enter Tryz.func11, Tryz.ntmps11
  go_wp2
  exact bodyPost_ret (v := (.agg #[.int .i64 8, .int .u64 0, .int .i64 0, .int .i8 0, .int .i64 0, .bool true])) (by simp [results, Tryz.results11, go_sem]) rfl ⟨rfl, (by repeat (first | exact Below.refl _ _ | apply below_alloc | apply pw_below_drewN | (refine belowSet ?_ _ _ _ (by omega))))⟩
set_option maxRecDepth 100000 in
theorem hd_197s (w : World) (A : Option Addr) (n c : Nat) (r : List Int) (hr : CB w A (197 :: r)) (hn : n = r.length + 1) (hl : r.length < 2) :
    Calls Tryz.prog 11 #[.slice A n c] w (HdIs 8 0 0 0 0 true w) := by
  obtain ⟨ad, rfl, hc0⟩ := hr.head
  have hlt := World.block_lt_of_cell? w ad hc0
  replace hc0 : ∀ o, (w.alloc o).cell? ad = some (.int .u8 197) := fun o => (World.cell?_alloc_lt w o ad hlt).trans hc0
  clear hr hlt
  subst hn
  go_enter Tryz.func11, Tryz.ntmps11
  go_wp2
  exact bodyPost_ret (v := (.agg #[.int .i64 8, .int .u64 0, .int .i64 0, .int .i8 0, .int .i64 0, .bool true])) (by simp [results, Tryz.results11, go_sem]) rfl ⟨rfl, (by repeat (first | exact Below.refl _ _ | apply below_alloc | apply pw_below_drewN | (refine belowSet ?_ _ _ _ (by omega))))⟩
set_option maxRecDepth 100000 in
theorem hd_198s (w : World) (A : Option Addr) (n c : Nat) (r : List Int) (hr : CB w A (198 :: r)) (hn : n = r.length + 1) (hl : r.length < 4) :
    Calls Tryz.prog 11 #[.slice A n c] w (HdIs 8 0 0 0 0 true w) := by
  obtain ⟨ad, rfl, hc0⟩ := hr.head
  have hlt := World.block_lt_of_cell? w ad hc0
  replace hc0 : ∀ o, (w.alloc o).cell? ad = some (.int .u8 198) := fun o => (World.cell?_alloc_lt w o ad hlt).trans hc0
  clear hr hlt
  subst hn
  go_enter Tryz.func11, Tryz.ntmps11
  go_wp2
  exact bodyPost_ret (v := (.agg #[.int .i64 8, .int .u64 0, .int .i64 0, .int .i8 0, .int .i64 0, .bool true])) (by simp [results, Tryz.results11, go_sem]) rfl ⟨rfl, (by repeat (first | exact Below.refl _ _ | apply below_alloc | apply pw_below_drewN | (refine belowSet ?_ _ _ _ (by omega))))⟩
set_option maxRecDepth 100000 in
theorem hd_199s (w : World) (A : Option Addr) (n c : Nat) (r : List Int) (hr : CB w A (199 :: r)) (hn : n = r.length + 1) (hl : r.length < 2) :
    Calls Tryz.prog 11 #[.slice A n c] w (HdIs 11 0 0 0 0 true w) := by
  obtain ⟨ad, rfl, hc0⟩ := hr.head
  have hlt := World.block_lt_of_cell? w ad hc0
  replace hc0 : ∀ o, (w.alloc o).cell? ad = some (.int .u8 199) := fun o => (World.cell?_alloc_lt w o ad hlt).trans hc0
  clear hr hlt
  subst hn
  go_enter Tryz.func11, Tryz.ntmps11
  go_wp2
  exact bodyPost_ret (v := (.agg #[.int .i64 11, .int .u64 0, .int .i64 0, .int .i8 0, .int .i64 0, .bool true])) (by simp [results, Tryz.results11, go_sem]) rfl ⟨rfl, (by repeat (first | exact Below.refl _ _ | apply below_alloc | apply pw_below_drewN | (refine belowSet ?_ _ _ _ (by omega))))⟩
set_option maxRecDepth 100000 in
theorem hd_200s (w : World) (A : Option Addr) (n c : Nat) (r : List Int) (hr : CB w A (200 :: r)) (hn : n = r.length + 1) (hl : r.length < 3) :
    Calls Tryz.prog 11 #[.slice A n c] w (HdIs 11 0 0 0 0 true w) := by
  obtain ⟨ad, rfl, hc0⟩ := hr.head
  have hlt := World.block_lt_of_cell? w ad hc0
  replace hc0 : ∀ o, (w.alloc o).cell? ad = some (.int .u8 200) := fun o => (World.cell?_alloc_lt w o ad hlt).trans hc0
  clear hr hlt
  subst hn
  go_enter Tryz.func11, Tryz.ntmps11
  go_wp2
  exact bodyPost_ret (v := (.agg #[.int .i64 11, .int .u64 0, .int .i64 0, .int .i8 0, .int .i64 0, .bool true])) (by simp [results, Tryz.results11, go_sem]) rfl ⟨rfl, (by repeat (first | exact Below.refl _ _ | apply below_alloc | apply pw_below_drewN | (refine belowSet ?_ _ _ _ (by omega))))⟩
set_option maxRecDepth 100000 in
theorem hd_201s (w : World) (A : Option Addr) (n c : Nat) (r : List Int) (hr : CB w A (201 :: r)) (hn : n = r.length + 1) (hl : r.length < 5) :
    Calls Tryz.prog 11 #[.slice A n c] w (HdIs 11 0 0 0 0 true w) := by
  obtain ⟨ad, rfl, hc0⟩ := hr.head
  have hlt := World.block_lt_of_cell? w ad hc0
  replace hc0 : ∀ o, (w.alloc o).cell? ad = some (.int .u8 201) := fun o => (World.cell?_alloc_lt w o ad hlt).trans hc0
  clear hr hlt
  subst hn
  go_enter Tryz.func11, Tryz.ntmps11
  go_wp2
  exact bodyPost_ret (v := (.agg #[.int .i64 11, .int .u64 0, .int .i64 0, .int .i8 0, .int .i64 0, .bool true])) (by simp [results, Tryz.results11, go_sem]) rfl ⟨rfl, (by repeat (first | exact Below.refl _ _ | apply below_alloc | apply pw_below_drewN | (refine belowSet ?_ _ _ _ (by omega))))⟩
set_option maxRecDepth 100000 in
theorem hd_202s (w : World) (A : Option Addr) (n c : Nat) (r : List Int) (hr : CB w A (202 :: r)) (hn : n = r.length + 1) (hl : r.length < 4) :
    Calls Tryz.prog 11 #[.slice A n c] w (HdIs 5 0 0 0 0 true w) := by
  obtain ⟨ad, rfl, hc0⟩ := hr.head
  have hlt := World.block_lt_of_cell? w ad hc0
  replace hc0 : ∀ o, (w.alloc o).cell? ad = some (.int .u8 202) := fun o => (World.cell?_alloc_lt w o ad hlt).trans hc0
  clear hr hlt
  subst hn
  go_enter Tryz.func11, Tryz.ntmps11
  go_wp2
  exact bodyPost_ret (v := (.agg #[.int .i64 5, .int .u64 0, .int .i64 0, .int .i8 0, .int .i64 0, .bool true])) (by simp [results, Tryz.results11, go_sem]) rfl ⟨rfl, (by repeat (first | exact Below.refl _ _ | apply below_alloc | apply pw_below_drewN | (refine belowSet ?_ _ _ _ (by omega))))⟩
set_option maxRecDepth 100000 in
theorem hd_203s (w : World) (A : Option Addr) (n c : Nat) (r : List Int) (hr : CB w A (203 :: r)) (hn : n = r.length + 1) (hl : r.length < 8) :
    Calls Tryz.prog 11 #[.slice A n c] w (HdIs 6 0 0 0 0 true w) := by
  obtain ⟨ad, rfl, hc0⟩ := hr.head
  have hlt := World.block_lt_of_cell? w ad hc0
  replace hc0 : ∀ o, (w.alloc o).cell? ad = some (.int .u8 203) := fun o => (World.cell?_alloc_lt w o ad hlt).trans hc0
  clear hr hlt
  subst hn
  go_enter Tryz.func11, Tryz.ntmps11
  go_wp2
  exact bodyPost_ret (v := (.agg #[.int .i64 6, .int .u64 0, .int .i64 0, .int .i8 0, .int .i64 0, .bool true])) (by simp [results, Tryz.results11, go_sem]) rfl ⟨rfl, (by repeat (first | exact Below.refl _ _ | apply below_alloc | apply pw_below_drewN | (refine belowSet ?_ _ _ _ (by omega))))⟩
set_option maxRecDepth 100000 in
theorem hd_204s (w : World) (A : Option Addr) (n c : Nat) (r : List Int) (hr : CB w A (204 :: r)) (hn : n = r.length + 1) (hl : r.length < 1) :
    Calls Tryz.prog 11 #[.slice A n c] w (HdIs 4 0 0 0 0 true w) := by
  obtain ⟨ad, rfl, hc0⟩ := hr.head
  have hlt := World.block_lt_of_cell? w ad hc0
  replace hc0 : ∀ o, (w.alloc o).cell? ad = some (.int .u8 204) := fun o => (World.cell?_alloc_lt w o ad hlt).trans hc0
  clear hr hlt
  subst hn
  go_enter Tryz.func11, Tryz.ntmps11
  go_wp2
  exact bodyPost_ret (v := (.agg #[.int .i64 4, .int .u64 0, .int .i64 0, .int .i8 0, .int .i64 0, .bool true])) (by simp [results, Tryz.results11, go_sem]) rfl ⟨rfl, (by repeat (first | exact Below.refl _ _ | apply below_alloc | apply pw_below_drewN | (refine belowSet ?_ _ _ _ (by omega))))⟩
set_option maxRecDepth 100000 in
theorem hd_205s (w : World) (A : Option Addr) (n c : Nat) (r : List Int) (hr : CB w A (205 :: r)) (hn : n = r.length + 1) (hl : r.length < 2) :
    Calls Tryz.prog 11 #[.slice A n c] w (HdIs 4 0 0 0 0 true w) := by
  obtain ⟨ad, rfl, hc0⟩ := hr.head
  have hlt := World.block_lt_of_cell? w ad hc0
  replace hc0 : ∀ o, (w.alloc o).cell? ad = some (.int .u8 205) := fun o => (World.cell?_alloc_lt w o ad hlt).trans hc0
  clear hr hlt
  subst hn
  go_enter Tryz.func11, Tryz.ntmps11
  go_wp2
  exact bodyPost_ret (v := (.agg #[.int .i64 4, .int .u64 0, .int .i64 0, .int .i8 0, .int .i64 0, .bool true])) (by simp [results, Tryz.results11, go_sem]) rfl ⟨rfl, (by repeat (first | exact Below.refl _ _ | apply below_alloc | apply pw_below_drewN | (refine belowSet ?_ _ _ _ (by omega))))⟩
set_option maxRecDepth 100000 in
theorem hd_206s (w : World) (A : Option Addr) (n c : Nat) (r : List Int) (hr : CB w A (206 :: r)) (hn : n = r.length + 1) (hl : r.length < 4) :
    Calls Tryz.prog 11 #[.slice A n c] w (HdIs 4 0 0 0 0 true w) := by
  obtain ⟨ad, rfl, hc0⟩ := hr.head
  have hlt := World.block_lt_of_cell? w ad hc0
  replace hc0 : ∀ o, (w.alloc o).cell? ad = some (.int .u8 206) := fun o => (World.cell?_alloc_lt w o ad hlt).trans hc0
  clear hr hlt
  subst hn
  go_enter Tryz.func11, Tryz.ntmps11
  go_wp2
  exact bodyPost_ret (v := (.agg #[.int .i64 4, .int .u64 0, .int .i64 0, .int .i8 0, .int .i64 0, .bool true])) (by simp [results, Tryz.results11, go_sem]) rfl ⟨rfl, (by repeat (first | exact Below.refl _ _ | apply below_alloc | apply pw_below_drewN | (refine belowSet ?_ _ _ _ (by omega))))⟩
set_option maxRecDepth 100000 in
theorem hd_207s (w : World) (A : Option Addr) (n c : Nat) (r : List Int) (hr : CB w A (207 :: r)) (hn : n = r.length + 1) (hl : r.length < 8) :
    Calls Tryz.prog 11 #[.slice A n c] w (HdIs 4 0 0 0 0 true w) := by
  obtain ⟨ad, rfl, hc0⟩ := hr.head
  have hlt := World.block_lt_of_cell? w ad hc0
  replace hc0 : ∀ o, (w.alloc o).cell? ad = some (.int .u8 207) := fun o => (World.cell?_alloc_lt w o ad hlt).trans hc0
  clear hr hlt
  subst hn
  go_enter Tryz.func11, Tryz.ntmps11
  go_wp2
  exact bodyPost_ret (v := (.agg #[.int .i64 4, .int .u64 0, .int .i64 0, .int .i8 0, .int .i64 0, .bool true])) (by simp [results, Tryz.results11, go_sem]) rfl ⟨rfl, (by repeat (first | exact Below.refl _ _ | apply below_alloc | apply pw_below_drewN | (refine belowSet ?_ _ _ _ (by omega))))⟩
set_option maxRecDepth 100000 in
theorem hd_208s (w : World) (A : Option Addr) (n c : Nat) (r : List Int) (hr : CB w A (208 :: r)) (hn : n = r.length + 1) (hl : r.length < 1) :
    Calls Tryz.prog 11 #[.slice A n c] w (HdIs 3 0 0 0 0 true w) := by
  obtain ⟨ad, rfl, hc0⟩ := hr.head
  have hlt := World.block_lt_of_cell? w ad hc0
  replace hc0 : ∀ o, (w.alloc o).cell? ad = some (.int .u8 208) := fun o => (World.cell?_alloc_lt w o ad hlt).trans hc0
  clear hr hlt
  subst hn
  go_enter Tryz.func11, Tryz.ntmps11
  go_wp2
  exact bodyPost_ret (v := (.agg #[.int .i64 3, .int .u64 0, .int .i64 0, .int .i8 0, .int .i64 0, .bool true])) (by simp [results, Tryz.results11, go_sem]) rfl ⟨rfl, (by repeat (first | exact Below.refl _ _ | apply below_alloc | apply pw_below_drewN | (refine belowSet ?_ _ _ _ (by omega))))⟩
set_option maxRecDepth 100000 in
theorem hd_209s (w : World) (A : Option Addr) (n c : Nat) (r : List Int) (hr : CB w A (209 :: r)) (hn : n = r.length + 1) (hl : r.length < 2) :
    Calls Tryz.prog 11 #[.slice A n c] w (HdIs 3 0 0 0 0 true w) := by
  obtain ⟨ad, rfl, hc0⟩ := hr.head
  have hlt := World.block_lt_of_cell? w ad hc0
  replace hc0 : ∀ o, (w.alloc o).cell? ad = some (.int .u8 209) := fun o => (World.cell?_alloc_lt w o ad hlt).trans hc0
  clear hr hlt
  subst hn
  go_enter Tryz.func11, Tryz.ntmps11
  go_wp2
  exact bodyPost_ret (v := (.agg #[.int .i64 3, .int .u64 0, .int .i64 0, .int .i8 0, .int .i64 0, .bool true])) (by simp [results, Tryz.results11, go_sem]) rfl ⟨rfl, (by repeat (first | exact Below.refl _ _ | apply below_alloc | apply pw_below_drewN | (refine belowSet ?_ _ _ _ (by omega))))⟩
set_option maxRecDepth 100000 in
theorem hd_210s (w : World) (A : Option Addr) (n c : Nat) (r : List Int) (hr : CB w A (210 :: r)) (hn : n = r.length + 1) (hl : r.length < 4) :
    Calls Tryz.prog 11 #[.slice A n c] w (HdIs 3 0 0 0 0 true w) := by
  obtain ⟨ad, rfl, hc0⟩ := hr.head
  have hlt := World.block_lt_of_cell? w ad hc0
  replace hc0 : ∀ o, (w.alloc o).cell? ad = some (.int .u8 210) := fun o => (World.cell?_alloc_lt w o ad hlt).trans hc0
  clear hr hlt
  subst hn
  go_enter Tryz.func11, Tryz.ntmps11
  go_wp2
  exact bodyPost_ret (v := (.agg #[.int .i64 3, .int .u64 0, .int .i64 0, .int .i8 0, .int .i64 0, .bool true])) (by simp [results, Tryz.results11, go_sem]) rfl ⟨rfl, (by repeat (first | exact Below.refl _ _ | apply below_alloc | apply pw_below_drewN | (refine belowSet ?_ _ _ _ (by omega))))⟩
set_option maxRecDepth 100000 in
theorem hd_211s (w : World) (A : Option Addr) (n c : Nat) (r : List Int) (hr : CB w A (211 :: r)) (hn : n = r.length + 1) (hl : r.length < 8) :
    Calls Tryz.prog 11 #[.slice A n c] w (HdIs 3 0 0 0 0 true w) := by
  obtain ⟨ad, rfl, hc0⟩ := hr.head
  have hlt := World.block_lt_of_cell? w ad hc0
  replace hc0 : ∀ o, (w.alloc o).cell? ad = some (.int .u8 211) := fun o => (World.cell?_alloc_lt w o ad hlt).trans hc0
  clear hr hlt
  subst hn
  go_enter Tryz.func11, Tryz.ntmps11
  go_wp2
  exact bodyPost_ret (v := (.agg #[.int .i64 3, .int .u64 0, .int .i64 0, .int .i8 0, .int .i64 0, .bool true])) (by simp [results, Tryz.results11, go_sem]) rfl ⟨rfl, (by repeat (first | exact Below.refl _ _ | apply below_alloc | apply pw_below_drewN | (refine belowSet ?_ _ _ _ (by omega))))⟩
set_option maxRecDepth 100000 in
theorem hd_212s (w : World) (A : Option Addr) (n c : Nat) (r : List Int) (hr : CB w A (212 :: r)) (hn : n = r.length + 1) (hl : r.length < 1) :
    Calls Tryz.prog 11 #[.slice A n c] w (HdIs 11 0 0 0 0 true w) := by
  obtain ⟨ad, rfl, hc0⟩ := hr.head
  have hlt := World.block_lt_of_cell? w ad hc0
  replace hc0 : ∀ o, (w.alloc o).cell? ad = some (.int .u8 212) := fun o => (World.cell?_alloc_lt w o ad hlt).trans hc0
  clear hr hlt
  subst hn
  go_enter Tryz.func11, Tryz.ntmps11
  go_wp2
  exact bodyPost_ret (v := (.agg #[.int .i64 11, .int .u64 0, .int .i64 0, .int .i8 0, .int .i64 0, .bool true])) (by simp [results, Tryz.results11, go_sem]) rfl ⟨rfl, (by repeat (first | exact Below.refl _ _ | apply below_alloc | apply pw_below_drewN | (refine belowSet ?_ _ _ _ (by omega))))⟩
set_option maxRecDepth 100000 in
theorem hd_213s (w : World) (A : Option Addr) (n c : Nat) (r : List Int) (hr : CB w A (213 :: r)) (hn : n = r.length + 1) (hl : r.length < 1) :
    Calls Tryz.prog 11 #[.slice A n c] w (HdIs 11 0 0 0 0 true w) := by
  obtain ⟨ad, rfl, hc0⟩ := hr.head
  have hlt := World.block_lt_of_cell? w ad hc0
  replace hc0 : ∀ o, (w.alloc o).cell? ad = some (.int .u8 213) := fun o => (World.cell?_alloc_lt w o ad hlt).trans hc0
  clear hr hlt
  subst hn
  go_enter Tryz.func11, Tryz.ntmps11
  go_wp2
  exact bodyPost_ret (v := (.agg #[.int .i64 11, .int .u64 0, .int .i64 0, .int .i8 0, .int .i64 0, .bool true])) (by simp [results, Tryz.results11, go_sem]) rfl ⟨rfl, (by repeat (first | exact Below.refl _ _ | apply below_alloc | apply pw_below_drewN | (refine belowSet ?_ _ _ _ (by omega))))⟩
set_option maxRecDepth 100000 in
theorem hd_214s (w : World) (A : Option Addr) (n c : Nat) (r : List Int) (hr : CB w A (214 :: r)) (hn : n = r.length + 1) (hl : r.length < 1) :
    Calls Tryz.prog 11 #[.slice A n c] w (HdIs 11 0 0 0 0 true w) := by
  obtain ⟨ad, rfl, hc0⟩ := hr.head
  have hlt := World.block_lt_of_cell? w ad hc0
  replace hc0 : ∀ o, (w.alloc o).cell? ad = some (.int .u8 214) := fun o => (World.cell?_alloc_lt w o ad hlt).trans hc0
  clear hr hlt
  subst hn
  go_enter Tryz.func11, Tryz.ntmps11
  go_wp2
  exact bodyPost_ret (v := (.agg #[.int .i64 11, .int .u64 0, .int .i64 0, .int .i8 0, .int .i64 0, .bool true])) (by simp [results, Tryz.results11, go_sem]) rfl ⟨rfl, (by repeat (first | exact Below.refl _ _ | apply below_alloc | apply pw_below_drewN | (refine belowSet ?_ _ _ _ (by omega))))⟩
set_option maxRecDepth 100000 in
theorem hd_215s (w : World) (A : Option Addr) (n c : Nat) (r : List Int) (hr : CB w A (215 :: r)) (hn : n = r.length + 1) (hl : r.length < 1) :
    Calls Tryz.prog 11 #[.slice A n c] w (HdIs 11 0 0 0 0 true w) := by
  obtain ⟨ad, rfl, hc0⟩ := hr.head
  have hlt := World.block_lt_of_cell? w ad hc0
  replace hc0 : ∀ o, (w.alloc o).cell? ad = some (.int .u8 215) := fun o => (World.cell?_alloc_lt w o ad hlt).trans hc0
  clear hr hlt
  subst hn
  go_enter Tryz.func11, Tryz.ntmps11
  go_wp2
  exact bodyPost_ret (v := (.agg #[.int .i64 11, .int .u64 0, .int .i64 0, .int .i8 0, .int .i64 0, .bool true])) (by simp [results, Tryz.results11, go_sem]) rfl ⟨rfl, (by repeat (first | exact Below.refl _ _ | apply below_alloc | apply pw_below_drewN | (refine belowSet ?_ _ _ _ (by omega))))⟩
set_option maxRecDepth 100000 in
theorem hd_216s (w : World) (A : Option Addr) (n c : Nat) (r : List Int) (hr : CB w A (216 :: r)) (hn : n = r.length + 1) (hl : r.length < 1) :
    Calls Tryz.prog 11 #[.slice A n c] w (HdIs 11 0 0 0 0 true w) := by
  obtain ⟨ad, rfl, hc0⟩ := hr.head
  have hlt := World.block_lt_of_cell? w ad hc0
  replace hc0 : ∀ o, (w.alloc o).cell? ad = some (.int .u8 216) := fun o => (World.cell?_alloc_lt w o ad hlt).trans hc0
  clear hr hlt
  subst hn
  go_enter Tryz.func11, Tryz.ntmps11
  go_wp2
  exact bodyPost_ret (v := (.agg #[.int .i64 11, .int .u64 0, .int .i64 0, .int .i8 0, .int .i64 0, .bool true])) (by simp [results, Tryz.results11, go_sem]) rfl ⟨rfl, (by repeat (first | exact Below.refl _ _ | apply below_alloc | apply pw_below_drewN | (refine belowSet ?_ _ _ _ (by omega))))⟩
set_option maxRecDepth 100000 in
theorem hd_217s (w : World) (A : Option Addr) (n c : Nat) (r : List Int) (hr : CB w A (217 :: r)) (hn : n = r.length + 1) (hl : r.length < 1) :
    Calls Tryz.prog 11 #[.slice A n c] w (HdIs 7 0 0 0 0 true w) := by
  obtain ⟨ad, rfl, hc0⟩ := hr.head
  have hlt := World.block_lt_of_cell? w ad hc0
  replace hc0 : ∀ o, (w.alloc o).cell? ad = some (.int .u8 217) := fun o => (World.cell?_alloc_lt w o ad hlt).trans hc0
  clear hr hlt
  subst hn
  go_enter Tryz.func11, Tryz.ntmps11
  go_wp2
  exact bodyPost_ret (v := (.agg #[.int .i64 7, .int .u64 0, .int .i64 0, .int .i8 0, .int .i64 0, .bool true])) (by simp [results, Tryz.results11, go_sem]) rfl ⟨rfl, (by repeat (first | exact Below.refl _ _ | apply below_alloc | apply pw_below_drewN | (refine belowSet ?_ _ _ _ (by omega))))⟩
set_option maxRecDepth 100000 in
theorem hd_218s (w : World) (A : Option Addr) (n c : Nat) (r : List Int) (hr : CB w A (218 :: r)) (hn : n = r.length + 1) (hl : r.length < 2) :
    Calls Tryz.prog 11 #[.slice A n c] w (HdIs 7 0 0 0 0 true w) := by
  obtain ⟨ad, rfl, hc0⟩ := hr.head
  have hlt := World.block_lt_of_cell? w ad hc0
  replace hc0 : ∀ o, (w.alloc o).cell? ad = some (.int .u8 218) := fun o => (World.cell?_alloc_lt w o ad hlt).trans hc0
  clear hr hlt
  subst hn
  go_enter Tryz.func11, Tryz.ntmps11
  go_wp2
  exact bodyPost_ret (v := (.agg #[.int .i64 7, .int .u64 0, .int .i64 0, .int .i8 0, .int .i64 0, .bool true])) (by simp [results, Tryz.results11, go_sem]) rfl ⟨rfl, (by repeat (first | exact Below.refl _ _ | apply below_alloc | apply pw_below_drewN | (refine belowSet ?_ _ _ _ (by omega))))⟩
set_option maxRecDepth 100000 in
theorem hd_219s (w : World) (A : Option Addr) (n c : Nat) (r : List Int) (hr : CB w A (219 :: r)) (hn : n = r.length + 1) (hl : r.length < 4) :
    Calls Tryz.prog 11 #[.slice A n c] w (HdIs 7 0 0 0 0 true w) := by
  obtain ⟨ad, rfl, hc0⟩ := hr.head
  have hlt := World.block_lt_of_cell? w ad hc0
  replace hc0 : ∀ o, (w.alloc o).cell? ad = some (.int .u8 219) := fun o => (World.cell?_alloc_lt w o ad hlt).trans hc0
  clear hr hlt
  subst hn
  go_enter Tryz.func11, Tryz.ntmps11
  go_wp2
  exact bodyPost_ret (v := (.agg #[.int .i64 7, .int .u64 0, .int .i64 0, .int .i8 0, .int .i64 0, .bool true])) (by simp [results, Tryz.results11, go_sem]) rfl ⟨rfl, (by repeat (first | exact Below.refl _ _ | apply below_alloc | apply pw_below_drewN | (refine belowSet ?_ _ _ _ (by omega))))⟩
set_option maxRecDepth 100000 in
theorem hd_220s (w : World) (A : Option Addr) (n c : Nat) (r : List Int) (hr : CB w A (220 :: r)) (hn : n = r.length + 1) (hl : r.length < 2) :
    Calls Tryz.prog 11 #[.slice A n c] w (HdIs 9 0 0 0 0 true w) := by
  obtain ⟨ad, rfl, hc0⟩ := hr.head
  have hlt := World.block_lt_of_cell? w ad hc0
  replace hc0 : ∀ o, (w.alloc o).cell? ad = some (.int .u8 220) := fun o => (World.cell?_alloc_lt w o ad hlt).trans hc0
  clear hr hlt
  subst hn
  go_enter Tryz.func11, Tryz.ntmps11
  go_wp2
  exact bodyPost_ret (v := (.agg #[.int .i64 9, .int .u64 0, .int .i64 0, .int .i8 0, .int .i64 0, .bool true])) (by simp [results, Tryz.results11, go_sem]) rfl ⟨rfl, (by repeat (first | exact Below.refl _ _ | apply below_alloc | apply pw_below_drewN | (refine belowSet ?_ _ _ _ (by omega))))⟩
set_option maxRecDepth 100000 in
theorem hd_221s (w : World) (A : Option Addr) (n c : Nat) (r : List Int) (hr : CB w A (221 :: r)) (hn : n = r.length + 1) (hl : r.length < 4) :
    Calls Tryz.prog 11 #[.slice A n c] w (HdIs 9 0 0 0 0 true w) := by
  obtain ⟨ad, rfl, hc0⟩ := hr.head
  have hlt := World.block_lt_of_cell? w ad hc0
  replace hc0 : ∀ o, (w.alloc o).cell? ad = some (.int .u8 221) := fun o => (World.cell?_alloc_lt w o ad hlt).trans hc0
  clear hr hlt
  subst hn
  go_enter Tryz.func11, Tryz.ntmps11
  go_wp2
  exact bodyPost_ret (v := (.agg #[.int .i64 9, .int .u64 0, .int .i64 0, .int .i8 0, .int .i64 0, .bool true])) (by simp [results, Tryz.results11, go_sem]) rfl ⟨rfl, (by repeat (first | exact Below.refl _ _ | apply below_alloc | apply pw_below_drewN | (refine belowSet ?_ _ _ _ (by omega))))⟩
set_option maxRecDepth 100000 in
theorem hd_222s (w : World) (A : Option Addr) (n c : Nat) (r : List Int) (hr : CB w A (222 :: r)) (hn : n = r.length + 1) (hl : r.length < 2) :
    Calls Tryz.prog 11 #[.slice A n c] w (HdIs 10 0 0 0 0 true w) := by
  obtain ⟨ad, rfl, hc0⟩ := hr.head
  have hlt := World.block_lt_of_cell? w ad hc0
  replace hc0 : ∀ o, (w.alloc o).cell? ad = some (.int .u8 222) := fun o => (World.cell?_alloc_lt w o ad hlt).trans hc0
  clear hr hlt
  subst hn
  go_enter Tryz.func11, Tryz.ntmps11
  go_wp2
  exact bodyPost_ret (v := (.agg #[.int .i64 10, .int .u64 0, .int .i64 0, .int .i8 0, .int .i64 0, .bool true])) (by simp [results, Tryz.results11, go_sem]) rfl ⟨rfl, (by repeat (first | exact Below.refl _ _ | apply below_alloc | apply pw_below_drewN | (refine belowSet ?_ _ _ _ (by omega))))⟩
set_option maxRecDepth 100000 in
theorem hd_223s (w : World) (A : Option Addr) (n c : Nat) (r : List Int) (hr : CB w A (223 :: r)) (hn : n = r.length + 1) (hl : r.length < 4) :
    Calls Tryz.prog 11 #[.slice A n c] w (HdIs 10 0 0 0 0 true w) := by
  obtain ⟨ad, rfl, hc0⟩ := hr.head
  have hlt := World.block_lt_of_cell? w ad hc0
  replace hc0 : ∀ o, (w.alloc o).cell? ad = some (.int .u8 223) := fun o => (World.cell?_alloc_lt w o ad hlt).trans hc0
  clear hr hlt
  subst hn
  go_enter Tryz.func11, Tryz.ntmps11
  go_wp2
  exact bodyPost_ret (v := (.agg #[.int .i64 10, .int .u64 0, .int .i64 0, .int .i8 0, .int .i64 0, .bool true])) (by simp [results, Tryz.results11, go_sem]) rfl ⟨rfl, (by repeat (first | exact Below.refl _ _ | apply below_alloc | apply pw_below_drewN | (refine belowSet ?_ _ _ _ (by omega))))⟩
end Go.Proofs.YtmliokplekeljaaGreatDoor.M
