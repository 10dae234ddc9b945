/- The package's readers of bools, nil, texts and bytes by contracts. -/
import Derived.Test.YtmliokplekeljaaGreatDoorN03
import Derived.Lib.ConvBytes
import Derived.Laws.IdiomCopy
import Derived.Lib.LazyBuf
import Derived.Deep.OwnRows
namespace Go.Proofs.YtmliokplekeljaaGreatDoor.M
open Go.RowKit Go.Proofs.YtmliokplekeljaaGreatDoorW.PrintWords
set_option linter.unusedVariables false
set_option linter.unusedSimpArgs false

set_option maxRecDepth 100000 in
theorem rb_194 (w : World) (g o n c : Nat) (r : List Int) (hr : RB w g o (194 :: r)) (hn : n = r.length + 1) (hc : n ≤ c) :
    Calls Tryz.prog 68 #[.slice (some ⟨g, o, none⟩) n c] w (Ret3 (.bool false) r.length .nilIface w) := by
  have hg := hr.lt
  have hc0 := hr.c0
  obtain ⟨o1, hs1, hr1⟩ := cut1 g o n c r.length r 194 (by omega) (by simp) hc
  clear hr hr1
  subst hn
  go_enter Tryz.func68, Tryz.ntmps68
  go_wp2
  go_quiet (fail)
  go_wp2
  go_ret3
  exact ⟨_, _, rfl, pw_below_drewN (Below.refl _ _) _⟩
set_option maxRecDepth 100000 in
theorem rb_195 (w : World) (g o n c : Nat) (r : List Int) (hr : RB w g o (195 :: r)) (hn : n = r.length + 1) (hc : n ≤ c) :
    Calls Tryz.prog 68 #[.slice (some ⟨g, o, none⟩) n c] w (Ret3 (.bool true) r.length .nilIface w) := by
  have hg := hr.lt
  have hc0 := hr.c0
  obtain ⟨o1, hs1, hr1⟩ := cut1 g o n c r.length r 195 (by omega) (by simp) hc
  clear hr hr1
  subst hn
  go_enter Tryz.func68, Tryz.ntmps68
  go_wp2
  go_quiet (fail)
  go_wp2
  go_ret3
  exact ⟨_, _, rfl, pw_below_drewN (Below.refl _ _) _⟩
def Ret2 (m : Nat) (E : Value) (w : World) (e : Ending) (w' : World) : Prop := ∃ A c, e = .returned (.tuple #[.slice A m c, E]) ∧ Below w.heap.size w w'
set_option maxRecDepth 100000 in
theorem rn_192 (w : World) (g o n c : Nat) (r : List Int) (hr : RB w g o (192 :: r)) (hn : n = r.length + 1) (hc : n ≤ c) :
    Calls Tryz.prog 80 #[.slice (some ⟨g, o, none⟩) n c] w (Ret2 r.length .nilIface w) := by
  have hg := hr.lt
  have hc0 := hr.c0
  obtain ⟨o1, hs1, hr1⟩ := cut1 g o n c r.length r 192 (by omega) (by simp) hc
  clear hr hr1
  subst hn
  go_enter Tryz.func80, Tryz.ntmps80
  go_wp2
  go_ret2
  exact ⟨_, _, rfl, Below.refl _ _⟩
/-- xs[:k], written xs[0:k]. -/
theorem takeRB (b o n c : Nat) (k : Nat) (l : List Int) (hn : n = l.length) (hk : k ≤ n) (hc : n ≤ c) :
    ∃ o' : Nat, (∀ W : World, (Instr.slice 22 (.slice (some ⟨b, o, none⟩) n c) (some (.int .i64 0)) (some (.int .i64 (k : Int))) none).run Tryz.prog W = .ok (.slice (some ⟨b, o', none⟩) k c) W) ∧ (∀ w, RB w b o l → RB w b o' (l.take k)) := by
  subst hn
  obtain ⟨i0, hi, hzz⟩ := Option.map_eq_some_iff.1 info5
  simp only [Prod.mk.injEq] at hzz
  refine ⟨o, fun W => ?_, fun w h => ⟨h.lt, fun i hi => ?_⟩⟩
  · have hel : Tryz.prog.elem 22 = 5 := by simp [Program.elem, Tryz.underlying22]
    have hu : Tryz.prog.underlying 22 = some (.slice (Tryz.prog.elem 22)) := by rw [hel]; exact Tryz.underlying22
    rw [run_slice_lh W 22 (some ⟨b, o, none⟩) l.length c hu .i64 .i64 0 (k : Int) (by omega) (by omega) (by omega), hel]
    simp [sizeOf, typeInfo, hi, hzz.2.1, sliced, Result.andThen, Addr.add]
  · rw [List.length_take] at hi
    rw [h.cell i (by omega)]
    simp [rd, List.getD_eq_getElem?_getD, List.getElem?_take, show i < k from by omega]
/-- A text's bytes and how many are left. -/
def RetZ (g : Nat) (xs : List Int) (m : Nat) (w : World) (e : Ending) (w' : World) : Prop :=
  ∃ o c A c', e = .returned (.tuple #[.slice (some ⟨g, o, none⟩) xs.length c, .slice A m c', .nilIface]) ∧ RB w' g o xs ∧ Below w.heap.size w w'

set_option maxRecDepth 100000 in
theorem rz_fix (w : World) (g o n c k : Nat) (r : List Int) (hr : RB w g o ((160 + (k : Int)) :: r)) (hn : n = r.length + 1) (hc : n ≤ c) (hk32 : k < 32) (hk : k ≤ r.length) :
    Calls Tryz.prog 98 #[.slice (some ⟨g, o, none⟩) n c] w (RetZ g (r.take k) (r.length - k) w) := by
  have hg := hr.lt
  have hc0 := hr.c0
  obtain ⟨o1, hs1, hr1⟩ := cut1 g o n c r.length r (160 + (k : Int)) (by omega) (by simp) hc
  obtain ⟨o3, hs3, hr3⟩ := takeRB g o1 r.length (c - 1) k r rfl (by omega) (by omega)
  obtain ⟨o4, hs4, hr4⟩ := cutRB g o1 r.length (c - 1) k r rfl (by omega) (by omega)
  have HZ := Lib.hid (hr3 w (hr1 w hr))
  clear hr hr1 hr3 hr4
  subst hn
  have hb1 : Go.bits .and .u8 (160 + (k : Int)) 31 = (k : Int) := by rw [and31 _ (by omega) (by omega)]; omega
  have hb2 : Go.bits .and .u8 (160 + (k : Int)) 224 = 160 := by rw [and224 _ (by omega) (by omega)]; omega
  go_enter Tryz.func98, Tryz.ntmps98
  go_wp2
  go_ret3
  exact ⟨o3, _, _, _, by rw [List.length_take, Nat.min_eq_left (by omega)]; rfl, HZ.out, Below.refl _ _⟩
set_option maxRecDepth 100000 in
theorem rz_217 (w : World) (g o n c k : Nat) (x0 : Int) (r : List Int) (hr : RB w g o (217 :: x0 :: r)) (hn : n = r.length + 2) (hc : n ≤ c) (hq0 : isB x0) (hv : x0 = (k : Int)) (hk : k ≤ r.length) :
    Calls Tryz.prog 98 #[.slice (some ⟨g, o, none⟩) n c] w (RetZ g (r.take k) (r.length - k) w) := by
  have hg := hr.lt
  have hc0 := hr.c0
  obtain ⟨o1, hs1, hr1⟩ := cut1 g o n c (r.length + 1) (x0 :: r) 217 (by omega) (by simp) hc
  obtain ⟨o2, hs2, hr2⟩ := cut1 g o1 (r.length + 1) (c - 1) r.length r x0 rfl rfl (by omega)
  obtain ⟨o3, hs3, hr3⟩ := takeRB g o2 r.length (c - 1 - 1) k r rfl (by omega) (by omega)
  obtain ⟨o4, hs4, hr4⟩ := cutRB g o2 r.length (c - 1 - 1) k r rfl (by omega) (by omega)
  have HZ := Lib.hid (hr3 w (hr2 w (hr1 w hr)))
  have hd0 := (hr1 w hr).c0
  rw [hv] at hd0
  have hkb : (k : Int) ≤ x0 := by omega
  clear hr hr1 hr2 hr3 hr4 hv
  subst hn
  obtain ⟨ha0, hb0⟩ := hq0
  go_enter Tryz.func98, Tryz.ntmps98
  go_wp2
  go_ret3
  exact ⟨o3, _, _, _, by rw [List.length_take, Nat.min_eq_left (by omega)]; rfl, HZ.out, Below.refl _ _⟩
set_option maxRecDepth 100000 in
theorem rz_218 (w : World) (g o n c k : Nat) (x0 x1 : Int) (r : List Int) (hr : RB w g o (218 :: x0 :: x1 :: r)) (hn : n = r.length + 3) (hc : n ≤ c) (hq0 : isB x0) (hq1 : isB x1) (hv : x0 * 256 + x1 = (k : Int)) (hk : k ≤ r.length) :
    Calls Tryz.prog 98 #[.slice (some ⟨g, o, none⟩) n c] w (RetZ g (r.take k) (r.length - k) w) := by
  have hg := hr.lt
  have hc0 := hr.c0
  obtain ⟨o1, hs1, hr1⟩ := cut1 g o n c (r.length + 2) (x0 :: x1 :: r) 218 (by omega) (by simp) hc
  obtain ⟨o2, hs2, hr2⟩ := cut2 g o1 (r.length + 2) (c - 1) r.length r x0 x1 rfl rfl (by omega)
  obtain ⟨o3, hs3, hr3⟩ := takeRB g o2 r.length (c - 1 - 2) k r rfl (by omega) (by omega)
  obtain ⟨o4, hs4, hr4⟩ := cutRB g o2 r.length (c - 1 - 2) k r rfl (by omega) (by omega)
  have HZ := Lib.hid (hr3 w (hr2 w (hr1 w hr)))
  have H := Lib.hid (be16 w g o1 (r.length + 2) (c - 1) x0 x1 r (hr1 w hr) rfl hq0 hq1)
  rw [hv] at H
  have hkb : (k : Int) ≤ x0 * 256 + x1 := by omega
  clear hr hr1 hr2 hr3 hr4 hv
  subst hn
  obtain ⟨ha0, hb0⟩ := hq0
  obtain ⟨ha1, hb1⟩ := hq1
  go_enter Tryz.func98, Tryz.ntmps98
  go_wp2_with (first | (go_at_call 84; refine H.out.mono ?_; rintro e w1 ⟨rfl, hb⟩) | go_in)
  go_ret3
  exact ⟨o3, _, _, _, by rw [List.length_take, Nat.min_eq_left (by omega)]; rfl, HZ.out.below hb, hb⟩
set_option maxRecDepth 100000 in
theorem rz_219 (w : World) (g o n c k : Nat) (x0 x1 x2 x3 : Int) (r : List Int) (hr : RB w g o (219 :: x0 :: x1 :: x2 :: x3 :: r)) (hn : n = r.length + 5) (hc : n ≤ c) (hq0 : isB x0) (hq1 : isB x1) (hq2 : isB x2) (hq3 : isB x3) (hv : x0 * 16777216 + x1 * 65536 + x2 * 256 + x3 = (k : Int)) (hk : k ≤ r.length) :
    Calls Tryz.prog 98 #[.slice (some ⟨g, o, none⟩) n c] w (RetZ g (r.take k) (r.length - k) w) := by
  have hg := hr.lt
  have hc0 := hr.c0
  obtain ⟨o1, hs1, hr1⟩ := cut1 g o n c (r.length + 4) (x0 :: x1 :: x2 :: x3 :: r) 219 (by omega) (by simp) hc
  obtain ⟨o2, hs2, hr2⟩ := cut4 g o1 (r.length + 4) (c - 1) r.length r x0 x1 x2 x3 rfl rfl (by omega)
  obtain ⟨o3, hs3, hr3⟩ := takeRB g o2 r.length (c - 1 - 4) k r rfl (by omega) (by omega)
  obtain ⟨o4, hs4, hr4⟩ := cutRB g o2 r.length (c - 1 - 4) k r rfl (by omega) (by omega)
  have HZ := Lib.hid (hr3 w (hr2 w (hr1 w hr)))
  have H := Lib.hid (be32 w g o1 (r.length + 4) (c - 1) x0 x1 x2 x3 r (hr1 w hr) rfl hq0 hq1 hq2 hq3)
  rw [hv] at H
  have hkb : (k : Int) ≤ x0 * 16777216 + x1 * 65536 + x2 * 256 + x3 := by omega
  clear hr hr1 hr2 hr3 hr4 hv
  subst hn
  obtain ⟨ha0, hb0⟩ := hq0
  obtain ⟨ha1, hb1⟩ := hq1
  obtain ⟨ha2, hb2⟩ := hq2
  obtain ⟨ha3, hb3⟩ := hq3
  go_enter Tryz.func98, Tryz.ntmps98
  go_wp2_with (first | (go_at_call 85; refine H.out.mono ?_; rintro e w1 ⟨rfl, hb⟩) | go_in)
  go_ret3
  exact ⟨o3, _, _, _, by rw [List.length_take, Nat.min_eq_left (by omega)]; rfl, HZ.out.below hb, hb⟩
set_option maxRecDepth 100000 in
theorem rz_fixs (w : World) (g o n c k : Nat) (r : List Int) (hG : Glob w) (hr : RB w g o ((160 + (k : Int)) :: r)) (hn : n = r.length + 1) (hc : n ≤ c) (hk32 : k < 32) (hk : r.length < k) :
    Calls Tryz.prog 98 #[.slice (some ⟨g, o, none⟩) n c] w (Ret3 (.slice none 0 0) 0 eShort w) := by
  have hg := hr.lt
  have hc0 := hr.c0
  have h0 := hG.2.1
  have hG5 := hG.1
  obtain ⟨o1, hs1, hr1⟩ := cut1 g o n c r.length r (160 + (k : Int)) (by omega) (by simp) hc
  clear hr hr1 hG
  subst hn
  have hb1 : Go.bits .and .u8 (160 + (k : Int)) 31 = (k : Int) := by rw [and31 _ (by omega) (by omega)]; omega
  have hb2 : Go.bits .and .u8 (160 + (k : Int)) 224 = 160 := by rw [and224 _ (by omega) (by omega)]; omega
  go_enter Tryz.func98, Tryz.ntmps98
  go_wp2
  go_ret3
  exact ⟨_, _, rfl, Below.refl _ _⟩
set_option maxRecDepth 100000 in
theorem rz_217s (w : World) (g o n c k : Nat) (x0 : Int) (r : List Int) (hG : Glob w) (hr : RB w g o (217 :: x0 :: r)) (hn : n = r.length + 2) (hc : n ≤ c) (hq0 : isB x0) (hv : x0 = (k : Int)) (hk : r.length < k) :
    Calls Tryz.prog 98 #[.slice (some ⟨g, o, none⟩) n c] w (Ret3 (.slice none 0 0) 0 eShort w) := by
  have hg := hr.lt
  have hc0 := hr.c0
  have h0 := hG.2.1
  have hG5 := hG.1
  obtain ⟨o1, hs1, hr1⟩ := cut1 g o n c (r.length + 1) (x0 :: r) 217 (by omega) (by simp) hc
  obtain ⟨o2, hs2, hr2⟩ := cut1 g o1 (r.length + 1) (c - 1) r.length r x0 rfl rfl (by omega)
  have hd0 := (hr1 w hr).c0
  rw [hv] at hd0
  have hkb : (k : Int) ≤ x0 := by omega
  clear hr hr1 hr2 hG hv
  subst hn
  obtain ⟨ha0, hb0⟩ := hq0
  go_enter Tryz.func98, Tryz.ntmps98
  go_wp2
  go_ret3
  exact ⟨_, _, rfl, Below.refl _ _⟩
set_option maxRecDepth 100000 in
theorem rz_218s (w : World) (g o n c k : Nat) (x0 x1 : Int) (r : List Int) (hG : Glob w) (hr : RB w g o (218 :: x0 :: x1 :: r)) (hn : n = r.length + 3) (hc : n ≤ c) (hq0 : isB x0) (hq1 : isB x1) (hv : x0 * 256 + x1 = (k : Int)) (hk : r.length < k) :
    Calls Tryz.prog 98 #[.slice (some ⟨g, o, none⟩) n c] w (Ret3 (.slice none 0 0) 0 eShort w) := by
  have hg := hr.lt
  have hc0 := hr.c0
  have h0 := hG.2.1
  have hG5 := hG.1
  obtain ⟨o1, hs1, hr1⟩ := cut1 g o n c (r.length + 2) (x0 :: x1 :: r) 218 (by omega) (by simp) hc
  obtain ⟨o2, hs2, hr2⟩ := cut2 g o1 (r.length + 2) (c - 1) r.length r x0 x1 rfl rfl (by omega)
  have H := Lib.hid (be16 w g o1 (r.length + 2) (c - 1) x0 x1 r (hr1 w hr) rfl hq0 hq1)
  rw [hv] at H
  have hkb : (k : Int) ≤ x0 * 256 + x1 := by omega
  clear hr hr1 hr2 hG hv
  subst hn
  obtain ⟨ha0, hb0⟩ := hq0
  obtain ⟨ha1, hb1⟩ := hq1
  go_enter Tryz.func98, Tryz.ntmps98
  go_wp2_with (first | (go_at_call 84; refine H.out.mono ?_; rintro e w1 ⟨rfl, hb⟩; have h0' := (hb.cell (p := ⟨0, 0, none⟩) (by have := hG5; simp; omega)).trans h0) | go_in)
  go_ret3
  exact ⟨_, _, rfl, hb⟩
set_option maxRecDepth 100000 in
theorem rz_219s (w : World) (g o n c k : Nat) (x0 x1 x2 x3 : Int) (r : List Int) (hG : Glob w) (hr : RB w g o (219 :: x0 :: x1 :: x2 :: x3 :: r)) (hn : n = r.length + 5) (hc : n ≤ c) (hq0 : isB x0) (hq1 : isB x1) (hq2 : isB x2) (hq3 : isB x3) (hv : x0 * 16777216 + x1 * 65536 + x2 * 256 + x3 = (k : Int)) (hk : r.length < k) :
    Calls Tryz.prog 98 #[.slice (some ⟨g, o, none⟩) n c] w (Ret3 (.slice none 0 0) 0 eShort w) := by
  have hg := hr.lt
  have hc0 := hr.c0
  have h0 := hG.2.1
  have hG5 := hG.1
  obtain ⟨o1, hs1, hr1⟩ := cut1 g o n c (r.length + 4) (x0 :: x1 :: x2 :: x3 :: r) 219 (by omega) (by simp) hc
  obtain ⟨o2, hs2, hr2⟩ := cut4 g o1 (r.length + 4) (c - 1) r.length r x0 x1 x2 x3 rfl rfl (by omega)
  have H := Lib.hid (be32 w g o1 (r.length + 4) (c - 1) x0 x1 x2 x3 r (hr1 w hr) rfl hq0 hq1 hq2 hq3)
  rw [hv] at H
  have hkb : (k : Int) ≤ x0 * 16777216 + x1 * 65536 + x2 * 256 + x3 := by omega
  clear hr hr1 hr2 hG hv
  subst hn
  obtain ⟨ha0, hb0⟩ := hq0
  obtain ⟨ha1, hb1⟩ := hq1
  obtain ⟨ha2, hb2⟩ := hq2
  obtain ⟨ha3, hb3⟩ := hq3
  go_enter Tryz.func98, Tryz.ntmps98
  go_wp2_with (first | (go_at_call 85; refine H.out.mono ?_; rintro e w1 ⟨rfl, hb⟩; have h0' := (hb.cell (p := ⟨0, 0, none⟩) (by have := hG5; simp; omega)).trans h0) | go_in)
  go_ret3
  exact ⟨_, _, rfl, hb⟩
end Go.Proofs.YtmliokplekeljaaGreatDoor.M

namespace Go.Proofs.YtmliokplekeljaaGreatDoor.M
open Go.RowKit Go.Proofs.YtmliokplekeljaaGreatDoorW.PrintWords
set_option linter.unusedVariables false
set_option linter.unusedSimpArgs false

/-- A byte as a value. -/
abbrev bV (x : Int) : Value := .int .u8 x
theorem getD_rd (xs : List Int) (j : Nat) : rd xs (j : Int) = xs.getD j 0 := by simp [rd]
/-- Block b is just these bytes. -/
def BL (w : World) (b : Nat) (xs : List Int) : Prop := w.rowIs b 5 xs.length (fun j => bV (xs.getD j 0))
theorem BL.rb {w : World} {b : Nat} {xs : List Int} (h : BL w b xs) : RB w b 0 xs :=
  ⟨World.rowIs.lt h, fun i hi => by rw [Nat.zero_add, World.rowIs.cell h hi, getD_rd]⟩
theorem RB.cb {w : World} {b o : Nat} {l : List Int} (h : RB w b o l) (hl : l.length ≤ 9223372036854775807) : CB w (some ⟨b, o, none⟩) l := by
  refine Kd.C_of_reads (d := 0) ⟨rfl, hl, fun hn => ⟨⟨b, o, none⟩, rfl, fun j hj => ?_⟩⟩
  have h2 := h.cell j hj
  rw [getD_rd] at h2
  rw [← h2]
  congr 1
  unfold Addr.add
  split
  · subst_vars; rfl
  · rfl
theorem BL.ob {w : World} {b base : Nat} {xs : List Int} (h : BL w b xs) (hb : base ≤ b) (hl : xs.length ≤ 140737488355328) : OB w base (.slice (some ⟨b, 0, none⟩) xs.length xs.length) xs := by
  obtain ⟨cs, h1, h2, h3⟩ := h
  refine Kd.R_of_own ⟨by simp [encs], .inr ⟨b, xs.length, cs, rfl, hb, h1, Nat.le_refl _, by simp only [maxLen]; omega, by simpa using h2, ?_⟩⟩ (fun _ _ => trivial)
  rw [Nat.mul_one]
  apply List.ext_getElem?
  intro j
  by_cases hj : j < xs.length
  · rw [List.getElem?_take, if_pos hj, Array.getElem?_toList, h3 j hj, encs, List.getElem?_map, List.getElem?_eq_getElem hj]
    show some (bV (xs.getD j 0)) = some (bV xs[j])
    rw [List.getD_eq_getElem?_getD, List.getElem?_eq_getElem hj]
    rfl
  · have h4 : (cs.toList.take xs.length).length = xs.length := by simp [h2]
    rw [List.getElem?_eq_none (by omega), List.getElem?_eq_none (by rw [encs, List.length_map]; omega)]
theorem copyMade (W : World) (g o n c k : Nat) (r : List Int) (hr : RB W g o r) (hn : n = r.length) (hk : k ≤ n) :
    (Builtin.copy_ #[22, 22] 3 #[.slice (some ⟨W.heap.size, 0, none⟩) k k, .slice (some ⟨g, o, none⟩) n c]).run Tryz.prog (W.alloc (.cells (madeCells #[.int .u8 0] k) 5)) =
      .ok (.int .i64 (k : Int)) ((W.alloc (.cells (madeCells #[.int .u8 0] k) 5)).setCells W.heap.size 0 ((r.take k).map bV)) := by
  have hR := World.rowIs_made W (.int .u8 0) k 5
  have hl : ((r.take k).map bV).length = k := by rw [List.length_map, List.length_take]; omega
  have h := run_copy_cells (P := Tryz.prog) (W.alloc (.cells (madeCells #[.int .u8 0] k) 5)) 22 22 3 5 W.heap.size 0 k k ⟨g, o, none⟩ n c ((r.take k).map bV) Tryz.underlying22 (by kernel_rfl) (by rw [hl]; exact (Nat.min_eq_right hk).symm) ?_ ?_ ?_ ?_
  · rw [hl] at h; exact h
  · intro j v hj
    have hjl : j < k := by rw [← hl]; exact (List.getElem?_eq_some_iff.1 hj).1
    have h1 : v = bV (r.getD j 0) := by
      rw [List.getElem?_map, List.getElem?_take, if_pos hjl] at hj
      rw [List.getD_eq_getElem?_getD]
      cases hq : r[j]? with
      | none => rw [hq] at hj; cases hj
      | some y => rw [hq] at hj; simp at hj; rw [← hj]; rfl
    have h2 := hr.cell j (by omega)
    rw [getD_rd] at h2
    have h3 : (⟨g, o, none⟩ : Addr).add j = ⟨g, o + j, none⟩ := by
      unfold Addr.add
      split
      · subst_vars; rfl
      · rfl
    rw [h3, h1]
    exact (World.cell?_alloc_lt W _ _ hr.lt).trans h2
  · intro j hj
    rw [hl] at hj
    rw [Nat.zero_add, hR.cell hj]
    rfl
  · intro j hj
    exact hR.frozen _
  · intro v hv
    obtain ⟨x, _, rfl⟩ := List.mem_map.1 hv
    rfl
theorem copyMade_bl (W : World) (k : Nat) (xs : List Int) (hk : xs.length = k) : BL ((W.alloc (.cells (madeCells #[.int .u8 0] k) 5)).setCells W.heap.size 0 (xs.map bV)) W.heap.size xs := by
  have hR := Go.rowIs_setCells (xs.map bV) 0 _ _ (World.rowIs_made W (.int .u8 0) k 5)
  unfold BL
  rw [hk]
  refine World.rowIs.congr hR (fun i hi => ?_)
  rw [if_pos (by simp; omega)]
  rw [Nat.sub_zero, List.getElem?_map, List.getD_eq_getElem?_getD, List.getElem?_eq_getElem (by omega)]
  rfl
theorem copyMade_below (W : World) (k : Nat) (vs : List Value) : Below W.heap.size W ((W.alloc (.cells (madeCells #[.int .u8 0] k) 5)).setCells W.heap.size 0 vs) :=
  Go.below_setCells (Nat.le_refl _) _ _ _ ((Below.refl _ _).alloc (Nat.le_refl _) _)
end Go.Proofs.YtmliokplekeljaaGreatDoor.M
