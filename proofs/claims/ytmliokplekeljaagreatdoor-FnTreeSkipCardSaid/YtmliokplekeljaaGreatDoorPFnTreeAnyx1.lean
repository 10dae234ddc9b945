-- PRINTED BY print.sh 35421559b90ae4d0a3588c463048766b98c2df88dd9212a6774a882060cdf62d: not written by this session
import Derived.Test.YtmliokplekeljaaGreatDoorPFnTreeAnyx0
namespace Go.Proofs.YtmliokplekeljaaGreatDoor.PFnTreeAny
open Go.RowKit Go.Proofs.YtmliokplekeljaaGreatDoorW.PrintWords Go.Proofs.YtmliokplekeljaaGreatDoorW.PrintLast Go.Proofs.YtmliokplekeljaaGreatDoorW.PrintMore
attribute [local go_sem] max2_int min2_int max_two min_two max_three min_three max_four min_four   -- for this text's walks alone
set_option linter.unusedVariables false
set_option linter.unusedSimpArgs false

/-! ### spec_signed: function 27 -/
def spec_signed.l0 : Nat → Int → Int → Option (Int)
  | 0, _, _ => none
  | k + 1, x0, x5 => if x5 < 8 then (if 0 ≤ (wrap64 (8 * x5)) then (spec_signed.l0 k (Go.bits .or .u64 x0 (shl .u64 255 (wrap64 (8 * x5)))) (wrap64 (x5 + 1))) else (none)) else (some x0)
def spec_signed.f (k : Nat) (a0 : Int) (a1 : Int) : Option (Int) := if 0 ≤ (wrap64 ((wrap64 (8 * a1)) - 1)) then (if (Go.bits .and .u64 (shr .u64 a0 (wrap64 ((wrap64 (8 * a1)) - 1))) 1) = 1 then (spec_signed.l0 k a0 a1) else (some a0)) else (none)
theorem spec_signed.mono_l : ∀ k, (∀ y0 y1, LeO (spec_signed.l0 k y0 y1) (spec_signed.l0 (k + 1) y0 y1))
  | 0 => fun _ _ r h => by simp [spec_signed.l0] at h
  | k + 1 => by
    have ih0 := spec_signed.mono_l k
    · intro y0 y1
      unfold spec_signed.l0
      repeat' first
      | (with_reducible exact ih0 _ _)
      | (with_reducible exact LeO.refl _)
      | (with_reducible exact LeO.none _)
      | (with_reducible refine LeO.ite ?_ ?_)
      | (with_reducible refine LeO.bind ?_ (fun _ => ?_))
      | exact ih0 _ _
      | exact LeO.none _
      | refine LeO.ite ?_ ?_
      | refine LeO.bind ?_ (fun _ => ?_)
theorem spec_signed.mono : ∀ a0 a1 k, LeO (spec_signed.f k a0 a1) (spec_signed.f (k + 1) a0 a1) := by
  intro a0 a1 k
  have ih0 := spec_signed.mono_l k
  unfold spec_signed.f
  repeat' first
      | (with_reducible exact ih0 _ _)
      | (with_reducible exact LeO.refl _)
      | (with_reducible exact LeO.none _)
      | (with_reducible refine LeO.ite ?_ ?_)
      | (with_reducible refine LeO.bind ?_ (fun _ => ?_))
      | exact ih0 _ _
      | exact LeO.none _
      | refine LeO.ite ?_ ?_
      | refine LeO.bind ?_ (fun _ => ?_)
set_option maxHeartbeats 8000000 in
set_option maxRecDepth 100000 in
theorem spec_signed.calls (k : Nat) (a0 : Int) (a1 : Int) (r : Int) (w : World) (h : spec_signed.f k a0 a1 = some r) :
    Calls Tryz.prog 27 #[.int .u64 a0, .int .i64 a1] w fun e w' => e = .returned (.int .u64 r) ∧ Drawn0 w w' := by
  have H : (if 0 ≤ (wrap64 ((wrap64 (8 * a1)) - 1)) then (if (Go.bits .and .u64 (shr .u64 a0 (wrap64 ((wrap64 (8 * a1)) - 1))) 1) = 1 then (spec_signed.l0 k a0 a1) else (some a0)) else (none)) = some r := h
  clear h
  obtain ⟨ji3, hji3⟩ : ∃ j_ : Int, (wrap64 ((wrap64 (8 * a1)) - 1)) = j_ := ⟨_, rfl⟩
  replace H : (if 0 ≤ (ji3) then (if (Go.bits .and .u64 (shr .u64 a0 (ji3)) 1) = 1 then (spec_signed.l0 k a0 a1) else (some a0)) else (none)) = some r := by first | (rw [hji3] at H; exact H) | (simp only [hji3] at H ⊢; exact H)
  have hji3w : (IntKind.i64.wrap ((wrap64 (8 * a1)) - 1)) = ji3 := (i64_w _).trans hji3
  by_cases c4 : 0 ≤ (ji3)
  · rw [if_pos c4] at H
    have c4b0 := eq_true c4
    have c4b1 : decide (0 ≤ (ji3)) = true := decide_eq_true c4
    clear c4
    obtain ⟨ji5, hji5⟩ : ∃ j_ : Int, (shr .u64 a0 (ji3)) = j_ := ⟨_, rfl⟩
    replace H : (if (Go.bits .and .u64 (ji5) 1) = 1 then (spec_signed.l0 k a0 a1) else (some a0)) = some r := by first | (rw [hji5] at H; exact H) | (simp only [hji5] at H ⊢; exact H)
    have hji5_ : (a0 / 2 ^ min (ji3).toNat 64) = ji5 := hji5
    have hji5z : (ji3) ≤ 64 → (a0 / 2 ^ (ji3).toNat) = ji5 := shr_small hji5
    by_cases c6 : (Go.bits .and .u64 (ji5) 1) = 1
    · rw [if_pos c6] at H
      have c6b0 : ((Go.bits .and .u64 (ji5) 1) == 1) = true := beq_iff_eq.mpr c6
      have c6b1 : ((Go.bits .and .u64 (ji5) 1) != 1) = false := bne_eq_false_iff_eq.mpr c6
      clear c6
      have H' := Aside0.mk H
      clear H
      go_enter Tryz.func27, Tryz.ntmps27
      go_wp2
      go_loopg [0, 5] k (fun kq v0 v5 w' => ∃ (x0_1 : Int) (x5_1 : Int), v0 = .int .u64 x0_1 ∧ v5 = .int .i64 x5_1 ∧ Aside0 (spec_signed.l0 kq x0_1 x5_1 = some r) ∧ Aside0 (kq ≤ k) ∧ Drawn0 w w')
      case atStart => exact ⟨(a0), (a1), (by first | rfl | (simp; done) | (simp [*]; done)), (by first | rfl | (simp; done) | (simp [*]; done)), H', ⟨Nat.le_refl _⟩, by repeat (first | exact Drawn0.refl _ | apply Drawn0.step)⟩
      case round =>
        clear H'
        try clear c2
        try clear p2
        try clear c4
        try clear c4b0
        try clear c4b1
        try clear c6
        try clear c6b0
        try clear c6b1
        try clear p6
        obtain ⟨x0_1, x5_1, rfl, rfl, HA, HK1, ⟨m1, rfl⟩⟩ := hrel
        cases gk with
        | zero => exact absurd HA.out (by simp [spec_signed.l0])
        | succ k1 =>
          have H := HA.out
          clear HA
          simp only [spec_signed.l0] at H
          by_cases c7 : x5_1 < 8
          · rw [if_pos c7] at H
            have c7b0 : decide (x5_1 < 8) = true := decide_eq_true c7
            clear c7
            obtain ⟨ji8, hji8⟩ : ∃ j_ : Int, (wrap64 (8 * x5_1)) = j_ := ⟨_, rfl⟩
            replace H : (if 0 ≤ (ji8) then (spec_signed.l0 k1 (Go.bits .or .u64 x0_1 (shl .u64 255 (ji8))) (wrap64 (x5_1 + 1))) else (none)) = some r := by first | (rw [hji8] at H; exact H) | (simp only [hji8] at H ⊢; exact H)
            have hji8w : (IntKind.i64.wrap (8 * x5_1)) = ji8 := (i64_w _).trans hji8
            by_cases c9 : 0 ≤ (ji8)
            · rw [if_pos c9] at H
              have c9b0 := eq_true c9
              have c9b1 : decide (0 ≤ (ji8)) = true := decide_eq_true c9
              clear c9
              obtain ⟨ji10, hji10⟩ : ∃ j_ : Int, (shl .u64 255 (ji8)) = j_ := ⟨_, rfl⟩
              replace H : (spec_signed.l0 k1 (Go.bits .or .u64 x0_1 (ji10)) (wrap64 (x5_1 + 1))) = some r := by first | (rw [hji10] at H; exact H) | (simp only [hji10] at H ⊢; exact H)
              have hji10_ : (IntKind.u64.wrap (255 * 2 ^ min (ji8).toNat 64)) = ji10 := hji10
              have hji10z : (ji8) ≤ 64 → (IntKind.u64.wrap (255 * 2 ^ (ji8).toNat)) = ji10 := shl_small hji10
              have H' := Aside0.mk H
              clear H
              go_wp2
              go_roundg k1
              case measure => have := HK1.out; omega
              case rel => exact ⟨(Go.bits .or .u64 x0_1 (ji10)), (wrap64 (x5_1 + 1)), (by first | rfl | (simp; done) | (simp only [← hji10] <;> (first | rfl | simp)) | (simp [*]; done)), (by first | rfl | (simp; done) | (simp [*]; done)), H', ⟨by have := HK1.out; omega⟩, by repeat (first | exact Drawn0.refl _ | apply Drawn0.step)⟩
            · rw [if_neg c9] at H
              exact absurd H (by simp)
          · rw [if_neg c7] at H
            have c7b0 : decide (x5_1 < 8) = false := decide_eq_false c7
            clear c7
            obtain rfl := Option.some.inj H
            go_wp2
            go_ret
            exact ⟨by first | rfl | (simp; done) | (simp only [← hji3, ← hji5] <;> (first | rfl | simp)) | (simp [*]; done), by repeat (first | exact Drawn0.refl _ | apply Drawn0.step)⟩
    · rw [if_neg c6] at H
      have c6b0 : ((Go.bits .and .u64 (ji5) 1) == 1) = false := beq_eq_false_iff_ne.mpr c6
      have c6b1 : ((Go.bits .and .u64 (ji5) 1) != 1) = true := bne_iff_ne.mpr c6
      obtain rfl := Option.some.inj H
      go_enter Tryz.func27, Tryz.ntmps27
      go_wp2
      go_ret
      exact ⟨by first | rfl | (simp; done) | (simp only [← hji3, ← hji5] <;> (first | rfl | simp)) | (simp [*]; done), by repeat (first | exact Drawn0.refl _ | apply Drawn0.step)⟩
  · rw [if_neg c4] at H
    exact absurd H (by simp)

/-! ### spec_number: function 28 -/
def spec_number.l0 : Nat → Int → List Int → Int → Int → Option (Int)
  | 0, _, _, _, _ => none
  | k + 1, x3, x6, x7, x8 => if x8 < x7 then (if 0 ≤ x8 then (if x8 < (x6.length : Int) then (spec_number.l0 k (Go.bits .or .u64 (IntKind.u64.wrap (x3 * 256)) (IntKind.u64.wrap (rd x6 x8))) x6 x7 (wrap64 (x8 + 1))) else (none)) else (none)) else (some x3)
def spec_number.f (k : Nat) (l0 : List Int) : Option (Int) := spec_number.l0 k 0 l0 (l0.length : Int) 0
theorem spec_number.mono_l : ∀ k, (∀ y0 y1 y2 y3, LeO (spec_number.l0 k y0 y1 y2 y3) (spec_number.l0 (k + 1) y0 y1 y2 y3))
  | 0 => fun _ _ _ _ r h => by simp [spec_number.l0] at h
  | k + 1 => by
    have ih0 := spec_number.mono_l k
    · intro y0 y1 y2 y3
      unfold spec_number.l0
      repeat' first
      | (with_reducible exact ih0 _ _ _ _)
      | (with_reducible exact LeO.refl _)
      | (with_reducible exact LeO.none _)
      | (with_reducible refine LeO.ite ?_ ?_)
      | (with_reducible refine LeO.bind ?_ (fun _ => ?_))
      | exact ih0 _ _ _ _
      | exact LeO.none _
      | refine LeO.ite ?_ ?_
      | refine LeO.bind ?_ (fun _ => ?_)
theorem spec_number.mono : ∀ a0 k, LeO (spec_number.f k a0) (spec_number.f (k + 1) a0) := by
  intro a0 k
  have ih0 := spec_number.mono_l k
  unfold spec_number.f
  repeat' first
      | (with_reducible exact ih0 _ _ _ _)
      | (with_reducible exact LeO.refl _)
      | (with_reducible exact LeO.none _)
      | (with_reducible refine LeO.ite ?_ ?_)
      | (with_reducible refine LeO.bind ?_ (fun _ => ?_))
      | exact ih0 _ _ _ _
      | exact LeO.none _
      | refine LeO.ite ?_ ?_
      | refine LeO.bind ?_ (fun _ => ?_)
set_option maxHeartbeats 8000000 in
set_option maxRecDepth 100000 in
theorem spec_number.calls (k : Nat) (A0 : Option Addr) (c0 : Nat) (l0 : List Int) (r : Int) (w : World) (hr0 : Kd.C (Kd.int .u8) w A0 l0.length l0) (hc0 : l0.length ≤ c0) (h : spec_number.f k l0 = some r) :
    Calls Tryz.prog 28 #[.slice A0 l0.length c0] w fun e w' => e = .returned (.int .u64 r) ∧ Drawn0 w w' := by
  have HR0 := Aside0.mk hr0
  have HC0 := Aside0.mk hc0
  clear hr0 hc0
  have H : (spec_number.l0 k 0 l0 (l0.length : Int) 0) = some r := h
  clear h
  have H' := Aside0.mk H
  clear H
  go_enter Tryz.func28, Tryz.ntmps28
  go_wp2
  go_loopg [3, 8] k (fun kq v3 v8 w' => ∃ (x3_1 : Int) (x8_1 : Int), v3 = .int .u64 x3_1 ∧ v8 = .int .i64 x8_1 ∧ Aside0 (spec_number.l0 kq x3_1 l0 (l0.length : Int) x8_1 = some r) ∧ Aside0 (kq ≤ k) ∧ Drawn0 w w')
  case atStart => exact ⟨(0), (0), (by first | rfl | (simp; done) | (simp [*]; done)), (by first | rfl | (simp; done) | (simp [*]; done)), H', ⟨Nat.le_refl _⟩, by repeat (first | exact Drawn0.refl _ | apply Drawn0.step)⟩
  case round =>
    clear H'
    obtain ⟨x3_1, x8_1, rfl, rfl, HA, HK1, ⟨m1, rfl⟩⟩ := hrel
    cases gk with
    | zero => exact absurd HA.out (by simp [spec_number.l0])
    | succ k1 =>
      have H := HA.out
      clear HA
      simp only [spec_number.l0] at H
      by_cases c2 : x8_1 < (l0.length : Int)
      · rw [if_pos c2] at H
        have c2b0 : decide (x8_1 < (l0.length : Int)) = true := decide_eq_true c2
        clear c2
        by_cases c3 : 0 ≤ x8_1
        · rw [if_pos c3] at H
          have c3b0 : decide (0 ≤ x8_1) = true := decide_eq_true c3
          clear c3
          by_cases c4 : x8_1 < (l0.length : Int)
          · rw [if_pos c4] at H
            have c4b0 : decide (x8_1 < (l0.length : Int)) = true := decide_eq_true c4
            clear c4
            have H' := Aside0.mk H
            clear H
            have p101 : 0 ≤ (x8_1 : Int) := of_decide_eq_true (by first | (with_reducible assumption) | assumption)
            have q101 : x8_1 < (l0.length : Int) := of_decide_eq_true (by first | (with_reducible assumption) | assumption)
            obtain ⟨ad101, e101, hx101_0⟩ := Kd.at_int HR0.out x8_1 p101 q101
            cases e101
            replace p101 := eq_true p101
            replace q101 := eq_true q101
            go_wp2
            go_roundg k1
            case measure => have := HK1.out; omega
            case rel => exact ⟨(Go.bits .or .u64 (IntKind.u64.wrap (x3_1 * 256)) (IntKind.u64.wrap (rd l0 x8_1))), (wrap64 (x8_1 + 1)), (by first | rfl | (simp; done) | (simp [*]; done)), (by first | rfl | (simp; done) | (simp [*]; done)), H', ⟨by have := HK1.out; omega⟩, by repeat (first | exact Drawn0.refl _ | apply Drawn0.step)⟩
          · rw [if_neg c4] at H
            exact absurd H (by simp)
        · rw [if_neg c3] at H
          exact absurd H (by simp)
      · rw [if_neg c2] at H
        have c2b0 : decide (x8_1 < (l0.length : Int)) = false := decide_eq_false c2
        clear c2
        obtain rfl := Option.some.inj H
        go_wp2
        go_ret
        exact ⟨by first | rfl | (simp; done) | (simp [*]; done), by repeat (first | exact Drawn0.refl _ | apply Drawn0.step)⟩

end Go.Proofs.YtmliokplekeljaaGreatDoor.PFnTreeAny
