/- What the texts tell: heads, and objects with all in them, in plain Lean. -/
import Derived.Test.YtmliokplekeljaaGreatDoorN07
import Derived.Test.YtmliokplekeljaaGreatDoorN05
namespace Go.Proofs.YtmliokplekeljaaGreatDoor.M
set_option linter.unusedVariables false
set_option linter.unusedSimpArgs false

/-- What a head says of the object behind it. -/
inductive Hd where
  | bad
  | ext
  | atom (canon rest : List Int) (said : Bool)
  | blob (hdr rest : List Int) (len : Nat)
  | comp (hdr rest : List Int) (many : Nat)

def need1 (r : List Int) (f : Int → List Int → Hd) : Hd := match r with
  | x0 :: r => f x0 r
  | _ => .bad
def need2 (r : List Int) (f : Int → List Int → Hd) : Hd := match r with
  | x0 :: x1 :: r => f (x0 * 256 + x1) r
  | _ => .bad
def need4 (r : List Int) (f : Int → List Int → Hd) : Hd := match r with
  | x0 :: x1 :: x2 :: x3 :: r => f (x0 * 16777216 + x1 * 65536 + x2 * 256 + x3) r
  | _ => .bad
def need8 (r : List Int) (f : Int → List Int → Hd) : Hd := match r with
  | x0 :: x1 :: x2 :: x3 :: x4 :: x5 :: x6 :: x7 :: r => f (x0 * 72057594037927936 + x1 * 281474976710656 + x2 * 1099511627776 + x3 * 4294967296 + x4 * 16777216 + x5 * 65536 + x6 * 256 + x7) r
  | _ => .bad

def said32 (n : Int) : Bool := Go.bits .and .u64 n 2139095040 != 2139095040
def said64 (n : Int) : Bool := Go.bits .and .u64 n 9218868437227405312 != 9218868437227405312

def hdOf : List Int → Hd
  | [] => .bad
  | v :: r =>
    if v < 128 then .atom (intT v) r true
    else if v < 144 then .comp (mapH (v - 128)) r (2 * (v - 128).toNat)
    else if v < 160 then .comp (arrH (v - 144)) r (v - 144).toNat
    else if v < 192 then .blob (textH (v - 160)) r (v - 160).toNat
    else if 224 ≤ v then .atom (intT (v - 256)) r true
    else if v = 192 then .atom [v] r true
    else if v = 193 then .bad
    else if v = 194 then .atom [v] r true
    else if v = 195 then .atom [v] r true
    else if v = 196 then need1 r fun n r => .blob (binH n) r n.toNat
    else if v = 197 then need2 r fun n r => .blob (binH n) r n.toNat
    else if v = 198 then need4 r fun n r => .blob (binH n) r n.toNat
    else if v = 199 then (if r.length < 2 then .bad else .ext)
    else if v = 200 then (if r.length < 3 then .bad else .ext)
    else if v = 201 then (if r.length < 5 then .bad else .ext)
    else if v = 202 then need4 r fun n r' => .atom (202 :: r.take 4) r' (said32 n)
    else if v = 203 then need8 r fun n r' => .atom (203 :: r.take 8) r' (said64 n)
    else if v = 204 then need1 r fun n r => .atom (uintT n) r true
    else if v = 205 then need2 r fun n r => .atom (uintT n) r true
    else if v = 206 then need4 r fun n r => .atom (uintT n) r true
    else if v = 207 then need8 r fun n r => .atom (uintT n) r true
    else if v = 208 then need1 r fun n r => .atom (intT (sx8 n)) r true
    else if v = 209 then need2 r fun n r => .atom (intT (sx16 n)) r true
    else if v = 210 then need4 r fun n r => .atom (intT (sx32 n)) r true
    else if v = 211 then need8 r fun n r => .atom (intT (sx64 n)) r true
    else if v < 217 then (if r.length < 1 then .bad else .ext)
    else if v = 217 then need1 r fun n r => .blob (textH n) r n.toNat
    else if v = 218 then need2 r fun n r => .blob (textH n) r n.toNat
    else if v = 219 then need4 r fun n r => .blob (textH n) r n.toNat
    else if v = 220 then need2 r fun n r => .comp (arrH n) r n.toNat
    else if v = 221 then need4 r fun n r => .comp (arrH n) r n.toNat
    else if v = 222 then need2 r fun n r => .comp (mapH n) r (2 * n.toNat)
    else need4 r fun n r => .comp (mapH n) r (2 * n.toNat)

/-- What is told of the first object with all in it. -/
inductive Res where
  | bad
  | unsaid
  | ok (out rest : List Int)

def ploop (f : List Int → Res) : Nat → List Int → List Int → Res
  | 0, out, r => .ok out r
  | m + 1, out, r => match f r with
    | .ok x r' => ploop f m (out ++ x) r'
    | e => e

def parse : Nat → List Int → Res
  | 0, l => match hdOf l with
    | .bad => .bad
    | _ => .unsaid
  | d + 1, l => match hdOf l with
    | .bad => .bad
    | .ext => .unsaid
    | .atom c r said => if said then .ok c r else .unsaid
    | .blob h r n => if r.length < n then .bad else .ok (h ++ r.take n) (r.drop n)
    | .comp h r m => ploop (parse d) m h r

abbrev isBs (l : List Int) : Prop := ∀ x, x ∈ l → isB x

theorem isBs.tail {x : Int} {l : List Int} (h : isBs (x :: l)) : isBs l := fun y hy => h y (List.mem_cons_of_mem _ hy)
theorem isBs.head {x : Int} {l : List Int} (h : isBs (x :: l)) : isB x := h x List.mem_cons_self

/-- The first bytes: each of these or another form. -/
theorem form1 (P : List Int → Prop) (r : List Int) (hs : r.length < 1 → P r) (hw : ∀ x0 r', r = x0 :: r' → P (x0 :: r')) : P r := by
  rcases r with _ | ⟨x0, r⟩
  · exact hs (by simp)
  · exact hw _ _ rfl
theorem form2 (P : List Int → Prop) (r : List Int) (hs : r.length < 2 → P r) (hw : ∀ x0 x1 r', r = x0 :: x1 :: r' → P (x0 :: x1 :: r')) : P r := by
  rcases r with _ | ⟨x0, _ | ⟨x1, r⟩⟩
  · exact hs (by simp)
  · exact hs (by simp)
  · exact hw _ _ _ rfl
theorem form4 (P : List Int → Prop) (r : List Int) (hs : r.length < 4 → P r) (hw : ∀ x0 x1 x2 x3 r', r = x0 :: x1 :: x2 :: x3 :: r' → P (x0 :: x1 :: x2 :: x3 :: r')) : P r := by
  rcases r with _ | ⟨x0, _ | ⟨x1, _ | ⟨x2, _ | ⟨x3, r⟩⟩⟩⟩
  iterate 4 exact hs (by simp)
  exact hw _ _ _ _ _ rfl
theorem form8 (P : List Int → Prop) (r : List Int) (hs : r.length < 8 → P r) (hw : ∀ x0 x1 x2 x3 x4 x5 x6 x7 r', r = x0 :: x1 :: x2 :: x3 :: x4 :: x5 :: x6 :: x7 :: r' → P (x0 :: x1 :: x2 :: x3 :: x4 :: x5 :: x6 :: x7 :: r')) : P r := by
  rcases r with _ | ⟨x0, _ | ⟨x1, _ | ⟨x2, _ | ⟨x3, _ | ⟨x4, _ | ⟨x5, _ | ⟨x6, _ | ⟨x7, r⟩⟩⟩⟩⟩⟩⟩⟩
  iterate 8 exact hs (by simp)
  exact hw _ _ _ _ _ _ _ _ _ rfl
theorem need1_s {r : List Int} {f : Int → List Int → Hd} (h : r.length < 1) : need1 r f = .bad := by
  rcases r with _ | ⟨x0, r⟩
  · rfl
  · simp at h
theorem need2_s {r : List Int} {f : Int → List Int → Hd} (h : r.length < 2) : need2 r f = .bad := by
  rcases r with _ | ⟨x0, _ | ⟨x1, r⟩⟩
  · rfl
  · rfl
  · simp at h; omega
theorem need4_s {r : List Int} {f : Int → List Int → Hd} (h : r.length < 4) : need4 r f = .bad := by
  rcases r with _ | ⟨x0, _ | ⟨x1, _ | ⟨x2, _ | ⟨x3, r⟩⟩⟩⟩
  iterate 4 rfl
  simp at h; omega
theorem need8_s {r : List Int} {f : Int → List Int → Hd} (h : r.length < 8) : need8 r f = .bad := by
  rcases r with _ | ⟨x0, _ | ⟨x1, _ | ⟨x2, _ | ⟨x3, _ | ⟨x4, _ | ⟨x5, _ | ⟨x6, _ | ⟨x7, r⟩⟩⟩⟩⟩⟩⟩⟩
  iterate 8 rfl
  simp at h; omega

theorem hdOf_small {v : Int} {r : List Int} (h1 : v < 128) : hdOf (v :: r) = .atom (intT v) r true := by simp only [hdOf, if_pos h1]
theorem hdOf_fixmap {v : Int} {r : List Int} (h0 : 128 ≤ v) (h1 : v < 144) : hdOf (v :: r) = .comp (mapH (v - 128)) r (2 * (v - 128).toNat) := by simp only [hdOf, if_neg (Int.not_lt.2 h0), if_pos h1]
theorem hdOf_fixarr {v : Int} {r : List Int} (h0 : 144 ≤ v) (h1 : v < 160) : hdOf (v :: r) = .comp (arrH (v - 144)) r (v - 144).toNat := by
  rw [hdOf, if_neg (by omega), if_neg (by omega), if_pos h1]
theorem hdOf_fixstr {v : Int} {r : List Int} (h0 : 160 ≤ v) (h1 : v < 192) : hdOf (v :: r) = .blob (textH (v - 160)) r (v - 160).toNat := by
  rw [hdOf, if_neg (by omega), if_neg (by omega), if_neg (by omega), if_pos h1]
theorem hdOf_nfix {v : Int} {r : List Int} (h0 : 224 ≤ v) : hdOf (v :: r) = .atom (intT (v - 256)) r true := by
  rw [hdOf, if_neg (by omega), if_neg (by omega), if_neg (by omega), if_neg (by omega), if_pos h0]
end Go.Proofs.YtmliokplekeljaaGreatDoor.M

namespace Go.Proofs.YtmliokplekeljaaGreatDoor.M
set_option linter.unusedVariables false
set_option linter.unusedSimpArgs false

theorem isBs_mod1 (n : Int) (a : Int) (ha : isB a) : isBs [a, n % 256] := by
  intro x hx; simp only [List.mem_cons, List.not_mem_nil, or_false] at hx; rcases hx with rfl | rfl
  · exact ha
  · exact ⟨by omega, by omega⟩
theorem isBs_cons {x : Int} {l : List Int} (h : isB x) (hl : isBs l) : isBs (x :: l) := by
  intro y hy; rcases List.mem_cons.1 hy with rfl | hy
  · exact h
  · exact hl _ hy
theorem isBs_nil : isBs [] := by intro x hx; cases hx
theorem isB_mod (n : Int) : isB (n % 256) := ⟨by omega, by omega⟩
theorem isBs_app {a b : List Int} (ha : isBs a) (hb : isBs b) : isBs (a ++ b) := by
  intro x hx; rcases List.mem_append.1 hx with h | h
  · exact ha _ h
  · exact hb _ h

theorem intT_b (n : Int) : isBs (intT n) := by
  unfold intT
  repeat' split
  all_goals (repeat (first | with_reducible exact isBs_nil | with_reducible refine isBs_cons (isB_mod _) ?_ | with_reducible refine isBs_cons ⟨by omega, by omega⟩ ?_))
theorem uintT_b (n : Int) : isBs (uintT n) := by
  unfold uintT
  repeat' split
  all_goals (repeat (first | with_reducible exact isBs_nil | with_reducible refine isBs_cons (isB_mod _) ?_ | with_reducible refine isBs_cons ⟨by omega, by omega⟩ ?_))
theorem textH_b (n : Int) (h0 : 0 ≤ n) : isBs (textH n) := by
  unfold textH
  repeat' split
  all_goals (repeat (first | with_reducible exact isBs_nil | with_reducible refine isBs_cons (isB_mod _) ?_ | with_reducible refine isBs_cons ⟨by omega, by omega⟩ ?_))
theorem binH_b (n : Int) : isBs (binH n) := by
  unfold binH
  repeat' split
  all_goals (repeat (first | with_reducible exact isBs_nil | with_reducible refine isBs_cons (isB_mod _) ?_ | with_reducible refine isBs_cons ⟨by omega, by omega⟩ ?_))
theorem arrH_b (n : Int) (h0 : 0 ≤ n) : isBs (arrH n) := by
  unfold arrH
  repeat' split
  all_goals (repeat (first | with_reducible exact isBs_nil | with_reducible refine isBs_cons (isB_mod _) ?_ | with_reducible refine isBs_cons ⟨by omega, by omega⟩ ?_))
theorem mapH_b (n : Int) (h0 : 0 ≤ n) : isBs (mapH n) := by
  unfold mapH
  repeat' split
  all_goals (repeat (first | with_reducible exact isBs_nil | with_reducible refine isBs_cons (isB_mod _) ?_ | with_reducible refine isBs_cons ⟨by omega, by omega⟩ ?_))

theorem at208 (a : Int) (t : List Int) : hdOf (208 :: a :: t) = .atom (intT (sx8 a)) t true := by simp [hdOf, need1]
theorem at209 (a b : Int) (t : List Int) : hdOf (209 :: a :: b :: t) = .atom (intT (sx16 (a * 256 + b))) t true := by simp [hdOf, need2]
theorem at210 (a b c d : Int) (t : List Int) : hdOf (210 :: a :: b :: c :: d :: t) = .atom (intT (sx32 (a * 16777216 + b * 65536 + c * 256 + d))) t true := by simp [hdOf, need4]
theorem at211 (a b c d e f g h : Int) (t : List Int) : hdOf (211 :: a :: b :: c :: d :: e :: f :: g :: h :: t) = .atom (intT (sx64 (a * 72057594037927936 + b * 281474976710656 + c * 1099511627776 + d * 4294967296 + e * 16777216 + f * 65536 + g * 256 + h))) t true := by simp [hdOf, need8]
theorem at204 (a : Int) (t : List Int) : hdOf (204 :: a :: t) = .atom (uintT a) t true := by simp [hdOf, need1]
theorem at205 (a b : Int) (t : List Int) : hdOf (205 :: a :: b :: t) = .atom (uintT (a * 256 + b)) t true := by simp [hdOf, need2]
theorem at206 (a b c d : Int) (t : List Int) : hdOf (206 :: a :: b :: c :: d :: t) = .atom (uintT (a * 16777216 + b * 65536 + c * 256 + d)) t true := by simp [hdOf, need4]
theorem at207 (a b c d e f g h : Int) (t : List Int) : hdOf (207 :: a :: b :: c :: d :: e :: f :: g :: h :: t) = .atom (uintT (a * 72057594037927936 + b * 281474976710656 + c * 1099511627776 + d * 4294967296 + e * 16777216 + f * 65536 + g * 256 + h)) t true := by simp [hdOf, need8]
theorem at217 (a : Int) (t : List Int) : hdOf (217 :: a :: t) = .blob (textH a) t a.toNat := by simp [hdOf, need1]
theorem at218 (a b : Int) (t : List Int) : hdOf (218 :: a :: b :: t) = .blob (textH (a * 256 + b)) t (a * 256 + b).toNat := by simp [hdOf, need2]
theorem at219 (a b c d : Int) (t : List Int) : hdOf (219 :: a :: b :: c :: d :: t) = .blob (textH (a * 16777216 + b * 65536 + c * 256 + d)) t (a * 16777216 + b * 65536 + c * 256 + d).toNat := by simp [hdOf, need4]
theorem at196 (a : Int) (t : List Int) : hdOf (196 :: a :: t) = .blob (binH a) t a.toNat := by simp [hdOf, need1]
theorem at197 (a b : Int) (t : List Int) : hdOf (197 :: a :: b :: t) = .blob (binH (a * 256 + b)) t (a * 256 + b).toNat := by simp [hdOf, need2]
theorem at198 (a b c d : Int) (t : List Int) : hdOf (198 :: a :: b :: c :: d :: t) = .blob (binH (a * 16777216 + b * 65536 + c * 256 + d)) t (a * 16777216 + b * 65536 + c * 256 + d).toNat := by simp [hdOf, need4]
theorem at220 (a b : Int) (t : List Int) : hdOf (220 :: a :: b :: t) = .comp (arrH (a * 256 + b)) t (a * 256 + b).toNat := by simp [hdOf, need2]
theorem at221 (a b c d : Int) (t : List Int) : hdOf (221 :: a :: b :: c :: d :: t) = .comp (arrH (a * 16777216 + b * 65536 + c * 256 + d)) t (a * 16777216 + b * 65536 + c * 256 + d).toNat := by simp [hdOf, need4]
theorem at222 (a b : Int) (t : List Int) : hdOf (222 :: a :: b :: t) = .comp (mapH (a * 256 + b)) t (2 * (a * 256 + b).toNat) := by simp [hdOf, need2]
theorem at223 (a b c d : Int) (t : List Int) : hdOf (223 :: a :: b :: c :: d :: t) = .comp (mapH (a * 16777216 + b * 65536 + c * 256 + d)) t (2 * (a * 16777216 + b * 65536 + c * 256 + d).toNat) := by simp [hdOf, need4]
theorem at202 (a b c d : Int) (t : List Int) : hdOf (202 :: a :: b :: c :: d :: t) = .atom [202, a, b, c, d] t (said32 (a * 16777216 + b * 65536 + c * 256 + d)) := by simp [hdOf, need4]
theorem at203 (a b c d e f g h : Int) (t : List Int) : hdOf (203 :: a :: b :: c :: d :: e :: f :: g :: h :: t) = .atom [203, a, b, c, d, e, f, g, h] t (said64 (a * 72057594037927936 + b * 281474976710656 + c * 1099511627776 + d * 4294967296 + e * 16777216 + f * 65536 + g * 256 + h)) := by simp [hdOf, need8]
theorem at192 (t : List Int) : hdOf (192 :: t) = .atom [192] t true := by simp [hdOf]
theorem at194 (t : List Int) : hdOf (194 :: t) = .atom [194] t true := by simp [hdOf]
theorem at195 (t : List Int) : hdOf (195 :: t) = .atom [195] t true := by simp [hdOf]
theorem at193 (t : List Int) : hdOf (193 :: t) = .bad := by simp [hdOf]

theorem intT_self (z : Int) (h0 : -9223372036854775808 ≤ z) (h1 : z ≤ 9223372036854775807) (t : List Int) : hdOf (intT z ++ t) = .atom (intT z) t true := by
  by_cases c1 : -32 ≤ z ∧ z ≤ 127
  · have e : intT z = [z % 256] := by simp only [intT, if_pos c1]
    rw [e, List.singleton_append]
    by_cases hz : 0 ≤ z
    · rw [hdOf_small (by omega), show intT (z % 256) = [z % 256] by rw [show z % 256 = z by omega]; rw [e]; congr 1; omega]
    · rw [hdOf_nfix (by omega), show z % 256 - 256 = z by omega, e]
  by_cases c2 : -128 ≤ z ∧ z ≤ 127
  · have e : intT z = [208, z % 256] := by simp only [intT, if_neg c1, if_pos c2]
    rw [e]; simp only [List.cons_append, List.nil_append]
    rw [at208, show sx8 (z % 256) = z by unfold sx8; split <;> omega, e]
  by_cases c3 : -32768 ≤ z ∧ z ≤ 32767
  · have e : intT z = [209, z / 256 % 256, z % 256] := by simp only [intT, if_neg c1, if_neg c2, if_pos c3]
    rw [e]; simp only [List.cons_append, List.nil_append]
    rw [at209, show sx16 (z / 256 % 256 * 256 + z % 256) = z by unfold sx16; split <;> omega, e]
  by_cases c4 : -2147483648 ≤ z ∧ z < 2147483648
  · have e : intT z = [210, z / 16777216 % 256, z / 65536 % 256, z / 256 % 256, z % 256] := by simp only [intT, if_neg c1, if_neg c2, if_neg c3, if_pos c4]
    rw [e]; simp only [List.cons_append, List.nil_append]
    rw [at210, show sx32 (z / 16777216 % 256 * 16777216 + z / 65536 % 256 * 65536 + z / 256 % 256 * 256 + z % 256) = z by unfold sx32; split <;> omega, e]
  · have e : intT z = [211, z / 72057594037927936 % 256, z / 281474976710656 % 256, z / 1099511627776 % 256, z / 4294967296 % 256, z / 16777216 % 256, z / 65536 % 256, z / 256 % 256, z % 256] := by simp only [intT, if_neg c1, if_neg c2, if_neg c3, if_neg c4]
    rw [e]; simp only [List.cons_append, List.nil_append]
    rw [at211, show sx64 (z / 72057594037927936 % 256 * 72057594037927936 + z / 281474976710656 % 256 * 281474976710656 + z / 1099511627776 % 256 * 1099511627776 + z / 4294967296 % 256 * 4294967296 + z / 16777216 % 256 * 16777216 + z / 65536 % 256 * 65536 + z / 256 % 256 * 256 + z % 256) = z by unfold sx64; split <;> omega, e]
theorem uintT_self (z : Int) (h0 : 0 ≤ z) (h1 : z < 18446744073709551616) (t : List Int) : hdOf (uintT z ++ t) = .atom (uintT z) t true := by
  by_cases c1 : z ≤ 127
  · have e : uintT z = [z % 256] := by simp only [uintT, if_pos c1]
    rw [e, List.singleton_append]
    rw [hdOf_small (by omega), show intT (z % 256) = [z % 256] by rw [show z % 256 = z by omega]; simp only [intT]; rw [if_pos (by omega)]; congr 1; omega]
  by_cases c2 : z ≤ 255
  · have e : uintT z = [204, z % 256] := by simp only [uintT, if_neg c1, if_pos c2]
    rw [e]; simp only [List.cons_append, List.nil_append]
    rw [at204, show z % 256 = z by omega, e, show z % 256 = z by omega]
  by_cases c3 : z ≤ 65535
  · have e : uintT z = [205, z / 256 % 256, z % 256] := by simp only [uintT, if_neg c1, if_neg c2, if_pos c3]
    rw [e]; simp only [List.cons_append, List.nil_append]
    rw [at205, show (z / 256 % 256 * 256 + z % 256) = z by omega, e]
  by_cases c4 : z < 4294967296
  · have e : uintT z = [206, z / 16777216 % 256, z / 65536 % 256, z / 256 % 256, z % 256] := by simp only [uintT, if_neg c1, if_neg c2, if_neg c3, if_pos c4]
    rw [e]; simp only [List.cons_append, List.nil_append]
    rw [at206, show (z / 16777216 % 256 * 16777216 + z / 65536 % 256 * 65536 + z / 256 % 256 * 256 + z % 256) = z by omega, e]
  · have e : uintT z = [207, z / 72057594037927936 % 256, z / 281474976710656 % 256, z / 1099511627776 % 256, z / 4294967296 % 256, z / 16777216 % 256, z / 65536 % 256, z / 256 % 256, z % 256] := by simp only [uintT, if_neg c1, if_neg c2, if_neg c3, if_neg c4]
    rw [e]; simp only [List.cons_append, List.nil_append]
    rw [at207, show (z / 72057594037927936 % 256 * 72057594037927936 + z / 281474976710656 % 256 * 281474976710656 + z / 1099511627776 % 256 * 1099511627776 + z / 4294967296 % 256 * 4294967296 + z / 16777216 % 256 * 16777216 + z / 65536 % 256 * 65536 + z / 256 % 256 * 256 + z % 256) = z by omega, e]
theorem textH_self (z : Int) (h0 : 0 ≤ z) (h1 : z < 4294967296) (t : List Int) : hdOf (textH z ++ t) = .blob (textH z) t z.toNat := by
  by_cases c1 : z ≤ 31
  · have e : textH z = [160 + z] := by simp only [textH, if_pos c1]
    rw [e, List.singleton_append, hdOf_fixstr (by omega) (by omega), show 160 + z - 160 = z by omega, e]
  by_cases c2 : z ≤ 255
  · have e : textH z = [217, z % 256] := by simp only [textH, if_neg c1, if_pos c2]
    rw [e]; simp only [List.cons_append, List.nil_append]
    rw [at217, show z % 256 = z by omega, e, show z % 256 = z by omega]
  by_cases c3 : z ≤ 65535
  · have e : textH z = [218, z / 256 % 256, z % 256] := by simp only [textH, if_neg c1, if_neg c2, if_pos c3]
    rw [e]; simp only [List.cons_append, List.nil_append]
    rw [at218, show (z / 256 % 256 * 256 + z % 256) = z by omega, e]
  · have e : textH z = [219, z / 16777216 % 256, z / 65536 % 256, z / 256 % 256, z % 256] := by simp only [textH, if_neg c1, if_neg c2, if_neg c3]
    rw [e]; simp only [List.cons_append, List.nil_append]
    rw [at219, show (z / 16777216 % 256 * 16777216 + z / 65536 % 256 * 65536 + z / 256 % 256 * 256 + z % 256) = z by omega, e]
theorem binH_self (z : Int) (h0 : 0 ≤ z) (h1 : z < 4294967296) (t : List Int) : hdOf (binH z ++ t) = .blob (binH z) t z.toNat := by
  by_cases c2 : z ≤ 255
  · have e : binH z = [196, z % 256] := by simp only [binH, if_pos c2]
    rw [e]; simp only [List.cons_append, List.nil_append]
    rw [at196, show z % 256 = z by omega, e, show z % 256 = z by omega]
  by_cases c3 : z ≤ 65535
  · have e : binH z = [197, z / 256 % 256, z % 256] := by simp only [binH, if_neg c2, if_pos c3]
    rw [e]; simp only [List.cons_append, List.nil_append]
    rw [at197, show (z / 256 % 256 * 256 + z % 256) = z by omega, e]
  · have e : binH z = [198, z / 16777216 % 256, z / 65536 % 256, z / 256 % 256, z % 256] := by simp only [binH, if_neg c2, if_neg c3]
    rw [e]; simp only [List.cons_append, List.nil_append]
    rw [at198, show (z / 16777216 % 256 * 16777216 + z / 65536 % 256 * 65536 + z / 256 % 256 * 256 + z % 256) = z by omega, e]
theorem arrH_self (z : Int) (h0 : 0 ≤ z) (h1 : z < 4294967296) (t : List Int) : hdOf (arrH z ++ t) = .comp (arrH z) t z.toNat := by
  by_cases c2 : z ≤ 15
  · have e : arrH z = [144 + z] := by simp only [arrH, if_pos c2]
    rw [e, List.singleton_append, hdOf_fixarr (by omega) (by omega), show 144 + z - 144 = z by omega, e]
  by_cases c3 : z ≤ 65535
  · have e : arrH z = [220, z / 256 % 256, z % 256] := by simp only [arrH, if_neg c2, if_pos c3]
    rw [e]; simp only [List.cons_append, List.nil_append]
    rw [at220, show (z / 256 % 256 * 256 + z % 256) = z by omega, e]
  · have e : arrH z = [221, z / 16777216 % 256, z / 65536 % 256, z / 256 % 256, z % 256] := by simp only [arrH, if_neg c2, if_neg c3]
    rw [e]; simp only [List.cons_append, List.nil_append]
    rw [at221, show (z / 16777216 % 256 * 16777216 + z / 65536 % 256 * 65536 + z / 256 % 256 * 256 + z % 256) = z by omega, e]
theorem mapH_self (z : Int) (h0 : 0 ≤ z) (h1 : z < 4294967296) (t : List Int) : hdOf (mapH z ++ t) = .comp (mapH z) t (2 * z.toNat) := by
  by_cases c2 : z ≤ 15
  · have e : mapH z = [128 + z] := by simp only [mapH, if_pos c2]
    rw [e, List.singleton_append, hdOf_fixmap (by omega) (by omega), show 128 + z - 128 = z by omega, e]
  by_cases c3 : z ≤ 65535
  · have e : mapH z = [222, z / 256 % 256, z % 256] := by simp only [mapH, if_neg c2, if_pos c3]
    rw [e]; simp only [List.cons_append, List.nil_append]
    rw [at222, show (z / 256 % 256 * 256 + z % 256) = z by omega, e]
  · have e : mapH z = [223, z / 16777216 % 256, z / 65536 % 256, z / 256 % 256, z % 256] := by simp only [mapH, if_neg c2, if_neg c3]
    rw [e]; simp only [List.cons_append, List.nil_append]
    rw [at223, show (z / 16777216 % 256 * 16777216 + z / 65536 % 256 * 65536 + z / 256 % 256 * 256 + z % 256) = z by omega, e]

/-- A head is no longer than what it was read from. -/
def HdFit (l : List Int) : Hd → Prop
  | .bad => True
  | .ext => True
  | .atom c r s => isBs c ∧ isBs r ∧ (∃ p, l = p ++ r ∧ c.length ≤ p.length ∧ 1 ≤ p.length) ∧ ∀ t, hdOf (c ++ t) = .atom c t s
  | .blob h r n => isBs h ∧ isBs r ∧ (∃ p, l = p ++ r ∧ h.length ≤ p.length ∧ 1 ≤ p.length) ∧ ∀ t, hdOf (h ++ t) = .blob h t n
  | .comp h r n => isBs h ∧ isBs r ∧ (∃ p, l = p ++ r ∧ h.length ≤ p.length ∧ 1 ≤ p.length) ∧ ∀ t, hdOf (h ++ t) = .comp h t n
end Go.Proofs.YtmliokplekeljaaGreatDoor.M

namespace Go.Proofs.YtmliokplekeljaaGreatDoor.M
set_option linter.unusedVariables false
set_option linter.unusedSimpArgs false

theorem intT_l1 {z : Int} (h0 : -32 ≤ z) (h1 : z ≤ 127) : (intT z).length ≤ 1 := by simp [intT, h0, h1]
theorem intT_l2 {z : Int} (h0 : -128 ≤ z) (h1 : z ≤ 127) : (intT z).length ≤ 2 := by
  unfold intT; repeat' split
  all_goals first | (simp; done) | (exfalso; omega)
theorem intT_l3 {z : Int} (h0 : -32768 ≤ z) (h1 : z ≤ 32767) : (intT z).length ≤ 3 := by
  unfold intT; repeat' split
  all_goals first | (simp; done) | (exfalso; omega)
theorem intT_l5 {z : Int} (h0 : -2147483648 ≤ z) (h1 : z ≤ 2147483647) : (intT z).length ≤ 5 := by
  unfold intT; repeat' split
  all_goals first | (simp; done) | (exfalso; omega)
theorem intT_l9 (z : Int) : (intT z).length ≤ 9 := by
  unfold intT; repeat' split
  all_goals simp
theorem uintT_l2 {z : Int} (h1 : z ≤ 255) : (uintT z).length ≤ 2 := by
  unfold uintT; repeat' split
  all_goals first | (simp; done) | (exfalso; omega)
theorem uintT_l3 {z : Int} (h1 : z ≤ 65535) : (uintT z).length ≤ 3 := by
  unfold uintT; repeat' split
  all_goals first | (simp; done) | (exfalso; omega)
theorem uintT_l5 {z : Int} (h1 : z < 4294967296) : (uintT z).length ≤ 5 := by
  unfold uintT; repeat' split
  all_goals first | (simp; done) | (exfalso; omega)
theorem uintT_l9 (z : Int) : (uintT z).length ≤ 9 := by
  unfold uintT; repeat' split
  all_goals simp
theorem textH_l1 {z : Int} (h1 : z ≤ 31) : (textH z).length ≤ 1 := by simp [textH, h1]
theorem textH_l2 {z : Int} (h1 : z ≤ 255) : (textH z).length ≤ 2 := by
  unfold textH; repeat' split
  all_goals first | (simp; done) | (exfalso; omega)
theorem textH_l3 {z : Int} (h1 : z ≤ 65535) : (textH z).length ≤ 3 := by
  unfold textH; repeat' split
  all_goals first | (simp; done) | (exfalso; omega)
theorem textH_l5 (z : Int) : (textH z).length ≤ 5 := by
  unfold textH; repeat' split
  all_goals simp
theorem binH_l2 {z : Int} (h1 : z ≤ 255) : (binH z).length ≤ 2 := by
  unfold binH; repeat' split
  all_goals first | (simp; done) | (exfalso; omega)
theorem binH_l3 {z : Int} (h1 : z ≤ 65535) : (binH z).length ≤ 3 := by
  unfold binH; repeat' split
  all_goals first | (simp; done) | (exfalso; omega)
theorem binH_l5 (z : Int) : (binH z).length ≤ 5 := by
  unfold binH; repeat' split
  all_goals simp
theorem arrH_l1 {z : Int} (h1 : z ≤ 15) : (arrH z).length ≤ 1 := by simp [arrH, h1]
theorem arrH_l3 {z : Int} (h1 : z ≤ 65535) : (arrH z).length ≤ 3 := by
  unfold arrH; repeat' split
  all_goals first | (simp; done) | (exfalso; omega)
theorem arrH_l5 (z : Int) : (arrH z).length ≤ 5 := by
  unfold arrH; repeat' split
  all_goals simp
theorem mapH_l1 {z : Int} (h1 : z ≤ 15) : (mapH z).length ≤ 1 := by simp [mapH, h1]
theorem mapH_l3 {z : Int} (h1 : z ≤ 65535) : (mapH z).length ≤ 3 := by
  unfold mapH; repeat' split
  all_goals first | (simp; done) | (exfalso; omega)
theorem mapH_l5 (z : Int) : (mapH z).length ≤ 5 := by
  unfold mapH; repeat' split
  all_goals simp

theorem fitA {l : List Int} (c r p : List Int) (s : Bool) (hc : isBs c) (hr : isBs r) (hl : l = p ++ r) (h1 : c.length ≤ p.length) (h2 : 1 ≤ p.length) (hs : ∀ t, hdOf (c ++ t) = .atom c t s) (he : hdOf l = .atom c r s) : HdFit l (hdOf l) := by
  rw [he]; exact ⟨hc, hr, ⟨p, hl, h1, h2⟩, hs⟩
theorem fitB {l : List Int} (c r p : List Int) (n : Nat) (hc : isBs c) (hr : isBs r) (hl : l = p ++ r) (h1 : c.length ≤ p.length) (h2 : 1 ≤ p.length) (hs : ∀ t, hdOf (c ++ t) = .blob c t n) (he : hdOf l = .blob c r n) : HdFit l (hdOf l) := by
  rw [he]; exact ⟨hc, hr, ⟨p, hl, h1, h2⟩, hs⟩
theorem fitC {l : List Int} (c r p : List Int) (n : Nat) (hc : isBs c) (hr : isBs r) (hl : l = p ++ r) (h1 : c.length ≤ p.length) (h2 : 1 ≤ p.length) (hs : ∀ t, hdOf (c ++ t) = .comp c t n) (he : hdOf l = .comp c r n) : HdFit l (hdOf l) := by
  rw [he]; exact ⟨hc, hr, ⟨p, hl, h1, h2⟩, hs⟩
theorem fitBad {l : List Int} (he : hdOf l = .bad) : HdFit l (hdOf l) := by rw [he]; trivial
theorem fitExt {l : List Int} (he : hdOf l = .bad ∨ hdOf l = .ext) : HdFit l (hdOf l) := by rcases he with he | he <;> rw [he] <;> trivial

theorem sx8_r {x : Int} (h : isB x) : -128 ≤ sx8 x ∧ sx8 x ≤ 127 := by obtain ⟨_, _⟩ := h; unfold sx8; split <;> omega
theorem n16 {a b : Int} (ha : isB a) (hb : isB b) : 0 ≤ a * 256 + b ∧ a * 256 + b ≤ 65535 := by obtain ⟨_, _⟩ := ha; obtain ⟨_, _⟩ := hb; omega
theorem n32 {a b c d : Int} (ha : isB a) (hb : isB b) (hc : isB c) (hd : isB d) : 0 ≤ a * 16777216 + b * 65536 + c * 256 + d ∧ a * 16777216 + b * 65536 + c * 256 + d < 4294967296 := by
  obtain ⟨_, _⟩ := ha; obtain ⟨_, _⟩ := hb; obtain ⟨_, _⟩ := hc; obtain ⟨_, _⟩ := hd; omega
theorem n64 {a b c d e f g h : Int} (ha : isB a) (hb : isB b) (hc : isB c) (hd : isB d) (he : isB e) (hf : isB f) (hg : isB g) (hh : isB h) : 0 ≤ a * 72057594037927936 + b * 281474976710656 + c * 1099511627776 + d * 4294967296 + e * 16777216 + f * 65536 + g * 256 + h ∧ a * 72057594037927936 + b * 281474976710656 + c * 1099511627776 + d * 4294967296 + e * 16777216 + f * 65536 + g * 256 + h < 18446744073709551616 := by
  obtain ⟨_, _⟩ := ha; obtain ⟨_, _⟩ := hb; obtain ⟨_, _⟩ := hc; obtain ⟨_, _⟩ := hd; obtain ⟨_, _⟩ := he; obtain ⟨_, _⟩ := hf; obtain ⟨_, _⟩ := hg; obtain ⟨_, _⟩ := hh; omega
theorem sx16_r {x : Int} (h0 : 0 ≤ x) (h1 : x ≤ 65535) : -32768 ≤ sx16 x ∧ sx16 x ≤ 32767 := by unfold sx16; split <;> omega
theorem sx32_r {x : Int} (h0 : 0 ≤ x) (h1 : x < 4294967296) : -2147483648 ≤ sx32 x ∧ sx32 x ≤ 2147483647 := by unfold sx32; split <;> omega
theorem sx64_r {x : Int} (h0 : 0 ≤ x) (h1 : x < 18446744073709551616) : -9223372036854775808 ≤ sx64 x ∧ sx64 x ≤ 9223372036854775807 := by unfold sx64; split <;> omega

theorem lead_cases (v : Int) (h0 : 0 ≤ v) (h1 : v < 256) : v < 128 ∨ (128 ≤ v ∧ v < 144) ∨ (144 ≤ v ∧ v < 160) ∨ (160 ≤ v ∧ v < 192) ∨ 224 ≤ v ∨ v = 192 ∨ v = 193 ∨ v = 194 ∨ v = 195 ∨ v = 196 ∨ v = 197 ∨ v = 198 ∨ v = 199 ∨ v = 200 ∨ v = 201 ∨ v = 202 ∨ v = 203 ∨ v = 204 ∨ v = 205 ∨ v = 206 ∨ v = 207 ∨ v = 208 ∨ v = 209 ∨ v = 210 ∨ v = 211 ∨ v = 212 ∨ v = 213 ∨ v = 214 ∨ v = 215 ∨ v = 216 ∨ v = 217 ∨ v = 218 ∨ v = 219 ∨ v = 220 ∨ v = 221 ∨ v = 222 ∨ v = 223 := by omega

theorem bad1 {v : Int} {r : List Int} (hl : r.length < 1) (hv : v = 196 ∨ v = 204 ∨ v = 208 ∨ v = 217) : hdOf (v :: r) = .bad := by
  rcases hv with rfl | rfl | rfl | rfl <;> simp [hdOf, need1_s hl]
theorem bad2 {v : Int} {r : List Int} (hl : r.length < 2) (hv : v = 197 ∨ v = 205 ∨ v = 209 ∨ v = 218 ∨ v = 220 ∨ v = 222) : hdOf (v :: r) = .bad := by
  rcases hv with rfl | rfl | rfl | rfl | rfl | rfl <;> simp [hdOf, need2_s hl]
theorem bad4 {v : Int} {r : List Int} (hl : r.length < 4) (hv : v = 198 ∨ v = 202 ∨ v = 206 ∨ v = 210 ∨ v = 219 ∨ v = 221 ∨ v = 223) : hdOf (v :: r) = .bad := by
  rcases hv with rfl | rfl | rfl | rfl | rfl | rfl | rfl <;> simp [hdOf, need4_s hl]
theorem bad8 {v : Int} {r : List Int} (hl : r.length < 8) (hv : v = 203 ∨ v = 207 ∨ v = 211) : hdOf (v :: r) = .bad := by
  rcases hv with rfl | rfl | rfl <;> simp [hdOf, need8_s hl]
theorem extOr {v : Int} {r : List Int} (hv : (199 ≤ v ∧ v ≤ 201) ∨ (212 ≤ v ∧ v ≤ 216)) : hdOf (v :: r) = .bad ∨ hdOf (v :: r) = .ext := by
  have : v = 199 ∨ v = 200 ∨ v = 201 ∨ v = 212 ∨ v = 213 ∨ v = 214 ∨ v = 215 ∨ v = 216 := by omega
  rcases this with rfl | rfl | rfl | rfl | rfl | rfl | rfl | rfl <;> simp [hdOf] <;> first | exact Classical.em _ | omega

theorem isBs2 {x0 x1 : Int} {r : List Int} (h : isBs (x0 :: x1 :: r)) : isB x0 ∧ isB x1 ∧ isBs r := ⟨h.head, h.tail.head, h.tail.tail⟩
theorem isBs4 {x0 x1 x2 x3 : Int} {r : List Int} (h : isBs (x0 :: x1 :: x2 :: x3 :: r)) : isB x0 ∧ isB x1 ∧ isB x2 ∧ isB x3 ∧ isBs r := ⟨h.head, h.tail.head, h.tail.tail.head, h.tail.tail.tail.head, h.tail.tail.tail.tail⟩
theorem isBs8 {x0 x1 x2 x3 x4 x5 x6 x7 : Int} {r : List Int} (h : isBs (x0 :: x1 :: x2 :: x3 :: x4 :: x5 :: x6 :: x7 :: r)) : isB x0 ∧ isB x1 ∧ isB x2 ∧ isB x3 ∧ isB x4 ∧ isB x5 ∧ isB x6 ∧ isB x7 ∧ isBs r :=
  have a := isBs4 h
  have b := isBs4 a.2.2.2.2
  ⟨a.1, a.2.1, a.2.2.1, a.2.2.2.1, b.1, b.2.1, b.2.2.1, b.2.2.2.1, b.2.2.2.2⟩

theorem hd_fit (l : List Int) (hB : isBs l) : HdFit l (hdOf l) := by
  rcases l with _ | ⟨v, r⟩
  · trivial
  obtain ⟨h0, h1⟩ := hB.head
  have hr := hB.tail
  rcases lead_cases v h0 h1 with hv | ⟨ha, hv⟩ | ⟨ha, hv⟩ | ⟨ha, hv⟩ | hv | hv | hv | hv | hv | hv | hv | hv | hv | hv | hv | hv | hv | hv | hv | hv | hv | hv | hv | hv | hv | hv | hv | hv | hv | hv | hv | hv | hv | hv | hv | hv | hv
  · exact fitA (intT v) r [v] true (intT_b v) hr rfl (intT_l1 (by omega) (by omega)) (Nat.le_refl _) (intT_self v (by omega) (by omega)) (hdOf_small hv)
  · exact fitC (mapH (v - 128)) r [v] _ (mapH_b _ (by omega)) hr rfl (mapH_l1 (by omega)) (Nat.le_refl _) (mapH_self _ (by omega) (by omega)) (hdOf_fixmap ha hv)
  · exact fitC (arrH (v - 144)) r [v] _ (arrH_b _ (by omega)) hr rfl (arrH_l1 (by omega)) (Nat.le_refl _) (arrH_self _ (by omega) (by omega)) (hdOf_fixarr ha hv)
  · exact fitB (textH (v - 160)) r [v] _ (textH_b _ (by omega)) hr rfl (textH_l1 (by omega)) (Nat.le_refl _) (textH_self _ (by omega) (by omega)) (hdOf_fixstr ha hv)
  · exact fitA (intT (v - 256)) r [v] true (intT_b _) hr rfl (intT_l1 (by omega) (by omega)) (Nat.le_refl _) (intT_self _ (by omega) (by omega)) (hdOf_nfix hv)
  · subst hv; exact fitA [192] r [192] true (isBs_cons ⟨by omega, by omega⟩ isBs_nil) hr rfl (Nat.le_refl _) (Nat.le_refl _) at192 (at192 r)
  · subst hv; exact fitBad (at193 r)
  · subst hv; exact fitA [194] r [194] true (isBs_cons ⟨by omega, by omega⟩ isBs_nil) hr rfl (Nat.le_refl _) (Nat.le_refl _) at194 (at194 r)
  · subst hv; exact fitA [195] r [195] true (isBs_cons ⟨by omega, by omega⟩ isBs_nil) hr rfl (Nat.le_refl _) (Nat.le_refl _) at195 (at195 r)
  · subst hv; revert hr; refine form1 (fun r => isBs r → HdFit (196 :: r) (hdOf (196 :: r))) r (fun h _ => fitBad (bad1 h (by simp))) ?_
    intro x r' _ hr
    have hx := hr.head
    exact fitB (binH x) r' [196, x] _ (binH_b _) hr.tail rfl (binH_l2 (by have := hx.2; omega)) (by simp) (binH_self _ hx.1 (by have := hx.2; omega)) (at196 x r')
  · subst hv; revert hr; refine form2 (fun r => isBs r → HdFit (197 :: r) (hdOf (197 :: r))) r (fun h _ => fitBad (bad2 h (by simp))) ?_
    intro x y r' _ hr
    obtain ⟨hx, hy, hr⟩ := isBs2 hr
    have hn := n16 hx hy
    exact fitB (binH _) r' [197, x, y] _ (binH_b _) hr rfl (binH_l3 hn.2) (by simp) (binH_self _ hn.1 (by omega)) (at197 x y r')
  · subst hv; revert hr; refine form4 (fun r => isBs r → HdFit (198 :: r) (hdOf (198 :: r))) r (fun h _ => fitBad (bad4 h (by simp))) ?_
    intro x y z u r' _ hr
    obtain ⟨hx, hy, hz, hu, hr⟩ := isBs4 hr
    have hn := n32 hx hy hz hu
    exact fitB (binH _) r' [198, x, y, z, u] _ (binH_b _) hr rfl (binH_l5 _) (by simp) (binH_self _ hn.1 hn.2) (at198 x y z u r')
  · exact fitExt (extOr (by omega))
  · exact fitExt (extOr (by omega))
  · exact fitExt (extOr (by omega))
  · subst hv; revert hr; refine form4 (fun r => isBs r → HdFit (202 :: r) (hdOf (202 :: r))) r (fun h _ => fitBad (bad4 h (by simp))) ?_
    intro x y z u r' _ hr
    obtain ⟨hx, hy, hz, hu, hr⟩ := isBs4 hr
    exact fitA [202, x, y, z, u] r' [202, x, y, z, u] _ (isBs_cons ⟨by omega, by omega⟩ (isBs_cons hx (isBs_cons hy (isBs_cons hz (isBs_cons hu isBs_nil))))) hr rfl (Nat.le_refl _) (by simp) (at202 x y z u) (at202 x y z u r')
  · subst hv; revert hr; refine form8 (fun r => isBs r → HdFit (203 :: r) (hdOf (203 :: r))) r (fun h _ => fitBad (bad8 h (by simp))) ?_
    intro x y z u x' y' z' u' r' _ hr
    obtain ⟨hx, hy, hz, hu, hx', hy', hz', hu', hr⟩ := isBs8 hr
    exact fitA [203, x, y, z, u, x', y', z', u'] r' [203, x, y, z, u, x', y', z', u'] _ (isBs_cons ⟨by omega, by omega⟩ (isBs_cons hx (isBs_cons hy (isBs_cons hz (isBs_cons hu (isBs_cons hx' (isBs_cons hy' (isBs_cons hz' (isBs_cons hu' isBs_nil))))))))) hr rfl (Nat.le_refl _) (by simp) (at203 x y z u x' y' z' u') (at203 x y z u x' y' z' u' r')
  · subst hv; revert hr; refine form1 (fun r => isBs r → HdFit (204 :: r) (hdOf (204 :: r))) r (fun h _ => fitBad (bad1 h (by simp))) ?_
    intro x r' _ hr
    have hx := hr.head
    exact fitA (uintT x) r' [204, x] _ (uintT_b _) hr.tail rfl (uintT_l2 (by have := hx.2; omega)) (by simp) (uintT_self _ hx.1 (by have := hx.2; omega)) (at204 x r')
  · subst hv; revert hr; refine form2 (fun r => isBs r → HdFit (205 :: r) (hdOf (205 :: r))) r (fun h _ => fitBad (bad2 h (by simp))) ?_
    intro x y r' _ hr
    obtain ⟨hx, hy, hr⟩ := isBs2 hr
    have hn := n16 hx hy
    exact fitA (uintT _) r' [205, x, y] _ (uintT_b _) hr rfl (uintT_l3 hn.2) (by simp) (uintT_self _ hn.1 (by omega)) (at205 x y r')
  · subst hv; revert hr; refine form4 (fun r => isBs r → HdFit (206 :: r) (hdOf (206 :: r))) r (fun h _ => fitBad (bad4 h (by simp))) ?_
    intro x y z u r' _ hr
    obtain ⟨hx, hy, hz, hu, hr⟩ := isBs4 hr
    have hn := n32 hx hy hz hu
    exact fitA (uintT _) r' [206, x, y, z, u] _ (uintT_b _) hr rfl (uintT_l5 hn.2) (by simp) (uintT_self _ hn.1 (by omega)) (at206 x y z u r')
  · subst hv; revert hr; refine form8 (fun r => isBs r → HdFit (207 :: r) (hdOf (207 :: r))) r (fun h _ => fitBad (bad8 h (by simp))) ?_
    intro x y z u x' y' z' u' r' _ hr
    obtain ⟨hx, hy, hz, hu, hx', hy', hz', hu', hr⟩ := isBs8 hr
    have hn := n64 hx hy hz hu hx' hy' hz' hu'
    exact fitA (uintT _) r' [207, x, y, z, u, x', y', z', u'] _ (uintT_b _) hr rfl (uintT_l9 _) (by simp) (uintT_self _ hn.1 hn.2) (at207 x y z u x' y' z' u' r')
  · subst hv; revert hr; refine form1 (fun r => isBs r → HdFit (208 :: r) (hdOf (208 :: r))) r (fun h _ => fitBad (bad1 h (by simp))) ?_
    intro x r' _ hr
    have hx := sx8_r hr.head
    exact fitA (intT _) r' [208, x] _ (intT_b _) hr.tail rfl (intT_l2 hx.1 hx.2) (by simp) (intT_self _ (by omega) (by omega)) (at208 x r')
  · subst hv; revert hr; refine form2 (fun r => isBs r → HdFit (209 :: r) (hdOf (209 :: r))) r (fun h _ => fitBad (bad2 h (by simp))) ?_
    intro x y r' _ hr
    obtain ⟨hx, hy, hr⟩ := isBs2 hr
    have hn := n16 hx hy
    have hs := sx16_r hn.1 hn.2
    exact fitA (intT _) r' [209, x, y] _ (intT_b _) hr rfl (intT_l3 hs.1 hs.2) (by simp) (intT_self _ (by omega) (by omega)) (at209 x y r')
  · subst hv; revert hr; refine form4 (fun r => isBs r → HdFit (210 :: r) (hdOf (210 :: r))) r (fun h _ => fitBad (bad4 h (by simp))) ?_
    intro x y z u r' _ hr
    obtain ⟨hx, hy, hz, hu, hr⟩ := isBs4 hr
    have hn := n32 hx hy hz hu
    have hs := sx32_r hn.1 hn.2
    exact fitA (intT _) r' [210, x, y, z, u] _ (intT_b _) hr rfl (intT_l5 hs.1 hs.2) (by simp) (intT_self _ (by omega) (by omega)) (at210 x y z u r')
  · subst hv; revert hr; refine form8 (fun r => isBs r → HdFit (211 :: r) (hdOf (211 :: r))) r (fun h _ => fitBad (bad8 h (by simp))) ?_
    intro x y z u x' y' z' u' r' _ hr
    obtain ⟨hx, hy, hz, hu, hx', hy', hz', hu', hr⟩ := isBs8 hr
    have hn := n64 hx hy hz hu hx' hy' hz' hu'
    have hs := sx64_r hn.1 hn.2
    exact fitA (intT _) r' [211, x, y, z, u, x', y', z', u'] _ (intT_b _) hr rfl (intT_l9 _) (by simp) (intT_self _ hs.1 hs.2) (at211 x y z u x' y' z' u' r')
  iterate 5 exact fitExt (extOr (by omega))
  · subst hv; revert hr; refine form1 (fun r => isBs r → HdFit (217 :: r) (hdOf (217 :: r))) r (fun h _ => fitBad (bad1 h (by simp))) ?_
    intro x r' _ hr
    have hx := hr.head
    exact fitB (textH x) r' [217, x] _ (textH_b _ hx.1) hr.tail rfl (textH_l2 (by have := hx.2; omega)) (by simp) (textH_self _ hx.1 (by have := hx.2; omega)) (at217 x r')
  · subst hv; revert hr; refine form2 (fun r => isBs r → HdFit (218 :: r) (hdOf (218 :: r))) r (fun h _ => fitBad (bad2 h (by simp))) ?_
    intro x y r' _ hr
    obtain ⟨hx, hy, hr⟩ := isBs2 hr
    have hn := n16 hx hy
    exact fitB (textH _) r' [218, x, y] _ (textH_b _ hn.1) hr rfl (textH_l3 hn.2) (by simp) (textH_self _ hn.1 (by omega)) (at218 x y r')
  · subst hv; revert hr; refine form4 (fun r => isBs r → HdFit (219 :: r) (hdOf (219 :: r))) r (fun h _ => fitBad (bad4 h (by simp))) ?_
    intro x y z u r' _ hr
    obtain ⟨hx, hy, hz, hu, hr⟩ := isBs4 hr
    have hn := n32 hx hy hz hu
    exact fitB (textH _) r' [219, x, y, z, u] _ (textH_b _ hn.1) hr rfl (textH_l5 _) (by simp) (textH_self _ hn.1 hn.2) (at219 x y z u r')
  · subst hv; revert hr; refine form2 (fun r => isBs r → HdFit (220 :: r) (hdOf (220 :: r))) r (fun h _ => fitBad (bad2 h (by simp))) ?_
    intro x y r' _ hr
    obtain ⟨hx, hy, hr⟩ := isBs2 hr
    have hn := n16 hx hy
    exact fitC (arrH _) r' [220, x, y] _ (arrH_b _ hn.1) hr rfl (arrH_l3 hn.2) (by simp) (arrH_self _ hn.1 (by omega)) (at220 x y r')
  · subst hv; revert hr; refine form4 (fun r => isBs r → HdFit (221 :: r) (hdOf (221 :: r))) r (fun h _ => fitBad (bad4 h (by simp))) ?_
    intro x y z u r' _ hr
    obtain ⟨hx, hy, hz, hu, hr⟩ := isBs4 hr
    have hn := n32 hx hy hz hu
    exact fitC (arrH _) r' [221, x, y, z, u] _ (arrH_b _ hn.1) hr rfl (arrH_l5 _) (by simp) (arrH_self _ hn.1 hn.2) (at221 x y z u r')
  · subst hv; revert hr; refine form2 (fun r => isBs r → HdFit (222 :: r) (hdOf (222 :: r))) r (fun h _ => fitBad (bad2 h (by simp))) ?_
    intro x y r' _ hr
    obtain ⟨hx, hy, hr⟩ := isBs2 hr
    have hn := n16 hx hy
    exact fitC (mapH _) r' [222, x, y] _ (mapH_b _ hn.1) hr rfl (mapH_l3 hn.2) (by simp) (mapH_self _ hn.1 (by omega)) (at222 x y r')
  · subst hv; revert hr; refine form4 (fun r => isBs r → HdFit (223 :: r) (hdOf (223 :: r))) r (fun h _ => fitBad (bad4 h (by simp))) ?_
    intro x y z u r' _ hr
    obtain ⟨hx, hy, hz, hu, hr⟩ := isBs4 hr
    have hn := n32 hx hy hz hu
    exact fitC (mapH _) r' [223, x, y, z, u] _ (mapH_b _ hn.1) hr rfl (mapH_l5 _) (by simp) (mapH_self _ hn.1 hn.2) (at223 x y z u r')

/-- What a reader of objects does. -/
def Fits (f : List Int → Res) : Prop := ∀ l out r, isBs l → f l = .ok out r → isBs out ∧ isBs r ∧ (∃ p, l = p ++ r ∧ out.length ≤ p.length ∧ 1 ≤ p.length) ∧ ∀ t, f (out ++ t) = .ok out t

theorem ploop_fit (f : List Int → Res) (hf : Fits f) : ∀ m h r out r', isBs r → ploop f m h r = .ok out r' → ∃ body, out = h ++ body ∧ isBs body ∧ isBs r' ∧ (∃ p, r = p ++ r' ∧ body.length ≤ p.length) ∧ ∀ h' t, ploop f m h' (body ++ t) = .ok (h' ++ body) t := by
  intro m
  induction m with
  | zero =>
    intro h r out r' hr he
    simp only [ploop, Res.ok.injEq] at he
    obtain ⟨rfl, rfl⟩ := he
    exact ⟨[], by simp, isBs_nil, hr, ⟨[], rfl, Nat.le_refl _⟩, fun h' t => by simp [ploop]⟩
  | succ m ih =>
    intro h r out r' hr he
    rw [ploop] at he
    split at he
    · next x r1 hx =>
      obtain ⟨hbx, hb1, ⟨p, hp, hp1, hp2⟩, hself⟩ := hf r x r1 hr hx
      obtain ⟨body, rfl, hbb, hbr, ⟨q, hq, hq1⟩, hl⟩ := ih (h ++ x) r1 out r' hb1 he
      refine ⟨x ++ body, by rw [List.append_assoc], isBs_app hbx hbb, hbr, ⟨p ++ q, by rw [hp, hq, List.append_assoc], by simp only [List.length_append]; omega⟩, fun h' t => ?_⟩
      rw [List.append_assoc, ploop, hself]
      simp only []
      rw [hl, List.append_assoc]
    · next hne =>
      exfalso
      exact hne _ _ he

theorem parse_fit : ∀ d, Fits (parse d) := by
  intro d
  induction d with
  | zero =>
    intro l out r _ he
    rw [parse] at he
    split at he <;> cases he
  | succ d ih =>
    intro l out r hl he
    have hfit := hd_fit l hl
    rw [parse] at he
    split at he
    · cases he
    · cases he
    · next c r1 s hh =>
      split at he
      · next hs =>
        subst hs
        rw [hh] at hfit
        obtain ⟨hc, hr, ⟨p, hp, hp1, hp2⟩, hself⟩ := hfit
        injection he with e1 e2
        subst e1; subst e2
        exact ⟨hc, hr, ⟨p, hp, hp1, hp2⟩, fun t => by rw [parse, hself]; rfl⟩
      · cases he
    · next h r1 n hh =>
      rw [hh] at hfit
      obtain ⟨hc, hr, ⟨p, hp, hp1, hp2⟩, hself⟩ := hfit
      split at he
      · cases he
      · next hn =>
        injection he with e1 e2
        subst e1; subst e2
        refine ⟨isBs_app hc (fun x hx => hr x (List.mem_of_mem_take hx)), fun x hx => hr x (List.mem_of_mem_drop hx), ⟨p ++ r1.take n, by rw [List.append_assoc, List.take_append_drop]; exact hp, by simp only [List.length_append]; omega, by simp only [List.length_append]; omega⟩, fun t => ?_⟩
        have hlen : (r1.take n).length = n := by rw [List.length_take]; omega
        rw [List.append_assoc, parse, hself]
        simp only []
        rw [if_neg (by rw [List.length_append]; omega), List.take_left' hlen, List.drop_left' hlen]
    · next h r1 n hh =>
      rw [hh] at hfit
      obtain ⟨hc, hr, ⟨p, hp, hp1, hp2⟩, hself⟩ := hfit
      obtain ⟨body, rfl, hbb, hbr, ⟨q, hq, hq1⟩, hl'⟩ := ploop_fit (parse d) ih n h r1 out r hr he
      refine ⟨isBs_app hc hbb, hbr, ⟨p ++ q, by rw [hp, hq, List.append_assoc], by simp only [List.length_append]; omega, by simp only [List.length_append]; omega⟩, fun t => ?_⟩
      rw [List.append_assoc, parse, hself]
      simp only []
      exact hl' h t
end Go.Proofs.YtmliokplekeljaaGreatDoor.M
