/- The reference's HeadOf at any bytes. -/
import Derived.Test.YtmliokplekeljaaGreatDoorN09
import Derived.Test.YtmliokplekeljaaGreatDoorN10
import Derived.Test.YtmliokplekeljaaGreatDoorN08
import Derived.Test.YtmliokplekeljaaGreatDoorN11
import Derived.Deep.QuietTactic
import Derived.BigQuiet
namespace Go.Proofs.YtmliokplekeljaaGreatDoor.M
open Go.RowKit Go.Proofs.YtmliokplekeljaaGreatDoorW.PrintWords Go.Proofs.YtmliokplekeljaaGreatDoorW.PrintMore PFnTreeAny
set_option linter.unusedVariables false
set_option linter.unusedSimpArgs false

/-- So many bytes are cut off. -/
def Cut (l : List Int) (S : Int) (r : List Int) : Prop := ∃ k : Nat, S = (k : Int) ∧ 1 ≤ k ∧ k ≤ l.length ∧ l.drop k = r
theorem cutOf (p r : List Int) (k : Nat) (h : p.length = k) (h1 : 1 ≤ k) : Cut (p ++ r) (k : Int) r := ⟨k, rfl, h1, by simp [h], by rw [← h]; simp⟩
/-- The values of a head, and what they say. -/
inductive HV : List Int → Int → Int → Int → Int → Int → Bool → Hd → Prop
  | short (l : List Int) (K N L T S : Int) : HV l K N L T S true .bad
  | none (l : List Int) (N L T S : Int) : HV l 0 N L T S false .bad
  | ext (l : List Int) (N L T S : Int) : HV l 11 N L T S false .ext
  | prim (x : Int) (r : List Int) (K N L T : Int) (hK : K = 1 ∨ K = 2) : HV (x :: r) K N L T 1 false (.atom [x] r true)
  | sgn (l r : List Int) (N L T S : Int) (hc : Cut l S r) : HV l 3 N L T S false (.atom (intT (wrap64 N)) r true)
  | small (x : Int) (r : List Int) (N L T : Int) : HV (x :: r) 4 N L T 1 false (.atom (intT (wrap64 N)) r true)
  | uint (l r : List Int) (N L T S : Int) (hc : Cut l S r) (hS : S ≠ 1) : HV l 4 N L T S false (.atom (uintT N) r true)
  | f32 (l r : List Int) (N L T : Int) (hc : Cut l 5 r) : HV l 5 N L T 5 false (.atom (l.take 5) r (said32 N))
  | f64 (l r : List Int) (N L T : Int) (hc : Cut l 9 r) : HV l 6 N L T 9 false (.atom (l.take 9) r (said64 N))
  | text (l r : List Int) (N L T S : Int) (hc : Cut l S r) (h0 : 0 ≤ L) (h1 : L < 4294967296) : HV l 7 N L T S false (.blob (textH L) r L.toNat)
  | bin (l r : List Int) (N L T S : Int) (hc : Cut l S r) (h0 : 0 ≤ L) (h1 : L < 4294967296) : HV l 8 N L T S false (.blob (binH L) r L.toNat)
  | arr (l r : List Int) (N L T S : Int) (hc : Cut l S r) (h0 : 0 ≤ L) (h1 : L < 4294967296) : HV l 9 N L T S false (.comp (arrH L) r L.toNat)
  | map (l r : List Int) (N L T S : Int) (hc : Cut l S r) (h0 : 0 ≤ L) (h1 : L < 4294967296) : HV l 10 N L T S false (.comp (mapH L) r (2 * L.toNat))
def HeadAny (w : World) (A : Option Addr) (n c : Nat) (l : List Int) : Prop := ∃ K N L T S sh, HV l K N L T S sh (hdOf l) ∧ Calls Tryz.prog 11 #[.slice A n c] w (HdIs K N L T S sh w)
theorem hvOf {w : World} {A : Option Addr} {n c : Nat} {l : List Int} {K N L T S : Int} {sh : Bool} {H : Hd} (h : Calls Tryz.prog 11 #[.slice A n c] w (HdIs K N L T S sh w)) (he : hdOf l = H) (hv : HV l K N L T S sh H) : HeadAny w A n c l :=
  ⟨K, N, L, T, S, sh, he ▸ hv, h⟩

theorem beL1 (a : Int) : beL 0 [a] = a := by simp [beL]
theorem beL2 (a b : Int) : beL 0 [a, b] = a * 256 + b := by simp only [beL]; omega
theorem beL4 (a b c d : Int) : beL 0 [a, b, c, d] = a * 16777216 + b * 65536 + c * 256 + d := by simp only [beL]; omega
theorem beL8 (a b c d e f g h : Int) : beL 0 [a, b, c, d, e, f, g, h] = a * 72057594037927936 + b * 281474976710656 + c * 1099511627776 + d * 4294967296 + e * 16777216 + f * 65536 + g * 256 + h := by simp only [beL]; omega
theorem wz8 (x : Int) (h0 : 0 ≤ x) (h1 : x < 256) : wrap64 (if x < 128 then x else x + 18446744073709551360) = sx8 x := by
  simp only [wrap64, sx8]
  repeat' split
  all_goals omega
theorem wz16 (x : Int) (h0 : 0 ≤ x) (h1 : x < 65536) : wrap64 (if x < 32768 then x else x + 18446744073709486080) = sx16 x := by
  simp only [wrap64, sx16]
  repeat' split
  all_goals omega
theorem wz32 (x : Int) (h0 : 0 ≤ x) (h1 : x < 4294967296) : wrap64 (if x < 2147483648 then x else x + 18446744069414584320) = sx32 x := by
  simp only [wrap64, sx32]
  repeat' split
  all_goals omega
theorem wz64 (x : Int) (h0 : 0 ≤ x) (h1 : x < 18446744073709551616) : wrap64 (if x < 9223372036854775808 then x else x + 0) = sx64 x := by
  simp only [wrap64, sx64]
  repeat' split
  all_goals omega
theorem wzn (x : Int) (h0 : 224 ≤ x) (h1 : x < 256) : wrap64 (if x < 128 then x else x + 18446744073709551360) = x - 256 := by
  rw [wz8 x (by omega) h1, sx8, if_neg (by omega)]
theorem headOf_any (w : World) (A : Option Addr) (c : Nat) (l : List Int) (hr : CB w A l) (hB : isBs l) (hc : l.length ≤ c) : HeadAny w A l.length c l := by
  rcases l with _ | ⟨v, r⟩
  · exact hvOf (hd_nil w A c) rfl (.short _ _ _ _ _ _)
  obtain ⟨h0, h1⟩ := hB.head
  have hb := hB.tail
  rcases lead_cases v h0 h1 with hv | ⟨ha, hv⟩ | ⟨ha, hv⟩ | ⟨ha, hv⟩ | hv | hv | hv | hv | hv | hv | hv | hv | hv | hv | hv | hv | hv | hv | hv | hv | hv | hv | hv | hv | hv | hv | hv | hv | hv | hv | hv | hv | hv | hv | hv | hv | hv
  · exact hvOf (hd_fixint w A _ c v r hr rfl h0 hv) (hdOf_small hv) (by have := HV.small v r v 0 0; rwa [wrap64_id (by omega) (by omega)] at this)
  · exact hvOf (hd_fixmap w A _ c v r hr rfl ha hv) (hdOf_fixmap ha hv) (.map _ _ _ _ _ _ (cutOf [v] r 1 rfl (by omega)) (by omega) (by omega))
  · exact hvOf (hd_fixarr w A _ c v r hr rfl ha hv) (hdOf_fixarr ha hv) (.arr _ _ _ _ _ _ (cutOf [v] r 1 rfl (by omega)) (by omega) (by omega))
  · exact hvOf (hd_fixstr w A _ c v r hr rfl ha hv) (hdOf_fixstr ha hv) (.text _ _ _ _ _ _ (cutOf [v] r 1 rfl (by omega)) (by omega) (by omega))
  · exact hvOf (hd_nfix w A _ c v r hr rfl hv h1 _ (signed_1 v h0 h1)) (hdOf_nfix hv) (by have := HV.sgn (v :: r) r (if v < 128 then v else v + 18446744073709551360) 0 0 1 (cutOf [v] r 1 rfl (by omega)); rwa [wzn v hv h1] at this)
  · subst hv; exact hvOf (hd_192 w A _ c r hr rfl) (at192 r) (.prim _ _ _ _ _ _ (Or.inl rfl))
  · subst hv; exact hvOf (hd_193 w A _ c r hr rfl) (at193 r) (.none _ _ _ _ _)
  · subst hv; exact hvOf (hd_194 w A _ c r hr rfl) (at194 r) (.prim _ _ _ _ _ _ (Or.inr rfl))
  · subst hv; exact hvOf (hd_195 w A _ c r hr rfl) (at195 r) (.prim _ _ _ _ _ _ (Or.inr rfl))
  · subst hv; revert hb; revert hc; revert hr; refine form1 (fun r => CB w A (196 :: r) → (196 :: r).length ≤ c → isBs r → HeadAny w A (196 :: r).length c (196 :: r)) r (fun h hr _ _ => hvOf (hd_196s w A _ c _ hr rfl h) (bad1 h (by simp)) (.short _ _ _ _ _ _)) ?_
    intro x r' _ hr hc hb
    have hx := hb.head
    have hb := hb.tail
    have hn : 0 ≤ x ∧ x < 256 := hx
    refine hvOf (hd_196 w A _ c x r' hr (by simp) hc hx) (at196 x r') ?_
    rw [beL1 x]
    exact .bin _ _ _ _ _ _ (cutOf [196, x] r' 2 rfl (by omega)) (by omega) (by omega)
  · subst hv; revert hb; revert hc; revert hr; refine form2 (fun r => CB w A (197 :: r) → (197 :: r).length ≤ c → isBs r → HeadAny w A (197 :: r).length c (197 :: r)) r (fun h hr _ _ => hvOf (hd_197s w A _ c _ hr rfl h) (bad2 h (by simp)) (.short _ _ _ _ _ _)) ?_
    intro x y r' _ hr hc hb
    obtain ⟨hx, hy, hb⟩ := isBs2 hb
    have hn := n16 hx hy
    refine hvOf (hd_197 w A _ c x y r' hr (by simp) hc hx hy) (at197 x y r') ?_
    rw [beL2 x y]
    exact .bin _ _ _ _ _ _ (cutOf [197, x, y] r' 3 rfl (by omega)) (by omega) (by omega)
  · subst hv; revert hb; revert hc; revert hr; refine form4 (fun r => CB w A (198 :: r) → (198 :: r).length ≤ c → isBs r → HeadAny w A (198 :: r).length c (198 :: r)) r (fun h hr _ _ => hvOf (hd_198s w A _ c _ hr rfl h) (bad4 h (by simp)) (.short _ _ _ _ _ _)) ?_
    intro x y z u r' _ hr hc hb
    obtain ⟨hx, hy, hz, hu, hb⟩ := isBs4 hb
    have hn := n32 hx hy hz hu
    refine hvOf (hd_198 w A _ c x y z u r' hr (by simp) hc hx hy hz hu) (at198 x y z u r') ?_
    rw [beL4 x y z u]
    exact .bin _ _ _ _ _ _ (cutOf [198, x, y, z, u] r' 5 rfl (by omega)) (by omega) (by omega)
  · subst hv
    by_cases hl : r.length < 2
    · exact hvOf (hd_199s w A _ c r hr rfl hl) (by simp [hdOf]; omega) (.short _ _ _ _ _ _)
    · have he : hdOf (199 :: r) = .ext := by simp [hdOf]; omega
      obtain ⟨x, t, r', rfl⟩ : ∃ x t r', r = x :: t :: r' := by
        rcases r with _ | ⟨_, _ | ⟨_, r'⟩⟩
        · simp at hl
        · simp at hl
        · exact ⟨_, _, _, rfl⟩
      exact hvOf (hd_199 w A _ c x t r' hr (by simp) hc hb.head hb.tail.head) he (.ext _ _ _ _ _)
  · subst hv
    by_cases hl : r.length < 3
    · exact hvOf (hd_200s w A _ c r hr rfl hl) (by simp [hdOf]; omega) (.short _ _ _ _ _ _)
    · have he : hdOf (200 :: r) = .ext := by simp [hdOf]; omega
      obtain ⟨x, y, t, r', rfl⟩ : ∃ x y t r', r = x :: y :: t :: r' := by
        rcases r with _ | ⟨_, _ | ⟨_, _ | ⟨_, r'⟩⟩⟩
        · simp at hl
        · simp at hl
        · simp at hl
        · exact ⟨_, _, _, _, rfl⟩
      exact hvOf (hd_200 w A _ c x y t r' hr (by simp) hc hb.head hb.tail.head hb.tail.tail.head) he (.ext _ _ _ _ _)
  · subst hv
    by_cases hl : r.length < 5
    · exact hvOf (hd_201s w A _ c r hr rfl hl) (by simp [hdOf]; omega) (.short _ _ _ _ _ _)
    · have he : hdOf (201 :: r) = .ext := by simp [hdOf]; omega
      obtain ⟨x, y, z, u, t, r', rfl⟩ : ∃ x y z u t r', r = x :: y :: z :: u :: t :: r' := by
        rcases r with _ | ⟨_, _ | ⟨_, _ | ⟨_, _ | ⟨_, _ | ⟨_, r'⟩⟩⟩⟩⟩
        · simp at hl
        · simp at hl
        · simp at hl
        · simp at hl
        · simp at hl
        · exact ⟨_, _, _, _, _, _, rfl⟩
      exact hvOf (hd_201 w A _ c x y z u t r' hr (by simp) hc hb.head hb.tail.head hb.tail.tail.head hb.tail.tail.tail.head hb.tail.tail.tail.tail.head) he (.ext _ _ _ _ _)
  · subst hv; revert hb; revert hc; revert hr; refine form4 (fun r => CB w A (202 :: r) → (202 :: r).length ≤ c → isBs r → HeadAny w A (202 :: r).length c (202 :: r)) r (fun h hr _ _ => hvOf (hd_202s w A _ c _ hr rfl h) (bad4 h (by simp)) (.short _ _ _ _ _ _)) ?_
    intro x y z u r' _ hr hc hb
    obtain ⟨hx, hy, hz, hu, hb⟩ := isBs4 hb
    have hn := n32 hx hy hz hu
    refine hvOf (hd_202 w A _ c x y z u r' hr (by simp) hc hx hy hz hu) (at202 x y z u r') ?_
    rw [beL4 x y z u]
    exact .f32 _ _ _ _ _ (cutOf [202, x, y, z, u] r' 5 rfl (by omega))
  · subst hv; revert hb; revert hc; revert hr; refine form8 (fun r => CB w A (203 :: r) → (203 :: r).length ≤ c → isBs r → HeadAny w A (203 :: r).length c (203 :: r)) r (fun h hr _ _ => hvOf (hd_203s w A _ c _ hr rfl h) (bad8 h (by simp)) (.short _ _ _ _ _ _)) ?_
    intro x y z u x' y' z' u' r' _ hr hc hb
    obtain ⟨hx, hy, hz, hu, hx', hy', hz', hu', hb⟩ := isBs8 hb
    have hn := n64 hx hy hz hu hx' hy' hz' hu'
    refine hvOf (hd_203 w A _ c x y z u x' y' z' u' r' hr (by simp) hc hx hy hz hu hx' hy' hz' hu') (at203 x y z u x' y' z' u' r') ?_
    rw [beL8 x y z u x' y' z' u']
    exact .f64 _ _ _ _ _ (cutOf [203, x, y, z, u, x', y', z', u'] r' 9 rfl (by omega))
  · subst hv; revert hb; revert hc; revert hr; refine form1 (fun r => CB w A (204 :: r) → (204 :: r).length ≤ c → isBs r → HeadAny w A (204 :: r).length c (204 :: r)) r (fun h hr _ _ => hvOf (hd_204s w A _ c _ hr rfl h) (bad1 h (by simp)) (.short _ _ _ _ _ _)) ?_
    intro x r' _ hr hc hb
    have hx := hb.head
    have hb := hb.tail
    have hn : 0 ≤ x ∧ x < 256 := hx
    refine hvOf (hd_204 w A _ c x r' hr (by simp) hc hx) (at204 x r') ?_
    rw [beL1 x]
    exact .uint _ _ _ _ _ _ (cutOf [204, x] r' 2 rfl (by omega)) (by omega)
  · subst hv; revert hb; revert hc; revert hr; refine form2 (fun r => CB w A (205 :: r) → (205 :: r).length ≤ c → isBs r → HeadAny w A (205 :: r).length c (205 :: r)) r (fun h hr _ _ => hvOf (hd_205s w A _ c _ hr rfl h) (bad2 h (by simp)) (.short _ _ _ _ _ _)) ?_
    intro x y r' _ hr hc hb
    obtain ⟨hx, hy, hb⟩ := isBs2 hb
    have hn := n16 hx hy
    refine hvOf (hd_205 w A _ c x y r' hr (by simp) hc hx hy) (at205 x y r') ?_
    rw [beL2 x y]
    exact .uint _ _ _ _ _ _ (cutOf [205, x, y] r' 3 rfl (by omega)) (by omega)
  · subst hv; revert hb; revert hc; revert hr; refine form4 (fun r => CB w A (206 :: r) → (206 :: r).length ≤ c → isBs r → HeadAny w A (206 :: r).length c (206 :: r)) r (fun h hr _ _ => hvOf (hd_206s w A _ c _ hr rfl h) (bad4 h (by simp)) (.short _ _ _ _ _ _)) ?_
    intro x y z u r' _ hr hc hb
    obtain ⟨hx, hy, hz, hu, hb⟩ := isBs4 hb
    have hn := n32 hx hy hz hu
    refine hvOf (hd_206 w A _ c x y z u r' hr (by simp) hc hx hy hz hu) (at206 x y z u r') ?_
    rw [beL4 x y z u]
    exact .uint _ _ _ _ _ _ (cutOf [206, x, y, z, u] r' 5 rfl (by omega)) (by omega)
  · subst hv; revert hb; revert hc; revert hr; refine form8 (fun r => CB w A (207 :: r) → (207 :: r).length ≤ c → isBs r → HeadAny w A (207 :: r).length c (207 :: r)) r (fun h hr _ _ => hvOf (hd_207s w A _ c _ hr rfl h) (bad8 h (by simp)) (.short _ _ _ _ _ _)) ?_
    intro x y z u x' y' z' u' r' _ hr hc hb
    obtain ⟨hx, hy, hz, hu, hx', hy', hz', hu', hb⟩ := isBs8 hb
    have hn := n64 hx hy hz hu hx' hy' hz' hu'
    refine hvOf (hd_207 w A _ c x y z u x' y' z' u' r' hr (by simp) hc hx hy hz hu hx' hy' hz' hu') (at207 x y z u x' y' z' u' r') ?_
    rw [beL8 x y z u x' y' z' u']
    exact .uint _ _ _ _ _ _ (cutOf [207, x, y, z, u, x', y', z', u'] r' 9 rfl (by omega)) (by omega)
  · subst hv; revert hb; revert hc; revert hr; refine form1 (fun r => CB w A (208 :: r) → (208 :: r).length ≤ c → isBs r → HeadAny w A (208 :: r).length c (208 :: r)) r (fun h hr _ _ => hvOf (hd_208s w A _ c _ hr rfl h) (bad1 h (by simp)) (.short _ _ _ _ _ _)) ?_
    intro x r' _ hr hc hb
    have hx := hb.head
    have hb := hb.tail
    have hn : 0 ≤ x ∧ x < 256 := hx
    have hzz := signed_1 (beL 0 [x]) (by rw [beL1 x]; exact hn.1) (by rw [beL1 x]; omega)
    refine hvOf (hd_208 w A _ c x r' hr (by simp) hc hx _ hzz) (at208 x r') ?_
    rw [beL1 x]
    rw [← wz8 _ hn.1 (by omega)]
    exact .sgn _ _ _ _ _ _ (cutOf [208, x] r' 2 rfl (by omega))
  · subst hv; revert hb; revert hc; revert hr; refine form2 (fun r => CB w A (209 :: r) → (209 :: r).length ≤ c → isBs r → HeadAny w A (209 :: r).length c (209 :: r)) r (fun h hr _ _ => hvOf (hd_209s w A _ c _ hr rfl h) (bad2 h (by simp)) (.short _ _ _ _ _ _)) ?_
    intro x y r' _ hr hc hb
    obtain ⟨hx, hy, hb⟩ := isBs2 hb
    have hn := n16 hx hy
    have hzz := signed_2 (beL 0 [x, y]) (by rw [beL2 x y]; exact hn.1) (by rw [beL2 x y]; omega)
    refine hvOf (hd_209 w A _ c x y r' hr (by simp) hc hx hy _ hzz) (at209 x y r') ?_
    rw [beL2 x y]
    rw [← wz16 _ hn.1 (by omega)]
    exact .sgn _ _ _ _ _ _ (cutOf [209, x, y] r' 3 rfl (by omega))
  · subst hv; revert hb; revert hc; revert hr; refine form4 (fun r => CB w A (210 :: r) → (210 :: r).length ≤ c → isBs r → HeadAny w A (210 :: r).length c (210 :: r)) r (fun h hr _ _ => hvOf (hd_210s w A _ c _ hr rfl h) (bad4 h (by simp)) (.short _ _ _ _ _ _)) ?_
    intro x y z u r' _ hr hc hb
    obtain ⟨hx, hy, hz, hu, hb⟩ := isBs4 hb
    have hn := n32 hx hy hz hu
    have hzz := signed_4 (beL 0 [x, y, z, u]) (by rw [beL4 x y z u]; exact hn.1) (by rw [beL4 x y z u]; omega)
    refine hvOf (hd_210 w A _ c x y z u r' hr (by simp) hc hx hy hz hu _ hzz) (at210 x y z u r') ?_
    rw [beL4 x y z u]
    rw [← wz32 _ hn.1 (by omega)]
    exact .sgn _ _ _ _ _ _ (cutOf [210, x, y, z, u] r' 5 rfl (by omega))
  · subst hv; revert hb; revert hc; revert hr; refine form8 (fun r => CB w A (211 :: r) → (211 :: r).length ≤ c → isBs r → HeadAny w A (211 :: r).length c (211 :: r)) r (fun h hr _ _ => hvOf (hd_211s w A _ c _ hr rfl h) (bad8 h (by simp)) (.short _ _ _ _ _ _)) ?_
    intro x y z u x' y' z' u' r' _ hr hc hb
    obtain ⟨hx, hy, hz, hu, hx', hy', hz', hu', hb⟩ := isBs8 hb
    have hn := n64 hx hy hz hu hx' hy' hz' hu'
    have hzz := signed_8 (beL 0 [x, y, z, u, x', y', z', u']) (by rw [beL8 x y z u x' y' z' u']; exact hn.1) (by rw [beL8 x y z u x' y' z' u']; omega)
    refine hvOf (hd_211 w A _ c x y z u x' y' z' u' r' hr (by simp) hc hx hy hz hu hx' hy' hz' hu' _ hzz) (at211 x y z u x' y' z' u' r') ?_
    rw [beL8 x y z u x' y' z' u']
    rw [← wz64 _ hn.1 (by omega)]
    exact .sgn _ _ _ _ _ _ (cutOf [211, x, y, z, u, x', y', z', u'] r' 9 rfl (by omega))
  · subst hv
    by_cases hl : r.length < 1
    · exact hvOf (hd_212s w A _ c r hr rfl hl) (by simp [hdOf]; exact List.length_eq_zero_iff.1 (by omega)) (.short _ _ _ _ _ _)
    · have he : hdOf (212 :: r) = .ext := by simp [hdOf]; intro h; subst h; simp at hl
      obtain ⟨t, r', rfl⟩ : ∃ t r', r = t :: r' := by
        rcases r with _ | ⟨_, r'⟩
        · simp at hl
        · exact ⟨_, _, rfl⟩
      exact hvOf (hd_212 w A _ c t r' hr (by simp) hc hb.head) he (.ext _ _ _ _ _)
  · subst hv
    by_cases hl : r.length < 1
    · exact hvOf (hd_213s w A _ c r hr rfl hl) (by simp [hdOf]; exact List.length_eq_zero_iff.1 (by omega)) (.short _ _ _ _ _ _)
    · have he : hdOf (213 :: r) = .ext := by simp [hdOf]; intro h; subst h; simp at hl
      obtain ⟨t, r', rfl⟩ : ∃ t r', r = t :: r' := by
        rcases r with _ | ⟨_, r'⟩
        · simp at hl
        · exact ⟨_, _, rfl⟩
      exact hvOf (hd_213 w A _ c t r' hr (by simp) hc hb.head) he (.ext _ _ _ _ _)
  · subst hv
    by_cases hl : r.length < 1
    · exact hvOf (hd_214s w A _ c r hr rfl hl) (by simp [hdOf]; exact List.length_eq_zero_iff.1 (by omega)) (.short _ _ _ _ _ _)
    · have he : hdOf (214 :: r) = .ext := by simp [hdOf]; intro h; subst h; simp at hl
      obtain ⟨t, r', rfl⟩ : ∃ t r', r = t :: r' := by
        rcases r with _ | ⟨_, r'⟩
        · simp at hl
        · exact ⟨_, _, rfl⟩
      exact hvOf (hd_214 w A _ c t r' hr (by simp) hc hb.head) he (.ext _ _ _ _ _)
  · subst hv
    by_cases hl : r.length < 1
    · exact hvOf (hd_215s w A _ c r hr rfl hl) (by simp [hdOf]; exact List.length_eq_zero_iff.1 (by omega)) (.short _ _ _ _ _ _)
    · have he : hdOf (215 :: r) = .ext := by simp [hdOf]; intro h; subst h; simp at hl
      obtain ⟨t, r', rfl⟩ : ∃ t r', r = t :: r' := by
        rcases r with _ | ⟨_, r'⟩
        · simp at hl
        · exact ⟨_, _, rfl⟩
      exact hvOf (hd_215 w A _ c t r' hr (by simp) hc hb.head) he (.ext _ _ _ _ _)
  · subst hv
    by_cases hl : r.length < 1
    · exact hvOf (hd_216s w A _ c r hr rfl hl) (by simp [hdOf]; exact List.length_eq_zero_iff.1 (by omega)) (.short _ _ _ _ _ _)
    · have he : hdOf (216 :: r) = .ext := by simp [hdOf]; intro h; subst h; simp at hl
      obtain ⟨t, r', rfl⟩ : ∃ t r', r = t :: r' := by
        rcases r with _ | ⟨_, r'⟩
        · simp at hl
        · exact ⟨_, _, rfl⟩
      exact hvOf (hd_216 w A _ c t r' hr (by simp) hc hb.head) he (.ext _ _ _ _ _)
  · subst hv; revert hb; revert hc; revert hr; refine form1 (fun r => CB w A (217 :: r) → (217 :: r).length ≤ c → isBs r → HeadAny w A (217 :: r).length c (217 :: r)) r (fun h hr _ _ => hvOf (hd_217s w A _ c _ hr rfl h) (bad1 h (by simp)) (.short _ _ _ _ _ _)) ?_
    intro x r' _ hr hc hb
    have hx := hb.head
    have hb := hb.tail
    have hn : 0 ≤ x ∧ x < 256 := hx
    refine hvOf (hd_217 w A _ c x r' hr (by simp) hc hx) (at217 x r') ?_
    rw [beL1 x]
    exact .text _ _ _ _ _ _ (cutOf [217, x] r' 2 rfl (by omega)) (by omega) (by omega)
  · subst hv; revert hb; revert hc; revert hr; refine form2 (fun r => CB w A (218 :: r) → (218 :: r).length ≤ c → isBs r → HeadAny w A (218 :: r).length c (218 :: r)) r (fun h hr _ _ => hvOf (hd_218s w A _ c _ hr rfl h) (bad2 h (by simp)) (.short _ _ _ _ _ _)) ?_
    intro x y r' _ hr hc hb
    obtain ⟨hx, hy, hb⟩ := isBs2 hb
    have hn := n16 hx hy
    refine hvOf (hd_218 w A _ c x y r' hr (by simp) hc hx hy) (at218 x y r') ?_
    rw [beL2 x y]
    exact .text _ _ _ _ _ _ (cutOf [218, x, y] r' 3 rfl (by omega)) (by omega) (by omega)
  · subst hv; revert hb; revert hc; revert hr; refine form4 (fun r => CB w A (219 :: r) → (219 :: r).length ≤ c → isBs r → HeadAny w A (219 :: r).length c (219 :: r)) r (fun h hr _ _ => hvOf (hd_219s w A _ c _ hr rfl h) (bad4 h (by simp)) (.short _ _ _ _ _ _)) ?_
    intro x y z u r' _ hr hc hb
    obtain ⟨hx, hy, hz, hu, hb⟩ := isBs4 hb
    have hn := n32 hx hy hz hu
    refine hvOf (hd_219 w A _ c x y z u r' hr (by simp) hc hx hy hz hu) (at219 x y z u r') ?_
    rw [beL4 x y z u]
    exact .text _ _ _ _ _ _ (cutOf [219, x, y, z, u] r' 5 rfl (by omega)) (by omega) (by omega)
  · subst hv; revert hb; revert hc; revert hr; refine form2 (fun r => CB w A (220 :: r) → (220 :: r).length ≤ c → isBs r → HeadAny w A (220 :: r).length c (220 :: r)) r (fun h hr _ _ => hvOf (hd_220s w A _ c _ hr rfl h) (bad2 h (by simp)) (.short _ _ _ _ _ _)) ?_
    intro x y r' _ hr hc hb
    obtain ⟨hx, hy, hb⟩ := isBs2 hb
    have hn := n16 hx hy
    refine hvOf (hd_220 w A _ c x y r' hr (by simp) hc hx hy) (at220 x y r') ?_
    rw [beL2 x y]
    exact .arr _ _ _ _ _ _ (cutOf [220, x, y] r' 3 rfl (by omega)) (by omega) (by omega)
  · subst hv; revert hb; revert hc; revert hr; refine form4 (fun r => CB w A (221 :: r) → (221 :: r).length ≤ c → isBs r → HeadAny w A (221 :: r).length c (221 :: r)) r (fun h hr _ _ => hvOf (hd_221s w A _ c _ hr rfl h) (bad4 h (by simp)) (.short _ _ _ _ _ _)) ?_
    intro x y z u r' _ hr hc hb
    obtain ⟨hx, hy, hz, hu, hb⟩ := isBs4 hb
    have hn := n32 hx hy hz hu
    refine hvOf (hd_221 w A _ c x y z u r' hr (by simp) hc hx hy hz hu) (at221 x y z u r') ?_
    rw [beL4 x y z u]
    exact .arr _ _ _ _ _ _ (cutOf [221, x, y, z, u] r' 5 rfl (by omega)) (by omega) (by omega)
  · subst hv; revert hb; revert hc; revert hr; refine form2 (fun r => CB w A (222 :: r) → (222 :: r).length ≤ c → isBs r → HeadAny w A (222 :: r).length c (222 :: r)) r (fun h hr _ _ => hvOf (hd_222s w A _ c _ hr rfl h) (bad2 h (by simp)) (.short _ _ _ _ _ _)) ?_
    intro x y r' _ hr hc hb
    obtain ⟨hx, hy, hb⟩ := isBs2 hb
    have hn := n16 hx hy
    refine hvOf (hd_222 w A _ c x y r' hr (by simp) hc hx hy) (at222 x y r') ?_
    rw [beL2 x y]
    exact .map _ _ _ _ _ _ (cutOf [222, x, y] r' 3 rfl (by omega)) (by omega) (by omega)
  · subst hv; revert hb; revert hc; revert hr; refine form4 (fun r => CB w A (223 :: r) → (223 :: r).length ≤ c → isBs r → HeadAny w A (223 :: r).length c (223 :: r)) r (fun h hr _ _ => hvOf (hd_223s w A _ c _ hr rfl h) (bad4 h (by simp)) (.short _ _ _ _ _ _)) ?_
    intro x y z u r' _ hr hc hb
    obtain ⟨hx, hy, hz, hu, hb⟩ := isBs4 hb
    have hn := n32 hx hy hz hu
    refine hvOf (hd_223 w A _ c x y z u r' hr (by simp) hc hx hy hz hu) (at223 x y z u r') ?_
    rw [beL4 x y z u]
    exact .map _ _ _ _ _ _ (cutOf [223, x, y, z, u] r' 5 rfl (by omega)) (by omega) (by omega)
end Go.Proofs.YtmliokplekeljaaGreatDoor.M

namespace Go.Proofs.YtmliokplekeljaaGreatDoor.M
open Go.RowKit Go.Proofs.YtmliokplekeljaaGreatDoorW.PrintWords Go.Proofs.YtmliokplekeljaaGreatDoorW.PrintMore PFnTreeAny
set_option linter.unusedVariables false
set_option linter.unusedSimpArgs false

theorem dropCB (A : Option Addr) (n c k : Nat) (l : List Int) (hn : n = l.length) (hk : k ≤ n) (hc : n ≤ c) :
    ∃ A' : Option Addr, (∀ W : World, (Instr.slice 22 (.slice A n c) (some (.int .i64 (k : Int))) none none).run Tryz.prog W = .ok (.slice A' (n - k) (c - k)) W) ∧ (∀ w, CB w A l → CB w A' (l.drop k)) := by
  subst hn
  obtain ⟨i0, hi0, hzz⟩ := Option.map_eq_some_iff.1 info5
  simp only [Prod.mk.injEq] at hzz
  obtain ⟨A', g1, g2, _⟩ := print_drop_of (P := Tryz.prog) (Value.int .u8) (0 : Int) 22 5 .i64 Tryz.underlying22 hi0 hzz.2.1 A c l (k : Int) (by omega) (by omega) hc
  simp only [Int.toNat_natCast] at g1 g2
  rw [List.length_drop] at g1
  exact ⟨A', g1, fun w h => Kd.C_of_reads (d := 0) (g2 w (Kd.reads_of_C h))⟩
theorem takeCB (A : Option Addr) (n c k : Nat) (l : List Int) (hn : n = l.length) (hk : k ≤ n) (hc : n ≤ c) :
    ∃ A' : Option Addr, ∃ c', (∀ W : World, (Instr.slice 22 (.slice A n c) none (some (.int .i64 (k : Int))) none).run Tryz.prog W = .ok (.slice A' k c') W) ∧ k ≤ c' ∧ (∀ w, CB w A l → CB w A' (l.take k)) := by
  subst hn
  obtain ⟨i0, hi0, hzz⟩ := Option.map_eq_some_iff.1 info5
  simp only [Prod.mk.injEq] at hzz
  obtain ⟨g1, g2, g3⟩ := print_take_of (P := Tryz.prog) (Value.int .u8) (0 : Int) 22 5 .i64 Tryz.underlying22 hi0 hzz.2.1 A c l (k : Int) (by omega) (by omega) hc
  have hl : (l.take k).length = k := by rw [List.length_take]; omega
  simp only [Int.toNat_natCast] at g1 g2
  rw [hl] at g1
  exact ⟨A, c, g1, by omega, fun w h => Kd.C_of_reads (d := 0) (g2 w (Kd.reads_of_C h))⟩

/-- What Tree hands back. -/
def TreePost (w : World) (R : Res) (e : Ending) (w' : World) : Prop := ∃ (v : Value) (left : Int) (is said : Bool), e = .returned (.tuple #[v, .int .i64 left, .bool is, .bool said]) ∧ Below w.heap.size w w' ∧
  match R with
  | .bad => is = false ∧ said = true
  | .unsaid => said = false
  | .ok out r => is = true ∧ said = true ∧ left = (r.length : Int) ∧ ∃ A c, v = .slice A out.length c ∧ out.length ≤ c ∧ CB w' A out
theorem treeBad {w w' : World} {v : Value} {left : Int} (hb : Below w.heap.size w w') : TreePost w .bad (.returned (.tuple #[v, .int .i64 left, .bool false, .bool true])) w' := ⟨_, _, _, _, rfl, hb, rfl, rfl⟩
theorem treeUnsaid {w w' : World} {v : Value} {left : Int} {is : Bool} (hb : Below w.heap.size w w') : TreePost w .unsaid (.returned (.tuple #[v, .int .i64 left, .bool is, .bool false])) w' := ⟨_, _, _, _, rfl, hb, rfl⟩
theorem treeOk {w w' : World} {A : Option Addr} {n c : Nat} {left : Int} {out r : List Int} (hb : Below w.heap.size w w') (hl : left = (r.length : Int)) (hn : n = out.length) (hc : n ≤ c) (hr : CB w' A out) : TreePost w (.ok out r) (.returned (.tuple #[.slice A n c, .int .i64 left, .bool true, .bool true])) w' := by
  subst hn hl; exact ⟨_, _, _, _, rfl, hb, rfl, rfl, rfl, A, c, rfl, hc, hr⟩

theorem Below.trans' {n : Nat} {w w1 w2 : World} (h : Below n w w1) (h2 : Below w1.heap.size w1 w2) (hn : n ≤ w1.heap.size) : Below n w w2 := h.trans (h2.mono hn)
theorem treeOwn {w w1 w2 : World} {o : Obj} {base : Nat} {v : Value} {out r : List Int} (hb : Below w.heap.size w w1) (hb2 : Below (w1.alloc o).heap.size (w1.alloc o) w2) (hR : OB w2 base v out) : TreePost w (.ok out r) (.returned (.tuple #[v, .int .i64 (r.length : Int), .bool true, .bool true])) w2 := by
  obtain ⟨A2, c2, rfl, hc2, hr2⟩ := hR.reads
  refine ⟨_, _, _, _, rfl, (below_alloc hb _).trans (hb2.mono ?_), rfl, rfl, rfl, A2, c2, rfl, hc2, hr2⟩
  have := hb.size
  simp; omega
theorem treeCut {w w1 : World} {o : Obj} {A : Option Addr} {n c : Nat} {out r : List Int} {w2 : World} (hb : Below w.heap.size w w1) (hb2 : Below (w1.alloc o).heap.size (w1.alloc o) w2) (hn : n = out.length) (hc : n ≤ c) (hr : CB w A out) : TreePost w (.ok out r) (.returned (.tuple #[.slice A n c, .int .i64 (r.length : Int), .bool true, .bool true])) w2 := by
  have hB : Below w.heap.size w w2 := (below_alloc hb _).trans (hb2.mono (by have := hb.size; simp; omega))
  exact treeOk hB rfl hn hc (Kd.C_below hr hB)
theorem treeFlt {w w1 : World} {o : Obj} {m : Nat} {A : Option Addr} {n c : Nat} {out r : List Int} {s : Bool} {R : Res} (hb : Below w.heap.size w w1) (hn : n = out.length) (hc : n ≤ c) (hr : CB w A out) (hR : R = if s then .ok out r else .unsaid) : TreePost w R (.returned (.tuple #[.slice A n c, .int .i64 (r.length : Int), .bool true, .bool s])) ((w1.alloc o).drewN m) := by
  have hB : Below w.heap.size w ((w1.alloc o).drewN m) := pw_below_drewN (below_alloc hb _) m
  subst hR
  cases s
  · exact treeUnsaid hB
  · exact treeOk hB rfl hn hc (Kd.C_below hr hB)
set_option maxRecDepth 100000 in
theorem tree_sgn (w : World) (A : Option Addr) (n c : Nat) (l r : List Int) (hr : CB w A l) (hn : n = l.length) (hc : n ≤ c) (S : Int) (hS : Cut l S r) (kk : Int) (hk : 0 ≤ kk) (N L T : Int) (H : Calls Tryz.prog 11 #[.slice A n c] w (HdIs 3 N L T S false w)) :
    Calls Tryz.prog 7 #[.slice A n c, .int .i64 kk] w (TreePost w (.ok (intT (wrap64 N)) r)) := by
  obtain ⟨k, rfl, h1, h2, hd⟩ := hS
  obtain ⟨A', hs, hcb⟩ := dropCB A n c k l hn (by omega) hc
  have hm : n - k = r.length := by rw [hn, ← hd, List.length_drop]
  rw [hm] at hs
  have HR := Lib.hid hr
  have HH := Lib.hid H
  clear hr H hcb hd hm h2
  have HN := Lib.hid hn
  have HC := Lib.hid hc
  clear hn hc
  go_enter Tryz.func7, Tryz.ntmps7
  go_wp2_with (first | (go_at_call 11; refine HH.out.mono ?_; rintro e w1 ⟨rfl, hb⟩) | (go_at_call 12; refine (ref_int _ (wrap64 N)).mono ?_; rintro e w2 ⟨v, rfl, hR, hb2⟩))
  exact bodyPost_ret (v := .tuple #[v, .int .i64 (r.length : Int), .bool true, .bool true]) (by simp [results, Tryz.results7, go_sem]) rfl (treeOwn hb hb2 hR)
set_option maxRecDepth 100000 in
theorem tree_small (w : World) (A : Option Addr) (n c : Nat) (l r : List Int) (hr : CB w A l) (hn : n = l.length) (hc : n ≤ c) (S : Int) (hS : Cut l S r) (h1' : S = 1) (kk : Int) (hk : 0 ≤ kk) (N L T : Int) (H : Calls Tryz.prog 11 #[.slice A n c] w (HdIs 4 N L T S false w)) :
    Calls Tryz.prog 7 #[.slice A n c, .int .i64 kk] w (TreePost w (.ok (intT (wrap64 N)) r)) := by
  obtain ⟨k, rfl, h1, h2, hd⟩ := hS
  obtain ⟨A', hs, hcb⟩ := dropCB A n c k l hn (by omega) hc
  have hm : n - k = r.length := by rw [hn, ← hd, List.length_drop]
  rw [hm] at hs
  have HR := Lib.hid hr
  have HH := Lib.hid H
  have hk1 : k = 1 := by omega
  subst hk1
  clear h1'
  replace hs : ∀ W : World, (Instr.slice 22 (.slice A n c) (some (.int .i64 1)) none none).run Tryz.prog W = .ok (.slice A' r.length (c - 1)) W := hs
  clear hr H hcb hd hm h2
  have HN := Lib.hid hn
  have HC := Lib.hid hc
  clear hn hc
  go_enter Tryz.func7, Tryz.ntmps7
  go_wp2_with (first | (go_at_call 11; refine HH.out.mono ?_; rintro e w1 ⟨rfl, hb⟩) | (go_at_call 12; refine (ref_int _ (wrap64 N)).mono ?_; rintro e w2 ⟨v, rfl, hR, hb2⟩))
  exact bodyPost_ret (v := .tuple #[v, .int .i64 (r.length : Int), .bool true, .bool true]) (by simp [results, Tryz.results7, go_sem]) rfl (treeOwn hb hb2 hR)
set_option maxRecDepth 100000 in
theorem tree_uint (w : World) (A : Option Addr) (n c : Nat) (l r : List Int) (hr : CB w A l) (hn : n = l.length) (hc : n ≤ c) (S : Int) (hS : Cut l S r) (h1' : S ≠ 1) (kk : Int) (hk : 0 ≤ kk) (N L T : Int) (H : Calls Tryz.prog 11 #[.slice A n c] w (HdIs 4 N L T S false w)) :
    Calls Tryz.prog 7 #[.slice A n c, .int .i64 kk] w (TreePost w (.ok (uintT N) r)) := by
  obtain ⟨k, rfl, h1, h2, hd⟩ := hS
  obtain ⟨A', hs, hcb⟩ := dropCB A n c k l hn (by omega) hc
  have hm : n - k = r.length := by rw [hn, ← hd, List.length_drop]
  rw [hm] at hs
  have HR := Lib.hid hr
  have HH := Lib.hid H
  have hk1 : ((k : Int) == 1) = false := by simpa using h1'
  clear h1'
  clear hr H hcb hd hm h2
  have HN := Lib.hid hn
  have HC := Lib.hid hc
  clear hn hc
  go_enter Tryz.func7, Tryz.ntmps7
  go_wp2_with (first | (go_at_call 11; refine HH.out.mono ?_; rintro e w1 ⟨rfl, hb⟩) | (go_at_call 13; refine (ref_uint _ N).mono ?_; rintro e w2 ⟨v, rfl, hR, hb2⟩))
  exact bodyPost_ret (v := .tuple #[v, .int .i64 (r.length : Int), .bool true, .bool true]) (by simp [results, Tryz.results7, go_sem]) rfl (treeOwn hb hb2 hR)
set_option maxRecDepth 100000 in
theorem tree_nil (w : World) (A : Option Addr) (n c : Nat) (l r : List Int) (hr : CB w A l) (hn : n = l.length) (hc : n ≤ c) (S : Int) (hS : Cut l S r) (kk : Int) (hk : 0 ≤ kk) (N L T : Int) (H : Calls Tryz.prog 11 #[.slice A n c] w (HdIs 1 N L T S false w)) :
    Calls Tryz.prog 7 #[.slice A n c, .int .i64 kk] w (TreePost w (.ok (l.take 1) r)) := by
  obtain ⟨k, rfl, h1, h2, hd⟩ := hS
  obtain ⟨A', hs, hcb⟩ := dropCB A n c k l hn (by omega) hc
  have hm : n - k = r.length := by rw [hn, ← hd, List.length_drop]
  rw [hm] at hs
  have HR := Lib.hid hr
  have HH := Lib.hid H
  obtain ⟨A2, c2, ht, hc2, hct⟩ := takeCB A n c 1 l hn (by omega) hc
  replace ht : ∀ W : World, (Instr.slice 22 (.slice A n c) none (some (.int .i64 1)) none).run Tryz.prog W = .ok (.slice A2 1 c2) W := ht
  have HT := Lib.hid (show CB w A2 (l.take 1) from hct w hr)
  have HL := Lib.hid (show 1 = (l.take 1).length by rw [List.length_take]; omega)
  clear hct
  clear hr H hcb hd hm h2
  have HN := Lib.hid hn
  have HC := Lib.hid hc
  clear hn hc
  go_enter Tryz.func7, Tryz.ntmps7
  go_wp2_with (go_at_call 11; refine HH.out.mono ?_; rintro e w1 ⟨rfl, hb⟩)
  exact bodyPost_ret (v := .tuple #[.slice A2 1 c2, .int .i64 (r.length : Int), .bool true, .bool true]) (by simp [results, Tryz.results7, go_sem]) rfl (treeCut hb (Below.refl _ _) HL.out hc2 HT.out)
set_option maxRecDepth 100000 in
theorem tree_bool (w : World) (A : Option Addr) (n c : Nat) (l r : List Int) (hr : CB w A l) (hn : n = l.length) (hc : n ≤ c) (S : Int) (hS : Cut l S r) (kk : Int) (hk : 0 ≤ kk) (N L T : Int) (H : Calls Tryz.prog 11 #[.slice A n c] w (HdIs 2 N L T S false w)) :
    Calls Tryz.prog 7 #[.slice A n c, .int .i64 kk] w (TreePost w (.ok (l.take 1) r)) := by
  obtain ⟨k, rfl, h1, h2, hd⟩ := hS
  obtain ⟨A', hs, hcb⟩ := dropCB A n c k l hn (by omega) hc
  have hm : n - k = r.length := by rw [hn, ← hd, List.length_drop]
  rw [hm] at hs
  have HR := Lib.hid hr
  have HH := Lib.hid H
  obtain ⟨A2, c2, ht, hc2, hct⟩ := takeCB A n c 1 l hn (by omega) hc
  replace ht : ∀ W : World, (Instr.slice 22 (.slice A n c) none (some (.int .i64 1)) none).run Tryz.prog W = .ok (.slice A2 1 c2) W := ht
  have HT := Lib.hid (show CB w A2 (l.take 1) from hct w hr)
  have HL := Lib.hid (show 1 = (l.take 1).length by rw [List.length_take]; omega)
  clear hct
  clear hr H hcb hd hm h2
  have HN := Lib.hid hn
  have HC := Lib.hid hc
  clear hn hc
  go_enter Tryz.func7, Tryz.ntmps7
  go_wp2_with (go_at_call 11; refine HH.out.mono ?_; rintro e w1 ⟨rfl, hb⟩)
  exact bodyPost_ret (v := .tuple #[.slice A2 1 c2, .int .i64 (r.length : Int), .bool true, .bool true]) (by simp [results, Tryz.results7, go_sem]) rfl (treeCut hb (Below.refl _ _) HL.out hc2 HT.out)
set_option maxRecDepth 100000 in
theorem tree_f32 (w : World) (A : Option Addr) (n c : Nat) (l r : List Int) (hr : CB w A l) (hn : n = l.length) (hc : n ≤ c) (S : Int) (hS : Cut l S r) (h1' : S = 5) (kk : Int) (hk : 0 ≤ kk) (N L T : Int) (H : Calls Tryz.prog 11 #[.slice A n c] w (HdIs 5 N L T S false w)) :
    Calls Tryz.prog 7 #[.slice A n c, .int .i64 kk] w (TreePost w (if said32 N then .ok (l.take 5) r else .unsaid)) := by
  obtain ⟨k, rfl, h1, h2, hd⟩ := hS
  obtain ⟨A', hs, hcb⟩ := dropCB A n c k l hn (by omega) hc
  have hm : n - k = r.length := by rw [hn, ← hd, List.length_drop]
  rw [hm] at hs
  have HR := Lib.hid hr
  have HH := Lib.hid H
  have hk1 : k = 5 := by omega
  subst hk1
  clear h1'
  replace hs : ∀ W : World, (Instr.slice 22 (.slice A n c) (some (.int .i64 5)) none none).run Tryz.prog W = .ok (.slice A' r.length (c - 5)) W := hs
  obtain ⟨A2, c2, ht, hc2, hct⟩ := takeCB A n c 5 l hn (by omega) hc
  replace ht : ∀ W : World, (Instr.slice 22 (.slice A n c) none (some (.int .i64 5)) none).run Tryz.prog W = .ok (.slice A2 5 c2) W := ht
  have HT := Lib.hid (show CB w A2 (l.take 5) from hct w hr)
  have HL := Lib.hid (show 5 = (l.take 5).length by rw [List.length_take]; omega)
  clear hct
  obtain ⟨R, hR⟩ : ∃ R, R = (if said32 N then Res.ok (l.take 5) r else .unsaid) := ⟨_, rfl⟩
  rw [← hR]
  have HI := Lib.hid hR
  clear hR
  clear hr H hcb hd hm h2
  have HN := Lib.hid hn
  have HC := Lib.hid hc
  clear hn hc
  go_enter Tryz.func7, Tryz.ntmps7
  go_wp2_with (go_at_call 11; refine HH.out.mono ?_; rintro e w1 ⟨rfl, hb⟩)
  go_quiet (fail)
  go_wp2_with (fail)
  exact bodyPost_ret (v := .tuple #[.slice A2 5 c2, .int .i64 (r.length : Int), .bool true, .bool (Go.bits .and .u64 N 2139095040 != 2139095040)]) (by simp [results, Tryz.results7, go_sem]) rfl (treeFlt hb HL.out hc2 HT.out HI.out)
set_option maxRecDepth 100000 in
theorem tree_f64 (w : World) (A : Option Addr) (n c : Nat) (l r : List Int) (hr : CB w A l) (hn : n = l.length) (hc : n ≤ c) (S : Int) (hS : Cut l S r) (h1' : S = 9) (kk : Int) (hk : 0 ≤ kk) (N L T : Int) (H : Calls Tryz.prog 11 #[.slice A n c] w (HdIs 6 N L T S false w)) :
    Calls Tryz.prog 7 #[.slice A n c, .int .i64 kk] w (TreePost w (if said64 N then .ok (l.take 9) r else .unsaid)) := by
  obtain ⟨k, rfl, h1, h2, hd⟩ := hS
  obtain ⟨A', hs, hcb⟩ := dropCB A n c k l hn (by omega) hc
  have hm : n - k = r.length := by rw [hn, ← hd, List.length_drop]
  rw [hm] at hs
  have HR := Lib.hid hr
  have HH := Lib.hid H
  have hk1 : k = 9 := by omega
  subst hk1
  clear h1'
  replace hs : ∀ W : World, (Instr.slice 22 (.slice A n c) (some (.int .i64 9)) none none).run Tryz.prog W = .ok (.slice A' r.length (c - 9)) W := hs
  obtain ⟨A2, c2, ht, hc2, hct⟩ := takeCB A n c 9 l hn (by omega) hc
  replace ht : ∀ W : World, (Instr.slice 22 (.slice A n c) none (some (.int .i64 9)) none).run Tryz.prog W = .ok (.slice A2 9 c2) W := ht
  have HT := Lib.hid (show CB w A2 (l.take 9) from hct w hr)
  have HL := Lib.hid (show 9 = (l.take 9).length by rw [List.length_take]; omega)
  clear hct
  obtain ⟨R, hR⟩ : ∃ R, R = (if said64 N then Res.ok (l.take 9) r else .unsaid) := ⟨_, rfl⟩
  rw [← hR]
  have HI := Lib.hid hR
  clear hR
  clear hr H hcb hd hm h2
  have HN := Lib.hid hn
  have HC := Lib.hid hc
  clear hn hc
  go_enter Tryz.func7, Tryz.ntmps7
  go_wp2_with (go_at_call 11; refine HH.out.mono ?_; rintro e w1 ⟨rfl, hb⟩)
  go_quiet (fail)
  go_wp2_with (fail)
  exact bodyPost_ret (v := .tuple #[.slice A2 9 c2, .int .i64 (r.length : Int), .bool true, .bool (Go.bits .and .u64 N 9218868437227405312 != 9218868437227405312)]) (by simp [results, Tryz.results7, go_sem]) rfl (treeFlt hb HL.out hc2 HT.out HI.out)
end Go.Proofs.YtmliokplekeljaaGreatDoor.M
