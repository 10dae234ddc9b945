/- msgp.getSize at any bytes; msgp.Skip and the program's Skip. -/
import Derived.Test.YtmliokplekeljaaGreatDoorN24
import Derived.Test.YtmliokplekeljaaGreatDoorN12
import Derived.Test.YtmliokplekeljaaGreatDoorN20
namespace Go.Proofs.YtmliokplekeljaaGreatDoor.M
open Go.RowKit Go.Proofs.YtmliokplekeljaaGreatDoorW.PrintWords
set_option linter.unusedVariables false
set_option linter.unusedSimpArgs false

section
variable {w : World} {g o n c : Nat} {l : List Int} {hd : Hd}
theorem szErr (H : Calls Tryz.prog 94 #[.slice (some ⟨g, o, none⟩) n c] w (RetG 0 0 eShort w)) (he : hd = .bad) : SizeOf w g o n c l hd := by
  subst he; exact Or.inl ⟨_, _, _, _, isErr_short, H⟩
theorem szShort {s a : Int} (hs : (n : Int) < s) (H : Calls Tryz.prog 94 #[.slice (some ⟨g, o, none⟩) n c] w (RetG s a .nilIface w)) (he : hd = .bad) : SizeOf w g o n c l hd := by
  subst he; exact Or.inr ⟨_, _, hs, H⟩
theorem szAtom {S : Int} {ct r : List Int} {s : Bool} (hS : Cut l S r) (H : Calls Tryz.prog 94 #[.slice (some ⟨g, o, none⟩) n c] w (RetG S 0 .nilIface w)) (he : hd = .atom ct r s) : SizeOf w g o n c l hd := by
  subst he; exact ⟨S, hS, H⟩
theorem szBlob {S : Int} {h r : List Int} {k : Nat} (h1 : r.length < k → (n : Int) < S) (h2 : k ≤ r.length → Cut l S (r.drop k)) (H : Calls Tryz.prog 94 #[.slice (some ⟨g, o, none⟩) n c] w (RetG S 0 .nilIface w)) (he : hd = .blob h r k) : SizeOf w g o n c l hd := by
  subst he; exact ⟨S, h1, h2, H⟩
theorem szComp {S : Int} {a : Int} {h r : List Int} {m : Nat} (hS : Cut l S r) (hm : m < 10000000000) (ha : a = (m : Int)) (H : Calls Tryz.prog 94 #[.slice (some ⟨g, o, none⟩) n c] w (RetG S a .nilIface w)) (he : hd = .comp h r m) : SizeOf w g o n c l hd := by
  subst he; subst ha; exact ⟨S, hS, hm, H⟩
theorem cutBlob (p r : List Int) (k : Nat) (hk : k ≤ r.length) (h1 : 1 ≤ p.length) {S : Int} (hS : S = (p.length : Int) + (k : Int)) : Cut (p ++ r) S (r.drop k) := by
  have := cutOf (p ++ r.take k) (r.drop k) (p.length + k) (by rw [List.length_append, List.length_take]; omega) (by omega)
  rw [List.append_assoc, List.take_append_drop] at this
  rw [hS]; exact this
end

set_option maxRecDepth 100000 in
theorem sizeOf_any (w : World) (g o c : Nat) (l : List Int) (hr : RB w g o l) (hB : isBs l) (hc : l.length ≤ c) (hg : Glob w) : SizeOf w g o l.length c l (hdOf l) := by
  rcases l with _ | ⟨v, r⟩
  · exact szErr (gs_nil w _ c hg) rfl
  obtain ⟨h0, h1⟩ := hB.head
  have hb := hB.tail
  rcases lead_cases v h0 h1 with hv | ⟨ha, hv⟩ | ⟨ha, hv⟩ | ⟨ha, hv⟩ | hv | hv | hv | hv | hv | hv | hv | hv | hv | hv | hv | hv | hv | hv | hv | hv | hv | hv | hv | hv | hv | hv | hv | hv | hv | hv | hv | hv | hv | hv | hv | hv | hv
  · exact szAtom (cutOf [v] r 1 rfl (by omega)) (gs_fix w g o _ c v 1 0 8 r hr rfl h0 h1 (by rw [bs, if_pos hv]) (by omega) (by omega) (by omega) (by omega)) (hdOf_small hv)
  · exact szComp (cutOf [v] r 1 rfl (by omega)) (by omega) (by omega) (gs_fix w g o _ c v 1 (2 * (v - 128)) 3 r hr rfl h0 h1 (by rw [bs, if_neg (by omega), if_pos hv]) (by omega) (by omega) (by omega) (by omega)) (hdOf_fixmap ha hv)
  · exact szComp (cutOf [v] r 1 rfl (by omega)) (by omega) (by omega) (gs_fix w g o _ c v 1 (v - 144) 4 r hr rfl h0 h1 (by rw [bs, if_neg (by omega), if_neg (by omega), if_pos hv]) (by omega) (by omega) (by omega) (by omega)) (hdOf_fixarr ha hv)
  · exact szBlob (S := 1 + (v - 160)) (fun h => by simp only [List.length_cons]; omega) (fun h => cutBlob [v] r _ h (Nat.le_refl _) (by simp only [List.length_cons, List.length_nil]; omega)) (gs_fix w g o _ c v (1 + (v - 160)) 0 1 r hr rfl h0 h1 (by rw [bs, if_neg (by omega), if_neg (by omega), if_neg (by omega), if_pos hv]) (by omega) (by omega) (by omega) (by omega)) (hdOf_fixstr ha hv)
  · exact szAtom (cutOf [v] r 1 rfl (by omega)) (gs_fix w g o _ c v 1 0 8 r hr rfl h0 h1 (by rw [bs, if_neg (by omega), if_neg (by omega), if_neg (by omega), if_neg (by omega), if_pos hv]) (by omega) (by omega) (by omega) (by omega)) (hdOf_nfix hv)
  · subst hv; exact szAtom (cutOf [192] r 1 rfl (by omega)) (gs_fix w g o _ c 192 1 0 10 r hr rfl (by omega) (by omega) (by decide) (by omega) (by omega) (by omega) (by omega)) (at192 r)
  · subst hv; rw [at193]; exact Or.inl ⟨_, _, _, _, isErr_pre _, gs_193 w g o _ c r hr rfl⟩
  · subst hv; exact szAtom (cutOf [194] r 1 rfl (by omega)) (gs_fix w g o _ c 194 1 0 7 r hr rfl (by omega) (by omega) (by decide) (by omega) (by omega) (by omega) (by omega)) (at194 r)
  · subst hv; exact szAtom (cutOf [195] r 1 rfl (by omega)) (gs_fix w g o _ c 195 1 0 7 r hr rfl (by omega) (by omega) (by decide) (by omega) (by omega) (by omega) (by omega)) (at195 r)
  · subst hv; revert hb; revert hc; revert hr; refine form1 (fun r => RB w g o (196 :: r) → (196 :: r).length ≤ c → isBs r → SizeOf w g o (196 :: r).length c (196 :: r) (hdOf (196 :: r))) r (fun h hr hc _ => szErr (gs_196s w g o _ c _ hg hr rfl (by simp only [List.length_cons]; omega)) (bad1 h (by simp))) ?_
    intro x r' _ hr hc hb
    have hx := hb.head
    have hb := hb.tail
    have hn : 0 ≤ x ∧ x < 256 := hx
    exact szBlob (fun h => by simp only [List.length_cons]; omega) (fun h => cutBlob [196, x] r' _ h (by simp) (by simp only [List.length_cons, List.length_nil]; omega)) (gs_196 w g o _ c x r' hr (by simp) hc hx) (at196 x r')
  · subst hv; revert hb; revert hc; revert hr; refine form2 (fun r => RB w g o (197 :: r) → (197 :: r).length ≤ c → isBs r → SizeOf w g o (197 :: r).length c (197 :: r) (hdOf (197 :: r))) r (fun h hr hc _ => szErr (gs_197s w g o _ c _ hg hr rfl (by simp only [List.length_cons]; omega)) (bad2 h (by simp))) ?_
    intro x y r' _ hr hc hb
    obtain ⟨hx, hy, hb⟩ := isBs2 hb
    have hn := n16 hx hy
    exact szBlob (fun h => by simp only [List.length_cons]; omega) (fun h => cutBlob [197, x, y] r' _ h (by simp) (by simp only [List.length_cons, List.length_nil]; omega)) (gs_197 w g o _ c x y r' hr (by simp) hc hx hy) (at197 x y r')
  · subst hv; revert hb; revert hc; revert hr; refine form4 (fun r => RB w g o (198 :: r) → (198 :: r).length ≤ c → isBs r → SizeOf w g o (198 :: r).length c (198 :: r) (hdOf (198 :: r))) r (fun h hr hc _ => szErr (gs_198s w g o _ c _ hg hr rfl (by simp only [List.length_cons]; omega)) (bad4 h (by simp))) ?_
    intro x y z u r' _ hr hc hb
    obtain ⟨hx, hy, hz, hu, hb⟩ := isBs4 hb
    have hn := n32 hx hy hz hu
    exact szBlob (fun h => by simp only [List.length_cons]; omega) (fun h => cutBlob [198, x, y, z, u] r' _ h (by simp) (by simp only [List.length_cons, List.length_nil]; omega)) (gs_198 w g o _ c x y z u r' hr (by simp) hc hx hy hz hu) (at198 x y z u r')
  · subst hv
    by_cases hlt : r.length < 2
    · exact szErr (gs_199s w g o _ c r hg hr rfl (by simp only [List.length_cons]; omega)) (by simp [hdOf]; omega)
    · have he : hdOf (199 :: r) = .ext := by simp [hdOf]; omega
      rw [he]; trivial
  · subst hv
    by_cases hlt : r.length < 3
    · exact szErr (gs_200s w g o _ c r hg hr rfl (by simp only [List.length_cons]; omega)) (by simp [hdOf]; omega)
    · have he : hdOf (200 :: r) = .ext := by simp [hdOf]; omega
      rw [he]; trivial
  · subst hv
    by_cases hlt : r.length < 5
    · exact szErr (gs_201s w g o _ c r hg hr rfl (by simp only [List.length_cons]; omega)) (by simp [hdOf]; omega)
    · have he : hdOf (201 :: r) = .ext := by simp [hdOf]; omega
      rw [he]; trivial
  · subst hv; revert hb; revert hc; revert hr; refine form4 (fun r => RB w g o (202 :: r) → (202 :: r).length ≤ c → isBs r → SizeOf w g o (202 :: r).length c (202 :: r) (hdOf (202 :: r))) r (fun h hr hc _ => szShort (s := 5) (a := 0) (by simp only [List.length_cons]; omega) (gs_fix w g o _ c 202 5 0 6 _ hr rfl (by omega) (by omega) (by decide) (by omega) (by omega) (by omega) (by omega)) (bad4 h (by simp))) ?_
    intro x y z u r' _ hr hc hb
    obtain ⟨hx, hy, hz, hu, hb⟩ := isBs4 hb
    have hn := n32 hx hy hz hu
    exact szAtom (cutOf [202, x, y, z, u] r' 5 rfl (by omega)) (gs_fix w g o _ c 202 5 0 6 (x :: y :: z :: u :: r') hr rfl (by omega) (by omega) (by decide) (by omega) (by omega) (by omega) (by omega)) (at202 x y z u r')
  · subst hv; revert hb; revert hc; revert hr; refine form8 (fun r => RB w g o (203 :: r) → (203 :: r).length ≤ c → isBs r → SizeOf w g o (203 :: r).length c (203 :: r) (hdOf (203 :: r))) r (fun h hr hc _ => szShort (s := 9) (a := 0) (by simp only [List.length_cons]; omega) (gs_fix w g o _ c 203 9 0 5 _ hr rfl (by omega) (by omega) (by decide) (by omega) (by omega) (by omega) (by omega)) (bad8 h (by simp))) ?_
    intro x y z u x' y' z' u' r' _ hr hc hb
    obtain ⟨hx, hy, hz, hu, hx', hy', hz', hu', hb⟩ := isBs8 hb
    have hn := n64 hx hy hz hu hx' hy' hz' hu'
    exact szAtom (cutOf [203, x, y, z, u, x', y', z', u'] r' 9 rfl (by omega)) (gs_fix w g o _ c 203 9 0 5 (x :: y :: z :: u :: x' :: y' :: z' :: u' :: r') hr rfl (by omega) (by omega) (by decide) (by omega) (by omega) (by omega) (by omega)) (at203 x y z u x' y' z' u' r')
  · subst hv; revert hb; revert hc; revert hr; refine form1 (fun r => RB w g o (204 :: r) → (204 :: r).length ≤ c → isBs r → SizeOf w g o (204 :: r).length c (204 :: r) (hdOf (204 :: r))) r (fun h hr hc _ => szShort (s := 2) (a := 0) (by simp only [List.length_cons]; omega) (gs_fix w g o _ c 204 2 0 9 _ hr rfl (by omega) (by omega) (by decide) (by omega) (by omega) (by omega) (by omega)) (bad1 h (by simp))) ?_
    intro x r' _ hr hc hb
    have hx := hb.head
    have hb := hb.tail
    have hn : 0 ≤ x ∧ x < 256 := hx
    exact szAtom (cutOf [204, x] r' 2 rfl (by omega)) (gs_fix w g o _ c 204 2 0 9 (x :: r') hr rfl (by omega) (by omega) (by decide) (by omega) (by omega) (by omega) (by omega)) (at204 x r')
  · subst hv; revert hb; revert hc; revert hr; refine form2 (fun r => RB w g o (205 :: r) → (205 :: r).length ≤ c → isBs r → SizeOf w g o (205 :: r).length c (205 :: r) (hdOf (205 :: r))) r (fun h hr hc _ => szShort (s := 3) (a := 0) (by simp only [List.length_cons]; omega) (gs_fix w g o _ c 205 3 0 9 _ hr rfl (by omega) (by omega) (by decide) (by omega) (by omega) (by omega) (by omega)) (bad2 h (by simp))) ?_
    intro x y r' _ hr hc hb
    obtain ⟨hx, hy, hb⟩ := isBs2 hb
    have hn := n16 hx hy
    exact szAtom (cutOf [205, x, y] r' 3 rfl (by omega)) (gs_fix w g o _ c 205 3 0 9 (x :: y :: r') hr rfl (by omega) (by omega) (by decide) (by omega) (by omega) (by omega) (by omega)) (at205 x y r')
  · subst hv; revert hb; revert hc; revert hr; refine form4 (fun r => RB w g o (206 :: r) → (206 :: r).length ≤ c → isBs r → SizeOf w g o (206 :: r).length c (206 :: r) (hdOf (206 :: r))) r (fun h hr hc _ => szShort (s := 5) (a := 0) (by simp only [List.length_cons]; omega) (gs_fix w g o _ c 206 5 0 9 _ hr rfl (by omega) (by omega) (by decide) (by omega) (by omega) (by omega) (by omega)) (bad4 h (by simp))) ?_
    intro x y z u r' _ hr hc hb
    obtain ⟨hx, hy, hz, hu, hb⟩ := isBs4 hb
    have hn := n32 hx hy hz hu
    exact szAtom (cutOf [206, x, y, z, u] r' 5 rfl (by omega)) (gs_fix w g o _ c 206 5 0 9 (x :: y :: z :: u :: r') hr rfl (by omega) (by omega) (by decide) (by omega) (by omega) (by omega) (by omega)) (at206 x y z u r')
  · subst hv; revert hb; revert hc; revert hr; refine form8 (fun r => RB w g o (207 :: r) → (207 :: r).length ≤ c → isBs r → SizeOf w g o (207 :: r).length c (207 :: r) (hdOf (207 :: r))) r (fun h hr hc _ => szShort (s := 9) (a := 0) (by simp only [List.length_cons]; omega) (gs_fix w g o _ c 207 9 0 9 _ hr rfl (by omega) (by omega) (by decide) (by omega) (by omega) (by omega) (by omega)) (bad8 h (by simp))) ?_
    intro x y z u x' y' z' u' r' _ hr hc hb
    obtain ⟨hx, hy, hz, hu, hx', hy', hz', hu', hb⟩ := isBs8 hb
    have hn := n64 hx hy hz hu hx' hy' hz' hu'
    exact szAtom (cutOf [207, x, y, z, u, x', y', z', u'] r' 9 rfl (by omega)) (gs_fix w g o _ c 207 9 0 9 (x :: y :: z :: u :: x' :: y' :: z' :: u' :: r') hr rfl (by omega) (by omega) (by decide) (by omega) (by omega) (by omega) (by omega)) (at207 x y z u x' y' z' u' r')
  · subst hv; revert hb; revert hc; revert hr; refine form1 (fun r => RB w g o (208 :: r) → (208 :: r).length ≤ c → isBs r → SizeOf w g o (208 :: r).length c (208 :: r) (hdOf (208 :: r))) r (fun h hr hc _ => szShort (s := 2) (a := 0) (by simp only [List.length_cons]; omega) (gs_fix w g o _ c 208 2 0 8 _ hr rfl (by omega) (by omega) (by decide) (by omega) (by omega) (by omega) (by omega)) (bad1 h (by simp))) ?_
    intro x r' _ hr hc hb
    have hx := hb.head
    have hb := hb.tail
    have hn : 0 ≤ x ∧ x < 256 := hx
    exact szAtom (cutOf [208, x] r' 2 rfl (by omega)) (gs_fix w g o _ c 208 2 0 8 (x :: r') hr rfl (by omega) (by omega) (by decide) (by omega) (by omega) (by omega) (by omega)) (at208 x r')
  · subst hv; revert hb; revert hc; revert hr; refine form2 (fun r => RB w g o (209 :: r) → (209 :: r).length ≤ c → isBs r → SizeOf w g o (209 :: r).length c (209 :: r) (hdOf (209 :: r))) r (fun h hr hc _ => szShort (s := 3) (a := 0) (by simp only [List.length_cons]; omega) (gs_fix w g o _ c 209 3 0 8 _ hr rfl (by omega) (by omega) (by decide) (by omega) (by omega) (by omega) (by omega)) (bad2 h (by simp))) ?_
    intro x y r' _ hr hc hb
    obtain ⟨hx, hy, hb⟩ := isBs2 hb
    have hn := n16 hx hy
    exact szAtom (cutOf [209, x, y] r' 3 rfl (by omega)) (gs_fix w g o _ c 209 3 0 8 (x :: y :: r') hr rfl (by omega) (by omega) (by decide) (by omega) (by omega) (by omega) (by omega)) (at209 x y r')
  · subst hv; revert hb; revert hc; revert hr; refine form4 (fun r => RB w g o (210 :: r) → (210 :: r).length ≤ c → isBs r → SizeOf w g o (210 :: r).length c (210 :: r) (hdOf (210 :: r))) r (fun h hr hc _ => szShort (s := 5) (a := 0) (by simp only [List.length_cons]; omega) (gs_fix w g o _ c 210 5 0 8 _ hr rfl (by omega) (by omega) (by decide) (by omega) (by omega) (by omega) (by omega)) (bad4 h (by simp))) ?_
    intro x y z u r' _ hr hc hb
    obtain ⟨hx, hy, hz, hu, hb⟩ := isBs4 hb
    have hn := n32 hx hy hz hu
    exact szAtom (cutOf [210, x, y, z, u] r' 5 rfl (by omega)) (gs_fix w g o _ c 210 5 0 8 (x :: y :: z :: u :: r') hr rfl (by omega) (by omega) (by decide) (by omega) (by omega) (by omega) (by omega)) (at210 x y z u r')
  · subst hv; revert hb; revert hc; revert hr; refine form8 (fun r => RB w g o (211 :: r) → (211 :: r).length ≤ c → isBs r → SizeOf w g o (211 :: r).length c (211 :: r) (hdOf (211 :: r))) r (fun h hr hc _ => szShort (s := 9) (a := 0) (by simp only [List.length_cons]; omega) (gs_fix w g o _ c 211 9 0 8 _ hr rfl (by omega) (by omega) (by decide) (by omega) (by omega) (by omega) (by omega)) (bad8 h (by simp))) ?_
    intro x y z u x' y' z' u' r' _ hr hc hb
    obtain ⟨hx, hy, hz, hu, hx', hy', hz', hu', hb⟩ := isBs8 hb
    have hn := n64 hx hy hz hu hx' hy' hz' hu'
    exact szAtom (cutOf [211, x, y, z, u, x', y', z', u'] r' 9 rfl (by omega)) (gs_fix w g o _ c 211 9 0 8 (x :: y :: z :: u :: x' :: y' :: z' :: u' :: r') hr rfl (by omega) (by omega) (by decide) (by omega) (by omega) (by omega) (by omega)) (at211 x y z u x' y' z' u' r')
  · subst hv
    by_cases hlt : r.length < 1
    · exact szShort (by simp only [List.length_cons]; omega) (gs_fix w g o _ c 212 3 0 12 r hr rfl (by omega) (by omega) (by decide) (by omega) (by omega) (by omega) (by omega)) (by simp [hdOf]; exact List.length_eq_zero_iff.1 (by omega))
    · have he : hdOf (212 :: r) = .ext := by simp [hdOf]; intro h; subst h; simp at hlt
      rw [he]; trivial
  · subst hv
    by_cases hlt : r.length < 1
    · exact szShort (by simp only [List.length_cons]; omega) (gs_fix w g o _ c 213 4 0 12 r hr rfl (by omega) (by omega) (by decide) (by omega) (by omega) (by omega) (by omega)) (by simp [hdOf]; exact List.length_eq_zero_iff.1 (by omega))
    · have he : hdOf (213 :: r) = .ext := by simp [hdOf]; intro h; subst h; simp at hlt
      rw [he]; trivial
  · subst hv
    by_cases hlt : r.length < 1
    · exact szShort (by simp only [List.length_cons]; omega) (gs_fix w g o _ c 214 6 0 12 r hr rfl (by omega) (by omega) (by decide) (by omega) (by omega) (by omega) (by omega)) (by simp [hdOf]; exact List.length_eq_zero_iff.1 (by omega))
    · have he : hdOf (214 :: r) = .ext := by simp [hdOf]; intro h; subst h; simp at hlt
      rw [he]; trivial
  · subst hv
    by_cases hlt : r.length < 1
    · exact szShort (by simp only [List.length_cons]; omega) (gs_fix w g o _ c 215 10 0 12 r hr rfl (by omega) (by omega) (by decide) (by omega) (by omega) (by omega) (by omega)) (by simp [hdOf]; exact List.length_eq_zero_iff.1 (by omega))
    · have he : hdOf (215 :: r) = .ext := by simp [hdOf]; intro h; subst h; simp at hlt
      rw [he]; trivial
  · subst hv
    by_cases hlt : r.length < 1
    · exact szShort (by simp only [List.length_cons]; omega) (gs_fix w g o _ c 216 18 0 12 r hr rfl (by omega) (by omega) (by decide) (by omega) (by omega) (by omega) (by omega)) (by simp [hdOf]; exact List.length_eq_zero_iff.1 (by omega))
    · have he : hdOf (216 :: r) = .ext := by simp [hdOf]; intro h; subst h; simp at hlt
      rw [he]; trivial
  · subst hv; revert hb; revert hc; revert hr; refine form1 (fun r => RB w g o (217 :: r) → (217 :: r).length ≤ c → isBs r → SizeOf w g o (217 :: r).length c (217 :: r) (hdOf (217 :: r))) r (fun h hr hc _ => szErr (gs_217s w g o _ c _ hg hr rfl (by simp only [List.length_cons]; omega)) (bad1 h (by simp))) ?_
    intro x r' _ hr hc hb
    have hx := hb.head
    have hb := hb.tail
    have hn : 0 ≤ x ∧ x < 256 := hx
    exact szBlob (fun h => by simp only [List.length_cons]; omega) (fun h => cutBlob [217, x] r' _ h (by simp) (by simp only [List.length_cons, List.length_nil]; omega)) (gs_217 w g o _ c x r' hr (by simp) hc hx) (at217 x r')
  · subst hv; revert hb; revert hc; revert hr; refine form2 (fun r => RB w g o (218 :: r) → (218 :: r).length ≤ c → isBs r → SizeOf w g o (218 :: r).length c (218 :: r) (hdOf (218 :: r))) r (fun h hr hc _ => szErr (gs_218s w g o _ c _ hg hr rfl (by simp only [List.length_cons]; omega)) (bad2 h (by simp))) ?_
    intro x y r' _ hr hc hb
    obtain ⟨hx, hy, hb⟩ := isBs2 hb
    have hn := n16 hx hy
    exact szBlob (fun h => by simp only [List.length_cons]; omega) (fun h => cutBlob [218, x, y] r' _ h (by simp) (by simp only [List.length_cons, List.length_nil]; omega)) (gs_218 w g o _ c x y r' hr (by simp) hc hx hy) (at218 x y r')
  · subst hv; revert hb; revert hc; revert hr; refine form4 (fun r => RB w g o (219 :: r) → (219 :: r).length ≤ c → isBs r → SizeOf w g o (219 :: r).length c (219 :: r) (hdOf (219 :: r))) r (fun h hr hc _ => szErr (gs_219s w g o _ c _ hg hr rfl (by simp only [List.length_cons]; omega)) (bad4 h (by simp))) ?_
    intro x y z u r' _ hr hc hb
    obtain ⟨hx, hy, hz, hu, hb⟩ := isBs4 hb
    have hn := n32 hx hy hz hu
    exact szBlob (fun h => by simp only [List.length_cons]; omega) (fun h => cutBlob [219, x, y, z, u] r' _ h (by simp) (by simp only [List.length_cons, List.length_nil]; omega)) (gs_219 w g o _ c x y z u r' hr (by simp) hc hx hy hz hu) (at219 x y z u r')
  · subst hv; revert hb; revert hc; revert hr; refine form2 (fun r => RB w g o (220 :: r) → (220 :: r).length ≤ c → isBs r → SizeOf w g o (220 :: r).length c (220 :: r) (hdOf (220 :: r))) r (fun h hr hc _ => szErr (gs_220s w g o _ c _ hg hr rfl (by simp only [List.length_cons]; omega)) (bad2 h (by simp))) ?_
    intro x y r' _ hr hc hb
    obtain ⟨hx, hy, hb⟩ := isBs2 hb
    have hn := n16 hx hy
    exact szComp (cutOf [220, x, y] r' 3 rfl (by omega)) (by omega) (by omega) (gs_220 w g o _ c x y r' hr (by simp) hc hx hy) (at220 x y r')
  · subst hv; revert hb; revert hc; revert hr; refine form4 (fun r => RB w g o (221 :: r) → (221 :: r).length ≤ c → isBs r → SizeOf w g o (221 :: r).length c (221 :: r) (hdOf (221 :: r))) r (fun h hr hc _ => szErr (gs_221s w g o _ c _ hg hr rfl (by simp only [List.length_cons]; omega)) (bad4 h (by simp))) ?_
    intro x y z u r' _ hr hc hb
    obtain ⟨hx, hy, hz, hu, hb⟩ := isBs4 hb
    have hn := n32 hx hy hz hu
    exact szComp (cutOf [221, x, y, z, u] r' 5 rfl (by omega)) (by omega) (by omega) (gs_221 w g o _ c x y z u r' hr (by simp) hc hx hy hz hu) (at221 x y z u r')
  · subst hv; revert hb; revert hc; revert hr; refine form2 (fun r => RB w g o (222 :: r) → (222 :: r).length ≤ c → isBs r → SizeOf w g o (222 :: r).length c (222 :: r) (hdOf (222 :: r))) r (fun h hr hc _ => szErr (gs_222s w g o _ c _ hg hr rfl (by simp only [List.length_cons]; omega)) (bad2 h (by simp))) ?_
    intro x y r' _ hr hc hb
    obtain ⟨hx, hy, hb⟩ := isBs2 hb
    have hn := n16 hx hy
    exact szComp (cutOf [222, x, y] r' 3 rfl (by omega)) (by omega) (by omega) (gs_222 w g o _ c x y r' hr (by simp) hc hx hy) (at222 x y r')
  · subst hv; revert hb; revert hc; revert hr; refine form4 (fun r => RB w g o (223 :: r) → (223 :: r).length ≤ c → isBs r → SizeOf w g o (223 :: r).length c (223 :: r) (hdOf (223 :: r))) r (fun h hr hc _ => szErr (gs_223s w g o _ c _ hg hr rfl (by simp only [List.length_cons]; omega)) (bad4 h (by simp))) ?_
    intro x y z u r' _ hr hc hb
    obtain ⟨hx, hy, hz, hu, hb⟩ := isBs4 hb
    have hn := n32 hx hy hz hu
    exact szComp (cutOf [223, x, y, z, u] r' 5 rfl (by omega)) (by omega) (by omega) (gs_223 w g o _ c x y z u r' hr (by simp) hc hx hy hz hu) (at223 x y z u r')

theorem skip_any (d : Nat) (hd : d ≤ 900) (w : World) (g o c : Nat) (l : List Int) (hr : RB w g o l) (hB : isBs l) (hc : l.length ≤ c) (hl : l.length ≤ 60000) (hg : Glob w) (hs : parse d l ≠ .unsaid) : Calls Tryz.prog 51 #[.slice (some ⟨g, o, none⟩) l.length c, .int .i64 0] w (SkipPost w g (parse d l)) :=
  skip_of sizeOf_any d hd 0 (by omega) (by omega) w g o c l hr hB hc hl hg hs
set_option maxRecDepth 100000 in
theorem skip24 (w : World) (v : Value) (P : Ending → World → Prop) (H : Calls Tryz.prog 51 #[v, .int .i64 0] w fun e w' => ∃ a E, e = .returned (.tuple #[a, E]) ∧ P e w') : Calls Tryz.prog 24 #[v] w P := by
  have HH := Lib.hid H
  clear H
  go_enter Tryz.func24, Tryz.ntmps24
  go_wp2_with (go_at_call 51; refine HH.out.mono ?_; rintro e w1 ⟨a, E, rfl, hp⟩)
  exact hp
theorem code_err (w : World) (hg : Glob w) (E : Value) (h : IsErr E) : Calls Tryz.prog 26 #[E] w fun e w' => ∃ cd : Int, e = .returned (.int .i64 cd) ∧ (cd == 0) = false ∧ Below w.heap.size w w' := by
  obtain ⟨t, v, rfl, ⟨rfl, rfl⟩ | rfl⟩ := h
  · exact (code_short w hg).mono fun e w' ⟨h1, h2⟩ => ⟨1, h1, rfl, h2⟩
  · exact (code_pre v w hg).mono fun e w' ⟨h1, h2⟩ => ⟨4, h1, rfl, h2⟩

/-- What the program's Skip hands back. -/
def SkipIs (w : World) (R : Res) (e : Ending) (w' : World) : Prop := ∃ (left cd : Int), e = .returned (.tuple #[.int .i64 left, .int .i64 cd]) ∧ Below w.heap.size w w' ∧
  match R with
  | .bad => (cd == 0) = false
  | .unsaid => True
  | .ok out r => cd = 0 ∧ left = (r.length : Int)
set_option maxRecDepth 100000 in
theorem skip10_bad (w : World) (A : Option Addr) (n c : Nat) (hg : Glob w) (HC : Calls Tryz.prog 25 #[.slice A n c] w fun e w' => ∃ v, e = .returned v ∧ Below w.heap.size w w' ∧ (∀ W, Below w'.heap.size w' W → Glob W → Calls Tryz.prog 24 #[v] W fun e W' => ∃ A1 n1 c1 E, e = .returned (.tuple #[.slice A1 n1 c1, E]) ∧ IsErr E ∧ Below W.heap.size W W')) : Calls Tryz.prog 10 #[.slice A n c] w (SkipIs w .bad) := by
  have HH := Lib.hid HC
  have G := Lib.hid hg
  clear HC hg
  go_enter Tryz.func10, Tryz.ntmps10
  go_wp2_with (first | (go_at_call 25; refine HH.out.mono ?_; rintro e w1 ⟨v, rfl, hb, hk0⟩; have hk := Lib.hid hk0; clear hk0) | (go_at_call 24; refine (hk.out w1 (Below.refl _ _) (G.out.below hb)).mono ?_; rintro e w2 ⟨A1, n1, c1, E, rfl, hE, hb2⟩; have HE := Lib.hid hE; clear hE) | (go_at_call 26; refine (code_err _ ((G.out.below hb).below hb2) _ HE.out).mono ?_; rintro e w3 ⟨cd, rfl, hcd, hb3⟩))
  go_ret2
  exact ⟨_, _, rfl, belowT (belowT hb hb2) hb3, hcd⟩
set_option maxRecDepth 100000 in
theorem skip10_ok (w : World) (A : Option Addr) (n c : Nat) (out r : List Int) (hg : Glob w) (HC : Calls Tryz.prog 25 #[.slice A n c] w fun e w' => ∃ v, e = .returned v ∧ Below w.heap.size w w' ∧ (∀ W, Below w'.heap.size w' W → Glob W → Calls Tryz.prog 24 #[v] W fun e W' => ∃ A1 c1, e = .returned (.tuple #[.slice A1 r.length c1, .nilIface]) ∧ Below W.heap.size W W')) : Calls Tryz.prog 10 #[.slice A n c] w (SkipIs w (.ok out r)) := by
  have HH := Lib.hid HC
  have G := Lib.hid hg
  clear HC hg
  go_enter Tryz.func10, Tryz.ntmps10
  go_wp2_with (first | (go_at_call 25; refine HH.out.mono ?_; rintro e w1 ⟨v, rfl, hb, hk0⟩; have hk := Lib.hid hk0; clear hk0) | (go_at_call 24; refine (hk.out w1 (Below.refl _ _) (G.out.below hb)).mono ?_; rintro e w2 ⟨A1, c1, rfl, hb2⟩) | (go_at_call 26; refine (code_nil _).mono ?_; rintro e w3 ⟨rfl, rfl⟩))
  go_ret2
  exact ⟨_, _, rfl, belowT hb hb2, rfl, rfl⟩
theorem skip10_any (d : Nat) (hd : d ≤ 900) (w : World) (A : Option Addr) (n c : Nat) (l : List Int) (hr : CB w A l) (hB : isBs l) (hn : n = l.length) (hl : n ≤ 60000) (hg : Glob w) (hs : parse d l ≠ .unsaid) : Calls Tryz.prog 10 #[.slice A n c] w (SkipIs w (parse d l)) := by
  subst hn
  rcases l with _ | ⟨x, l⟩
  · rw [p_bad (show hdOf [] = .bad from rfl)]
    refine skip10_bad w A 0 c hg ((clone_any w A c [] hr (by simp)).mono ?_)
    rintro e w' ⟨v, rfl, hR, hb⟩
    obtain ⟨A1, c1, rfl, _, _⟩ := hR.reads
    refine ⟨_, rfl, hb, fun W hW hgW => skip24 W _ _ ?_⟩
    exact (sk_err W A1 0 c1 0 (by omega) (by omega) 212 (.agg #[]) 0 0 (gs_nil W A1 c1 hgW)).mono fun e w1 ⟨h1, h2⟩ => ⟨_, _, h1, _, _, _, _, h1, isErr_short, h2⟩
  · have HS := fun (W : World) (g c1 : Nat) (h1 : (x :: l).length ≤ c1) (h2 : RB W g 0 (x :: l)) (h3 : Glob W) => skip_any d hd W g 0 c1 (x :: l) h2 hB h1 hl h3 hs
    have HCL := clone_rb w A _ c (x :: l) hr rfl (by simp) (by omega)
    cases hp : parse d (x :: l) with
    | unsaid => exact absurd hp hs
    | bad =>
      refine skip10_bad w A _ c hg (HCL.mono ?_)
      rintro e w' ⟨g, c1, rfl, hrb, hb⟩
      refine ⟨_, rfl, hb, fun W hW hgW => skip24 W _ _ ?_⟩
      refine (HS W g c1 hrb.out.1 (hrb.out.2.below hW) hgW).mono fun e w1 h => ?_
      rw [hp] at h
      obtain ⟨A1, n1, c2, E, rfl, h2, h3⟩ := h
      exact ⟨_, _, rfl, _, _, _, _, rfl, h3, h2⟩
    | ok out r =>
      refine skip10_ok w A _ c out r hg (HCL.mono ?_)
      rintro e w' ⟨g, c1, rfl, hrb, hb⟩
      refine ⟨_, rfl, hb, fun W hW hgW => skip24 W _ _ ?_⟩
      refine (HS W g c1 hrb.out.1 (hrb.out.2.below hW) hgW).mono fun e w1 h => ?_
      rw [hp] at h
      obtain ⟨A1, n1, c2, E, rfl, h2, rfl, rfl, _⟩ := h
      exact ⟨_, _, rfl, _, _, rfl, h2⟩
end Go.Proofs.YtmliokplekeljaaGreatDoor.M

namespace Go.Proofs.YtmliokplekeljaaGreatDoor.M
open Go.RowKit Go.Proofs.YtmliokplekeljaaGreatDoorW.PrintWords
set_option linter.unusedVariables false
set_option linter.unusedSimpArgs false

set_option maxRecDepth 100000 in
theorem law5_no (w : World) (A : Option Addr) (n c : Nat) (H : Calls Tryz.prog 6 #[.slice A n c] w fun e w' => e = .returned (.bool false) ∧ Below w.heap.size w w') : Calls Tryz.prog 5 #[.slice A n c] w (Yes w) := by
  have HH := Lib.hid H
  clear H
  go_enter Tryz.func5, Tryz.ntmps5
  go_wp2_with (go_at_call 6; refine HH.out.mono ?_; rintro e w1 ⟨rfl, hb⟩)
  all_goals first
    | (go_ret; exact ⟨rfl, hb⟩)
    | (go_ret; exact ⟨rfl, Below.refl _ _⟩)
set_option maxRecDepth 100000 in
theorem law5_bad (w : World) (A : Option Addr) (n c : Nat) (hg : Glob w) (hl : n ≤ 4096) (H6 : Calls Tryz.prog 6 #[.slice A n c] w fun e w' => e = .returned (.bool true) ∧ Below w.heap.size w w')
    (H7 : ∀ W : World, Below w.heap.size w W → Calls Tryz.prog 7 #[.slice A n c, .int .i64 50] W (TreePost W .bad)) (H9 : ∀ W : World, Below w.heap.size w W → Calls Tryz.prog 10 #[.slice A n c] W (SkipIs W .bad)) : Calls Tryz.prog 5 #[.slice A n c] w (Yes w) := by
  have HH6 := Lib.hid H6
  have HH7 := Lib.hid H7
  have HH9 := Lib.hid H9
  have G := Lib.hid hg
  have hlt : (n : Int) ≤ 4096 := by omega
  clear H6 H7 H9 hg hl
  go_enter Tryz.func5, Tryz.ntmps5
  go_wp2_with (first | (go_at_call 6; refine HH6.out.mono ?_; rintro e w1 ⟨rfl, hb⟩) | (go_at_call 7; refine (HH7.out w1 hb).mono ?_; rintro e w2 ⟨v, left, is, said, rfl, hb2, rfl, rfl⟩) | (go_at_call 10; refine (HH9.out w2 (belowT hb hb2)).mono ?_; rintro e w3 ⟨left', cd, rfl, hb3, hcd⟩) | (go_at_call 8; refine (right_ok w3 (G.out.below (belowT (belowT hb hb2) hb3))).mono ?_; rintro e w4 ⟨rfl, hb4⟩))
  go_ret
  exact ⟨rfl, belowT (belowT (belowT hb hb2) hb3) hb4⟩
set_option maxRecDepth 100000 in
theorem law5_ok (w : World) (A : Option Addr) (n c : Nat) (out r : List Int) (hg : Glob w) (hl : n ≤ 4096) (H6 : Calls Tryz.prog 6 #[.slice A n c] w fun e w' => e = .returned (.bool true) ∧ Below w.heap.size w w')
    (H7 : ∀ W : World, Below w.heap.size w W → Calls Tryz.prog 7 #[.slice A n c, .int .i64 50] W (TreePost W (.ok out r))) (H9 : ∀ W : World, Below w.heap.size w W → Calls Tryz.prog 10 #[.slice A n c] W (SkipIs W (.ok out r))) : Calls Tryz.prog 5 #[.slice A n c] w (Yes w) := by
  have HH6 := Lib.hid H6
  have HH7 := Lib.hid H7
  have HH9 := Lib.hid H9
  have G := Lib.hid hg
  have hlt : (n : Int) ≤ 4096 := by omega
  clear H6 H7 H9 hg hl
  go_enter Tryz.func5, Tryz.ntmps5
  go_wp2_with (first | (go_at_call 6; refine HH6.out.mono ?_; rintro e w1 ⟨rfl, hb⟩) | (go_at_call 7; refine (HH7.out w1 hb).mono ?_; rintro e w2 ⟨v, left, is, said, rfl, hb2, rfl, rfl, rfl, A2, c2, rfl, hc2, hr2⟩) | (go_at_call 10; refine (HH9.out w2 (belowT hb hb2)).mono ?_; rintro e w3 ⟨left', cd, rfl, hb3, rfl, rfl⟩) | (go_at_call 8; refine (right_ok w3 (G.out.below (belowT (belowT hb hb2) hb3))).mono ?_; rintro e w4 ⟨rfl, hb4⟩))
  go_ret
  exact ⟨rfl, belowT (belowT (belowT hb hb2) hb3) hb4⟩
theorem law5 (w : World) (A : Option Addr) (n c : Nat) (l : List Int) (hr : CB w A l) (hB : isBs l) (hn : n = l.length) (hc : n ≤ c) (hg : Glob w) : Calls Tryz.prog 5 #[.slice A n c] w (Yes w) := by
  by_cases h : 4096 < n ∨ parse 51 l = .unsaid
  · exact law5_no w A n c (asked_no w A n c l hr hB hn hc h)
  · have hl : n ≤ 4096 := by by_cases q : 4096 < n; exact absurd (Or.inl q) h; omega
    have hs : parse 51 l ≠ .unsaid := fun q => h (Or.inr q)
    have H6 := asked_yes w A n c l hr hB hn hc hl hs
    have H7 := fun (W : World) (hb : Below w.heap.size w W) => tree50 W A n c l (Kd.C_below hr hb) hB hn hc hl
    have H9 := fun (W : World) (hb : Below w.heap.size w W) => skip10_any 51 (by omega) W A n c l (Kd.C_below hr hb) hB hn (by omega) (hg.below hb) hs
    cases hh : parse 51 l with
    | unsaid => exact absurd hh hs
    | bad => rw [hh] at H7 H9; exact law5_bad w A n c hg hl H6 H7 H9
    | ok out r => rw [hh] at H7 H9; exact law5_ok w A n c out r hg hl H6 H7 H9
end Go.Proofs.YtmliokplekeljaaGreatDoor.M
