/- The law's anew: heads, and what is no list. -/
import Derived.Test.YtmliokplekeljaaGreatDoorN17
import Derived.Deep.LoopGhost
namespace Go.Proofs.YtmliokplekeljaaGreatDoor.M
open Go.RowKit Go.Proofs.YtmliokplekeljaaGreatDoorW.PrintWords
set_option linter.unusedVariables false
set_option linter.unusedSimpArgs false

/-- A list's head, read. -/
def HeadsA (w : World) (A : Option Addr) (n c : Nat) : Hd → Prop
  | .bad => ∀ W : World, Below w.heap.size w W → Calls Tryz.prog 20 #[.slice A n c] W (RetC (.int .u32 0) 0 1 W)
  | .comp h r k => ∃ N : Int, h = arrH N ∧ k = N.toNat ∧ 0 ≤ N ∧ N < 4294967296 ∧ ∀ W : World, Below w.heap.size w W → Calls Tryz.prog 20 #[.slice A n c] W (RetC (.int .u32 N) r.length 0 W)
  | _ => False
/-- A map's head, read, first as a list's. -/
def HeadsM (w : World) (A : Option Addr) (n c : Nat) (H : Hd) : Prop :=
  (∀ W : World, Below w.heap.size w W → ∃ m, Calls Tryz.prog 20 #[.slice A n c] W (RetC (.int .u32 0) m 2 W)) ∧ match H with
  | .bad => ∀ W : World, Below w.heap.size w W → Calls Tryz.prog 22 #[.slice A n c] W (RetC (.int .u32 0) 0 1 W)
  | .comp h r k => ∃ N : Int, h = mapH N ∧ k = 2 * N.toNat ∧ 0 ≤ N ∧ N < 4294967296 ∧ ∀ W : World, Below w.heap.size w W → Calls Tryz.prog 22 #[.slice A n c] W (RetC (.int .u32 N) r.length 0 W)
  | _ => False

section
variable {w : World} {A : Option Addr} {c : Nat} {l : List Int}
theorem ha {x : Int} {m : Nat} {h r : List Int} {k : Nat} (hr : CB w A l) (h0 : 0 < l.length) (hl : l.length ≤ 60000) (hg : Glob w) (H : Reads 47 l (.int .u32 x) r.length .nilIface) (x0 : 0 ≤ x) (x1 : x < 4294967296) (he : hdOf l = .comp (arrH x) r x.toNat) : HeadsA w A l.length c (hdOf l) := by
  rw [he]; exact ⟨x, rfl, rfl, x0, x1, fun W hb => w20_ok W A _ c l x _ (Kd.C_below hr hb) rfl h0 (by omega) (hg.below hb) H⟩
theorem has (hr : CB w A l) (h0 : 0 < l.length) (hl : l.length ≤ 60000) (hg : Glob w) (H : Reads 47 l (.int .u32 0) 0 eShort) (he : hdOf l = .bad) : HeadsA w A l.length c (hdOf l) := by
  rw [he]; exact fun W hb => w20_short W A _ c l _ 0 (Kd.C_below hr hb) rfl h0 (by omega) (hg.below hb) H
theorem hm {x : Int} {m : Nat} {h r : List Int} {k : Nat} (hr : CB w A l) (h0 : 0 < l.length) (hl : l.length ≤ 60000) (hg : Glob w) {m0 : Nat} (H0 : Reads 47 l (.int .u32 0) m0 eMap) (H : Reads 49 l (.int .u32 x) r.length .nilIface) (x0 : 0 ≤ x) (x1 : x < 4294967296) (he : hdOf l = .comp (mapH x) r (2 * x.toNat)) : HeadsM w A l.length c (hdOf l) := by
  rw [he]; exact ⟨fun W hb => ⟨m0, w20_map W A _ c l _ m0 (Kd.C_below hr hb) rfl h0 (by omega) (hg.below hb) H0⟩, x, rfl, rfl, x0, x1, fun W hb => w22_ok W A _ c l x _ (Kd.C_below hr hb) rfl h0 (by omega) (hg.below hb) H⟩
theorem hms (hr : CB w A l) (h0 : 0 < l.length) (hl : l.length ≤ 60000) (hg : Glob w) {m0 : Nat} (H0 : Reads 47 l (.int .u32 0) m0 eMap) (H : Reads 49 l (.int .u32 0) 0 eShort) (he : hdOf l = .bad) : HeadsM w A l.length c (hdOf l) := by
  rw [he]; exact ⟨fun W hb => ⟨m0, w20_map W A _ c l _ m0 (Kd.C_below hr hb) rfl h0 (by omega) (hg.below hb) H0⟩, fun W hb => w22_short W A _ c l _ 0 (Kd.C_below hr hb) rfl h0 (by omega) (hg.below hb) H⟩
end

theorem lead4 (v : Int) (h0 : 0 ≤ v) (h1 : v < 256) (hk : (bs v).2.2 = 4) : (144 ≤ v ∧ v < 160) ∨ v = 220 ∨ v = 221 := by
  rcases lead_cases v h0 h1 with hv | ⟨ha, hv⟩ | ⟨ha, hv⟩ | ⟨ha, hv⟩ | hv | hv | hv | hv | hv | hv | hv | hv | hv | hv | hv | hv | hv | hv | hv | hv | hv | hv | hv | hv | hv | hv | hv | hv | hv | hv | hv | hv | hv | hv | hv | hv | hv
  · rw [kd_fixint hv] at hk; omega
  · rw [kd_fixmap ha hv] at hk; omega
  · exact Or.inl ⟨ha, hv⟩
  · rw [kd_fixstr ha hv] at hk; omega
  · rw [kd_nfix hv] at hk; omega
  all_goals first
    | exact Or.inr (Or.inl hv)
    | exact Or.inr (Or.inr hv)
    | (subst hv; exact absurd hk (by decide))
theorem lead3 (v : Int) (h0 : 0 ≤ v) (h1 : v < 256) (hk : (bs v).2.2 = 3) : (128 ≤ v ∧ v < 144) ∨ v = 222 ∨ v = 223 := by
  rcases lead_cases v h0 h1 with hv | ⟨ha, hv⟩ | ⟨ha, hv⟩ | ⟨ha, hv⟩ | hv | hv | hv | hv | hv | hv | hv | hv | hv | hv | hv | hv | hv | hv | hv | hv | hv | hv | hv | hv | hv | hv | hv | hv | hv | hv | hv | hv | hv | hv | hv | hv | hv
  · rw [kd_fixint hv] at hk; omega
  · exact Or.inl ⟨ha, hv⟩
  · rw [kd_fixarr ha hv] at hk; omega
  · rw [kd_fixstr ha hv] at hk; omega
  · rw [kd_nfix hv] at hk; omega
  all_goals first
    | exact Or.inr (Or.inl hv)
    | exact Or.inr (Or.inr hv)
    | (subst hv; exact absurd hk (by decide))

theorem heads4 (w : World) (A : Option Addr) (c : Nat) (l : List Int) (hr : CB w A l) (hB : isBs l) (hl : l.length ≤ 60000) (hg : Glob w) (hk : kd l = 4) : HeadsA w A l.length c (hdOf l) := by
  rcases l with _ | ⟨v, r⟩
  · exact absurd hk (by decide)
  obtain ⟨h0, h1⟩ := hB.head
  have hb := hB.tail
  rcases lead4 v h0 h1 hk with ⟨hv, hv'⟩ | hv | hv
  · exact ha hr (by simp) hl hg (fun W g c h1 h2 h3 => rah_fix W g 0 _ c v r h1 rfl h2 hv hv') (by omega) (by omega) (hdOf_fixarr hv hv') (m := 0) (h := []) (k := 0)
  · subst hv; clear hk hB h0 h1; revert hb; revert hl; revert hr
    refine form2 (fun r => CB w A (220 :: r) → (220 :: r).length ≤ 60000 → isBs r → HeadsA w A (220 :: r).length c (hdOf (220 :: r))) r (fun h hr hl _ => has hr (by simp) hl hg (fun W g c h1 h2 h3 => rah_220s W g 0 _ c _ h3 h1 rfl h2 h) (bad2 h (by simp))) ?_
    intro x y r' _ hr hl hb
    obtain ⟨hx, hy, hb⟩ := isBs2 hb
    have hn := n16 hx hy
    exact ha hr (by simp) hl hg (fun W g c h1 h2 h3 => rah_220 W g 0 _ c x y r' h1 rfl h2 hx hy) hn.1 (by omega) (at220 x y r') (m := 0) (h := []) (k := 0)
  · subst hv; clear hk hB h0 h1; revert hb; revert hl; revert hr
    refine form4 (fun r => CB w A (221 :: r) → (221 :: r).length ≤ 60000 → isBs r → HeadsA w A (221 :: r).length c (hdOf (221 :: r))) r (fun h hr hl _ => has hr (by simp) hl hg (fun W g c h1 h2 h3 => rah_221s W g 0 _ c _ h3 h1 rfl h2 h) (bad4 h (by simp))) ?_
    intro x y z u r' _ hr hl hb
    obtain ⟨hx, hy, hz, hu, hb⟩ := isBs4 hb
    have hn := n32 hx hy hz hu
    exact ha hr (by simp) hl hg (fun W g c h1 h2 h3 => rah_221 W g 0 _ c x y z u r' h1 rfl h2 hx hy hz hu) hn.1 hn.2 (at221 x y z u r') (m := 0) (h := []) (k := 0)
theorem heads3 (w : World) (A : Option Addr) (c : Nat) (l : List Int) (hr : CB w A l) (hB : isBs l) (hl : l.length ≤ 60000) (hg : Glob w) (hk : kd l = 3) : HeadsM w A l.length c (hdOf l) := by
  rcases l with _ | ⟨v, r⟩
  · exact absurd hk (by decide)
  obtain ⟨h0, h1⟩ := hB.head
  have hb := hB.tail
  rcases lead3 v h0 h1 hk with ⟨hv, hv'⟩ | hv | hv
  · exact hm hr (by simp) hl hg (fun W g c h1 h2 h3 => rah_mfix W g 0 _ c v r h1 rfl h2 hv hv' hk) (fun W g c h1 h2 h3 => rmh_fix W g 0 _ c v r h1 rfl h2 hv hv') (by omega) (by omega) (hdOf_fixmap hv hv') (m := 0) (h := []) (k := 0)
  · subst hv; clear hB h0 h1; revert hb; revert hl; revert hr
    refine form2 (fun r => CB w A (222 :: r) → (222 :: r).length ≤ 60000 → isBs r → HeadsM w A (222 :: r).length c (hdOf (222 :: r))) r (fun h hr hl _ => hms hr (by simp) hl hg (fun W g c h1 h2 h3 => rah_222m W g 0 _ c _ h1 rfl h2 hk) (fun W g c h1 h2 h3 => rmh_222s W g 0 _ c _ h3 h1 rfl h2 h) (bad2 h (by simp))) ?_
    intro x y r' _ hr hl hb
    obtain ⟨hx, hy, hb⟩ := isBs2 hb
    have hn := n16 hx hy
    exact hm hr (by simp) hl hg (fun W g c h1 h2 h3 => rah_222m W g 0 _ c _ h1 rfl h2 hk) (fun W g c h1 h2 h3 => rmh_222 W g 0 _ c x y r' h1 rfl h2 hx hy) hn.1 (by omega) (at222 x y r') (m := 0) (h := []) (k := 0)
  · subst hv; clear hB h0 h1; revert hb; revert hl; revert hr
    refine form4 (fun r => CB w A (223 :: r) → (223 :: r).length ≤ 60000 → isBs r → HeadsM w A (223 :: r).length c (hdOf (223 :: r))) r (fun h hr hl _ => hms hr (by simp) hl hg (fun W g c h1 h2 h3 => rah_223m W g 0 _ c _ h1 rfl h2 hk) (fun W g c h1 h2 h3 => rmh_223s W g 0 _ c _ h3 h1 rfl h2 h) (bad4 h (by simp))) ?_
    intro x y z u r' _ hr hl hb
    obtain ⟨hx, hy, hz, hu, hb⟩ := isBs4 hb
    have hn := n32 hx hy hz hu
    exact hm hr (by simp) hl hg (fun W g c h1 h2 h3 => rah_223m W g 0 _ c _ h1 rfl h2 hk) (fun W g c h1 h2 h3 => rmh_223 W g 0 _ c x y z u r' h1 rfl h2 hx hy hz hu) hn.1 hn.2 (at223 x y z u r') (m := 0) (h := []) (k := 0)

/-- What anew hands back. -/
def AnewPost (w : World) (R : Res) (e : Ending) (w' : World) : Prop := ∃ (v : Value) (left : Int) (ok : Bool), e = .returned (.tuple #[v, .int .i64 left, .bool ok]) ∧ Below w.heap.size w w' ∧
  match R with
  | .bad => ok = false
  | .unsaid => True
  | .ok out r => ok = true ∧ left = (r.length : Int) ∧ OB w' w.heap.size v out

set_option maxRecDepth 100000 in
theorem anew_plain (w : World) (A : Option Addr) (n c : Nat) (K kk : Int) (h3 : K ≠ 3) (h4 : K ≠ 4) (out : List Int) (m : Nat) (cd : Int) (HK : KindIs K A n c w) (HP : ∀ W : World, Below w.heap.size w W → Calls Tryz.prog 19 #[.slice A n c] W (PlainIs out m cd W)) :
    Calls Tryz.prog 9 #[.slice A n c, .int .i64 kk] w fun e w' => ∃ v, e = .returned (.tuple #[v, .int .i64 (m : Int), .bool (cd == 0)]) ∧ OB w' w.heap.size v out ∧ Below w.heap.size w w' := by
  have HK' := Lib.hid (show Calls Tryz.prog 18 #[.slice A n c] w (fun e w' => e = .returned (.int .i64 K) ∧ Below w.heap.size w w') from HK)
  have HP' := Lib.hid HP
  have q3 : (K != 3) = true := by simpa using h3
  have q4 : (K != 4) = true := by simpa using h4
  clear HK HP
  go_enter Tryz.func9, Tryz.ntmps9
  go_wp2_with (first | (go_at_call 18; refine HK'.out.mono ?_; rintro e w1 ⟨rfl, hb⟩) | (go_at_call 19; refine (HP'.out w1 hb).mono ?_; rintro e w2 ⟨v, rfl, hR, hb2⟩))
  go_ret3
  exact ⟨_, rfl, Kd.R_lower hR hb.size, belowT hb hb2⟩
set_option maxRecDepth 100000 in
theorem anew_badA (w : World) (A : Option Addr) (n c : Nat) (kk : Int) (HK : KindIs 4 A n c w) (HP : ∀ W : World, Below w.heap.size w W → Calls Tryz.prog 20 #[.slice A n c] W (RetC (.int .u32 0) 0 1 W)) :
    Calls Tryz.prog 9 #[.slice A n c, .int .i64 kk] w (AnewPost w .bad) := by
  have HK' := Lib.hid (show Calls Tryz.prog 18 #[.slice A n c] w (fun e w' => e = .returned (.int .i64 4) ∧ Below w.heap.size w w') from HK)
  have HP' := Lib.hid HP
  clear HK HP
  go_enter Tryz.func9, Tryz.ntmps9
  go_wp2_with (first | (go_at_call 18; refine HK'.out.mono ?_; rintro e w1 ⟨rfl, hb⟩) | (go_at_call 20; refine (HP'.out w1 hb).mono ?_; rintro e w2 ⟨rfl, hb2⟩) | (go_at_call 21; refine (prog_arr w2 0 (by decide) (by decide)).mono ?_; rintro e w3 ⟨v, rfl, hR, hb3⟩))
  go_ret3
  exact ⟨_, _, _, rfl, belowT (belowT hb hb2) hb3, rfl⟩
set_option maxRecDepth 100000 in
theorem anew_badM (w : World) (A : Option Addr) (n c : Nat) (kk : Int) (HK : KindIs 3 A n c w) (HA : ∀ W : World, Below w.heap.size w W → ∃ m, Calls Tryz.prog 20 #[.slice A n c] W (RetC (.int .u32 0) m 2 W)) (HP : ∀ W : World, Below w.heap.size w W → Calls Tryz.prog 22 #[.slice A n c] W (RetC (.int .u32 0) 0 1 W)) :
    Calls Tryz.prog 9 #[.slice A n c, .int .i64 kk] w (AnewPost w .bad) := by
  have HK' := Lib.hid (show Calls Tryz.prog 18 #[.slice A n c] w (fun e w' => e = .returned (.int .i64 3) ∧ Below w.heap.size w w') from HK)
  have HP' := Lib.hid HP
  have HA' := Lib.hid HA
  clear HK HP HA
  go_enter Tryz.func9, Tryz.ntmps9
  go_wp2_with (first | (go_at_call 18; refine HK'.out.mono ?_; rintro e w1 ⟨rfl, hb⟩; obtain ⟨m0, HA1⟩ := HA'.out w1 hb; have HA2 := Lib.hid HA1; clear HA1) | (go_at_call 20; refine HA2.out.mono ?_; rintro e w2 ⟨rfl, hb2⟩) | (go_at_call 21; refine (prog_arr w2 0 (by decide) (by decide)).mono ?_; rintro e w3 ⟨v, rfl, hR, hb3⟩) | (go_at_call 22; refine (HP'.out w3 (belowT (belowT hb hb2) hb3)).mono ?_; rintro e w4 ⟨rfl, hb4⟩) | (go_at_call 23; refine (prog_map w4 0 (by decide) (by decide)).mono ?_; rintro e w5 ⟨v5, rfl, hR5, hb5⟩))
  go_ret3
  exact ⟨_, _, _, rfl, belowT (belowT (belowT (belowT hb hb2) hb3) hb4) hb5, rfl⟩
end Go.Proofs.YtmliokplekeljaaGreatDoor.M
