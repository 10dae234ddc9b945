/- The law's plain by contracts, a kind each. -/
import Derived.Test.YtmliokplekeljaaGreatDoorN16
import Derived.Test.YtmliokplekeljaaGreatDoorN07
import Derived.Test.YtmliokplekeljaaGreatDoorN11
namespace Go.Proofs.YtmliokplekeljaaGreatDoor.M
open Go.RowKit Go.Proofs.YtmliokplekeljaaGreatDoorW.PrintWords
set_option linter.unusedVariables false
set_option linter.unusedSimpArgs false

/-- What plain hands back. -/
def PlainIs (out : List Int) (m : Nat) (cd : Int) (w : World) (e : Ending) (w' : World) : Prop := ∃ v, e = .returned (.tuple #[v, .int .i64 (m : Int), .int .i64 cd]) ∧ OB w' w.heap.size v out ∧ Below w.heap.size w w'
def KindIs (K : Int) (A : Option Addr) (n c : Nat) (w : World) : Prop := Calls Tryz.prog 18 #[.slice A n c] w (fun e w' => e = .returned (.int .i64 K) ∧ Below w.heap.size w w')
set_option maxRecDepth 100000 in
theorem plain_1 (w : World) (A : Option Addr) (n c : Nat) (x : ByteArray) (m : Nat) (cd : Int) (out : List Int) (HK : KindIs 1 A n c w)
    (HR : ∀ W : World, Below w.heap.size w W → Calls Tryz.prog 31 #[.slice A n c] W (RetC (.string x) m cd W)) (HW : ∀ W : World, Calls Tryz.prog 32 #[.string x] W (Wrote out W)) :
    Calls Tryz.prog 19 #[.slice A n c] w (PlainIs out m cd w) := by
  have HK' := Lib.hid (show Calls Tryz.prog 18 #[.slice A n c] w (fun e w' => e = .returned (.int .i64 1) ∧ Below w.heap.size w w') from HK)
  have HR' := Lib.hid HR
  have HW' := Lib.hid HW
  clear HK HR HW
  go_enter Tryz.func19, Tryz.ntmps19
  go_wp2_with (first | (go_at_call 18; refine HK'.out.mono ?_; rintro e w1 ⟨rfl, hb⟩) | (go_at_call 31; refine (HR'.out w1 hb).mono ?_; rintro e w2 ⟨rfl, hb2⟩) | (go_at_call 32; refine (HW'.out w2).mono ?_; rintro e w3 ⟨v, rfl, hR, hb3⟩))
  go_ret3
  exact ⟨_, rfl, Kd.R_lower hR (belowT hb hb2).size, belowT (belowT hb hb2) hb3⟩
set_option maxRecDepth 100000 in
theorem plain_5 (w : World) (A : Option Addr) (n c : Nat) (x : Int) (m : Nat) (cd : Int) (out : List Int) (HK : KindIs 5 A n c w)
    (HR : ∀ W : World, Below w.heap.size w W → Calls Tryz.prog 35 #[.slice A n c] W (RetC (.int .u64 x) m cd W)) (HW : ∀ W : World, Calls Tryz.prog 36 #[.int .u64 x] W (Wrote out W)) :
    Calls Tryz.prog 19 #[.slice A n c] w (PlainIs out m cd w) := by
  have HK' := Lib.hid (show Calls Tryz.prog 18 #[.slice A n c] w (fun e w' => e = .returned (.int .i64 5) ∧ Below w.heap.size w w') from HK)
  have HR' := Lib.hid HR
  have HW' := Lib.hid HW
  clear HK HR HW
  go_enter Tryz.func19, Tryz.ntmps19
  go_wp2_with (first | (go_at_call 18; refine HK'.out.mono ?_; rintro e w1 ⟨rfl, hb⟩) | (go_at_call 35; refine (HR'.out w1 hb).mono ?_; rintro e w2 ⟨rfl, hb2⟩) | (go_at_call 36; refine (HW'.out w2).mono ?_; rintro e w3 ⟨v, rfl, hR, hb3⟩))
  go_ret3
  exact ⟨_, rfl, Kd.R_lower hR (belowT hb hb2).size, belowT (belowT hb hb2) hb3⟩
set_option maxRecDepth 100000 in
theorem plain_6 (w : World) (A : Option Addr) (n c : Nat) (x : Int) (m : Nat) (cd : Int) (out : List Int) (HK : KindIs 6 A n c w)
    (HR : ∀ W : World, Below w.heap.size w W → Calls Tryz.prog 37 #[.slice A n c] W (RetC (.int .u32 x) m cd W)) (HW : ∀ W : World, Calls Tryz.prog 38 #[.int .u32 x] W (Wrote out W)) :
    Calls Tryz.prog 19 #[.slice A n c] w (PlainIs out m cd w) := by
  have HK' := Lib.hid (show Calls Tryz.prog 18 #[.slice A n c] w (fun e w' => e = .returned (.int .i64 6) ∧ Below w.heap.size w w') from HK)
  have HR' := Lib.hid HR
  have HW' := Lib.hid HW
  clear HK HR HW
  go_enter Tryz.func19, Tryz.ntmps19
  go_wp2_with (first | (go_at_call 18; refine HK'.out.mono ?_; rintro e w1 ⟨rfl, hb⟩) | (go_at_call 37; refine (HR'.out w1 hb).mono ?_; rintro e w2 ⟨rfl, hb2⟩) | (go_at_call 38; refine (HW'.out w2).mono ?_; rintro e w3 ⟨v, rfl, hR, hb3⟩))
  go_ret3
  exact ⟨_, rfl, Kd.R_lower hR (belowT hb hb2).size, belowT (belowT hb hb2) hb3⟩
set_option maxRecDepth 100000 in
theorem plain_7 (w : World) (A : Option Addr) (n c : Nat) (x : Bool) (m : Nat) (cd : Int) (out : List Int) (HK : KindIs 7 A n c w)
    (HR : ∀ W : World, Below w.heap.size w W → Calls Tryz.prog 39 #[.slice A n c] W (RetC (.bool x) m cd W)) (HW : ∀ W : World, Calls Tryz.prog 40 #[.bool x] W (Wrote out W)) :
    Calls Tryz.prog 19 #[.slice A n c] w (PlainIs out m cd w) := by
  have HK' := Lib.hid (show Calls Tryz.prog 18 #[.slice A n c] w (fun e w' => e = .returned (.int .i64 7) ∧ Below w.heap.size w w') from HK)
  have HR' := Lib.hid HR
  have HW' := Lib.hid HW
  clear HK HR HW
  go_enter Tryz.func19, Tryz.ntmps19
  go_wp2_with (first | (go_at_call 18; refine HK'.out.mono ?_; rintro e w1 ⟨rfl, hb⟩) | (go_at_call 39; refine (HR'.out w1 hb).mono ?_; rintro e w2 ⟨rfl, hb2⟩) | (go_at_call 40; refine (HW'.out w2).mono ?_; rintro e w3 ⟨v, rfl, hR, hb3⟩))
  go_ret3
  exact ⟨_, rfl, Kd.R_lower hR (belowT hb hb2).size, belowT (belowT hb hb2) hb3⟩
set_option maxRecDepth 100000 in
theorem plain_8 (w : World) (A : Option Addr) (n c : Nat) (x : Int) (m : Nat) (cd : Int) (out : List Int) (HK : KindIs 8 A n c w)
    (HR : ∀ W : World, Below w.heap.size w W → Calls Tryz.prog 41 #[.slice A n c, .int .i64 64] W (RetC (.int .i64 x) m cd W)) (HW : ∀ W : World, Calls Tryz.prog 42 #[.int .i64 x] W (Wrote out W)) :
    Calls Tryz.prog 19 #[.slice A n c] w (PlainIs out m cd w) := by
  have HK' := Lib.hid (show Calls Tryz.prog 18 #[.slice A n c] w (fun e w' => e = .returned (.int .i64 8) ∧ Below w.heap.size w w') from HK)
  have HR' := Lib.hid HR
  have HW' := Lib.hid HW
  clear HK HR HW
  go_enter Tryz.func19, Tryz.ntmps19
  go_wp2_with (first | (go_at_call 18; refine HK'.out.mono ?_; rintro e w1 ⟨rfl, hb⟩) | (go_at_call 41; refine (HR'.out w1 hb).mono ?_; rintro e w2 ⟨rfl, hb2⟩) | (go_at_call 42; refine (HW'.out w2).mono ?_; rintro e w3 ⟨v, rfl, hR, hb3⟩))
  go_ret3
  exact ⟨_, rfl, Kd.R_lower hR (belowT hb hb2).size, belowT (belowT hb hb2) hb3⟩
set_option maxRecDepth 100000 in
theorem plain_9 (w : World) (A : Option Addr) (n c : Nat) (x : Int) (m : Nat) (cd : Int) (out : List Int) (HK : KindIs 9 A n c w)
    (HR : ∀ W : World, Below w.heap.size w W → Calls Tryz.prog 43 #[.slice A n c, .int .i64 64] W (RetC (.int .u64 x) m cd W)) (HW : ∀ W : World, Calls Tryz.prog 44 #[.int .u64 x] W (Wrote out W)) :
    Calls Tryz.prog 19 #[.slice A n c] w (PlainIs out m cd w) := by
  have HK' := Lib.hid (show Calls Tryz.prog 18 #[.slice A n c] w (fun e w' => e = .returned (.int .i64 9) ∧ Below w.heap.size w w') from HK)
  have HR' := Lib.hid HR
  have HW' := Lib.hid HW
  clear HK HR HW
  go_enter Tryz.func19, Tryz.ntmps19
  go_wp2_with (first | (go_at_call 18; refine HK'.out.mono ?_; rintro e w1 ⟨rfl, hb⟩) | (go_at_call 43; refine (HR'.out w1 hb).mono ?_; rintro e w2 ⟨rfl, hb2⟩) | (go_at_call 44; refine (HW'.out w2).mono ?_; rintro e w3 ⟨v, rfl, hR, hb3⟩))
  go_ret3
  exact ⟨_, rfl, Kd.R_lower hR (belowT hb hb2).size, belowT (belowT hb hb2) hb3⟩
set_option maxRecDepth 100000 in
theorem plain_2 (w : World) (A : Option Addr) (n c : Nat) (xs : List Int) (m : Nat) (cd : Int) (hx : xs.length ≤ 65535) (HK : KindIs 2 A n c w)
    (HR : ∀ W : World, Below w.heap.size w W → Calls Tryz.prog 33 #[.slice A n c] W (fun e w' => ∃ v, e = .returned (.tuple #[v, .int .i64 (m : Int), .int .i64 cd]) ∧ OB w' W.heap.size v xs ∧ Below W.heap.size W w')) :
    Calls Tryz.prog 19 #[.slice A n c] w (PlainIs (binH (xs.length : Int) ++ xs) m cd w) := by
  have HK' := Lib.hid (show Calls Tryz.prog 18 #[.slice A n c] w (fun e w' => e = .returned (.int .i64 2) ∧ Below w.heap.size w w') from HK)
  have HR' := Lib.hid HR
  have HX := Lib.hid hx
  clear HK HR hx
  go_enter Tryz.func19, Tryz.ntmps19
  go_wp2_with (first | (go_at_call 18; refine HK'.out.mono ?_; rintro e w1 ⟨rfl, hb⟩) | (go_at_call 33; refine (HR'.out w1 hb).mono ?_; rintro e w2 ⟨v, rfl, hO, hb2⟩; obtain ⟨A2, c2, rfl, hc2, hcb⟩ := hO.reads) | (go_at_call 34; refine (prog_bin w2 A2 c2 xs hcb HX.out).mono ?_; rintro e w3 ⟨v, rfl, hR, hb3⟩))
  go_ret3
  exact ⟨_, rfl, Kd.R_lower hR (belowT hb hb2).size, belowT (belowT hb hb2) hb3⟩
set_option maxRecDepth 100000 in
theorem plain_10 (w : World) (A : Option Addr) (n c : Nat) (m : Nat) (cd : Int) (HK : KindIs 10 A n c w)
    (HR : ∀ W : World, Below w.heap.size w W → Calls Tryz.prog 45 #[.slice A n c] W (fun e w' => e = .returned (.tuple #[.int .i64 (m : Int), .int .i64 cd]) ∧ Below W.heap.size W w')) :
    Calls Tryz.prog 19 #[.slice A n c] w (PlainIs [192] m cd w) := by
  have HK' := Lib.hid (show Calls Tryz.prog 18 #[.slice A n c] w (fun e w' => e = .returned (.int .i64 10) ∧ Below w.heap.size w w') from HK)
  have HR' := Lib.hid HR
  clear HK HR
  go_enter Tryz.func19, Tryz.ntmps19
  go_wp2_with (first | (go_at_call 18; refine HK'.out.mono ?_; rintro e w1 ⟨rfl, hb⟩) | (go_at_call 45; refine (HR'.out w1 hb).mono ?_; rintro e w2 ⟨rfl, hb2⟩) | (go_at_call 46; refine (wn w2).mono ?_; rintro e w3 ⟨v, rfl, hR, hb3⟩))
  go_ret3
  exact ⟨_, rfl, Kd.R_lower hR (belowT hb hb2).size, belowT (belowT hb hb2) hb3⟩
set_option maxRecDepth 100000 in
theorem plain_0 (w : World) (A : Option Addr) (n c : Nat) (HK : KindIs 0 A n c w) : Calls Tryz.prog 19 #[.slice A n c] w (PlainIs [] 0 5 w) := by
  have HK' := Lib.hid (show Calls Tryz.prog 18 #[.slice A n c] w (fun e w' => e = .returned (.int .i64 0) ∧ Below w.heap.size w w') from HK)
  clear HK
  go_enter Tryz.func19, Tryz.ntmps19
  go_wp2_with (go_at_call 18; refine HK'.out.mono ?_; rintro e w1 ⟨rfl, hb⟩)
  go_ret3
  exact ⟨_, rfl, Kd.R_nil _ _ _ _ _, hb⟩
set_option maxRecDepth 100000 in
theorem plain_12 (w : World) (A : Option Addr) (n c : Nat) (HK : KindIs 12 A n c w) : Calls Tryz.prog 19 #[.slice A n c] w (PlainIs [] 0 5 w) := by
  have HK' := Lib.hid (show Calls Tryz.prog 18 #[.slice A n c] w (fun e w' => e = .returned (.int .i64 12) ∧ Below w.heap.size w w') from HK)
  clear HK
  go_enter Tryz.func19, Tryz.ntmps19
  go_wp2_with (go_at_call 18; refine HK'.out.mono ?_; rintro e w1 ⟨rfl, hb⟩)
  go_ret3
  exact ⟨_, rfl, Kd.R_nil _ _ _ _ _, hb⟩
end Go.Proofs.YtmliokplekeljaaGreatDoor.M

namespace Go.Proofs.YtmliokplekeljaaGreatDoor.M
open Go.RowKit Go.Proofs.YtmliokplekeljaaGreatDoorW.PrintWords
set_option linter.unusedVariables false
set_option linter.unusedSimpArgs false

/-- The kind that the program sees. -/
def kd : List Int → Int
  | [] => 0
  | v :: _ => (bs v).2.2
theorem kd_fixint {v : Int} (h : v < 128) : (bs v).2.2 = 8 := by rw [bs, if_pos h]
theorem kd_fixmap {v : Int} (h0 : 128 ≤ v) (h : v < 144) : (bs v).2.2 = 3 := by rw [bs, if_neg (by omega), if_pos h]
theorem kd_fixarr {v : Int} (h0 : 144 ≤ v) (h : v < 160) : (bs v).2.2 = 4 := by rw [bs, if_neg (by omega), if_neg (by omega), if_pos h]
theorem kd_fixstr {v : Int} (h0 : 160 ≤ v) (h : v < 192) : (bs v).2.2 = 1 := by rw [bs, if_neg (by omega), if_neg (by omega), if_neg (by omega), if_pos h]
theorem kd_nfix {v : Int} (h0 : 224 ≤ v) : (bs v).2.2 = 8 := by rw [bs, if_neg (by omega), if_neg (by omega), if_neg (by omega), if_neg (by omega), if_pos h0]
theorem kindOf {w : World} {A : Option Addr} {c : Nat} {v : Int} {r : List Int} (K : Int) (hr : CB w A (v :: r)) (hl : (v :: r).length ≤ 60000) (hv : isB v) (hK : (bs v).2.2 = K) (hk : K ≠ 12 ∨ ((v :: r).length : Int) ≤ (bs v).1) : KindIs K A (v :: r).length c w := by
  have := kind_any w A _ c v r hr rfl (by omega) hv.1 hv.2 (by rw [hK]; exact hk)
  rw [hK] at this; exact this

/-- What stands behind a call of plain. -/
def PBad (w : World) (A : Option Addr) (n c : Nat) : Prop := ∃ out m cd, cd ≠ 0 ∧ Calls Tryz.prog 19 #[.slice A n c] w (PlainIs out m cd w)
def POk (out : List Int) (m : Nat) (w : World) (A : Option Addr) (n c : Nat) : Prop := Calls Tryz.prog 19 #[.slice A n c] w (PlainIs out m 0 w)
def PA (w : World) (A : Option Addr) (n c : Nat) : Hd → Prop
  | .bad => PBad w A n c
  | .atom ct r _ => POk ct r.length w A n c
  | .blob h r k => if r.length < k then PBad w A n c else POk (h ++ r.take k) (r.length - k) w A n c
  | _ => True
theorem paBad {w : World} {A : Option Addr} {n c : Nat} {hd : Hd} (h : PBad w A n c) (he : hd = .bad) : PA w A n c hd := by subst he; exact h
theorem paAtom {w : World} {A : Option Addr} {n c : Nat} {hd : Hd} {ct r : List Int} {s : Bool} (h : POk ct r.length w A n c) (he : hd = .atom ct r s) : PA w A n c hd := by subst he; exact h
theorem paBlob {w : World} {A : Option Addr} {n c : Nat} {hd : Hd} {h r : List Int} {k : Nat} (h1 : r.length < k → PBad w A n c) (h2 : k ≤ r.length → POk (h ++ r.take k) (r.length - k) w A n c) (he : hd = .blob h r k) : PA w A n c hd := by
  subst he; simp only [PA]; split
  · exact h1 (by assumption)
  · exact h2 (by omega)
section
variable {w : World} {A : Option Addr} {c : Nat} {l : List Int}
theorem pl8 {x : Int} {m : Nat} (hr : CB w A l) (h0 : 0 < l.length) (hl : l.length ≤ 60000) (hg : Glob w) (K : KindIs 8 A l.length c w) (H : Reads 73 l (.int .i64 x) m .nilIface) (x0 : -9223372036854775808 ≤ x) (x1 : x ≤ 9223372036854775807) : POk (intT x) m w A l.length c :=
  plain_8 w A _ c x m 0 _ K (fun W hb => w41_ok W A _ c l x m (Kd.C_below hr hb) rfl h0 (by omega) (hg.below hb) H) (fun W => prog_int W x x0 x1)
theorem pl8s (hr : CB w A l) (h0 : 0 < l.length) (hl : l.length ≤ 60000) (hg : Glob w) (K : KindIs 8 A l.length c w) (H : Reads 73 l (.int .i64 0) 0 eShort) : PBad w A l.length c :=
  ⟨_, 0, 1, by decide, plain_8 w A _ c 0 0 1 _ K (fun W hb => w41_short W A _ c l 0 0 (Kd.C_below hr hb) rfl h0 (by omega) (hg.below hb) H) (fun W => prog_int W 0 (by decide) (by decide))⟩
theorem pl9 {x : Int} {m : Nat} (hr : CB w A l) (h0 : 0 < l.length) (hl : l.length ≤ 60000) (hg : Glob w) (K : KindIs 9 A l.length c w) (H : Reads 78 l (.int .u64 x) m .nilIface) (x0 : 0 ≤ x) (x1 : x < 18446744073709551616) : POk (uintT x) m w A l.length c :=
  plain_9 w A _ c x m 0 _ K (fun W hb => w43_ok W A _ c l x m (Kd.C_below hr hb) rfl h0 (by omega) (hg.below hb) H) (fun W => prog_uint W x x0 x1)
theorem pl9s (hr : CB w A l) (h0 : 0 < l.length) (hl : l.length ≤ 60000) (hg : Glob w) (K : KindIs 9 A l.length c w) (H : Reads 78 l (.int .u64 0) 0 eShort) : PBad w A l.length c :=
  ⟨_, 0, 1, by decide, plain_9 w A _ c 0 0 1 _ K (fun W hb => w43_short W A _ c l 0 0 (Kd.C_below hr hb) rfl h0 (by omega) (hg.below hb) H) (fun W => prog_uint W 0 (by decide) (by decide))⟩
theorem pl1 {k m : Nat} {r : List Int} (hr : CB w A l) (h0 : 0 < l.length) (hl : l.length ≤ 60000) (hg : Glob w) (K : KindIs 1 A l.length c w) (hb : isBs r) (hk : k ≤ r.length) (hrl : r.length ≤ 60000) (H : ∀ (w : World) (g c : Nat), RB w g 0 l → l.length ≤ c → Glob w → Calls Tryz.prog 98 #[.slice (some ⟨g, 0, none⟩) l.length c] w (RetZ g (r.take k) m w)) : POk (textH k ++ r.take k) m w A l.length c := by
  have hsz : (strOfNums (r.take k)).size = k := by rw [strOfNums_size, List.length_take]; omega
  have hby : bytesOf (strOfNums (r.take k)) = r.take k := bytes_str (fun x hx => hb x (List.mem_of_mem_take hx))
  have := plain_1 w A _ c (strOfNums (r.take k)) m 0 _ K (fun W hb => w31_ok W A _ c l _ m (Kd.C_below hr hb) rfl h0 (by omega) (hg.below hb) (fun W g c h1 h2 h3 => rs_ok W g _ c _ m (H W g c h1 h2 h3))) (fun W => prog_text W _ (by rw [hsz]; omega))
  rw [hsz, hby] at this
  exact this
theorem pl1s (hr : CB w A l) (h0 : 0 < l.length) (hl : l.length ≤ 60000) (hg : Glob w) (K : KindIs 1 A l.length c w) (H : ∀ (w : World) (g c : Nat), RB w g 0 l → l.length ≤ c → Glob w → Calls Tryz.prog 98 #[.slice (some ⟨g, 0, none⟩) l.length c] w (Ret3 (.slice none 0 0) 0 eShort w)) : PBad w A l.length c :=
  ⟨_, 0, 1, by decide, plain_1 w A _ c ByteArray.empty 0 1 _ K (fun W hb => w31_short W A _ c l 0 (Kd.C_below hr hb) rfl h0 (by omega) (hg.below hb) (fun W g c h1 h2 h3 => rs_short W g _ c 0 (H W g c h1 h2 h3))) (fun W => prog_text W _ (by decide))⟩
theorem pl2 {k m : Nat} {r : List Int} (hr : CB w A l) (h0 : 0 < l.length) (hl : l.length ≤ 60000) (hg : Glob w) (K : KindIs 2 A l.length c w) (hk : k ≤ r.length) (hrl : r.length ≤ 60000) (H : ∀ (w : World) (g c : Nat), RB w g 0 l → l.length ≤ c → Glob w → Calls Tryz.prog 101 #[.slice (some ⟨g, 0, none⟩) l.length c, .slice none 0 0, .bool false] w (RetB (r.take k) m w)) : POk (binH k ++ r.take k) m w A l.length c := by
  have hsz : (r.take k).length = k := by rw [List.length_take]; omega
  have := plain_2 w A _ c (r.take k) m 0 (by omega) K (fun W hb => w33_ok W A _ c l _ m (by omega) (Kd.C_below hr hb) rfl h0 (by omega) (hg.below hb) (fun W g c h1 h2 h3 => rbb_ok W _ _ m (H W g c h1 h2 h3)))
  rw [hsz] at this
  exact this
theorem pl2s (hr : CB w A l) (h0 : 0 < l.length) (hl : l.length ≤ 60000) (hg : Glob w) (K : KindIs 2 A l.length c w) (H : ∀ (w : World) (g c : Nat), RB w g 0 l → l.length ≤ c → Glob w → Calls Tryz.prog 101 #[.slice (some ⟨g, 0, none⟩) l.length c, .slice none 0 0, .bool false] w (Ret3 (.slice none 0 0) 0 eShort w)) : PBad w A l.length c :=
  ⟨_, 0, 1, by decide, plain_2 w A _ c [] 0 1 (by simp) K (fun W hb => (w33_short W A _ c l 0 (Kd.C_below hr hb) rfl h0 (by omega) (hg.below hb) (fun W g c h1 h2 h3 => rbb_short W _ 0 (H W g c h1 h2 h3))).mono fun e w' h => ⟨_, h.1, Kd.R_nil _ _ _ _ _, h.2⟩)⟩
theorem pl5 {x : Nat} {m : Nat} {out : List Int} (hr : CB w A l) (h0 : 0 < l.length) (hl : l.length ≤ 60000) (hg : Glob w) (K : KindIs 5 A l.length c w) (H : Reads 60 l (.float .f64 x) m .nilIface) (HW : ∀ W : World, Calls Tryz.prog 36 #[.int .u64 (x : Int)] W (Wrote out W)) : POk out m w A l.length c :=
  plain_5 w A _ c x m 0 _ K (fun W hb => w35_ok W A _ c l x m (Kd.C_below hr hb) rfl h0 (by omega) (hg.below hb) H) HW
theorem pl5s (hr : CB w A l) (h0 : 0 < l.length) (hl : l.length ≤ 60000) (hg : Glob w) (K : KindIs 5 A l.length c w) (H : Reads 60 l (.float .f64 0) 0 eShort) : PBad w A l.length c :=
  ⟨_, 0, 1, by decide, plain_5 w A _ c 0 0 1 _ K (fun W hb => w35_short W A _ c l _ 0 (Kd.C_below hr hb) rfl h0 (by omega) (hg.below hb) H) (fun W => wf_203 W 0 (by decide) (by decide))⟩
theorem pl6 {x : Nat} {m : Nat} {out : List Int} (hr : CB w A l) (h0 : 0 < l.length) (hl : l.length ≤ 60000) (hg : Glob w) (K : KindIs 6 A l.length c w) (H : Reads 64 l (.float .f32 x) m .nilIface) (HW : ∀ W : World, Calls Tryz.prog 38 #[.int .u32 (x : Int)] W (Wrote out W)) : POk out m w A l.length c :=
  plain_6 w A _ c x m 0 _ K (fun W hb => w37_ok W A _ c l x m (Kd.C_below hr hb) rfl h0 (by omega) (hg.below hb) H) HW
theorem pl6s (hr : CB w A l) (h0 : 0 < l.length) (hl : l.length ≤ 60000) (hg : Glob w) (K : KindIs 6 A l.length c w) (H : Reads 64 l (.float .f32 0) 0 eShort) : PBad w A l.length c :=
  ⟨_, 0, 1, by decide, plain_6 w A _ c 0 0 1 _ K (fun W hb => w37_short W A _ c l _ 0 (Kd.C_below hr hb) rfl h0 (by omega) (hg.below hb) H) (fun W => wf_202 W 0 (by decide) (by decide))⟩
theorem pl7 {x : Bool} {m : Nat} {out : List Int} (hr : CB w A l) (h0 : 0 < l.length) (hl : l.length ≤ 60000) (hg : Glob w) (K : KindIs 7 A l.length c w) (H : Reads 68 l (.bool x) m .nilIface) (HW : ∀ W : World, Calls Tryz.prog 40 #[.bool x] W (Wrote out W)) : POk out m w A l.length c :=
  plain_7 w A _ c x m 0 _ K (fun W hb => w39_ok W A _ c l x m (Kd.C_below hr hb) rfl h0 (by omega) (hg.below hb) H) HW
theorem pl10 {m : Nat} (hr : CB w A l) (h0 : 0 < l.length) (hl : l.length ≤ 60000) (hg : Glob w) (K : KindIs 10 A l.length c w) (H : ∀ (w : World) (g c : Nat), RB w g 0 l → l.length ≤ c → Glob w → Calls Tryz.prog 80 #[.slice (some ⟨g, 0, none⟩) l.length c] w (Ret2 m .nilIface w)) : POk [192] m w A l.length c :=
  plain_10 w A _ c m 0 K (fun W hb => w45_ok W A _ c l m (Kd.C_below hr hb) rfl h0 (by omega) (hg.below hb) H)
end

set_option maxRecDepth 100000 in
theorem plain_any (w : World) (A : Option Addr) (c : Nat) (l : List Int) (hr : CB w A l) (hB : isBs l) (hl : l.length ≤ 60000) (hg : Glob w) (h3 : kd l ≠ 3) (h4 : kd l ≠ 4) : PA w A l.length c (hdOf l) := by
  rcases l with _ | ⟨v, r⟩
  · exact paBad ⟨_, 0, 5, by decide, plain_0 w A 0 c (kind_nil w A c hr)⟩ rfl
  have hv0 := hB.head
  obtain ⟨h0, h1⟩ := hB.head
  have hb := hB.tail
  have hp : 0 < (v :: r).length := by simp
  rcases lead_cases v h0 h1 with hv | ⟨ha, hv⟩ | ⟨ha, hv⟩ | ⟨ha, hv⟩ | hv | hv | hv | hv | hv | hv | hv | hv | hv | hv | hv | hv | hv | hv | hv | hv | hv | hv | hv | hv | hv | hv | hv | hv | hv | hv | hv | hv | hv | hv | hv | hv | hv
  · exact paAtom (pl8 hr hp hl hg (kindOf 8 hr hl hv0 (kd_fixint hv) (Or.inl (by decide))) (fun W g c h1 h2 h3 => ri_fix W g 0 _ c v r h1 rfl h2 h0 hv) (by omega) (by omega)) (hdOf_small hv)
  · exact absurd (kd_fixmap ha hv) h3
  · exact absurd (kd_fixarr ha hv) h4
  · have hK := kindOf (c := c) 1 hr hl hv0 (kd_fixstr ha hv) (Or.inl (by decide))
    obtain ⟨k, hk⟩ := Int.eq_ofNat_of_zero_le (show 0 ≤ v - 160 by omega)
    have he := hdOf_fixstr (r := r) ha hv
    rw [hk, Int.toNat_natCast] at he
    have hvk : v = 160 + (k : Int) := by omega
    subst hvk
    exact paBlob (fun hlt => pl1s hr hp hl hg hK (fun W g c h1 h2 h3 => rz_fixs W g 0 _ c k r h3 h1 rfl h2 (by omega) hlt)) (fun hle => pl1 hr hp hl hg hK hb hle (by have hq := hl; simp only [List.length_cons] at hq; omega) (fun W g c h1 h2 h3 => rz_fix W g 0 _ c k r h1 rfl h2 (by omega) hle)) he
  · exact paAtom (pl8 hr hp hl hg (kindOf 8 hr hl hv0 (kd_nfix hv) (Or.inl (by decide))) (fun W g c h1' h2 h3 => ri_nfix W g 0 _ c v r h1' rfl h2 hv h1) (by omega) (by omega)) (hdOf_nfix hv)
  · subst hv; exact paAtom (pl10 hr hp hl hg (kindOf 10 hr hl hv0 (by decide) (Or.inl (by decide))) (fun W g c h1 h2 h3 => rn_192 W g 0 _ c r h1 rfl h2)) (at192 r)
  · subst hv; exact paBad ⟨_, 0, 5, by decide, plain_0 w A _ c (kindOf 0 hr hl hv0 (by decide) (Or.inl (by decide)))⟩ (at193 r)
  · subst hv; exact paAtom (pl7 hr hp hl hg (kindOf 7 hr hl hv0 (by decide) (Or.inl (by decide))) (fun W g c h1 h2 h3 => rb_194 W g 0 _ c r h1 rfl h2) (fun W => wb_f W)) (at194 r)
  · subst hv; exact paAtom (pl7 hr hp hl hg (kindOf 7 hr hl hv0 (by decide) (Or.inl (by decide))) (fun W g c h1 h2 h3 => rb_195 W g 0 _ c r h1 rfl h2) (fun W => wb_t W)) (at195 r)
  · subst hv; clear hp; revert hb; revert hl; revert hr; refine form1 (fun r => CB w A (196 :: r) → (196 :: r).length ≤ 60000 → isBs r → PA w A (196 :: r).length c (hdOf (196 :: r))) r (fun h hr hl _ => paBad (pl2s hr (by simp) hl hg (kindOf 2 hr hl hv0 (by decide) (Or.inl (by decide))) (fun W g c h1 h2 h3 => rbin_196h W g 0 _ c _ h3 h1 rfl h2 h)) (bad1 h (by simp))) ?_
    intro x r' _ hr hl hb
    have hK := kindOf (c := c) 2 hr hl hv0 (by decide) (Or.inl (by decide))
    have hx := hb.head
    have hb := hb.tail
    have hn : 0 ≤ x ∧ x < 256 := hx
    obtain ⟨k, hk⟩ := Int.eq_ofNat_of_zero_le hn.1
    have he : hdOf (196 :: x :: r') = .blob (binH (k : Int)) r' k := by subst hk; exact at196 _ r'
    refine paBlob (fun hlt => pl2s hr (by simp) hl hg hK (fun W g c h1 h2 h3 => rbin_196s W g 0 _ c k x r' h3 h1 rfl h2 hx hk hlt)) (fun hle => pl2 hr (by simp) hl hg hK hle (by have hq := hl; simp only [List.length_cons] at hq; omega) (fun W g c h1 h2 h3 => ?_)) he
    rcases Nat.eq_zero_or_pos k with hkz | hkz
    · subst hkz
      have := rbin_196z W g 0 _ c x r' h1 rfl h2 hx (by simpa using hk)
      simpa using this
    · exact rbin_196p W g 0 _ c k x r' h1 rfl h2 hx hk hkz hle
  · subst hv; clear hp; revert hb; revert hl; revert hr; refine form2 (fun r => CB w A (197 :: r) → (197 :: r).length ≤ 60000 → isBs r → PA w A (197 :: r).length c (hdOf (197 :: r))) r (fun h hr hl _ => paBad (pl2s hr (by simp) hl hg (kindOf 2 hr hl hv0 (by decide) (Or.inl (by decide))) (fun W g c h1 h2 h3 => rbin_197h W g 0 _ c _ h3 h1 rfl h2 h)) (bad2 h (by simp))) ?_
    intro x y r' _ hr hl hb
    have hK := kindOf (c := c) 2 hr hl hv0 (by decide) (Or.inl (by decide))
    obtain ⟨hx, hy, hb⟩ := isBs2 hb
    have hn := n16 hx hy
    obtain ⟨k, hk⟩ := Int.eq_ofNat_of_zero_le hn.1
    have he := at197 x y r'
    rw [hk, Int.toNat_natCast] at he
    refine paBlob (fun hlt => pl2s hr (by simp) hl hg hK (fun W g c h1 h2 h3 => rbin_197s W g 0 _ c k x y r' h3 h1 rfl h2 hx hy hk hlt)) (fun hle => pl2 hr (by simp) hl hg hK hle (by have hq := hl; simp only [List.length_cons] at hq; omega) (fun W g c h1 h2 h3 => ?_)) he
    rcases Nat.eq_zero_or_pos k with hkz | hkz
    · subst hkz
      have := rbin_197z W g 0 _ c x y r' h1 rfl h2 hx hy (by simpa using hk)
      simpa using this
    · exact rbin_197p W g 0 _ c k x y r' h1 rfl h2 hx hy hk hkz hle
  · subst hv; clear hp; revert hb; revert hl; revert hr; refine form4 (fun r => CB w A (198 :: r) → (198 :: r).length ≤ 60000 → isBs r → PA w A (198 :: r).length c (hdOf (198 :: r))) r (fun h hr hl _ => paBad (pl2s hr (by simp) hl hg (kindOf 2 hr hl hv0 (by decide) (Or.inl (by decide))) (fun W g c h1 h2 h3 => rbin_198h W g 0 _ c _ h3 h1 rfl h2 h)) (bad4 h (by simp))) ?_
    intro x y z u r' _ hr hl hb
    have hK := kindOf (c := c) 2 hr hl hv0 (by decide) (Or.inl (by decide))
    obtain ⟨hx, hy, hz, hu, hb⟩ := isBs4 hb
    have hn := n32 hx hy hz hu
    obtain ⟨k, hk⟩ := Int.eq_ofNat_of_zero_le hn.1
    have he := at198 x y z u r'
    rw [hk, Int.toNat_natCast] at he
    refine paBlob (fun hlt => pl2s hr (by simp) hl hg hK (fun W g c h1 h2 h3 => rbin_198s W g 0 _ c k x y z u r' h3 h1 rfl h2 hx hy hz hu hk hlt)) (fun hle => pl2 hr (by simp) hl hg hK hle (by have hq := hl; simp only [List.length_cons] at hq; omega) (fun W g c h1 h2 h3 => ?_)) he
    rcases Nat.eq_zero_or_pos k with hkz | hkz
    · subst hkz
      have := rbin_198z W g 0 _ c x y z u r' h1 rfl h2 hx hy hz hu (by simpa using hk)
      simpa using this
    · exact rbin_198p W g 0 _ c k x y z u r' h1 rfl h2 hx hy hz hu hk hkz hle
  · subst hv
    by_cases hlt : r.length < 2
    · exact paBad ⟨_, 0, 5, by decide, plain_12 w A _ c (kindOf 12 hr hl hv0 (by decide) (Or.inr (by rw [show (bs 199).1 = 3 by decide]; simp; omega)))⟩ (by simp [hdOf]; omega)
    · have he : hdOf (199 :: r) = .ext := by simp [hdOf]; omega
      rw [he]; trivial
  · subst hv
    by_cases hlt : r.length < 3
    · exact paBad ⟨_, 0, 5, by decide, plain_12 w A _ c (kindOf 12 hr hl hv0 (by decide) (Or.inr (by rw [show (bs 200).1 = 4 by decide]; simp; omega)))⟩ (by simp [hdOf]; omega)
    · have he : hdOf (200 :: r) = .ext := by simp [hdOf]; omega
      rw [he]; trivial
  · subst hv
    by_cases hlt : r.length < 5
    · exact paBad ⟨_, 0, 5, by decide, plain_12 w A _ c (kindOf 12 hr hl hv0 (by decide) (Or.inr (by rw [show (bs 201).1 = 6 by decide]; simp; omega)))⟩ (by simp [hdOf]; omega)
    · have he : hdOf (201 :: r) = .ext := by simp [hdOf]; omega
      rw [he]; trivial
  · subst hv; clear hp; revert hb; revert hl; revert hr; refine form4 (fun r => CB w A (202 :: r) → (202 :: r).length ≤ 60000 → isBs r → PA w A (202 :: r).length c (hdOf (202 :: r))) r (fun h hr hl _ => paBad (pl6s hr (by simp) hl hg (kindOf 6 hr hl hv0 (by decide) (Or.inl (by decide))) (fun W g c h1 h2 h3 => rf_202s W g 0 _ c _ h3 h1 rfl h2 h)) (bad4 h (by simp))) ?_
    intro x y z u r' _ hr hl hb
    have hK := kindOf (c := c) 6 hr hl hv0 (by decide) (Or.inl (by decide))
    obtain ⟨hx, hy, hz, hu, hb⟩ := isBs4 hb
    have hn := n32 hx hy hz hu
    obtain ⟨N, hN⟩ := Int.eq_ofNat_of_zero_le hn.1
    refine paAtom (pl6 (x := N) hr (by simp) hl hg hK (fun W g c h1 h2 h3 => by have := rf_202 W g 0 _ c x y z u r' h1 rfl h2 hx hy hz hu; rw [hN] at this; exact this) (fun W => ?_)) (at202 x y z u r')
    have e0 : (N : Int) / 16777216 % 256 = x := by obtain ⟨_, _⟩ := hx; obtain ⟨_, _⟩ := hy; obtain ⟨_, _⟩ := hz; obtain ⟨_, _⟩ := hu; omega
    have e1 : (N : Int) / 65536 % 256 = y := by obtain ⟨_, _⟩ := hx; obtain ⟨_, _⟩ := hy; obtain ⟨_, _⟩ := hz; obtain ⟨_, _⟩ := hu; omega
    have e2 : (N : Int) / 256 % 256 = z := by obtain ⟨_, _⟩ := hx; obtain ⟨_, _⟩ := hy; obtain ⟨_, _⟩ := hz; obtain ⟨_, _⟩ := hu; omega
    have e3 : (N : Int) % 256 = u := by obtain ⟨_, _⟩ := hx; obtain ⟨_, _⟩ := hy; obtain ⟨_, _⟩ := hz; obtain ⟨_, _⟩ := hu; omega
    have := wf_202 W N (by omega) (by omega)
    rw [e0, e1, e2, e3] at this
    exact this
  · subst hv; clear hp; revert hb; revert hl; revert hr; refine form8 (fun r => CB w A (203 :: r) → (203 :: r).length ≤ 60000 → isBs r → PA w A (203 :: r).length c (hdOf (203 :: r))) r (fun h hr hl _ => paBad (pl5s hr (by simp) hl hg (kindOf 5 hr hl hv0 (by decide) (Or.inl (by decide))) (fun W g c h1 h2 h3 => rf_203s W g 0 _ c _ h3 h1 rfl h2 h)) (bad8 h (by simp))) ?_
    intro x y z u x' y' z' u' r' _ hr hl hb
    have hK := kindOf (c := c) 5 hr hl hv0 (by decide) (Or.inl (by decide))
    obtain ⟨hx, hy, hz, hu, hx', hy', hz', hu', hb⟩ := isBs8 hb
    have hn := n64 hx hy hz hu hx' hy' hz' hu'
    obtain ⟨N, hN⟩ := Int.eq_ofNat_of_zero_le hn.1
    refine paAtom (pl5 (x := N) hr (by simp) hl hg hK (fun W g c h1 h2 h3 => by have := rf_203 W g 0 _ c x y z u x' y' z' u' r' h1 rfl h2 hx hy hz hu hx' hy' hz' hu'; rw [hN] at this; exact this) (fun W => ?_)) (at203 x y z u x' y' z' u' r')
    have e0 : (N : Int) / 72057594037927936 % 256 = x := by obtain ⟨_, _⟩ := hx; obtain ⟨_, _⟩ := hy; obtain ⟨_, _⟩ := hz; obtain ⟨_, _⟩ := hu; obtain ⟨_, _⟩ := hx'; obtain ⟨_, _⟩ := hy'; obtain ⟨_, _⟩ := hz'; obtain ⟨_, _⟩ := hu'; omega
    have e1 : (N : Int) / 281474976710656 % 256 = y := by obtain ⟨_, _⟩ := hx; obtain ⟨_, _⟩ := hy; obtain ⟨_, _⟩ := hz; obtain ⟨_, _⟩ := hu; obtain ⟨_, _⟩ := hx'; obtain ⟨_, _⟩ := hy'; obtain ⟨_, _⟩ := hz'; obtain ⟨_, _⟩ := hu'; omega
    have e2 : (N : Int) / 1099511627776 % 256 = z := by obtain ⟨_, _⟩ := hx; obtain ⟨_, _⟩ := hy; obtain ⟨_, _⟩ := hz; obtain ⟨_, _⟩ := hu; obtain ⟨_, _⟩ := hx'; obtain ⟨_, _⟩ := hy'; obtain ⟨_, _⟩ := hz'; obtain ⟨_, _⟩ := hu'; omega
    have e3 : (N : Int) / 4294967296 % 256 = u := by obtain ⟨_, _⟩ := hx; obtain ⟨_, _⟩ := hy; obtain ⟨_, _⟩ := hz; obtain ⟨_, _⟩ := hu; obtain ⟨_, _⟩ := hx'; obtain ⟨_, _⟩ := hy'; obtain ⟨_, _⟩ := hz'; obtain ⟨_, _⟩ := hu'; omega
    have e4 : (N : Int) / 16777216 % 256 = x' := by obtain ⟨_, _⟩ := hx; obtain ⟨_, _⟩ := hy; obtain ⟨_, _⟩ := hz; obtain ⟨_, _⟩ := hu; obtain ⟨_, _⟩ := hx'; obtain ⟨_, _⟩ := hy'; obtain ⟨_, _⟩ := hz'; obtain ⟨_, _⟩ := hu'; omega
    have e5 : (N : Int) / 65536 % 256 = y' := by obtain ⟨_, _⟩ := hx; obtain ⟨_, _⟩ := hy; obtain ⟨_, _⟩ := hz; obtain ⟨_, _⟩ := hu; obtain ⟨_, _⟩ := hx'; obtain ⟨_, _⟩ := hy'; obtain ⟨_, _⟩ := hz'; obtain ⟨_, _⟩ := hu'; omega
    have e6 : (N : Int) / 256 % 256 = z' := by obtain ⟨_, _⟩ := hx; obtain ⟨_, _⟩ := hy; obtain ⟨_, _⟩ := hz; obtain ⟨_, _⟩ := hu; obtain ⟨_, _⟩ := hx'; obtain ⟨_, _⟩ := hy'; obtain ⟨_, _⟩ := hz'; obtain ⟨_, _⟩ := hu'; omega
    have e7 : (N : Int) % 256 = u' := by obtain ⟨_, _⟩ := hx; obtain ⟨_, _⟩ := hy; obtain ⟨_, _⟩ := hz; obtain ⟨_, _⟩ := hu; obtain ⟨_, _⟩ := hx'; obtain ⟨_, _⟩ := hy'; obtain ⟨_, _⟩ := hz'; obtain ⟨_, _⟩ := hu'; omega
    have := wf_203 W N (by omega) (by omega)
    rw [e0, e1, e2, e3, e4, e5, e6, e7] at this
    exact this
  · subst hv; clear hp; revert hb; revert hl; revert hr; refine form1 (fun r => CB w A (204 :: r) → (204 :: r).length ≤ 60000 → isBs r → PA w A (204 :: r).length c (hdOf (204 :: r))) r (fun h hr hl _ => paBad (pl9s hr (by simp) hl hg (kindOf 9 hr hl hv0 (by decide) (Or.inl (by decide))) (fun W g c h1 h2 h3 => ru_204s W g 0 _ c _ h3 h1 rfl h2 h)) (bad1 h (by simp))) ?_
    intro x r' _ hr hl hb
    have hK := kindOf (c := c) 9 hr hl hv0 (by decide) (Or.inl (by decide))
    have hx := hb.head
    have hb := hb.tail
    have hn : 0 ≤ x ∧ x < 256 := hx
    exact paAtom (pl9 hr (by simp) hl hg hK (fun W g c h1 h2 h3 => ru_204 W g 0 _ c x r' h1 rfl h2 hx) hn.1 (by omega)) (at204 x r')
  · subst hv; clear hp; revert hb; revert hl; revert hr; refine form2 (fun r => CB w A (205 :: r) → (205 :: r).length ≤ 60000 → isBs r → PA w A (205 :: r).length c (hdOf (205 :: r))) r (fun h hr hl _ => paBad (pl9s hr (by simp) hl hg (kindOf 9 hr hl hv0 (by decide) (Or.inl (by decide))) (fun W g c h1 h2 h3 => ru_205s W g 0 _ c _ h3 h1 rfl h2 h)) (bad2 h (by simp))) ?_
    intro x y r' _ hr hl hb
    have hK := kindOf (c := c) 9 hr hl hv0 (by decide) (Or.inl (by decide))
    obtain ⟨hx, hy, hb⟩ := isBs2 hb
    have hn := n16 hx hy
    exact paAtom (pl9 hr (by simp) hl hg hK (fun W g c h1 h2 h3 => ru_205 W g 0 _ c x y r' h1 rfl h2 hx hy) hn.1 (by omega)) (at205 x y r')
  · subst hv; clear hp; revert hb; revert hl; revert hr; refine form4 (fun r => CB w A (206 :: r) → (206 :: r).length ≤ 60000 → isBs r → PA w A (206 :: r).length c (hdOf (206 :: r))) r (fun h hr hl _ => paBad (pl9s hr (by simp) hl hg (kindOf 9 hr hl hv0 (by decide) (Or.inl (by decide))) (fun W g c h1 h2 h3 => ru_206s W g 0 _ c _ h3 h1 rfl h2 h)) (bad4 h (by simp))) ?_
    intro x y z u r' _ hr hl hb
    have hK := kindOf (c := c) 9 hr hl hv0 (by decide) (Or.inl (by decide))
    obtain ⟨hx, hy, hz, hu, hb⟩ := isBs4 hb
    have hn := n32 hx hy hz hu
    exact paAtom (pl9 hr (by simp) hl hg hK (fun W g c h1 h2 h3 => ru_206 W g 0 _ c x y z u r' h1 rfl h2 hx hy hz hu) hn.1 (by omega)) (at206 x y z u r')
  · subst hv; clear hp; revert hb; revert hl; revert hr; refine form8 (fun r => CB w A (207 :: r) → (207 :: r).length ≤ 60000 → isBs r → PA w A (207 :: r).length c (hdOf (207 :: r))) r (fun h hr hl _ => paBad (pl9s hr (by simp) hl hg (kindOf 9 hr hl hv0 (by decide) (Or.inl (by decide))) (fun W g c h1 h2 h3 => ru_207s W g 0 _ c _ h3 h1 rfl h2 h)) (bad8 h (by simp))) ?_
    intro x y z u x' y' z' u' r' _ hr hl hb
    have hK := kindOf (c := c) 9 hr hl hv0 (by decide) (Or.inl (by decide))
    obtain ⟨hx, hy, hz, hu, hx', hy', hz', hu', hb⟩ := isBs8 hb
    have hn := n64 hx hy hz hu hx' hy' hz' hu'
    exact paAtom (pl9 hr (by simp) hl hg hK (fun W g c h1 h2 h3 => ru_207 W g 0 _ c x y z u x' y' z' u' r' h1 rfl h2 hx hy hz hu hx' hy' hz' hu') hn.1 (by omega)) (at207 x y z u x' y' z' u' r')
  · subst hv; clear hp; revert hb; revert hl; revert hr; refine form1 (fun r => CB w A (208 :: r) → (208 :: r).length ≤ 60000 → isBs r → PA w A (208 :: r).length c (hdOf (208 :: r))) r (fun h hr hl _ => paBad (pl8s hr (by simp) hl hg (kindOf 8 hr hl hv0 (by decide) (Or.inl (by decide))) (fun W g c h1 h2 h3 => ri_208s W g 0 _ c _ h3 h1 rfl h2 h)) (bad1 h (by simp))) ?_
    intro x r' _ hr hl hb
    have hK := kindOf (c := c) 8 hr hl hv0 (by decide) (Or.inl (by decide))
    have hx := hb.head
    have hb := hb.tail
    have hn : 0 ≤ x ∧ x < 256 := hx
    have hs := sx8_r hx
    exact paAtom (pl8 hr (by simp) hl hg hK (fun W g c h1 h2 h3 => ri_208 W g 0 _ c x r' h1 rfl h2 hx) (by omega) (by omega)) (at208 x r')
  · subst hv; clear hp; revert hb; revert hl; revert hr; refine form2 (fun r => CB w A (209 :: r) → (209 :: r).length ≤ 60000 → isBs r → PA w A (209 :: r).length c (hdOf (209 :: r))) r (fun h hr hl _ => paBad (pl8s hr (by simp) hl hg (kindOf 8 hr hl hv0 (by decide) (Or.inl (by decide))) (fun W g c h1 h2 h3 => ri_209s W g 0 _ c _ h3 h1 rfl h2 h)) (bad2 h (by simp))) ?_
    intro x y r' _ hr hl hb
    have hK := kindOf (c := c) 8 hr hl hv0 (by decide) (Or.inl (by decide))
    obtain ⟨hx, hy, hb⟩ := isBs2 hb
    have hn := n16 hx hy
    have hs := sx16_r hn.1 hn.2
    exact paAtom (pl8 hr (by simp) hl hg hK (fun W g c h1 h2 h3 => ri_209 W g 0 _ c x y r' h1 rfl h2 hx hy) (by omega) (by omega)) (at209 x y r')
  · subst hv; clear hp; revert hb; revert hl; revert hr; refine form4 (fun r => CB w A (210 :: r) → (210 :: r).length ≤ 60000 → isBs r → PA w A (210 :: r).length c (hdOf (210 :: r))) r (fun h hr hl _ => paBad (pl8s hr (by simp) hl hg (kindOf 8 hr hl hv0 (by decide) (Or.inl (by decide))) (fun W g c h1 h2 h3 => ri_210s W g 0 _ c _ h3 h1 rfl h2 h)) (bad4 h (by simp))) ?_
    intro x y z u r' _ hr hl hb
    have hK := kindOf (c := c) 8 hr hl hv0 (by decide) (Or.inl (by decide))
    obtain ⟨hx, hy, hz, hu, hb⟩ := isBs4 hb
    have hn := n32 hx hy hz hu
    have hs := sx32_r hn.1 hn.2
    exact paAtom (pl8 hr (by simp) hl hg hK (fun W g c h1 h2 h3 => ri_210 W g 0 _ c x y z u r' h1 rfl h2 hx hy hz hu) (by omega) (by omega)) (at210 x y z u r')
  · subst hv; clear hp; revert hb; revert hl; revert hr; refine form8 (fun r => CB w A (211 :: r) → (211 :: r).length ≤ 60000 → isBs r → PA w A (211 :: r).length c (hdOf (211 :: r))) r (fun h hr hl _ => paBad (pl8s hr (by simp) hl hg (kindOf 8 hr hl hv0 (by decide) (Or.inl (by decide))) (fun W g c h1 h2 h3 => ri_211s W g 0 _ c _ h3 h1 rfl h2 h)) (bad8 h (by simp))) ?_
    intro x y z u x' y' z' u' r' _ hr hl hb
    have hK := kindOf (c := c) 8 hr hl hv0 (by decide) (Or.inl (by decide))
    obtain ⟨hx, hy, hz, hu, hx', hy', hz', hu', hb⟩ := isBs8 hb
    have hn := n64 hx hy hz hu hx' hy' hz' hu'
    have hs := sx64_r hn.1 hn.2
    exact paAtom (pl8 hr (by simp) hl hg hK (fun W g c h1 h2 h3 => ri_211 W g 0 _ c x y z u x' y' z' u' r' h1 rfl h2 hx hy hz hu hx' hy' hz' hu') (by omega) (by omega)) (at211 x y z u x' y' z' u' r')
  · subst hv
    by_cases hlt : r.length < 1
    · exact paBad ⟨_, 0, 5, by decide, plain_12 w A _ c (kindOf 12 hr hl hv0 (by decide) (Or.inr (by rw [show (bs 212).1 = 3 by decide]; simp; omega)))⟩ (by simp [hdOf]; exact List.length_eq_zero_iff.1 (by omega))
    · have he : hdOf (212 :: r) = .ext := by simp [hdOf]; intro h; subst h; simp at hlt
      rw [he]; trivial
  · subst hv
    by_cases hlt : r.length < 1
    · exact paBad ⟨_, 0, 5, by decide, plain_12 w A _ c (kindOf 12 hr hl hv0 (by decide) (Or.inr (by rw [show (bs 213).1 = 4 by decide]; simp; omega)))⟩ (by simp [hdOf]; exact List.length_eq_zero_iff.1 (by omega))
    · have he : hdOf (213 :: r) = .ext := by simp [hdOf]; intro h; subst h; simp at hlt
      rw [he]; trivial
  · subst hv
    by_cases hlt : r.length < 1
    · exact paBad ⟨_, 0, 5, by decide, plain_12 w A _ c (kindOf 12 hr hl hv0 (by decide) (Or.inr (by rw [show (bs 214).1 = 6 by decide]; simp; omega)))⟩ (by simp [hdOf]; exact List.length_eq_zero_iff.1 (by omega))
    · have he : hdOf (214 :: r) = .ext := by simp [hdOf]; intro h; subst h; simp at hlt
      rw [he]; trivial
  · subst hv
    by_cases hlt : r.length < 1
    · exact paBad ⟨_, 0, 5, by decide, plain_12 w A _ c (kindOf 12 hr hl hv0 (by decide) (Or.inr (by rw [show (bs 215).1 = 10 by decide]; simp; omega)))⟩ (by simp [hdOf]; exact List.length_eq_zero_iff.1 (by omega))
    · have he : hdOf (215 :: r) = .ext := by simp [hdOf]; intro h; subst h; simp at hlt
      rw [he]; trivial
  · subst hv
    by_cases hlt : r.length < 1
    · exact paBad ⟨_, 0, 5, by decide, plain_12 w A _ c (kindOf 12 hr hl hv0 (by decide) (Or.inr (by rw [show (bs 216).1 = 18 by decide]; simp; omega)))⟩ (by simp [hdOf]; exact List.length_eq_zero_iff.1 (by omega))
    · have he : hdOf (216 :: r) = .ext := by simp [hdOf]; intro h; subst h; simp at hlt
      rw [he]; trivial
  · subst hv; clear hp; revert hb; revert hl; revert hr; refine form1 (fun r => CB w A (217 :: r) → (217 :: r).length ≤ 60000 → isBs r → PA w A (217 :: r).length c (hdOf (217 :: r))) r (fun h hr hl _ => paBad (pl1s hr (by simp) hl hg (kindOf 1 hr hl hv0 (by decide) (Or.inl (by decide))) (fun W g c h1 h2 h3 => rz_217h W g 0 _ c _ h3 h1 rfl h2 h)) (bad1 h (by simp))) ?_
    intro x r' _ hr hl hb
    have hK := kindOf (c := c) 1 hr hl hv0 (by decide) (Or.inl (by decide))
    have hx := hb.head
    have hb := hb.tail
    have hn : 0 ≤ x ∧ x < 256 := hx
    obtain ⟨k, hk⟩ := Int.eq_ofNat_of_zero_le hn.1
    have he : hdOf (217 :: x :: r') = .blob (textH (k : Int)) r' k := by subst hk; exact at217 _ r'
    exact paBlob (fun hlt => pl1s hr (by simp) hl hg hK (fun W g c h1 h2 h3 => rz_217s W g 0 _ c k x r' h3 h1 rfl h2 hx hk hlt)) (fun hle => pl1 hr (by simp) hl hg hK hb hle (by have hq := hl; simp only [List.length_cons] at hq; omega) (fun W g c h1 h2 h3 => rz_217 W g 0 _ c k x r' h1 rfl h2 hx hk hle)) he
  · subst hv; clear hp; revert hb; revert hl; revert hr; refine form2 (fun r => CB w A (218 :: r) → (218 :: r).length ≤ 60000 → isBs r → PA w A (218 :: r).length c (hdOf (218 :: r))) r (fun h hr hl _ => paBad (pl1s hr (by simp) hl hg (kindOf 1 hr hl hv0 (by decide) (Or.inl (by decide))) (fun W g c h1 h2 h3 => rz_218h W g 0 _ c _ h3 h1 rfl h2 h)) (bad2 h (by simp))) ?_
    intro x y r' _ hr hl hb
    have hK := kindOf (c := c) 1 hr hl hv0 (by decide) (Or.inl (by decide))
    obtain ⟨hx, hy, hb⟩ := isBs2 hb
    have hn := n16 hx hy
    obtain ⟨k, hk⟩ := Int.eq_ofNat_of_zero_le hn.1
    have he := at218 x y r'
    rw [hk, Int.toNat_natCast] at he
    exact paBlob (fun hlt => pl1s hr (by simp) hl hg hK (fun W g c h1 h2 h3 => rz_218s W g 0 _ c k x y r' h3 h1 rfl h2 hx hy hk hlt)) (fun hle => pl1 hr (by simp) hl hg hK hb hle (by have hq := hl; simp only [List.length_cons] at hq; omega) (fun W g c h1 h2 h3 => rz_218 W g 0 _ c k x y r' h1 rfl h2 hx hy hk hle)) he
  · subst hv; clear hp; revert hb; revert hl; revert hr; refine form4 (fun r => CB w A (219 :: r) → (219 :: r).length ≤ 60000 → isBs r → PA w A (219 :: r).length c (hdOf (219 :: r))) r (fun h hr hl _ => paBad (pl1s hr (by simp) hl hg (kindOf 1 hr hl hv0 (by decide) (Or.inl (by decide))) (fun W g c h1 h2 h3 => rz_219h W g 0 _ c _ h3 h1 rfl h2 h)) (bad4 h (by simp))) ?_
    intro x y z u r' _ hr hl hb
    have hK := kindOf (c := c) 1 hr hl hv0 (by decide) (Or.inl (by decide))
    obtain ⟨hx, hy, hz, hu, hb⟩ := isBs4 hb
    have hn := n32 hx hy hz hu
    obtain ⟨k, hk⟩ := Int.eq_ofNat_of_zero_le hn.1
    have he := at219 x y z u r'
    rw [hk, Int.toNat_natCast] at he
    exact paBlob (fun hlt => pl1s hr (by simp) hl hg hK (fun W g c h1 h2 h3 => rz_219s W g 0 _ c k x y z u r' h3 h1 rfl h2 hx hy hz hu hk hlt)) (fun hle => pl1 hr (by simp) hl hg hK hb hle (by have hq := hl; simp only [List.length_cons] at hq; omega) (fun W g c h1 h2 h3 => rz_219 W g 0 _ c k x y z u r' h1 rfl h2 hx hy hz hu hk hle)) he
  · subst hv; exact absurd (show (bs 220).2.2 = 4 by decide) h4
  · subst hv; exact absurd (show (bs 221).2.2 = 4 by decide) h4
  · subst hv; exact absurd (show (bs 222).2.2 = 3 by decide) h3
  · subst hv; exact absurd (show (bs 223).2.2 = 3 by decide) h3
end Go.Proofs.YtmliokplekeljaaGreatDoor.M
