/- The package's writers of texts and bytes by contracts, onto nil. -/
import Derived.Test.YtmliokplekeljaaGreatDoorN06
import Derived.Lib.BufferWrite
import Derived.Test.YtmliokplekeljaaGreatDoorPFnTreeAnyx1
import Derived.Test.YtmliokplekeljaaGreatDoorPFnTreeAnyx3
import Derived.Test.YtmliokplekeljaaGreatDoorPFnTreeAnyx4
namespace Go.Proofs.YtmliokplekeljaaGreatDoor.M
open Go.RowKit Go.Proofs.YtmliokplekeljaaGreatDoorW.PrintWords
set_option linter.unusedVariables false
set_option linter.unusedSimpArgs false

theorem ensure_nil' (w : World) (N : Int) (sz : Nat) (hN : N = (sz : Int)) (h0 : 0 < sz) (h1 : sz ≤ 100000) : Calls Tryz.prog 88 #[.slice none 0 0, .int .i64 N] w fun e w' => e = .returned (.tuple #[.slice (some ⟨w.heap.size, 0, none⟩) sz sz, .int .i64 0]) ∧ w'.rowIs w.heap.size 5 sz (fun _ => bV 0) ∧ Below w.heap.size w w' := by
  subst hN
  exact ensure_nil w sz h0 h1
theorem sliceFrom (g k m sz : Nat) (hsz : sz = m + k) (hm : 0 < m) : ∀ W : World, (Instr.slice 22 (.slice (some ⟨g, 0, none⟩) sz sz) (some (.int .i64 (k : Int))) none none).run Tryz.prog W = .ok (.slice (some ⟨g, k, none⟩) m m) W := by
  intro W
  obtain ⟨i0, hi, hzz⟩ := Option.map_eq_some_iff.1 info5
  simp only [Prod.mk.injEq] at hzz
  have hel : Tryz.prog.elem 22 = 5 := by simp [Program.elem, Tryz.underlying22]
  have hu : Tryz.prog.underlying 22 = some (.slice (Tryz.prog.elem 22)) := by rw [hel]; exact Tryz.underlying22
  rw [run_slice_l W 22 (some ⟨g, 0, none⟩) sz sz hu .i64 (k : Int) (Int.natCast_nonneg _) (by omega), hel]
  simp [sizeOf, typeInfo, hi, hzz.2.1, sliced, Result.andThen]
  rw [if_neg (by omega), show sz - k = m from by omega]
  simp [add_plain]
theorem sliceTo (g sz : Nat) (N : Int) (hN : N = (sz : Int)) : ∀ W : World, (Instr.slice 22 (.slice (some ⟨g, 0, none⟩) sz sz) none (some (.int .i64 N)) none).run Tryz.prog W = .ok (.slice (some ⟨g, 0, none⟩) sz sz) W := by
  intro W
  subst hN
  obtain ⟨i0, hi, hzz⟩ := Option.map_eq_some_iff.1 info5
  simp only [Prod.mk.injEq] at hzz
  have hel : Tryz.prog.elem 22 = 5 := by simp [Program.elem, Tryz.underlying22]
  have hu : Tryz.prog.underlying 22 = some (.slice (Tryz.prog.elem 22)) := by rw [hel]; exact Tryz.underlying22
  rw [run_slice_h W 22 (some ⟨g, 0, none⟩) sz sz hu .i64 (sz : Int) (Int.natCast_nonneg _) (by omega), hel]
  simp [sizeOf, typeInfo, hi, hzz.2.1, sliced, Result.andThen, Addr.add]
theorem OB.form' {w : World} {base : Nat} {v : Value} {l : List Int} {k : Nat} (h : OB w base v l) (hl : l.length = k) (hk : 0 < k) : ∃ g c, v = .slice (some ⟨g, 0, none⟩) k c ∧ Hid (RB w g 0 l) := by
  rcases l with _ | ⟨x, t⟩
  · simp at hl; omega
  · obtain ⟨g, c, rfl, _, _, hg, hr⟩ := h.form
    exact ⟨g, c, by rw [hl], RB.of_CB hr hg⟩
theorem RB.belowB {w w' : World} {b o B : Nat} {l : List Int} (h : RB w b o l) (hb : Below B w w') (hlt : b < B) : RB w' b o l :=
  ⟨Nat.lt_of_lt_of_le h.lt hb.size, fun i hi => (hb.cell (p := ⟨b, o + i, none⟩) hlt).trans (h.cell i hi)⟩
theorem hd1 (x : Int) (f : Nat → Value) (i : Nat) : (if i = 0 then Value.int .u8 x else f i) = hdF [x] f i := by
  unfold hdF
  by_cases hi : i = 0
  · subst hi; rfl
  · rw [if_neg hi, if_neg (by simp; omega)]
theorem rowHd1 {w : World} {g n : Nat} {f : Nat → Value} (x : Int) (h : w.rowIs g 5 n f) : (w.setCell ⟨g, 0, none⟩ (.int .u8 x)).rowIs g 5 n (hdF [x] f) := World.rowIs.congr (h.set 0 _) (fun i hi => hd1 x f i)
theorem OBlen {w : World} {base b n : Nat} {xs : List Int} (h : OB w base (.slice (some ⟨b, 0, none⟩) xs.length xs.length) xs) (hn : xs.length = n) : OB w base (.slice (some ⟨b, 0, none⟩) n n) xs := by
  subst hn; exact h
theorem copyStr (w : World) (G h : Nat) (s : ByteArray) (f : Nat → Value) (hr : Hid (w.rowIs G 5 (s.size + h) f)) :
    (Builtin.copy_ #[22, 9] 3 #[.slice (some ⟨G, h, none⟩) s.size s.size, .string s]).run Tryz.prog w = .ok (.int .i64 (s.size : Int)) (w.setCells G h ((bytesOf s).map bV)) := by
  obtain ⟨i0, hi, hzz⟩ := Option.map_eq_some_iff.1 info5
  simp only [Prod.mk.injEq] at hzz
  have h2 := Go.run_copy_string (P := Tryz.prog) w 22 9 3 5 G h s.size s.size s Tryz.underlying22 (fun w => by simp [sizeOf, typeInfo, hi, hzz.2.1]) (Nat.le_refl _) (fun j hj => by rw [hr.out.cell (by omega)]; rfl) (fun j hj => hr.out.frozen _)
  rw [h2, bytesOf, List.map_map]
  rfl
theorem copied_bl (w : World) (G h n : Nat) (ys xs : List Int) (hl : xs.length = h) (hn : ys.length = n) (f : Nat → Value) (hr : Hid (w.rowIs G 5 (n + h) (hdF xs f))) : BL (w.setCells G h (ys.map bV)) G (xs ++ ys) := by
  have h2 := Go.rowIs_setCells (ys.map bV) h _ _ hr.out
  unfold BL
  rw [List.length_append, hn, hl, Nat.add_comm]
  refine World.rowIs.congr h2 (fun i hi => ?_)
  rw [List.length_map, hn]
  by_cases hih : h ≤ i
  · rw [if_pos ⟨hih, by omega⟩, List.getElem?_map, List.getD_eq_getElem?_getD, List.getElem?_append_right (by omega), hl, List.getElem?_eq_getElem (by omega)]
    rfl
  · rw [if_neg (by omega)]
    unfold hdF
    rw [if_pos (by omega), List.getD_eq_getElem?_getD, List.getD_eq_getElem?_getD, List.getElem?_append_left (by omega)]
theorem copied_below (w w2 : World) (G h : Nat) (vs : List Value) (hG : w.heap.size ≤ G) (hb : Below w.heap.size w w2) : Below w.heap.size w (w2.setCells G h vs) := Go.below_setCells hG _ _ _ hb

set_option maxRecDepth 100000 in
theorem wt_fix (w : World) (s : ByteArray) (h0 : 1 ≤ s.size) (h1 : s.size ≤ 31) : Calls Tryz.prog 32 #[.string s] w (Wrote ([160 + (s.size : Int)] ++ bytesOf s) w) := by
  have H := Lib.hid (ensure_nil' w (1 + (s.size : Int)) (s.size + 1) (by omega) (by omega) (by omega))
  have hsh : ∀ W : World, (Instr.slice 22 (.slice (some ⟨w.heap.size, 0, none⟩) (s.size + 1) (s.size + 1)) (some (.int .i64 1)) none none).run Tryz.prog W = .ok (.slice (some ⟨w.heap.size, 1, none⟩) s.size s.size) W := sliceFrom w.heap.size 1 s.size _ rfl (by omega)
  have hse := sliceTo w.heap.size (s.size + 1) (1 + (s.size : Int)) (by omega)
  have hb1 : Go.bits .and .u8 (s.size : Int) 31 = (s.size : Int) := by rw [and31 _ (by omega) (by omega)]; omega
  have hb2 := (orT (s.size : Int) (by omega) (by omega)).1
  go_enter Tryz.func32, Tryz.ntmps32
  go_wp2_with (first | (go_at_call 88; refine H.out.mono ?_; rintro e w1 ⟨rfl, hrow, hb⟩; have k0 := hrow.cell (i := 0) (by omega); have f0 := hrow.frozen 0; have HR := Lib.hid (rowHd1 (160 + (s.size : Int)) hrow); have hcp := copyStr _ _ 1 s _ HR; clear hrow) | go_in)
  go_ret
  exact ⟨_, rfl, OBlen ((copied_bl _ _ 1 _ _ [160 + (s.size : Int)] rfl (bytesOf_length s) _ HR).ob (Nat.le_refl _) (by simp [bytesOf_length] <;> omega)) (by simp [bytesOf_length] <;> omega), copied_below _ _ _ _ _ (Nat.le_refl _) (hb.setCell (Nat.le_refl _) _)⟩
set_option maxRecDepth 100000 in
theorem wt_217 (w : World) (s : ByteArray) (h0 : 32 ≤ s.size) (h1 : s.size ≤ 255) : Calls Tryz.prog 32 #[.string s] w (Wrote ([217, (s.size : Int) % 256] ++ bytesOf s) w) := by
  have H := Lib.hid (ensure_nil' w (2 + (s.size : Int)) (s.size + 2) (by omega) (by omega) (by omega))
  have hsh : ∀ W : World, (Instr.slice 22 (.slice (some ⟨w.heap.size, 0, none⟩) (s.size + 2) (s.size + 2)) (some (.int .i64 2)) none none).run Tryz.prog W = .ok (.slice (some ⟨w.heap.size, 2, none⟩) s.size s.size) W := sliceFrom w.heap.size 2 s.size _ rfl (by omega)
  have hse := sliceTo w.heap.size (s.size + 2) (2 + (s.size : Int)) (by omega)
  have hs0 : ∀ W : World, (Instr.slice 22 (.slice (some ⟨w.heap.size, 0, none⟩) (s.size + 2) (s.size + 2)) (some (.int .i64 0)) none none).run Tryz.prog W = .ok (.slice (some ⟨w.heap.size, 0, none⟩) (s.size + 2) (s.size + 2)) W := sliceFrom w.heap.size 0 (s.size + 2) _ rfl (by omega)
  have HH := Lib.hid (And.intro h0 h1)
  go_enter Tryz.func32, Tryz.ntmps32
  go_wp2_with (first | (go_at_call 88; refine H.out.mono ?_; rintro e w1 ⟨rfl, hrow, hb⟩; have HROW := Lib.hid hrow; clear hrow) | (go_at_call 100; refine (pre8 _ _ _ _ HROW (by omega) 217 (s.size : Int) (by omega) (by have := HH.out; omega)).mono ?_; rintro e w2 ⟨rfl, hr2, hb2⟩; have HR := Lib.hid hr2; clear hr2; have hcp := copyStr _ _ 2 s _ HR) | go_in)
  go_ret
  exact ⟨_, rfl, OBlen ((copied_bl _ _ 2 _ _ [217, (s.size : Int) % 256] rfl (bytesOf_length s) _ HR).ob (Nat.le_refl _) (by simp [bytesOf_length] <;> omega)) (by simp [bytesOf_length] <;> omega), copied_below _ _ _ _ _ (Nat.le_refl _) (hb.trans hb2)⟩
set_option maxRecDepth 100000 in
theorem wt_218 (w : World) (s : ByteArray) (h0 : 256 ≤ s.size) (h1 : s.size ≤ 65535) : Calls Tryz.prog 32 #[.string s] w (Wrote ([218, (s.size : Int) / 256 % 256, (s.size : Int) % 256] ++ bytesOf s) w) := by
  have H := Lib.hid (ensure_nil' w (3 + (s.size : Int)) (s.size + 3) (by omega) (by omega) (by omega))
  have hsh : ∀ W : World, (Instr.slice 22 (.slice (some ⟨w.heap.size, 0, none⟩) (s.size + 3) (s.size + 3)) (some (.int .i64 3)) none none).run Tryz.prog W = .ok (.slice (some ⟨w.heap.size, 3, none⟩) s.size s.size) W := sliceFrom w.heap.size 3 s.size _ rfl (by omega)
  have hse := sliceTo w.heap.size (s.size + 3) (3 + (s.size : Int)) (by omega)
  have hs0 : ∀ W : World, (Instr.slice 22 (.slice (some ⟨w.heap.size, 0, none⟩) (s.size + 3) (s.size + 3)) (some (.int .i64 0)) none none).run Tryz.prog W = .ok (.slice (some ⟨w.heap.size, 0, none⟩) (s.size + 3) (s.size + 3)) W := sliceFrom w.heap.size 0 (s.size + 3) _ rfl (by omega)
  have HH := Lib.hid (And.intro h0 h1)
  go_enter Tryz.func32, Tryz.ntmps32
  go_wp2_with (first | (go_at_call 88; refine H.out.mono ?_; rintro e w1 ⟨rfl, hrow, hb⟩; have HROW := Lib.hid hrow; clear hrow) | (go_at_call 89; refine (pre16 _ _ _ _ HROW (by omega) 218 (s.size : Int) (by omega) (by have := HH.out; omega)).mono ?_; rintro e w2 ⟨rfl, hr2, hb2⟩; have HR := Lib.hid hr2; clear hr2; have hcp := copyStr _ _ 3 s _ HR) | go_in)
  go_ret
  exact ⟨_, rfl, OBlen ((copied_bl _ _ 3 _ _ [218, (s.size : Int) / 256 % 256, (s.size : Int) % 256] rfl (bytesOf_length s) _ HR).ob (Nat.le_refl _) (by simp [bytesOf_length] <;> omega)) (by simp [bytesOf_length] <;> omega), copied_below _ _ _ _ _ (Nat.le_refl _) (hb.trans hb2)⟩
set_option maxRecDepth 100000 in
theorem wt_0 (w : World) : Calls Tryz.prog 32 #[.string ByteArray.empty] w (Wrote [160] w) := by
  have H := Lib.hid (ensure_nil w 1 (by omega) (by omega))
  have hb1 : Go.bits .and .u8 0 31 = 0 := by decide +kernel
  have hb2 : Go.bits .or .u8 0 160 = 160 := by decide +kernel
  have hse := sliceTo w.heap.size 1 1 (by omega)
  have hcp := fun (W : World) (o' : Nat) => Go.Lib.run_copy_empty_string (P := Tryz.prog) W 22 9 3 5 (some ⟨w.heap.size, o', none⟩) 0 0 ByteArray.empty Tryz.underlying22 (by kernel_rfl) rfl
  go_enter Tryz.func32, Tryz.ntmps32
  go_wp2_with (first | (go_at_call 88; refine H.out.mono ?_; rintro e w1 ⟨rfl, hrow, hb⟩; have k0 := hrow.cell (i := 0) (by omega); have f0 := hrow.frozen 0; have HR := Lib.hid (rowHd1 160 hrow); clear hrow) | go_in)
  go_ret
  exact ⟨_, rfl, (hdF_bl [160] HR.out rfl).ob (Nat.le_refl _) (by simp), hb.setCell (Nat.le_refl _) _⟩
/-- copy(o[h:], bts), bts read elsewhere. -/
theorem copySl (w : World) (G h g o c k : Nat) (l : List Int) (f : Nat → Value) (hk : l.length = k) (hr : Hid (w.rowIs G 5 (k + h) f)) (hs : RB w g o l) :
    (Builtin.copy_ #[22, 22] 3 #[.slice (some ⟨G, h, none⟩) k k, .slice (some ⟨g, o, none⟩) k c]).run Tryz.prog w = .ok (.int .i64 (k : Int)) (w.setCells G h (l.map bV)) := by
  have hl : (l.map bV).length = k := by rw [List.length_map, hk]
  have h2 := run_copy_cells (P := Tryz.prog) w 22 22 3 5 G h k k ⟨g, o, none⟩ k c (l.map bV) Tryz.underlying22 (by kernel_rfl) (by rw [hl]; exact (Nat.min_self k).symm) ?_ ?_ ?_ ?_
  · rw [hl] at h2; exact h2
  · intro j v hj
    have hjl : j < l.length := by rw [hk, ← hl]; exact (List.getElem?_eq_some_iff.1 hj).1
    rw [List.getElem?_map, List.getElem?_eq_getElem hjl] at hj
    have h3 : v = bV l[j] := by simpa using hj.symm
    have h4 := hs.cell j hjl
    rw [getD_rd, List.getD_eq_getElem?_getD, List.getElem?_eq_getElem hjl] at h4
    have h5 : (⟨g, o, none⟩ : Addr).add j = ⟨g, o + j, none⟩ := by
      unfold Addr.add
      split
      · subst_vars; rfl
      · rfl
    rw [h5, h3]
    exact h4
  · intro j hj
    rw [hl] at hj
    rw [hr.out.cell (by omega)]
    rfl
  · intro j hj
    exact hr.out.frozen _
  · intro v hv
    obtain ⟨x, _, rfl⟩ := List.mem_map.1 hv
    rfl
set_option maxRecDepth 100000 in
theorem wbin_0 (w : World) (A : Option Addr) (c : Nat) (hr : CB w A []) : Calls Tryz.prog 34 #[.slice A 0 c] w (Wrote [196, 0] w) := by
  have HC := Lib.hid (clone_any w A c [] hr (by simp))
  have hcp := fun (W : World) (o' : Nat) (A1 : Option Addr) (c1 : Nat) => run_copy_none (P := Tryz.prog) W 22 22 3 5 (some ⟨o', 0, none⟩) A1 0 0 0 c1 Tryz.underlying22 (by kernel_rfl) rfl
  go_enter Tryz.func34, Tryz.ntmps34
  go_wp2_with (first | (go_at_call 25; refine HC.out.mono ?_; rintro e w1 ⟨v, rfl, hR, hb⟩; obtain ⟨A1, c1, rfl, _, _⟩ := hR.reads; have H := Lib.hid (ensure_nil w1 2 (by omega) (by omega)); clear hR) | (go_at_call 88; refine H.out.mono ?_; rintro e w2 ⟨rfl, hrow, hb2⟩; have HROW := Lib.hid hrow; clear hrow; have hse := sliceTo w1.heap.size 2 2 (by omega)) | (go_at_call 100; refine (pre8 _ _ _ _ HROW (by omega) 196 0 (by omega) (by omega)).mono ?_; rintro e w3 ⟨rfl, hr2, hb3⟩; have HR := Lib.hid hr2; clear hr2) | go_in)
  go_ret
  exact ⟨_, rfl, (hdF_bl [196, 0] HR.out rfl).ob hb.size (by simp), (below_then hb hb.size hb2).trans (hb3.mono hb.size)⟩

set_option maxRecDepth 100000 in
theorem wbin_196 (w : World) (A : Option Addr) (c k : Nat) (l : List Int) (hl : l.length = k) (hr : CB w A l) (h0 : 1 ≤ k) (h1 : k ≤ 255) : Calls Tryz.prog 34 #[.slice A k c] w (Wrote ([196, (k : Int) % 256] ++ l) w) := by
  have HC := Lib.hid (clone_any w A c l hr (by omega))
  rw [hl] at HC
  have HL := Lib.hid hl
  clear hr hl
  have HH := Lib.hid (And.intro h0 h1)
  go_enter Tryz.func34, Tryz.ntmps34
  go_wp2_with (first | (go_at_call 25; refine HC.out.mono ?_; rintro e w1 ⟨v, rfl, hR, hb⟩; obtain ⟨gs, cs, rfl, hRB⟩ := OB.form' hR HL.out (by have := HH.out; omega); have H := Lib.hid (ensure_nil' w1 (2 + (k : Int)) (k + 2) (by omega) (by omega) (by have := HH.out; omega)); clear hR; have hsh : ∀ W : World, (Instr.slice 22 (.slice (some ⟨w1.heap.size, 0, none⟩) (k + 2) (k + 2)) (some (.int .i64 2)) none none).run Tryz.prog W = .ok (.slice (some ⟨w1.heap.size, 2, none⟩) k k) W := sliceFrom w1.heap.size 2 k _ rfl (by have := HH.out; omega); have hse := sliceTo w1.heap.size (k + 2) (2 + (k : Int)) (by omega); have hs0 : ∀ W : World, (Instr.slice 22 (.slice (some ⟨w1.heap.size, 0, none⟩) (k + 2) (k + 2)) (some (.int .i64 0)) none none).run Tryz.prog W = .ok (.slice (some ⟨w1.heap.size, 0, none⟩) (k + 2) (k + 2)) W := sliceFrom w1.heap.size 0 (k + 2) _ rfl (by omega)) | (go_at_call 88; refine H.out.mono ?_; rintro e w2 ⟨rfl, hrow, hb2⟩; have HROW := Lib.hid hrow; clear hrow) | (go_at_call 100; refine (pre8 _ _ _ _ HROW (by omega) 196 (k : Int) (by omega) (by have := HH.out; omega)).mono ?_; rintro e w3 ⟨rfl, hr2, hb3⟩; have HR := Lib.hid hr2; clear hr2; have hcp := copySl _ _ 2 gs 0 cs k l _ HL.out HR ((RB.below hRB.out hb2).belowB hb3 hRB.out.lt)) | go_in)
  go_ret
  exact ⟨_, rfl, OBlen ((copied_bl _ _ 2 k l [196, (k : Int) % 256] rfl HL.out _ HR).ob hb.size (by have := HL.out; simp <;> omega)) (by have := HL.out; simp <;> omega), copied_below _ _ _ _ _ hb.size ((below_then hb hb.size hb2).trans (hb3.mono hb.size))⟩

set_option maxRecDepth 100000 in
theorem wbin_197 (w : World) (A : Option Addr) (c k : Nat) (l : List Int) (hl : l.length = k) (hr : CB w A l) (h0 : 256 ≤ k) (h1 : k ≤ 65535) : Calls Tryz.prog 34 #[.slice A k c] w (Wrote ([197, (k : Int) / 256 % 256, (k : Int) % 256] ++ l) w) := by
  have HC := Lib.hid (clone_any w A c l hr (by omega))
  rw [hl] at HC
  have HL := Lib.hid hl
  clear hr hl
  have HH := Lib.hid (And.intro h0 h1)
  go_enter Tryz.func34, Tryz.ntmps34
  go_wp2_with (first | (go_at_call 25; refine HC.out.mono ?_; rintro e w1 ⟨v, rfl, hR, hb⟩; obtain ⟨gs, cs, rfl, hRB⟩ := OB.form' hR HL.out (by have := HH.out; omega); have H := Lib.hid (ensure_nil' w1 (3 + (k : Int)) (k + 3) (by omega) (by omega) (by have := HH.out; omega)); clear hR; have hsh : ∀ W : World, (Instr.slice 22 (.slice (some ⟨w1.heap.size, 0, none⟩) (k + 3) (k + 3)) (some (.int .i64 3)) none none).run Tryz.prog W = .ok (.slice (some ⟨w1.heap.size, 3, none⟩) k k) W := sliceFrom w1.heap.size 3 k _ rfl (by have := HH.out; omega); have hse := sliceTo w1.heap.size (k + 3) (3 + (k : Int)) (by omega); have hs0 : ∀ W : World, (Instr.slice 22 (.slice (some ⟨w1.heap.size, 0, none⟩) (k + 3) (k + 3)) (some (.int .i64 0)) none none).run Tryz.prog W = .ok (.slice (some ⟨w1.heap.size, 0, none⟩) (k + 3) (k + 3)) W := sliceFrom w1.heap.size 0 (k + 3) _ rfl (by omega)) | (go_at_call 88; refine H.out.mono ?_; rintro e w2 ⟨rfl, hrow, hb2⟩; have HROW := Lib.hid hrow; clear hrow) | (go_at_call 89; refine (pre16 _ _ _ _ HROW (by omega) 197 (k : Int) (by omega) (by have := HH.out; omega)).mono ?_; rintro e w3 ⟨rfl, hr2, hb3⟩; have HR := Lib.hid hr2; clear hr2; have hcp := copySl _ _ 3 gs 0 cs k l _ HL.out HR ((RB.below hRB.out hb2).belowB hb3 hRB.out.lt)) | go_in)
  go_ret
  exact ⟨_, rfl, OBlen ((copied_bl _ _ 3 k l [197, (k : Int) / 256 % 256, (k : Int) % 256] rfl HL.out _ HR).ob hb.size (by have := HL.out; simp <;> omega)) (by have := HL.out; simp <;> omega), copied_below _ _ _ _ _ hb.size ((below_then hb hb.size hb2).trans (hb3.mono hb.size))⟩

end Go.Proofs.YtmliokplekeljaaGreatDoor.M

namespace Go.Proofs.YtmliokplekeljaaGreatDoor.M
open Go.RowKit Go.Proofs.YtmliokplekeljaaGreatDoorW.PrintWords Go.Proofs.YtmliokplekeljaaGreatDoorW.PrintMore PFnTreeAny
set_option linter.unusedVariables false
set_option linter.unusedSimpArgs false

/-- The number of bytes, the highest first, behind a number. -/
def beL : Int → List Int → Int
  | a, [] => a
  | a, x :: xs => beL (a * 256 + x) xs
theorem wrap64_id {x : Int} (h0 : -9223372036854775808 ≤ x) (h1 : x < 9223372036854775808) : wrap64 x = x := by unfold wrap64; omega
theorem number_l0 : ∀ (xs pre : List Int) (acc : Int) (k : Nat), (∀ x, x ∈ xs → isB x) → 0 ≤ acc → (acc + 1) * 256 ^ xs.length ≤ 18446744073709551616 → pre.length + xs.length ≤ 100 → xs.length < k →
    spec_number.l0 k acc (pre ++ xs) ((pre ++ xs).length : Int) (pre.length : Int) = some (beL acc xs) := by
  intro xs
  induction xs with
  | nil =>
    intro pre acc k _ _ _ _ hk
    obtain ⟨k, rfl⟩ : ∃ m, k = m + 1 := ⟨k - 1, by simp at hk; omega⟩
    rw [spec_number.l0, if_neg (by simp)]
    rfl
  | cons x xs ih =>
    intro pre acc k hB ha hb hl hk
    obtain ⟨k, rfl⟩ : ∃ m, k = m + 1 := ⟨k - 1, by simp at hk; omega⟩
    obtain ⟨hx0, hx1⟩ := hB x (List.mem_cons_self ..)
    have hlen : (pre ++ x :: xs).length = pre.length + xs.length + 1 := by simp; omega
    have h256 : (256 : Int) ^ (x :: xs).length = 256 * 256 ^ xs.length := by rw [List.length_cons, Int.pow_succ, Int.mul_comm]
    have hpos : (1 : Int) ≤ 256 ^ xs.length := by have := Int.pow_pos (m := xs.length) (show (0 : Int) < 256 by omega); omega
    have hacc : (acc + 1) * 256 ≤ 18446744073709551616 := by
      refine Int.le_trans ?_ hb
      rw [h256, ← Int.mul_assoc]
      have h1 : (acc + 1) * 256 * 1 ≤ (acc + 1) * 256 * 256 ^ xs.length := Int.mul_le_mul_of_nonneg_left hpos (by omega)
      rw [Int.mul_one] at h1
      exact h1
    have hrd : rd (pre ++ x :: xs) (pre.length : Int) = x := by simp [rd]
    have hw1 : IntKind.u64.wrap (acc * 256) = acc * 256 := wraps_u64 _ (by omega) (by omega)
    have hw2 : IntKind.u64.wrap x = x := wraps_u64 _ (by omega) (by omega)
    have hor := u64_hi8 (x := acc * 256) (y := x) hx0 hx1 (by omega) (by omega) (by omega)
    have hs : wrap64 ((pre.length : Int) + 1) = ((pre ++ [x]).length : Int) := by
      rw [wrap64_id (by omega) (by simp at hl; omega)]; simp
    rw [spec_number.l0, if_pos (by rw [hlen]; omega), if_pos (by omega), if_pos (by rw [hlen]; omega), hrd, hw1, hw2, hor, hs, show pre ++ x :: xs = (pre ++ [x]) ++ xs from by simp]
    refine ih (pre ++ [x]) (acc * 256 + x) k (fun y hy => hB y (List.mem_cons_of_mem _ hy)) (by omega) ?_ (by simp at hl ⊢; omega) (by simp at hk; omega)
    refine Int.le_trans ?_ hb
    rw [h256, ← Int.mul_assoc]
    exact Int.mul_le_mul_of_nonneg_right (by omega) (by omega)
theorem number_f (xs : List Int) (hB : ∀ x, x ∈ xs → isB x) (hl : xs.length ≤ 8) : spec_number.f 20 xs = some (beL 0 xs) := by
  have h := number_l0 xs [] 0 20 hB (by omega) ?_ (by simp; omega) (by omega)
  · exact h
  · have : xs.length = 0 ∨ xs.length = 1 ∨ xs.length = 2 ∨ xs.length = 3 ∨ xs.length = 4 ∨ xs.length = 5 ∨ xs.length = 6 ∨ xs.length = 7 ∨ xs.length = 8 := by omega
    rcases this with h | h | h | h | h | h | h | h | h <;> rw [h] <;> decide
/-- So many bytes of a number, the highest first. -/
def byL (n : Int) : Nat → List Int
  | 0 => []
  | k + 1 => n / 256 ^ k % 256 :: byL n k
theorem with_1 (p n : Int) : spec_With.f 20 p n 1 = some [p, n % 256] := by
  simp [spec_With.f, spec_fixed.f, spec_fixed.l0, wrap64, shr]
theorem with_2 (p n : Int) : spec_With.f 20 p n 2 = some [p, n / 256 % 256, n % 256] := by
  simp [spec_With.f, spec_fixed.f, spec_fixed.l0, wrap64, shr, IntKind.bits]
theorem with_4 (p n : Int) : spec_With.f 20 p n 4 = some [p, n / 16777216 % 256, n / 65536 % 256, n / 256 % 256, n % 256] := by
  simp [spec_With.f, spec_fixed.f, spec_fixed.l0, wrap64, shr, IntKind.bits]
theorem with_8 (p n : Int) : spec_With.f 20 p n 8 = some [p, n / 72057594037927936 % 256, n / 281474976710656 % 256, n / 1099511627776 % 256, n / 4294967296 % 256, n / 16777216 % 256, n / 65536 % 256, n / 256 % 256, n % 256] := by
  simp [spec_With.f, spec_fixed.f, spec_fixed.l0, wrap64, shr, IntKind.bits]
theorem and1_0 : Go.bits .and .u64 0 1 = 0 := by decide +kernel
theorem and1_1 : Go.bits .and .u64 1 1 = 1 := by decide +kernel
theorem u64or (j : Nat) (hj : j = 8 ∨ j = 16 ∨ j = 24 ∨ j = 32 ∨ j = 40 ∨ j = 48 ∨ j = 56) (y : Int) (h0 : 0 ≤ y) (h1 : y < 2 ^ j) : Go.bits .or .u64 y (shl .u64 255 (j : Int)) = y + 255 * 2 ^ j := by
  rcases hj with rfl | rfl | rfl | rfl | rfl | rfl | rfl
  · rw [show shl .u64 255 ((8 : Nat) : Int) = 65280 from by decide +kernel, u64_or8 (y := y) (x := 65280) h0 (by omega) (by omega) (by omega) (by omega)]; omega
  · rw [show shl .u64 255 ((16 : Nat) : Int) = 16711680 from by decide +kernel, u64_or16 (y := y) (x := 16711680) h0 (by omega) (by omega) (by omega) (by omega)]; omega
  · rw [show shl .u64 255 ((24 : Nat) : Int) = 4278190080 from by decide +kernel, u64_or24 (y := y) (x := 4278190080) h0 (by omega) (by omega) (by omega) (by omega)]; omega
  · rw [show shl .u64 255 ((32 : Nat) : Int) = 1095216660480 from by decide +kernel, u64_or32 (y := y) (x := 1095216660480) h0 (by omega) (by omega) (by omega) (by omega)]; omega
  · rw [show shl .u64 255 ((40 : Nat) : Int) = 280375465082880 from by decide +kernel, u64_or40 (y := y) (x := 280375465082880) h0 (by omega) (by omega) (by omega) (by omega)]; omega
  · rw [show shl .u64 255 ((48 : Nat) : Int) = 71776119061217280 from by decide +kernel, u64_or48 (y := y) (x := 71776119061217280) h0 (by omega) (by omega) (by omega) (by omega)]; omega
  · rw [show shl .u64 255 ((56 : Nat) : Int) = 18374686479671623680 from by decide +kernel, u64_or56 (y := y) (x := 18374686479671623680) h0 (by omega) (by omega) (by omega) (by omega)]; omega
theorem signed_step (k i : Nat) (x : Int) (hi : 1 ≤ i) (hi7 : i ≤ 7) (h0 : 0 ≤ x) (h1 : x < 2 ^ (8 * i)) : spec_signed.l0 (k + 1) x (i : Int) = spec_signed.l0 k (x + 255 * 2 ^ (8 * i)) ((i + 1 : Nat) : Int) := by
  rw [spec_signed.l0, if_pos (by omega), wrap64_id (x := 8 * (i : Int)) (by omega) (by omega), if_pos (by omega), wrap64_id (x := (i : Int) + 1) (by omega) (by omega),
    show (8 : Int) * (i : Int) = ((8 * i : Nat) : Int) from by omega, u64or (8 * i) (by omega) x h0 h1, show (i : Int) + 1 = ((i + 1 : Nat) : Int) from by omega]
theorem signed_last (k : Nat) (x : Int) : spec_signed.l0 (k + 1) x ((8 : Nat) : Int) = some x := by
  rw [spec_signed.l0, if_neg (by omega)]
theorem signed_1 (n : Int) (h0 : 0 ≤ n) (h1 : n < 256) : spec_signed.f 20 n 1 = some (if n < 128 then n else n + 18446744073709551360) := by
  have hsh : shr .u64 n 7 = n / 128 := by simp [shr, IntKind.bits]
  unfold spec_signed.f
  rw [show wrap64 (wrap64 (8 * 1) - 1) = 7 from by unfold wrap64; omega, if_pos (by omega), hsh]
  by_cases h : n < 128
  · rw [show n / 128 = 0 from by omega, and1_0, if_neg (by omega), if_pos h]
  · rw [show n / 128 = 1 from by omega, and1_1, if_pos rfl, if_neg h]
    rw [show (1 : Int) = ((1 : Nat) : Int) from rfl]
    rw [signed_step _ 1 _ (by omega) (by omega) (by omega) (by omega)]
    rw [signed_step _ 2 _ (by omega) (by omega) (by omega) (by omega)]
    rw [signed_step _ 3 _ (by omega) (by omega) (by omega) (by omega)]
    rw [signed_step _ 4 _ (by omega) (by omega) (by omega) (by omega)]
    rw [signed_step _ 5 _ (by omega) (by omega) (by omega) (by omega)]
    rw [signed_step _ 6 _ (by omega) (by omega) (by omega) (by omega)]
    rw [signed_step _ 7 _ (by omega) (by omega) (by omega) (by omega)]
    rw [signed_last]
    congr 1
    omega
theorem signed_2 (n : Int) (h0 : 0 ≤ n) (h1 : n < 65536) : spec_signed.f 20 n 2 = some (if n < 32768 then n else n + 18446744073709486080) := by
  have hsh : shr .u64 n 15 = n / 32768 := by simp [shr, IntKind.bits]
  unfold spec_signed.f
  rw [show wrap64 (wrap64 (8 * 2) - 1) = 15 from by unfold wrap64; omega, if_pos (by omega), hsh]
  by_cases h : n < 32768
  · rw [show n / 32768 = 0 from by omega, and1_0, if_neg (by omega), if_pos h]
  · rw [show n / 32768 = 1 from by omega, and1_1, if_pos rfl, if_neg h]
    rw [show (2 : Int) = ((2 : Nat) : Int) from rfl]
    rw [signed_step _ 2 _ (by omega) (by omega) (by omega) (by omega)]
    rw [signed_step _ 3 _ (by omega) (by omega) (by omega) (by omega)]
    rw [signed_step _ 4 _ (by omega) (by omega) (by omega) (by omega)]
    rw [signed_step _ 5 _ (by omega) (by omega) (by omega) (by omega)]
    rw [signed_step _ 6 _ (by omega) (by omega) (by omega) (by omega)]
    rw [signed_step _ 7 _ (by omega) (by omega) (by omega) (by omega)]
    rw [signed_last]
    congr 1
    omega
theorem signed_4 (n : Int) (h0 : 0 ≤ n) (h1 : n < 4294967296) : spec_signed.f 20 n 4 = some (if n < 2147483648 then n else n + 18446744069414584320) := by
  have hsh : shr .u64 n 31 = n / 2147483648 := by simp [shr, IntKind.bits]
  unfold spec_signed.f
  rw [show wrap64 (wrap64 (8 * 4) - 1) = 31 from by unfold wrap64; omega, if_pos (by omega), hsh]
  by_cases h : n < 2147483648
  · rw [show n / 2147483648 = 0 from by omega, and1_0, if_neg (by omega), if_pos h]
  · rw [show n / 2147483648 = 1 from by omega, and1_1, if_pos rfl, if_neg h]
    rw [show (4 : Int) = ((4 : Nat) : Int) from rfl]
    rw [signed_step _ 4 _ (by omega) (by omega) (by omega) (by omega)]
    rw [signed_step _ 5 _ (by omega) (by omega) (by omega) (by omega)]
    rw [signed_step _ 6 _ (by omega) (by omega) (by omega) (by omega)]
    rw [signed_step _ 7 _ (by omega) (by omega) (by omega) (by omega)]
    rw [signed_last]
    congr 1
    omega
theorem signed_8 (n : Int) (h0 : 0 ≤ n) (h1 : n < 18446744073709551616) : spec_signed.f 20 n 8 = some (if n < 9223372036854775808 then n else n + 0) := by
  have hsh : shr .u64 n 63 = n / 9223372036854775808 := by simp [shr, IntKind.bits]
  unfold spec_signed.f
  rw [show wrap64 (wrap64 (8 * 8) - 1) = 63 from by unfold wrap64; omega, if_pos (by omega), hsh]
  by_cases h : n < 9223372036854775808
  · rw [show n / 9223372036854775808 = 0 from by omega, and1_0, if_neg (by omega), if_pos h]
  · rw [show n / 9223372036854775808 = 1 from by omega, and1_1, if_pos rfl, if_neg h]
    rw [show (8 : Int) = ((8 : Nat) : Int) from rfl]
    rw [signed_last]
    congr 1
    omega
end Go.Proofs.YtmliokplekeljaaGreatDoor.M

namespace Go.Proofs.YtmliokplekeljaaGreatDoor.M
open Go.RowKit Go.Proofs.YtmliokplekeljaaGreatDoorW.PrintWords Go.Proofs.YtmliokplekeljaaGreatDoorW.PrintMore PFnTreeAny
set_option linter.unusedVariables false
set_option linter.unusedSimpArgs false

theorem with_up (m : Nat) {k : Nat} {p n s : Int} {r : List Int} (h : spec_With.f k p n s = some r) : spec_With.f (k + m) p n s = some r := by
  induction m with
  | zero => exact h
  | succ m ih => exact spec_With.mono p n s (k + m) r ih
theorem wrapU (n : Int) (h0 : 0 ≤ n) (h1 : n < 18446744073709551616) : IntKind.u64.wrap n = n := wraps_u64 _ h0 h1

def intT (n : Int) : List Int :=
  if -32 ≤ n ∧ n ≤ 127 then [n % 256] else if -128 ≤ n ∧ n ≤ 127 then [208, n % 256] else if -32768 ≤ n ∧ n ≤ 32767 then [209, n / 256 % 256, n % 256] else if -2147483648 ≤ n ∧ n < 2147483648 then [210, n / 16777216 % 256, n / 65536 % 256, n / 256 % 256, n % 256] else [211, n / 72057594037927936 % 256, n / 281474976710656 % 256, n / 1099511627776 % 256, n / 4294967296 % 256, n / 16777216 % 256, n / 65536 % 256, n / 256 % 256, n % 256]
def uintT (n : Int) : List Int :=
  if n ≤ 127 then [n % 256] else if n ≤ 255 then [204, n % 256] else if n ≤ 65535 then [205, n / 256 % 256, n % 256] else if n < 4294967296 then [206, n / 16777216 % 256, n / 65536 % 256, n / 256 % 256, n % 256] else [207, n / 72057594037927936 % 256, n / 281474976710656 % 256, n / 1099511627776 % 256, n / 4294967296 % 256, n / 16777216 % 256, n / 65536 % 256, n / 256 % 256, n % 256]
def textH (n : Int) : List Int := if n ≤ 31 then [160 + n] else if n ≤ 255 then [217, n % 256] else if n ≤ 65535 then [218, n / 256 % 256, n % 256] else [219, n / 16777216 % 256, n / 65536 % 256, n / 256 % 256, n % 256]
def binH (n : Int) : List Int := if n ≤ 255 then [196, n % 256] else if n ≤ 65535 then [197, n / 256 % 256, n % 256] else [198, n / 16777216 % 256, n / 65536 % 256, n / 256 % 256, n % 256]
def arrH (n : Int) : List Int := if n ≤ 15 then [144 + n] else if n ≤ 65535 then [220, n / 256 % 256, n % 256] else [221, n / 16777216 % 256, n / 65536 % 256, n / 256 % 256, n % 256]
def mapH (n : Int) : List Int := if n ≤ 15 then [128 + n] else if n ≤ 65535 then [222, n / 256 % 256, n % 256] else [223, n / 16777216 % 256, n / 65536 % 256, n / 256 % 256, n % 256]
theorem wmod1 (n : Int) : IntKind.u64.wrap n % 256 = n % 256 := by rw [IntKind.wrap_u64]; omega
theorem wmod2 (n : Int) : IntKind.u64.wrap n / 256 % 256 = n / 256 % 256 := by rw [IntKind.wrap_u64]; omega
theorem wmod3 (n : Int) : IntKind.u64.wrap n / 65536 % 256 = n / 65536 % 256 := by rw [IntKind.wrap_u64]; omega
theorem wmod4 (n : Int) : IntKind.u64.wrap n / 16777216 % 256 = n / 16777216 % 256 := by rw [IntKind.wrap_u64]; omega
theorem wmod5 (n : Int) : IntKind.u64.wrap n / 4294967296 % 256 = n / 4294967296 % 256 := by rw [IntKind.wrap_u64]; omega
theorem wmod6 (n : Int) : IntKind.u64.wrap n / 1099511627776 % 256 = n / 1099511627776 % 256 := by rw [IntKind.wrap_u64]; omega
theorem wmod7 (n : Int) : IntKind.u64.wrap n / 281474976710656 % 256 = n / 281474976710656 % 256 := by rw [IntKind.wrap_u64]; omega
theorem wmod8 (n : Int) : IntKind.u64.wrap n / 72057594037927936 % 256 = n / 72057594037927936 % 256 := by rw [IntKind.wrap_u64]; omega
theorem ref_int (w : World) (n : Int) : Calls Tryz.prog 12 #[.int .i64 n] w (Wrote (intT n) w) := by
  refine spec_IntText.calls 30 n (intT n) w ?_
  unfold spec_IntText.f intT
  by_cases a : -32 ≤ n
  · rw [if_pos (show n ≥ -32 from a)]
    by_cases b : n ≤ 127
    · rw [if_pos ⟨a, b⟩, decide_eq_true b]
      simp [spec_IntText.j0]
    · rw [if_neg (by omega), if_neg (by omega), decide_eq_false b]
      simp only [spec_IntText.j0, if_neg (show ¬ (false = true) by simp), if_pos (show n ≥ -128 by omega), spec_IntText.j1, decide_eq_false b, if_pos (show n ≥ -32768 by omega)]
      by_cases c : n ≤ 32767
      · rw [if_pos ⟨by omega, c⟩, decide_eq_true c]
        simp only [spec_IntText.j2, if_true]
        rw [with_up 7 (with_2 209 (IntKind.u64.wrap n))]
        simp only [Option.bind_some, wmod1, wmod2]
      · rw [if_neg (by omega), decide_eq_false c]
        simp only [spec_IntText.j2, if_neg (show ¬ (false = true) by simp), if_pos (show n ≥ -2147483648 by omega)]
        by_cases d : n < 2147483648
        · rw [if_pos ⟨by omega, d⟩, decide_eq_true d]
          simp only [spec_IntText.j3, if_true]
          rw [with_up 6 (with_4 210 (IntKind.u64.wrap n))]
          simp only [Option.bind_some, wmod1, wmod2, wmod3, wmod4]
        · rw [if_neg (by omega), decide_eq_false d]
          simp only [spec_IntText.j3, if_neg (show ¬ (false = true) by simp)]
          rw [with_up 6 (with_8 211 (IntKind.u64.wrap n))]
          simp only [Option.bind_some, wmod1, wmod2, wmod3, wmod4, wmod5, wmod6, wmod7, wmod8]
  · rw [if_neg (show ¬ n ≥ -32 from a), if_neg (by omega)]
    simp only [spec_IntText.j0, if_neg (show ¬ (false = true) by simp)]
    by_cases b : -128 ≤ n
    · rw [if_pos (show n ≥ -128 from b), if_pos ⟨b, by omega⟩, decide_eq_true (show n ≤ 127 by omega)]
      simp only [spec_IntText.j1, if_true]
      rw [with_up 8 (with_1 208 (IntKind.u64.wrap n))]
      simp only [Option.bind_some, wmod1]
    · rw [if_neg (show ¬ n ≥ -128 from b), if_neg (by omega)]
      simp only [spec_IntText.j1, if_neg (show ¬ (false = true) by simp)]
      by_cases c : -32768 ≤ n
      · rw [if_pos (show n ≥ -32768 from c), if_pos ⟨c, by omega⟩, decide_eq_true (show n ≤ 32767 by omega)]
        simp only [spec_IntText.j2, if_true]
        rw [with_up 7 (with_2 209 (IntKind.u64.wrap n))]
        simp only [Option.bind_some, wmod1, wmod2]
      · rw [if_neg (show ¬ n ≥ -32768 from c), if_neg (by omega)]
        simp only [spec_IntText.j2, if_neg (show ¬ (false = true) by simp)]
        by_cases d : -2147483648 ≤ n
        · rw [if_pos (show n ≥ -2147483648 from d), if_pos ⟨d, by omega⟩, decide_eq_true (show n < 2147483648 by omega)]
          simp only [spec_IntText.j3, if_true]
          rw [with_up 6 (with_4 210 (IntKind.u64.wrap n))]
          simp only [Option.bind_some, wmod1, wmod2, wmod3, wmod4]
        · rw [if_neg (show ¬ n ≥ -2147483648 from d), if_neg (by omega)]
          simp only [spec_IntText.j3, if_neg (show ¬ (false = true) by simp)]
          rw [with_up 6 (with_8 211 (IntKind.u64.wrap n))]
          simp only [Option.bind_some, wmod1, wmod2, wmod3, wmod4, wmod5, wmod6, wmod7, wmod8]
theorem ref_uint (w : World) (n : Int) : Calls Tryz.prog 13 #[.int .u64 n] w (Wrote (uintT n) w) := by
  refine spec_UintText.calls 20 n (uintT n) w ?_
  unfold spec_UintText.f uintT
  rw [with_1, with_2, with_4, with_8]
  simp only [Option.bind_some]
  repeat' split
  all_goals rfl
theorem ref_text (w : World) (n : Int) (h0 : 0 ≤ n) (h1 : n < 4294967296) : Calls Tryz.prog 14 #[.int .i64 n] w (Wrote (textH n) w) := by
  refine spec_TextHead.calls 20 n (textH n) w ?_
  unfold spec_TextHead.f textH
  rw [wrapU n h0 (by omega), with_1 217, with_2 218, with_4 219]
  simp only [Option.bind_some]
  by_cases a : n ≤ 31
  · rw [if_pos a, if_pos a]
    rw [show n % 256 = n from by omega, (orT n h0 (by omega)).2]
  · rw [if_neg a, if_neg a]
    repeat' split
    all_goals rfl
theorem ref_bin (w : World) (n : Int) (h0 : 0 ≤ n) (h1 : n < 4294967296) : Calls Tryz.prog 15 #[.int .i64 n] w (Wrote (binH n) w) := by
  refine spec_BinHead.calls 20 n (binH n) w ?_
  unfold spec_BinHead.f binH
  rw [wrapU n h0 (by omega), with_1 196, with_2 197, with_4 198]
  simp only [Option.bind_some]
  repeat' split
  all_goals rfl
theorem ref_arr (w : World) (n : Int) (h0 : 0 ≤ n) (h1 : n < 4294967296) : Calls Tryz.prog 16 #[.int .u32 n] w (Wrote (arrH n) w) := by
  refine spec_ArrayHead.calls 20 n (arrH n) w ?_
  unfold spec_ArrayHead.f arrH
  rw [wrapU n h0 (by omega), with_2 220, with_4 221]
  simp only [Option.bind_some]
  by_cases a : n ≤ 15
  · rw [if_pos a, if_pos a]
    rw [show n % 256 = n from by omega, (orB n h0 (by omega)).1]
  · rw [if_neg a, if_neg a]
    repeat' split
    all_goals rfl
theorem ref_map (w : World) (n : Int) (h0 : 0 ≤ n) (h1 : n < 4294967296) : Calls Tryz.prog 17 #[.int .u32 n] w (Wrote (mapH n) w) := by
  refine spec_MapHead.calls 20 n (mapH n) w ?_
  unfold spec_MapHead.f mapH
  rw [wrapU n h0 (by omega), with_2 222, with_4 223]
  simp only [Option.bind_some]
  by_cases a : n ≤ 15
  · rw [if_pos a, if_pos a]
    rw [show n % 256 = n from by omega, (orB n h0 (by omega)).2.2]
  · rw [if_neg a, if_neg a]
    repeat' split
    all_goals rfl
theorem prog_int (w : World) (n : Int) (h0 : -9223372036854775808 ≤ n) (h1 : n ≤ 9223372036854775807) : Calls Tryz.prog 42 #[.int .i64 n] w (Wrote (intT n) w) := by
  unfold intT
  by_cases a : -32 ≤ n ∧ n ≤ 127
  · rw [if_pos a]
    by_cases p : 0 ≤ n
    · exact wi_fix w n p a.2
    · exact wi_nfix w n a.1 (by omega)
  rw [if_neg a]
  by_cases b : -128 ≤ n ∧ n ≤ 127
  · rw [if_pos b]; exact wi_208 w n b.1 (by omega)
  rw [if_neg b]
  by_cases c : -32768 ≤ n ∧ n ≤ 32767
  · rw [if_pos c]
    by_cases p : 0 ≤ n
    · exact wi_209p w n (by omega) c.2
    · exact wi_209n w n c.1 (by omega)
  rw [if_neg c]
  by_cases d : -2147483648 ≤ n ∧ n < 2147483648
  · rw [if_pos d]
    by_cases p : 0 ≤ n
    · exact wi_210p w n (by omega) (by omega)
    · exact wi_210n w n d.1 (by omega)
  rw [if_neg d]
  by_cases p : 0 ≤ n
  · exact wi_211p w n (by omega) h1
  · exact wi_211n w n h0 (by omega)
theorem prog_uint (w : World) (n : Int) (h0 : 0 ≤ n) (h1 : n < 18446744073709551616) : Calls Tryz.prog 44 #[.int .u64 n] w (Wrote (uintT n) w) := by
  unfold uintT
  by_cases a : n ≤ 127
  · rw [if_pos a]; exact wu_fix w n h0 a
  rw [if_neg a]
  by_cases b : n ≤ 255
  · rw [if_pos b]; exact wu_204 w n (by omega) b
  rw [if_neg b]
  by_cases c : n ≤ 65535
  · rw [if_pos c]; exact wu_205 w n (by omega) c
  rw [if_neg c]
  by_cases d : n < 4294967296
  · rw [if_pos d]; exact wu_206 w n (by omega) (by omega)
  rw [if_neg d]
  exact wu_207 w n (by omega) (by omega)
theorem prog_arr (w : World) (n : Int) (h0 : 0 ≤ n) (h1 : n < 4294967296) : Calls Tryz.prog 21 #[.int .u32 n] w (Wrote (arrH n) w) := by
  unfold arrH
  by_cases a : n ≤ 15
  · rw [if_pos a]; exact wa_fix w n h0 a
  rw [if_neg a]
  by_cases c : n ≤ 65535
  · rw [if_pos c]; exact wa_220 w n (by omega) c
  rw [if_neg c]
  exact wa_221 w n (by omega) (by omega)
theorem prog_map (w : World) (n : Int) (h0 : 0 ≤ n) (h1 : n < 4294967296) : Calls Tryz.prog 23 #[.int .u32 n] w (Wrote (mapH n) w) := by
  unfold mapH
  by_cases a : n ≤ 15
  · rw [if_pos a]; exact wm_fix w n h0 a
  rw [if_neg a]
  by_cases c : n ≤ 65535
  · rw [if_pos c]; exact wm_222 w n (by omega) c
  rw [if_neg c]
  exact wm_223 w n (by omega) (by omega)
theorem prog_text (w : World) (s : ByteArray) (h1 : s.size ≤ 65535) : Calls Tryz.prog 32 #[.string s] w (Wrote (textH (s.size : Int) ++ bytesOf s) w) := by
  unfold textH
  by_cases z : s.size = 0
  · have hs : s = ByteArray.empty := by
      cases s with | mk d => simp [ByteArray.size] at z; subst z; rfl
    subst hs
    exact wt_0 w
  by_cases a : (s.size : Int) ≤ 31
  · rw [if_pos a]; exact wt_fix w s (by omega) (by omega)
  rw [if_neg a]
  by_cases b : (s.size : Int) ≤ 255
  · rw [if_pos b]; exact wt_217 w s (by omega) (by omega)
  rw [if_neg b, if_pos (by omega)]
  exact wt_218 w s (by omega) h1
theorem prog_bin (w : World) (A : Option Addr) (c : Nat) (l : List Int) (hr : CB w A l) (h1 : l.length ≤ 65535) : Calls Tryz.prog 34 #[.slice A l.length c] w (Wrote (binH (l.length : Int) ++ l) w) := by
  unfold binH
  by_cases z : l.length = 0
  · obtain rfl := List.eq_nil_of_length_eq_zero z
    exact wbin_0 w A c hr
  by_cases a : (l.length : Int) ≤ 255
  · rw [if_pos a]; exact wbin_196 w A c l.length l rfl hr (by omega) (by omega)
  rw [if_neg a, if_pos (by omega)]
  exact wbin_197 w A c l.length l rfl hr (by omega) h1
end Go.Proofs.YtmliokplekeljaaGreatDoor.M
