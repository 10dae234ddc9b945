/- The reference's Tree: no object, texts and bytes. -/
import Derived.Test.YtmliokplekeljaaGreatDoorN12
import Derived.Deep.RegionHeld3
namespace Go.Proofs.YtmliokplekeljaaGreatDoor.M
open Go.RowKit Go.Proofs.YtmliokplekeljaaGreatDoorW.PrintWords Go.Proofs.YtmliokplekeljaaGreatDoorW.PrintMore PFnTreeAny
set_option linter.unusedVariables false
set_option linter.unusedSimpArgs false

set_option maxRecDepth 100000 in
theorem tree_short (w : World) (A : Option Addr) (n c : Nat) (kk K N L T S : Int) (H : Calls Tryz.prog 11 #[.slice A n c] w (HdIs K N L T S true w)) :
    Calls Tryz.prog 7 #[.slice A n c, .int .i64 kk] w (TreePost w .bad) := by
  have HH := Lib.hid H
  clear H
  go_enter Tryz.func7, Tryz.ntmps7
  go_wp2_with (go_at_call 11; refine HH.out.mono ?_; rintro e w1 ⟨rfl, hb⟩)
  exact bodyPost_ret (v := .tuple #[.slice none 0 0, .int .i64 0, .bool false, .bool true]) (by simp [results, Tryz.results7, go_sem]) rfl (treeBad (below_alloc hb _))
set_option maxRecDepth 100000 in
theorem tree_none (w : World) (A : Option Addr) (n c : Nat) (kk N L T S : Int) (H : Calls Tryz.prog 11 #[.slice A n c] w (HdIs 0 N L T S false w)) :
    Calls Tryz.prog 7 #[.slice A n c, .int .i64 kk] w (TreePost w .bad) := by
  have HH := Lib.hid H
  clear H
  go_enter Tryz.func7, Tryz.ntmps7
  go_wp2_with (go_at_call 11; refine HH.out.mono ?_; rintro e w1 ⟨rfl, hb⟩)
  exact bodyPost_ret (v := .tuple #[.slice none 0 0, .int .i64 0, .bool false, .bool true]) (by simp [results, Tryz.results7, go_sem]) rfl (treeBad (below_alloc hb _))
set_option maxRecDepth 100000 in
theorem tree_ext (w : World) (A : Option Addr) (n c : Nat) (kk N L T S : Int) (H : Calls Tryz.prog 11 #[.slice A n c] w (HdIs 11 N L T S false w)) :
    Calls Tryz.prog 7 #[.slice A n c, .int .i64 kk] w (TreePost w .unsaid) := by
  have HH := Lib.hid H
  clear H
  go_enter Tryz.func7, Tryz.ntmps7
  go_wp2_with (go_at_call 11; refine HH.out.mono ?_; rintro e w1 ⟨rfl, hb⟩)
  exact bodyPost_ret (v := .tuple #[.slice none 0 0, .int .i64 0, .bool false, .bool false]) (by simp [results, Tryz.results7, go_sem]) rfl (treeUnsaid (below_alloc hb _))
set_option maxRecDepth 100000 in
theorem tree_neg (w : World) (A : Option Addr) (n c : Nat) (kk K N L T S : Int) (hK : K ≠ 0) (hk : kk < 0) (H : Calls Tryz.prog 11 #[.slice A n c] w (HdIs K N L T S false w)) :
    Calls Tryz.prog 7 #[.slice A n c, .int .i64 kk] w (TreePost w .unsaid) := by
  have HH := Lib.hid H
  clear H
  have hK0 : (K == 0) = false := by simpa using hK
  go_enter Tryz.func7, Tryz.ntmps7
  go_wp2_with (go_at_call 11; refine HH.out.mono ?_; rintro e w1 ⟨rfl, hb⟩)
  all_goals exact bodyPost_ret (v := .tuple #[.slice none 0 0, .int .i64 0, .bool false, .bool false]) (by simp [results, Tryz.results7, go_sem]) rfl (treeUnsaid (below_alloc hb _))

theorem treeR {w w3 : World} {v1 : Value} {left : Int} {out r : List Int} (hR : OB w3 w.heap.size v1 out) (hb : Below w.heap.size w w3) (hl : left = (r.length : Int)) : TreePost w (.ok out r) (.returned (.tuple #[v1, .int .i64 left, .bool true, .bool true])) w3 := by
  obtain ⟨A2, c2, rfl, hc2, hr2⟩ := hR.reads
  exact treeOk hb hl rfl hc2 hr2
/-- Behind a callee that leaves what was there. -/
theorem keep2 {w1 w2 : World} {K N L T S : Int} (hb2 : Below (w1.alloc (.cells #[.int .i64 K, .int .u64 N, .int .i64 L, .int .i8 T, .int .i64 S, .bool false] 34)).heap.size (w1.alloc (.cells #[.int .i64 K, .int .u64 N, .int .i64 L, .int .i8 T, .int .i64 S, .bool false] 34)) w2) :
    w2.cell? ⟨w1.heap.size, 0, none⟩ = some (.int .i64 K) ∧ w2.cell? ⟨w1.heap.size, 2, none⟩ = some (.int .i64 L) :=
  ⟨(hb2.cell (p := ⟨w1.heap.size, 0, none⟩) (by simp)).trans (by simp [go_sem]), (hb2.cell (p := ⟨w1.heap.size, 2, none⟩) (by simp)).trans (by simp [go_sem])⟩
set_option maxRecDepth 100000 in
theorem tree_textS (w : World) (A : Option Addr) (n c : Nat) (l r : List Int) (hn : n = l.length) (hc : n ≤ c) (S : Int) (hS : Cut l S r) (kk : Int) (hk : 0 ≤ kk) (N T : Int) (m : Nat) (hlt : (r.length : Int) < (m : Int)) (K : Int) (hK : K = 7 ∨ K = 8) (H : Calls Tryz.prog 11 #[.slice A n c] w (HdIs K N m T S false w)) :
    Calls Tryz.prog 7 #[.slice A n c, .int .i64 kk] w (TreePost w .bad) := by
  obtain ⟨k, rfl, h1, h2, hd⟩ := hS
  obtain ⟨A', hs, hcb⟩ := dropCB A n c k l hn (by omega) hc
  have hm : n - k = r.length := by rw [hn, ← hd, List.length_drop]
  rw [hm] at hs
  have HH := Lib.hid H
  clear H hcb hd hm hn h2 hc
  rcases hK with rfl | rfl
  · go_enter Tryz.func7, Tryz.ntmps7
    go_wp2_with (go_at_call 11; refine HH.out.mono ?_; rintro e w1 ⟨rfl, hb⟩)
    exact bodyPost_ret (v := .tuple #[.slice none 0 0, .int .i64 0, .bool false, .bool true]) (by simp [results, Tryz.results7, go_sem]) rfl (treeBad (below_alloc hb _))
  · go_enter Tryz.func7, Tryz.ntmps7
    go_wp2_with (go_at_call 11; refine HH.out.mono ?_; rintro e w1 ⟨rfl, hb⟩)
    exact bodyPost_ret (v := .tuple #[.slice none 0 0, .int .i64 0, .bool false, .bool true]) (by simp [results, Tryz.results7, go_sem]) rfl (treeBad (below_alloc hb _))

set_option maxRecDepth 100000 in
theorem tree_text (w : World) (A : Option Addr) (n c : Nat) (l r : List Int) (hr : CB w A l) (hn : n = l.length) (hc : n ≤ c) (hl : n ≤ 100000) (S : Int) (hS : Cut l S r) (kk : Int) (hk : 0 ≤ kk) (N T : Int) (m : Nat) (hle : (m : Int) ≤ (r.length : Int)) (H : Calls Tryz.prog 11 #[.slice A n c] w (HdIs 7 N m T S false w)) :
    Calls Tryz.prog 7 #[.slice A n c, .int .i64 kk] w (TreePost w (.ok (textH m ++ r.take m) (r.drop m))) := by
  obtain ⟨k, rfl, h1, h2, hd⟩ := hS
  obtain ⟨A', hs, hcb⟩ := dropCB A n c k l hn (by omega) hc
  have hm : n - k = r.length := by rw [hn, ← hd, List.length_drop]
  rw [hm] at hs
  obtain ⟨A2, c2, ht, hc2, hct⟩ := takeCB A' r.length (c - k) m r rfl (by omega) (by omega)
  have HR := Lib.hid (show CB w A2 (r.take m) from hct w (hd ▸ hcb w hr))
  have HH := Lib.hid H
  have HL := Lib.hid (show (r.take m).length = m by rw [List.length_take]; omega)
  have hT0 : 0 ≤ (m : Int) := Int.natCast_nonneg _
  have hT1 : (m : Int) < 4294967296 := by omega
  have HT := Lib.hid (And.intro hT0 hT1)
  have hmm : m ≤ 100000 := by omega
  have HW := Lib.hid (show IntKind.i64.wrap ((r.length : Int) - (m : Int)) = ((r.drop m).length : Int) by rw [IntKind.wrap_i64, List.length_drop]; omega)
  clear hr H hcb hd hm hn h2 hc hct hT0 hT1
  go_enter Tryz.func7, Tryz.ntmps7
  go_wp2_with (first | (go_at_call 11; refine HH.out.mono ?_; rintro e w1 ⟨rfl, hb⟩) | (go_at_call 14; refine (ref_text _ (m : Int) HT.out.1 HT.out.2).mono ?_; rintro e w2 ⟨v, rfl, hR, hb2⟩; obtain ⟨k0, k2⟩ := keep2 hb2))
  have hB0 : Below w.heap.size w w2 := (below_alloc hb _).trans (hb2.mono (by have := hb.size; simp; omega))
  have hO0 : OB w2 w.heap.size v (textH m) := Kd.R_lower hR (by have := hb.size; simp; omega)
  have hC0 : Kd.C (Kd.int .u8) w2 A2 m (r.take m) := by have := Kd.C_below HR.out hB0; rwa [HL.out] at this
  have hF0 : ∀ k, v.ownBlock = some k → w1.heap.size < k := fun k hk => by have := Kd.R_base hR k hk; simp at this; omega
  have hL0 : ((textH (m : Int)).length + m) * 1 ≤ 140737488355328 := by have := textH_l5 (m : Int); omega
  have hs0 : w1.heap.size < w2.heap.size := by have := hb2.size; simp at this; omega
  have hN0 : some w1.heap.size ≠ v.ownBlock := fun h => by have := hF0 _ h.symm; omega
  have G := Lib.hid (And.intro hN0 (show (w2.drew).cell? ⟨w1.heap.size, 2, none⟩ = some (.int .i64 (m : Int)) from k2))
  have F := Lib.hid (And.intro hB0 (And.intro hO0 (And.intro hC0 (And.intro hF0 (And.intro hL0 hs0)))))
  clear hB0 hO0 hC0 hF0 hL0 hs0 hR hb2 hb k0 hN0 hmm
  go_region_held3 (fun w' => w'.cell? ⟨w1.heap.size, 2, none⟩ = some (.int .i64 (m : Int))) (first | go_keep) ((refine Kd.R_append_rows_step (Kd.int .u8) (w0 := w) w.heap.size (by rfl) (.tmp 110) (.tmp 114) 22 5 (.int .u8 0) 1 rfl Tryz.underlying22 info5 rfl (by decide) (by omega) v (textH m) (r.take m) A2 m c2 (fun _ => True) (fun _ => False) rfl rfl (Kd.R_drew F.out.2.1) (Kd.C_drew F.out.2.2.1) (fun _ _ h => h) (fun _ h => h.elim) (fun _ _ => trivial) (below_drew F.out.1) F.out.1.size F.out.2.2.2.2.1 ?_; intro v1 w3 hR1 hb3 hg hat; have k3 := hg.cell (a := ⟨w1.heap.size, 2, none⟩) G.out.2 G.out.1))
  go_wp2_with (fail)
  exact bodyPost_ret (v := .tuple #[v1, .int .i64 (IntKind.i64.wrap ((r.length : Int) - (m : Int))), .bool true, .bool true]) (by simp [results, Tryz.results7, go_sem]) rfl (treeR hR1 hb3 HW.out)
set_option maxRecDepth 100000 in
theorem tree_bin (w : World) (A : Option Addr) (n c : Nat) (l r : List Int) (hr : CB w A l) (hn : n = l.length) (hc : n ≤ c) (hl : n ≤ 100000) (S : Int) (hS : Cut l S r) (kk : Int) (hk : 0 ≤ kk) (N T : Int) (m : Nat) (hle : (m : Int) ≤ (r.length : Int)) (H : Calls Tryz.prog 11 #[.slice A n c] w (HdIs 8 N m T S false w)) :
    Calls Tryz.prog 7 #[.slice A n c, .int .i64 kk] w (TreePost w (.ok (binH m ++ r.take m) (r.drop m))) := by
  obtain ⟨k, rfl, h1, h2, hd⟩ := hS
  obtain ⟨A', hs, hcb⟩ := dropCB A n c k l hn (by omega) hc
  have hm : n - k = r.length := by rw [hn, ← hd, List.length_drop]
  rw [hm] at hs
  obtain ⟨A2, c2, ht, hc2, hct⟩ := takeCB A' r.length (c - k) m r rfl (by omega) (by omega)
  have HR := Lib.hid (show CB w A2 (r.take m) from hct w (hd ▸ hcb w hr))
  have HH := Lib.hid H
  have HL := Lib.hid (show (r.take m).length = m by rw [List.length_take]; omega)
  have hT0 : 0 ≤ (m : Int) := Int.natCast_nonneg _
  have hT1 : (m : Int) < 4294967296 := by omega
  have HT := Lib.hid (And.intro hT0 hT1)
  have hmm : m ≤ 100000 := by omega
  have HW := Lib.hid (show IntKind.i64.wrap ((r.length : Int) - (m : Int)) = ((r.drop m).length : Int) by rw [IntKind.wrap_i64, List.length_drop]; omega)
  clear hr H hcb hd hm hn h2 hc hct hT0 hT1
  go_enter Tryz.func7, Tryz.ntmps7
  go_wp2_with (first | (go_at_call 11; refine HH.out.mono ?_; rintro e w1 ⟨rfl, hb⟩) | (go_at_call 14; refine (ref_text _ (m : Int) HT.out.1 HT.out.2).mono ?_; rintro e w2 ⟨v, rfl, hR, hb2⟩; obtain ⟨k0, k2⟩ := keep2 hb2) | (go_at_call 15; refine (ref_bin _ (m : Int) HT.out.1 HT.out.2).mono ?_; rintro e w4 ⟨v', rfl, hR', hb4⟩; have k4 := (hb4.cell (p := ⟨w1.heap.size, 2, none⟩) (World.block_lt_of_cell? _ _ k2)).trans k2))
  have hB0' : Below w.heap.size w w2 := (below_alloc hb _).trans (hb2.mono (by have := hb.size; simp; omega))
  have hB0 : Below w.heap.size w w4 := hB0'.trans (hb4.mono hB0'.size)
  have hO0 : OB w4 w.heap.size v' (binH m) := Kd.R_lower hR' hB0'.size
  have hC0 : Kd.C (Kd.int .u8) w4 A2 m (r.take m) := by have := Kd.C_below HR.out hB0; rwa [HL.out] at this
  have hF0 : ∀ k, v'.ownBlock = some k → w1.heap.size < k := fun k hk => by have := Kd.R_base hR' k hk; have := World.block_lt_of_cell? _ _ k2; simp at this; omega
  have hL0 : ((binH (m : Int)).length + m) * 1 ≤ 140737488355328 := by have := binH_l5 (m : Int); omega
  have hs0' : w1.heap.size < w2.heap.size := by have := hb2.size; simp at this; omega
  have hs0 : w1.heap.size < w4.heap.size := Nat.lt_of_lt_of_le hs0' hb4.size
  have hN0 : some w1.heap.size ≠ v'.ownBlock := fun h => by have := hF0 _ h.symm; omega
  have G := Lib.hid (And.intro hN0 (show (w4.drew).cell? ⟨w1.heap.size, 2, none⟩ = some (.int .i64 (m : Int)) from k4))
  have F := Lib.hid (And.intro hB0 (And.intro hO0 (And.intro hC0 (And.intro hF0 (And.intro hL0 hs0)))))
  clear hB0 hO0 hC0 hF0 hL0 hs0 hR hb2 hb k0 hB0' hR' hb4 hs0' k2 hN0 hmm
  go_region_held3 (fun w' => w'.cell? ⟨w1.heap.size, 2, none⟩ = some (.int .i64 (m : Int))) (first | go_keep) ((refine Kd.R_append_rows_step (Kd.int .u8) (w0 := w) w.heap.size (by rfl) (.tmp 110) (.tmp 114) 22 5 (.int .u8 0) 1 rfl Tryz.underlying22 info5 rfl (by decide) (by omega) v' (binH m) (r.take m) A2 m c2 (fun _ => True) (fun _ => False) rfl rfl (Kd.R_drew F.out.2.1) (Kd.C_drew F.out.2.2.1) (fun _ _ h => h) (fun _ h => h.elim) (fun _ _ => trivial) (below_drew F.out.1) F.out.1.size F.out.2.2.2.2.1 ?_; intro v1 w3 hR1 hb3 hg hat; have k3 := hg.cell (a := ⟨w1.heap.size, 2, none⟩) G.out.2 G.out.1))
  go_wp2_with (fail)
  exact bodyPost_ret (v := .tuple #[v1, .int .i64 (IntKind.i64.wrap ((r.length : Int) - (m : Int))), .bool true, .bool true]) (by simp [results, Tryz.results7, go_sem]) rfl (treeR hR1 hb3 HW.out)
end Go.Proofs.YtmliokplekeljaaGreatDoor.M
