/- FnTreeSkip answers true for every slice of bytes, and the slice reads afterwards as it read before. Conditions: the three listed error variables hold what the program's text lays (the card ties that); no bound on the slice. -/
import Derived.Test.YtmliokplekeljaaGreatDoorN21
import Derived.Test.YtmliokplekeljaaGreatDoorN25
namespace Go.Proofs.YtmliokplekeljaaGreatDoor.S
open Go.ChangeShapes Go.WideShapes Go.ChangeAt Go.RowKit Go.Proofs.YtmliokplekeljaaGreatDoor.M Go.Proofs.YtmliokplekeljaaGreatDoorW.PrintWords
set_option linter.unusedVariables false
set_option linter.unusedSimpArgs false

theorem five {W : World} (h : W.ShapedOpen Tryz.prog) : 5 ≤ W.heap.size := by
  have hs : (((begin Tryz.prog (fun _ _ => 0) default).world.heap[4]?).bind Obj.row?).isSome = true := by kernel_rfl
  obtain ⟨⟨z, t⟩, hz⟩ := Option.isSome_iff_exists.1 hs
  obtain ⟨cs, hc, _⟩ := h.1 4 z t (of_decide_eq_true (by kernel_rfl)) hz
  exact (Array.getElem?_eq_some_iff.1 hc).1
theorem cells5 : Tryz.prog.cellsOf 5 = 1 := by kernel_rfl
theorem vars_len {H : Type} {enc : TypeId × Value → H} {P : Program} {W : World} {sp : Nat → Bool} : ∀ {ns : List String} {gs : List (DataW H)} {ps : List MemPlace}, DataW.TrodVars enc P W sp ns gs ps → gs.length = ns.length
  | [], [], _, _ => rfl
  | [], _ :: _, _, h => h.elim
  | _ :: _, [], _, h => h.elim
  | n :: ns, d :: ds, ps, h => by
    obtain ⟨g, t, cs, fuel, p, q, h1, h2, h3, h4, hs, e⟩ := h
    simp only [List.length_cons, vars_len hs]
set_option maxRecDepth 100000 in
/-- A slice of bytes that came in, laid open. -/
theorem bytesIn {H : Type} {enc : TypeId × Value → H} {W : World} {base : Nat} {v0 : Value} {d0 : DataW H} {p : List MemPlace} (hval : Value.okWide Tryz.prog W .any base 22 v0) (h0 : DataW.Trod enc Tryz.prog W 0 (fun _ => true) true 22 v0 d0 p) :
    ∃ A n c l, v0 = .slice A n c ∧ CB W A l ∧ isBs l ∧ n = l.length ∧ n ≤ c := by
  obtain ⟨a0, len, cap, rfl⟩ := okWide_slice Tryz.underlying22 hval
  obtain ⟨fuel0, hf⟩ := h0
  rcases open_ints Tryz.underlying22 Tryz.underlying5 cells5 hf with ⟨hcs, hx⟩ | ⟨a, len', cap', zs, hcs, _, hl, hm, hz, hx, hcell, hwz⟩
  · simp [Value.cells] at hcs
    obtain ⟨rfl, rfl, rfl⟩ := hcs
    exact ⟨none, 0, 0, [], rfl, Kd.C_of_reads (d := 0) ⟨rfl, by simp, fun h => absurd h (by simp)⟩, isBs_nil, rfl, Nat.le_refl _⟩
  · simp [Value.cells] at hcs
    obtain ⟨rfl, rfl, rfl⟩ := hcs
    simp only [if_true] at hz
    have hlen : (zs.take len).length = len := by rw [List.length_take]; omega
    refine ⟨some a, len, cap, zs.take len, rfl, Kd.C_of_reads (d := 0) ⟨rfl, by rw [hlen]; unfold maxLen at hm; omega, fun _ => ⟨a, rfl, fun j hj => ?_⟩⟩, fun x hx => ?_, hlen.symm, hl⟩
    · rw [hlen] at hj
      have := hcell j (by omega)
      rw [this]
      simp [List.getD, List.getElem?_take, hj]
    · have hw := hwz x (List.mem_of_mem_take hx)
      have hw1 := range_u8 (zs := [x]) (by intro n hn; simp at hn; subst hn; exact hw) 0
      simp at hw1
      exact ⟨hw1.1, by omega⟩

set_option maxRecDepth 100000 in
theorem contract (H : Type) (enc : TypeId × Value → H) (W : World) (base : Nat) (args : Array Value) (ds gs : List (DataW H)) (before : List MemPlace)
    (hval : ∀ (j : Nat) t v, Tryz.f5.params[j]? = some t → args[j]? = some v → Value.okWide Tryz.prog W .any base t v)
    (hW : DataW.Whole enc Tryz.prog Tryz.f5.params.toList Rows.fnTreeSkipSpec.vars false W args.toList ds gs before) (hL : laidMetH Tryz.prog Rows.fnTreeSkipRow.laid W) (hS : W.ShapedOpen Tryz.prog) :
    Calls Tryz.prog 5 args W fun e W' => ∃ v, e = .returned v ∧ Rows.fnTreeSkipSpec.post enc Tryz.prog Tryz.f5 false true false false W args v W' := by
  have hW' := hW
  obtain ⟨p, q, hA0, hV0, rfl, hfz, hnd⟩ := hW
  have hA : DataW.TrodAll enc Tryz.prog W 0 (fun _ => true) true Tryz.f5.params.toList args.toList ds p := hA0
  have hV : DataW.TrodVars enc Tryz.prog W (fun _ => true) Rows.fnTreeSkipSpec.vars gs q := hV0
  rw [Tryz.params5] at hA hval
  obtain ⟨v0, d0, hargs, rfl, h0⟩ := trodAll_one hA
  obtain rfl : args = #[v0] := by cases args; simp_all
  obtain ⟨A, n, c, l, rfl, hcb, hB, hn, hc⟩ := bytesIn (hval 0 22 v0 rfl rfl) h0
  have hlen := vars_len hV
  obtain ⟨g1, g2, g3, rfl⟩ : ∃ g1 g2 g3, gs = [g1, g2, g3] := by
    rcases gs with _ | ⟨g1, _ | ⟨g2, _ | ⟨g3, _ | ⟨g4, gs⟩⟩⟩⟩
    · cases hlen
    · cases hlen
    · cases hlen
    · exact ⟨g1, g2, g3, rfl⟩
    · cases hlen
  have hlt : ∀ x ∈ p, x.block < W.heap.size := fun x hx => by simpa using hW'.lt x (List.mem_append_left _ hx)
  refine (law5 W A n c l hcb hB hn hc (glob_of (met_plain _ _ _ (by kernel_rfl) hL) (five hS))).mono fun e W1 ⟨he, hb⟩ => ?_
  subst he
  have hargs1 : DataW.Trod enc Tryz.prog W1 0 (fun b => decide (b < W.heap.size)) true 22 (.slice A n c) d0 p :=
    Below.trod laidOut (by kernel_rfl) (of_decide_eq_true (by kernel_rfl)) h0 hb hlt
  have hvars1 : DataW.TrodVars enc Tryz.prog W1 (fun b => decide (b < W.heap.size)) Rows.fnTreeSkipSpec.vars [g1, g2, g3] q := Below.trodVars laidOut hb (by kernel_rfl) hV
  exact ⟨_, rfl, _, _, _, [], p, q, hW', trodAll_mk1 (shut_bool Tryz.underlying4 true), trodAll_mk1 hargs1, hvars1, hb.frame _, fun h => by cases h⟩

/-- A variable's block, its one cell laid. -/
def layIn (v : Value) : Obj → Obj
  | .cells _ t frozen => .cells #[v] t frozen
  | o => o
/-- A WORLD FOR THE WITNESS: the settled one, the listed variables (blocks 0, 1 and 4) holding what their initialisers lay. -/
noncomputable def laidWorld (os : Os) : World :=
  { World.holding Tryz.prog os ⟨#[], #[], []⟩ with heap := (((World.holding Tryz.prog os ⟨#[], #[], []⟩).heap.modify 0 (layIn (.iface 212 (.agg #[])))).modify 1 (layIn (.iface 213 (.agg #[])))).modify 4 (layIn (.iface 215 (.agg #[.string ByteArray.empty]))) }
theorem laid_met (os : Os) : laidMet Tryz.prog Rows.fnTreeSkipRow.laid ((laidWorld os).forCall (fun _ _ => 0) ⟨#[], #[.slice none 0 0], []⟩).memory :=
  laidMet_of_run' 8 (by kernel_rfl) (by kernel_rfl)
theorem reads (os : Os) {H : Type} (enc : TypeId × Value → H) : ∃ gs places, DataW.whole enc Tryz.prog ((laidWorld os).forCall (fun _ _ => 0) ⟨#[], #[.slice none 0 0], []⟩).memory Tryz.f5.params.toList Rows.fnTreeSkipSpec.vars false #[Value.slice none 0 0].toList 8 = some ([.nil], gs, places) :=
  ⟨[tok enc (.iface 213 (.agg #[])), tok enc (.iface 212 (.agg #[])), tok enc (.iface 215 (.agg #[.string ByteArray.empty]))], [.cell 1 0, .cell 0 0, .cell 4 0], by kernel_rfl⟩

set_option maxRecDepth 100000 in
theorem lifted (os : Os) (started : os.Started) (H : Type) (enc : TypeId × Value → H) (F : Stop.Interp) :
    ReturnsInHanded {} Tryz.checked os 5 .any ((OpenSpec.ofChange Rows.fnTreeSkipSpec).preRow enc Tryz.prog Tryz.f5 Rows.fnTreeSkipRow.domain false Rows.fnTreeSkipRow.laid) (((OpenSpec.ofChange Rows.fnTreeSkipSpec).at F).post enc Tryz.prog Tryz.f5 false true false false) := by
  obtain ⟨gs, places, hx⟩ := reads os enc
  refine returnsInHanded_of_row (C := Tryz.checked) (s := OpenSpec.ofChange Rows.fnTreeSkipSpec) own started (by kernel_rfl) Tryz.func5
    (witness_row_at (enc := enc) (C := Tryz.checked) false (laidWorld os) #[.slice none 0 0] rfl (by kernel_rfl) (by kernel_rfl) (by kernel_rfl)
      (OpenSpec.preRow_of_cond 8 hx (by kernel_rfl) (fun k hk => by cases hk) (by kernel_rfl) (laid_met os))) ?_
  intro W base args ds gs before hval hW _ _ _ hL hS _
  exact contract H enc W base args ds gs before hval hW hL hS

theorem said : Rows.FnTreeSkipSaid :=
  OpenClaim.holds_of_cond 5 Tryz.f5 rfl rfl rfl rfl rfl rfl rfl ⟨rfl, rfl, rfl, rfl, rfl⟩ rfl rfl rfl rfl rfl (by kernel_rfl) Tryz.func5 (by kernel_rfl)
    (of_decide_eq_true (by kernel_rfl)) (by unfold Func.isWrapper; first | (rw [if_pos (by decide +kernel)]; kernel_rfl) | (rw [if_neg (by decide +kernel)]; exact ⟨rfl, rfl⟩))
    (fun os started H enc _ F => by rw [OpenClaim.pre_eq_preRow]; exact lifted os started H enc F)

theorem plain (f : FuncId) (fn : Func) (hf : Tryz.pinned.checked.prog.funcNamed "loop.example/pub-g03086/laws.FnTreeSkip" = some f) (hfn : Tryz.pinned.checked.prog.funcs[f]? = some fn) :
    true = Tryz.pinned.checked.prog.looks [] ∧ ∀ (j : Nat) t, fn.params[j]? = some t → Tryz.pinned.checked.prog.wantsStandIn t = false := by
  obtain rfl : f = 5 := Option.some.inj ((show Tryz.prog.funcNamed "loop.example/pub-g03086/laws.FnTreeSkip" = some 5 by kernel_rfl).symm.trans hf) |>.symm
  obtain rfl : fn = Tryz.f5 := (Option.some.inj (Tryz.func5.symm.trans hfn)).symm
  refine ⟨by kernel_rfl, fun j t ht => ?_⟩
  rw [Tryz.params5] at ht
  obtain rfl : t = 22 := by simpa using Array.mem_of_getElem? ht
  exact (show Tryz.prog.wantsStandIn 22 = false by kernel_rfl)

theorem fnTreeSkip_card : Rows.FnTreeSkipCardSaid :=
  Claim7.holds_tied_plain_at .later [] _ _ _ _ said (fun _ h => by cases h) (by kernel_rfl) (fun _ h => by cases h) fnTreeSkip_row_tie rfl ⟨rfl, rfl⟩ (by kernel_rfl) rfl plain (by kernel_rfl)
end Go.Proofs.YtmliokplekeljaaGreatDoor.S
