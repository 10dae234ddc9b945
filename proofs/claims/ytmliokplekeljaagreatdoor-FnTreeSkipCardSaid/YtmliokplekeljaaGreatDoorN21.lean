/- What the rows' lists give, and the rows' common part. -/
import Derived.Test.YtmliokplekeljaaGreatDoorN20
import Derived.Test.YtmliokplekeljaaGreatDoorCards
import Derived.Test.YtmliokplekeljaaGreatDoorTie
import Derived.ProofKit
import Derived.OpenShut
import Derived.OpenVars
import Derived.ChangeBears2
import Derived.LaidLaws
import Derived.Stop.LaidErr
import Derived.SevenTiedAt
import Derived.Deep.DeepHandedRow
import Derived.Lib.LaidTab
namespace Go.Proofs.YtmliokplekeljaaGreatDoor.M
open Go.ChangeShapes Go.WideShapes Go.ChangeAt Go.RowKit
set_option linter.unusedVariables false
set_option linter.unusedSimpArgs false

theorem typeName_flat {P : Program} {nm : String} {tp : TypeId}
    (hrows : ((List.range P.types.size).all fun u => P.typeName? 3 u != some nm || u == tp) = true)
    (hstar : nm.toList.head? ≠ (("*" : String).toList).head?)
    (u : TypeId) (hu : P.typeName? 3 u = some nm) : u = tp := by
  by_cases hlt : u < P.types.size
  · have := List.all_eq_true.1 hrows u (List.mem_range.2 hlt)
    simpa [hu] using this
  · exfalso
    unfold Program.typeName? at hu
    cases hi : P.info? u with
    | none => simp [hi] at hu
    | some i =>
      have hb := Tables.info?_beyond hlt hi
      simp only [hi] at hu
      cases hd : i.desc <;> simp only [hd, TypeDesc.tableOnly] at hu hb <;> try cases hb
      all_goals try cases hu
      rename_i e
      simp only [Option.map_eq_some_iff] at hu
      obtain ⟨n', hn', hs⟩ := hu
      apply hstar
      rw [← hs]
      simp [String.toList_append]

/-- A listed variable that holds a value without cells behind an interface. -/
theorem laid_unit {P : Program} {n nm : String} {r : List (String × DataW Unit)} {W : World} {g : Nat} {ti tp : TypeId} {ms : Array (String × TypeId)} {fs : Array Field}
    (h : laidMet P ((n, .iface nm (.agg [])) :: r) W)
    (hg : P.globalNamed n = some g) (ht : (P.globals[g]?).map (·.type) = some ti) (hi : P.underlying ti = some (.interface ms)) (hrow : ∀ u, P.typeName? 3 u = some nm → u = tp)
    (he : P.underlying tp = some (.struct fs)) (hc : P.cellsOf tp = 0) : W.var? P n = some #[.iface tp (.agg #[])] := by
  obtain ⟨ps, ⟨g0, t0, cs0, f0, p0, q0, hg0, ht0, hv0, hd0, _, e0⟩, _, hrows⟩ := h
  obtain rfl := Option.some.inj (hg.symm.trans hg0)
  obtain rfl := Option.some.inj (ht.symm.trans ht0)
  subst e0
  obtain ⟨l0⟩ := cs0
  obtain ⟨f1, u, v, rfl, hn, h1⟩ := iface_of_trod hi hd0
  obtain rfl := hrow u hn
  have ok := (hrows g 0 (by simp [MemPlace.row])).2 u v (by simpa using World.var?_cell hg0 hv0 0)
  obtain ⟨cs, rfl, hsz⟩ := okWide_struct he ok
  rw [hc] at hsz
  obtain rfl : cs = #[] := Array.eq_empty_of_size_eq_zero hsz
  exact hv0

theorem own : ownKnob Tryz.prog.godebug = none := by kernel_rfl
theorem laidOut : laidOutB Tryz.prog = true := by kernel_rfl
theorem gShort : Tryz.prog.globalNamed "loop.example/pub-g03086/pub/msgp.ErrShortBytes" = some 0 := by kernel_rfl
theorem gRec : Tryz.prog.globalNamed "loop.example/pub-g03086/pub/msgp.ErrRecursion" = some 1 := by kernel_rfl
theorem tShort : (Tryz.prog.globals[0]?).map (·.type) = some 47 := by kernel_rfl
theorem tRec : (Tryz.prog.globals[1]?).map (·.type) = some 47 := by kernel_rfl
theorem rowShort : ∀ u, Tryz.prog.typeName? 3 u = some "loop.example/pub-g03086/pub/msgp.errShort" → u = 212 :=
  typeName_flat (by kernel_rfl) (by decide)
theorem rowRec : ∀ u, Tryz.prog.typeName? 3 u = some "loop.example/pub-g03086/pub/msgp.errRecursion" → u = 213 :=
  typeName_flat (by kernel_rfl) (by decide)
theorem glob_of {r : List (String × DataW Unit)} {W : World} (h : laidMet Tryz.prog (("loop.example/pub-g03086/pub/msgp.ErrShortBytes", Rows.laid_loop_example_pub_g03086_pub_msgp_ErrShortBytes) :: ("loop.example/pub-g03086/pub/msgp.ErrRecursion", Rows.laid_loop_example_pub_g03086_pub_msgp_ErrRecursion) :: r) W) (h5 : 5 ≤ W.heap.size) : Glob W := by
  have h1 := laid_unit h gShort tShort Tryz.underlying47 rowShort Tryz.underlying212 (by kernel_rfl)
  have h2 := laid_unit h.tail gRec tRec Tryz.underlying47 rowRec Tryz.underlying213 (by kernel_rfl)
  exact ⟨h5, by simpa using World.var?_cell gShort h1 0, by simpa using World.var?_cell gRec h2 0⟩
theorem met_plain (P : Program) (laid : List (String × DataW Unit)) (w : World) (h : (laid.all fun x => x.2.handleName?.isNone) = true) (hm : laidMetH P laid w) : laidMet P laid w := by
  have e : (laid.filter fun x => x.2.handleName?.isSome) = [] := by
    rw [List.filter_eq_nil_iff]
    intro x hx hs
    have := List.all_eq_true.1 h x hx
    cases hn : x.2.handleName? with
    | none => rw [hn] at hs; cases hs
    | some s => rw [hn] at this; cases this
  unfold laidMetH at hm
  rw [e] at hm
  exact hm
theorem glob_any {W : World} (h : laidMetH Tryz.prog Rows.fnTreeAnyRow.laid W) (h5 : 5 ≤ W.heap.size) : Glob W := by
  exact glob_of (met_plain _ _ _ (by kernel_rfl) h) h5
end Go.Proofs.YtmliokplekeljaaGreatDoor.M
