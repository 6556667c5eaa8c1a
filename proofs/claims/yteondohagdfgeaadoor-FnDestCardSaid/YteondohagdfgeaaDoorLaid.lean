/- From what the row lists of the table of entities to its cells; and the row's and the card's steps for a law of one text. Conditions: none. -/
import Derived.Test.YteondohagdfgeaaDoorCards
import Derived.Test.YteondohagdfgeaaDoorTie
import Derived.Test.YteondohagdfgeaaDoorEntity
import Derived.ProofKit
import Derived.OpenShut
import Derived.Deep.DeepHandedRow
import Derived.Lib.LaidTab
namespace Go.Proofs.YteondohagdfgeaaDoor
open Go.ChangeShapes Go.WideShapes Go.ChangeAt Go.RowKit
theorem two_of {α : Type} {l : List α} (h : l.length = 2) : ∃ a b, l = [a, b] := by
  match l, h with
  | [a, b], _ => exact ⟨a, b, rfl⟩
section
variable {H : Type} {enc : TypeId × Value → H} {P : Program} {w : World} {base : Nat} {spare : Nat → Bool} {held : Bool}
def pairsD {H : Type} (L : List (List UInt8 × List UInt8)) : DataW H := .agg (L.map fun x => .agg [.lit (.string x.1), .lit (.string x.2)])
theorem pairs_cells {t e st : TypeId} {n fuel : Nat} {cs : List Value} {L : List (List UInt8 × List UInt8)} {p : List MemPlace} (ht : P.underlying t = some (.array n e)) (he : P.underlying e = some (.array 2 st)) (hs : P.underlying st = some .string)
    (hce : P.cellsOf e = 2) (hcs : P.cellsOf st = 1) (hd : DataW.trod enc P w base spare held fuel t cs = some (pairsD L, p)) :
    ∀ i, i < L.length → cs[i * 2]? = some (.string ⟨(L.getD i ([], [])).1.toArray⟩) ∧ cs[i * 2 + 1]? = some (.string ⟨(L.getD i ([], [])).2.toArray⟩) := by
  intro i hi
  obtain ⟨xs, m, rfl, hx, hcl, hxl, hxi⟩ := DataW.trod_array ht hd
  simp only [Prod.mk.injEq] at hx
  have hx1 : (L.map fun x => (DataW.agg [.lit (.string x.1), .lit (.string x.2)] : DataW H)) = xs.map (·.1) := by
    have := hx.1; unfold pairsD at this; injection this
  have hLn : L.length = n := by have := congrArg List.length hx1; simpa [hxl] using this
  have h1 := hxi i (by omega)
  have hxs : xs[i]? = some (xs[i]'(by omega)) := List.getElem?_eq_getElem (by omega)
  have hdi : (xs[i]'(by omega)).1 = .agg [.lit (.string (L.getD i ([], [])).1), .lit (.string (L.getD i ([], [])).2)] := by
    have := congrArg (·[i]?) hx1
    simp only [List.getElem?_map, hxs, List.getElem?_eq_getElem hi, Option.map_some, Option.some.injEq] at this
    rw [← this, List.getD_eq_getElem?_getD, List.getElem?_eq_getElem hi]; rfl
  rw [hce, hxs] at h1
  obtain ⟨ys, m', _, hy, hcl2, hyl, hyi⟩ := DataW.trod_array he h1
  have hy1 : [(DataW.lit (.string (L.getD i ([], [])).1) : DataW H), .lit (.string (L.getD i ([], [])).2)] = ys.map (·.1) := by
    have := congrArg Prod.fst hy
    rw [hdi] at this
    injection this
  obtain ⟨y0, y1, rfl⟩ := two_of hyl
  simp only [List.map_cons, List.map_nil, List.cons.injEq, and_true] at hy1
  have k0 := hyi 0 (by omega)
  have k1 := hyi 1 (by omega)
  rw [hcs] at k0 k1
  obtain ⟨s0, e0, f0, _⟩ := DataW.trod_string hs k0
  obtain ⟨s1, e1, f1, _⟩ := DataW.trod_string hs k1
  have g0 := hy1.1
  have g1 := hy1.2
  rw [f0] at g0
  rw [f1] at g1
  simp only [DataW.lit.injEq, Lit.string.injEq] at g0 g1
  have c0 := congrArg (·[0]?) e0
  have c1 := congrArg (·[0]?) e1
  simp [List.getElem?_drop] at c0 c1
  refine ⟨by rw [c0, g0], by rw [c1, g1]⟩
end
theorem gEnt : Tryd.prog.globalNamed "pub-paratext/pub/rscmarkdown.htmlEntities" = some 0 := by kernel_rfl
theorem gEntType : (Tryd.prog.globals[0]?).map (·.type) = some 51 := by kernel_rfl
theorem cellsPair : Tryd.prog.cellsOf 50 = 2 := by kernel_rfl
theorem cellsStr : Tryd.prog.cellsOf 9 = 1 := by kernel_rfl
/-- What the row's list gives: the table's cells hold the twelve rows. -/
theorem entIs_of {W : World} (h : laidMetH Tryd.prog [("pub-paratext/pub/rscmarkdown.htmlEntities", Rows.laid_pub_paratext_pub_rscmarkdown_htmlEntities)] W) : EntIs W := by
  have h' : laidMet Tryd.prog [("pub-paratext/pub/rscmarkdown.htmlEntities", pairsD entL)] W := h
  obtain ⟨ps, ⟨g', t', cs, fuel, p, q, hg', ht', hvar, hd, _, _⟩, _⟩ := h'
  obtain rfl := Option.some.inj (gEnt.symm.trans hg')
  obtain rfl := Option.some.inj (gEntType.symm.trans ht')
  have hc := pairs_cells Tryd.underlying51 Tryd.underlying50 Tryd.underlying9 cellsPair cellsStr hd
  intro k hk
  obtain ⟨h1, h2⟩ := hc k hk
  have v1 := World.var?_cell gEnt hvar (k * 2)
  have v2 := World.var?_cell gEnt hvar (k * 2 + 1)
  rw [List.getElem?_toArray, h1] at v1
  rw [List.getElem?_toArray, h2] at v2
  exact ⟨v1, v2⟩
/-- A world for the witness: the settled one, the table holding what its initialiser lays. -/
noncomputable def laidWorld (os : Os) : World :=
  { World.holding Tryd.prog os ⟨#[], #[], []⟩ with heap := (World.holding Tryd.prog os ⟨#[], #[], []⟩).heap.modify 0 fun
      | .cells _ t frozen => .cells (entL.flatMap fun x => [Value.string ⟨x.1.toArray⟩, .string ⟨x.2.toArray⟩]).toArray t frozen
      | o => o }
theorem own : ownKnob Tryd.prog.godebug = none := by kernel_rfl
end Go.Proofs.YteondohagdfgeaaDoor
