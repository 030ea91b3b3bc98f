/-
  FROM THE ROWS' CONDITION ('laid') TO WHAT THE WALKS ASK: the two maps look up as the plain tables; the table of powers of ten.
-/
import Derived.Test.Qxb6613161aDoorRows
import Derived.Test.Qxb6613161aDoorWalks
import Derived.ProofKit
import Derived.LaidMore
import Derived.OpenShut
import Derived.Maps.OwnSet
import Derived.Maps.StringElems
import Derived.WalkSmall
import Derived.Lib.LaidTab
namespace Go.Proofs.Qxb6613161aDoor
open Go.ChangeShapes Go.WideShapes Go.ChangeAt Go.RowKit Go.WideElems Go.Maps

theorem gExt : Tryd.prog.globalNamed extVar = some 0 := by kernel_rfl
theorem gAuth : Tryd.prog.globalNamed authVar = some 1 := by kernel_rfl
theorem gPow : Tryd.prog.globalNamed powVar = some 2 := by kernel_rfl
theorem tExt : (Tryd.prog.globals[0]?).map (·.type) = some 34 := by kernel_rfl
theorem tAuth : (Tryd.prog.globals[1]?).map (·.type) = some 36 := by kernel_rfl
theorem tPow : (Tryd.prog.globals[2]?).map (·.type) = some 49 := by kernel_rfl
theorem cells26 : Tryd.prog.cellsOf 26 = 1 := by kernel_rfl
theorem cells49 : Tryd.prog.cellsOf 49 = 20 := by kernel_rfl
theorem law23 : Keyed Tryd.prog 23 := int_keyed Tryd.underlying23
theorem law28 : Keyed Tryd.prog 28 := int_keyed Tryd.underlying28
theorem zero9 (w : World) : (zeroValue 9).run Tryd.prog w = .ok (.string ⟨#[]⟩) w := by kernel_rfl

/-- A table as a datum. -/
def asMap {H : Type} (k : IntKind) (tab : List (Nat × List UInt8)) : DataW H := .map (tab.map fun p => (.int k (p.1 : Int), .lit (.string p.2)))

theorem find_tab {H : Type} (k : IntKind) (tab : List (Nat × List UInt8)) (v : Nat) :
    ((tab.map fun p => ((Lit.int k (p.1 : Int), (DataW.lit (.string p.2) : DataW H)))).find? fun p => p.1.sameKey (.int k (v : Int))) = (tab.lookup v).map fun s => (.int k (v : Int), .lit (.string s)) := by
  induction tab with
  | nil => rfl
  | cons p r ih =>
    obtain ⟨n, s⟩ := p
    rw [List.map_cons, List.find?_cons, List.lookup_cons]
    by_cases h : v = n
    · subst h
      simp [Lit.sameKey]
    · have h2 : (v == n) = false := beq_eq_false_iff_ne.2 h
      have h3 : (Lit.int k (n : Int)).sameKey (.int k (v : Int)) = false := by simp [Lit.sameKey]; omega
      rw [h2]
      simp only [h3]
      exact ih
theorem at_tab {H : Type} (k : IntKind) (tab : List (Nat × List UInt8)) (v : Nat) :
    (asMap (H := H) k tab).atKey (.int k (v : Int)) (.lit (.string [])) = .lit (.string ((tab.lookup v).getD [])) := by
  unfold asMap DataW.atKey
  simp only [find_tab]
  cases tab.lookup v <;> rfl
theorem has_tab {H : Type} (k : IntKind) (tab : List (Nat × List UInt8)) (v : Nat) :
    Maps.has (asMap (H := H) k tab) (.int k (v : Int)) = (tab.lookup v).isSome := by
  show ((tab.map fun p => ((Lit.int k (p.1 : Int), (DataW.lit (.string p.2) : DataW H)))).any fun p => p.1.sameKey (.int k (v : Int))) = _
  rw [← List.isSome_find?, find_tab]
  cases tab.lookup v <;> rfl

theorem looks_of {T kt : TypeId} {k : IntKind} {tab : List (Nat × List UInt8)} {bound bm n : Nat} {w : World} (K : Keyed Tryd.prog kt) (ht : Tryd.prog.underlying T = some (.map kt 9)) (hk : Tryd.prog.underlying kt = some (.int k))
    (hb : ∀ v : Nat, v < bound → (Lit.int k (v : Int)).wf = true) (h : w.ownsMap Tryd.prog kt (plainElem Tryd.prog 9) bm n (asMap (H := Unit) k tab)) : Looks T k tab bound bm w := by
  intro v hv
  obtain ⟨x, ps, hrun, hx⟩ := h.look_ok K ht (zero9 w) (plainElem_string Tryd.underlying9 (s := ⟨#[]⟩) (by decide)) (keyOf_int_mk hk (hb v hv))
  obtain ⟨s, rfl, e, _⟩ := plainElem_string_inv Tryd.underlying9 hx
  rw [has_tab] at hrun
  have e1 : (asMap (H := Unit) k tab).atKey (.int k (v : Int)) (.lit (.string [])) = .lit (.string s.data.toList) := congrArg Prod.fst e
  rw [at_tab] at e1
  simp only [DataW.lit.injEq, Lit.string.injEq] at e1
  rw [hrun, e1]

/-- What one listed map gives. -/
theorem map_of {T kt : TypeId} {k : IntKind} {tab : List (Nat × List UInt8)} {W : World} {cs : Array Value} {f : Nat} {enc : TypeId × Value → Unit} {base : Nat} {sp : Nat → Bool} {held : Bool} {p : List MemPlace} (ht : Tryd.prog.underlying T = some (.map kt 9))
    (hd : DataW.trod enc Tryd.prog W base sp held f T cs.toList = some (asMap k tab, p)) : ∃ bm n, cs = #[.map (some bm)] ∧ bm < W.heap.size ∧ W.ownsMap Tryd.prog kt (plainElem Tryd.prog 9) bm n (asMap (H := Unit) k tab) := by
  rcases open_map ht hd with ⟨_, hx⟩ | ⟨bm, es, clock, m, _, hcs, hb, _, F, hx⟩
  · simp [asMap] at hx
  simp only [Prod.mk.injEq] at hx
  have hown := World.ownsMap_of_fit (R := plainElem Tryd.prog 9) hb F (fun x _ z hz => elemAt_plainElem_string Tryd.underlying9 hz)
  rw [← hx.1] at hown
  exact ⟨bm, _, Array.eq_one_of_toList hcs, lt_of_block hb, hown⟩

theorem owns_below {kt : TypeId} {bm n : Nat} {D : DataW Unit} {W wr : World} (h : W.ownsMap Tryd.prog kt (plainElem Tryd.prog 9) bm n D) (hlt : bm < W.heap.size) (hB : Below W.heap.size W wr) : wr.ownsMap Tryd.prog kt (plainElem Tryd.prog 9) bm n D := by
  obtain ⟨es', clock', hb', F', hle, hDD⟩ := h
  exact ⟨es', clock', by rw [hB.block bm hlt]; exact hb', F', hle, hDD⟩

theorem pow_datum : (Rows.laid_internal_strconv_uint64pow10 : DataW Unit) = Lib.tabData .u64 Lib.pow10Tab := by kernel_rfl
theorem ext_datum : (Rows.laid_example_com_codicil_codicil_extensionNames : DataW Unit) = asMap .u16 extTab := by kernel_rfl
theorem auth_datum : (Rows.laid_example_com_codicil_codicil_authzFormatNames : DataW Unit) = asMap .u8 authTab := by kernel_rfl

theorem lt_of_var {W : World} {n : String} {g : Nat} {cs : Array Value} {v : Value} (hg : Tryd.prog.globalNamed n = some g) (hv : W.var? Tryd.prog n = some cs) (h0 : cs[0]? = some v) : g < W.heap.size := by
  have := World.var?_cell hg hv 0
  rw [h0] at this
  exact World.block_lt_of_cell? (a := ⟨g, 0, none⟩) _ this

/-- The table of powers of ten, in every later world. -/
theorem pow_of {W : World} {cs : Array Value} {f : Nat} {enc : TypeId × Value → Unit} {base : Nat} {sp : Nat → Bool} {held : Bool} {p : List MemPlace} (hv : W.var? Tryd.prog powVar = some cs)
    (hd : DataW.trod enc Tryd.prog W base sp held f 49 cs.toList = some (Rows.laid_internal_strconv_uint64pow10, p)) (wr : World) (hB : Below W.heap.size W wr) : Pow10 wr := by
  rw [pow_datum] at hd
  have hc := Lib.cells_of_tab Tryd.underlying49 Tryd.underlying26 cells26 cells49 hd
  have hcs : cs = (Lib.pow10Tab.map fun z => Value.int .u64 z).toArray := by
    rw [← hc]
  have h0 : cs[0]? = some (.int .u64 1) := by rw [hcs]; rfl
  have := var?_below hB gPow (lt_of_var gPow hv h0) hv
  rw [hcs] at this
  exact this

theorem wf16 (v : Nat) (h : v < 65536) : (Lit.int .u16 (v : Int)).wf = true := WalkArith.wf_u16 ⟨by omega, by omega⟩
theorem wf8 (v : Nat) (h : v < 256) : (Lit.int .u8 (v : Int)).wf = true := WalkArith.wf_u8 ⟨by omega, by omega⟩

theorem ext_of {W : World} {cs : Array Value} {f : Nat} {enc : TypeId × Value → Unit} {base : Nat} {sp : Nat → Bool} {held : Bool} {p : List MemPlace} (hp : ∀ wr, Below W.heap.size W wr → Pow10 wr)
    (hv : W.var? Tryd.prog extVar = some cs)
    (hd : DataW.trod enc Tryd.prog W base sp held f 34 cs.toList = some (Rows.laid_example_com_codicil_codicil_extensionNames, p)) : ∀ wr, Below W.heap.size W wr → ExtOk wr := by
  intro wr hB
  rw [ext_datum] at hd
  obtain ⟨bm, n, rfl, hlt, hown⟩ := map_of Tryd.underlying34 hd
  have h0 : W.cell? ⟨0, 0, none⟩ = some (.map (some bm)) := by simpa using World.var?_cell gExt hv 0
  have hg := World.block_lt_of_cell? (a := ⟨0, 0, none⟩) _ h0
  exact ⟨hp wr hB, bm, (hB.cell (p := ⟨0, 0, none⟩) hg).trans h0, looks_of law23 Tryd.underlying34 Tryd.underlying23 (fun v h => wf16 v h) (owns_below hown hlt hB)⟩

theorem auth_of {W : World} {cs : Array Value} {f : Nat} {enc : TypeId × Value → Unit} {base : Nat} {sp : Nat → Bool} {held : Bool} {p : List MemPlace} (hp : ∀ wr, Below W.heap.size W wr → Pow10 wr)
    (hv : W.var? Tryd.prog authVar = some cs)
    (hd : DataW.trod enc Tryd.prog W base sp held f 36 cs.toList = some (Rows.laid_example_com_codicil_codicil_authzFormatNames, p)) : ∀ wr, Below W.heap.size W wr → AuthOk wr := by
  intro wr hB
  rw [auth_datum] at hd
  obtain ⟨bm, n, rfl, hlt, hown⟩ := map_of Tryd.underlying36 hd
  have h0 : W.cell? ⟨1, 0, none⟩ = some (.map (some bm)) := by simpa using World.var?_cell gAuth hv 0
  have hg := World.block_lt_of_cell? (a := ⟨1, 0, none⟩) _ h0
  exact ⟨hp wr hB, bm, (hB.cell (p := ⟨1, 0, none⟩) hg).trans h0, looks_of law28 Tryd.underlying36 Tryd.underlying28 (fun v h => wf8 v h) (owns_below hown hlt hB)⟩
end Go.Proofs.Qxb6613161aDoor
