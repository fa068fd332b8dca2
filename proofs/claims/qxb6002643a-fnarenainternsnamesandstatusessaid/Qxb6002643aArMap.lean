/- Maps keyed by strings whose elements are told as the very values: nothing of the dump. -/
import Derived.Maps.OwnSet
import Derived.WalkKit
namespace Go.Proofs.Qxb6002643a.Ar
open Go.Maps (Keyed string_keyed)

/-- Every value reads as itself. -/
def rdv (v : Value) : Option (DataW Value × List MemPlace) := some (.held v, [])

/-- Block b of w is a map of at most n entries: at key s it holds what f says. -/
def MapIs (P : Program) (K : TypeId) (w : World) (b n : Nat) (f : ByteArray → Option Value) : Prop :=
  ∃ D : DataW Value, w.ownsMap P K rdv b n D ∧ ∀ s : ByteArray, s.size ≤ maxLen → Maps.has D (.string s.data.toList) = (f s).isSome ∧ ∀ z, D.atKey (.string s.data.toList) (.held z) = .held ((f s).getD z)

theorem bytes_inj {a b : ByteArray} (h : a.data.toList = b.data.toList) : a = b := Go.WideShapes.bytes_inj h

section
variable {P : Program} {K T E : TypeId}

theorem key_of (hK : P.underlying K = some .string) {s : ByteArray} (hs : s.size ≤ maxLen) : keyOf P K (.string s) = some (.string s.data.toList) := Go.WideMaps.keyOf_string_mk hK hs

theorem MapIs.look (hK : P.underlying K = some .string) (hT : P.underlying T = some (.map K E)) {w : World} {b n : Nat} {f : ByteArray → Option Value} (h : MapIs P K w b n f) {z : Value} (hz : (zeroValue E).run P w = .ok z w) {s : ByteArray} (hs : s.size ≤ maxLen) :
    (Instr.lookup T (.map (some b)) (.string s) true).run P w = .ok (.tuple #[(f s).getD z, .bool (f s).isSome]) w := by
  obtain ⟨D, hown, hD⟩ := h
  obtain ⟨v, ps, hrun, hv⟩ := hown.look_ok (string_keyed hK) hT hz (zd := .held z) (zp := []) rfl (key_of hK hs)
  obtain ⟨h1, h2⟩ := hD s hs
  rw [h2 z] at hv
  simp only [rdv, Option.some.injEq, Prod.mk.injEq, DataW.held.injEq] at hv
  rw [hrun, h1, hv.1]

theorem look_nil (hK : P.underlying K = some .string) (hT : P.underlying T = some (.map K E)) {w : World} {z : Value} (hz : (zeroValue E).run P w = .ok z w) {s : ByteArray} (hs : s.size ≤ maxLen) :
    (Instr.lookup T (.map none) (.string s) true).run P w = .ok (.tuple #[z, .bool false]) w := by
  have := Maps.look_nil (w := w) true (string_keyed hK) hT hz (key_of hK hs)
  simpa using this

def upd (f : ByteArray → Option Value) (s : ByteArray) (v : Value) (t : ByteArray) : Option Value := if t = s then some v else f t
theorem upd_same (f : ByteArray → Option Value) (s : ByteArray) (v : Value) : upd f s v s = some v := if_pos rfl
theorem upd_other (f : ByteArray → Option Value) {s t : ByteArray} (v : Value) (h : t ≠ s) : upd f s v t = f t := if_neg h

/-- A store at key s. -/
theorem MapIs.put (hK : P.underlying K = some .string) (hT : P.underlying T = some (.map K E)) {w : World} {b n : Nat} {f : ByteArray → Option Value} (h : MapIs P K w b n f) (hn : n < maxLen) {s : ByteArray} (hs : s.size ≤ maxLen) (v : Value) :
    ∃ w', (Instr.mapUpdate T (.map (some b)) (.string s) v).run P w = .ok () w' ∧ MapIs P K w' b (n + 1) (upd f s v) ∧ w.grownBy w' (some b) := by
  obtain ⟨D, hown, hD⟩ := h
  obtain ⟨w', hrun, hown', hg⟩ := hown.update (string_keyed hK) hT hn (key_of hK hs) (val := v) (d := .held v) (ps := []) rfl
  refine ⟨w', hrun, ⟨_, hown', fun t ht => ?_⟩, hg⟩
  by_cases e : t = s
  · subst e
    rw [Maps.has_put_same hown.isMap (k := .string t.data.toList) trivial, upd_same]
    exact ⟨rfl, fun z => by rw [Maps.atKey_put_same hown.isMap (k := .string t.data.toList) trivial]; rfl⟩
  · have hne : (Lit.string t.data.toList) ≠ .string s.data.toList := fun h => e (bytes_inj (by simpa using h))
    rw [upd_other f v e, Maps.has_put_other hne]
    exact ⟨(hD t ht).1, fun z => by rw [Maps.atKey_put_other hne]; exact (hD t ht).2 z⟩

/-- A store at the operation, for the walk. -/
theorem wpList_put (w : World) {ops : Array Oper} {rest : List Oper} {o : Oper} {a : Act} {Q : Exit → Act → World → Prop}
    (hg : o.guard = none) (m x v : Operand) (hop : o.op = Op.mapUpdate T m x v) (hK : P.underlying K = some .string) (hT : P.underlying T = some (.map K E)) (b n : Nat) (f : ByteArray → Option Value)
    (hm : a.eval m = .map (some b)) (h : MapIs P K w b n f) (hn : n < maxLen) (s : ByteArray) (hs : s.size ≤ maxLen) (val : Value) (hx : a.eval x = .string s) (hv : a.eval v = val)
    (hk : ∀ w', MapIs P K w' b (n + 1) (upd f s val) → w.grownBy w' (some b) → wpList P ops Q rest (a.put o.dst undef) w') :
    wpList P ops Q (o :: rest) a w := by
  refine wpList_plain hg fun K' hK' => ?_
  obtain ⟨w', hrun, r1, r2⟩ := h.put hK hT hn hs val
  unfold Oper.wp
  simp [execOp, hop, hm, hx, hv, hrun, Result.andThen]
  exact hK' _ _ (hk w' r1 r2)
end

theorem MapIs.made (P : Program) (K : TypeId) (w : World) : MapIs P K (w.alloc (.map #[] 0)) w.heap.size 0 (fun _ => none) :=
  ⟨.map [], World.ownsMap_made w P K rdv, fun _ _ => ⟨rfl, fun _ => rfl⟩⟩

/-- The map stays what it is where its block is as it was. -/
theorem MapIs.same {P : Program} {K : TypeId} {w w' : World} {b n : Nat} {f : ByteArray → Option Value} (h : MapIs P K w b n f) (hb : w'.heap[b]? = w.heap[b]?) : MapIs P K w' b n f := by
  obtain ⟨D, ⟨es, clock, h1, h2⟩, hD⟩ := h
  exact ⟨D, ⟨es, clock, hb.trans h1, h2⟩, hD⟩

theorem MapIs.mono {P : Program} {K : TypeId} {w : World} {b n n' : Nat} {f : ByteArray → Option Value} (h : MapIs P K w b n f) (hn : n ≤ n') : MapIs P K w b n' f := by
  obtain ⟨D, ho, hD⟩ := h
  exact ⟨D, ho.mono hn, hD⟩

theorem MapIs.block {P : Program} {K : TypeId} {w : World} {b n : Nat} {f : ByteArray → Option Value} (h : MapIs P K w b n f) : ∃ es clock, w.heap[b]? = some (.map es clock) := by
  obtain ⟨D, ⟨es, clock, h1, _⟩, _⟩ := h
  exact ⟨es, clock, h1⟩
end Go.Proofs.Qxb6002643a.Ar
