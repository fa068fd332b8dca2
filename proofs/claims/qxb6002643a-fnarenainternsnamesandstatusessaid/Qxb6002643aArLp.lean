/- What the law's loops carry. -/
import Derived.Test.Qxb6002643aArAux
import Derived.Lib.ConvBytes
import Derived.LaidEqlPtr
import Derived.Lib.Builder
namespace Go.Proofs.Qxb6002643a.Ar
open Go.RowKit

/-- The step, its pointer written out. -/
theorem step_ptr (B A n : Nat) (f g : ByteArray → Option Value) (m2 : Option Nat) (bb cap : Nat) (S : ByteArray) (first : Bool) (w : World) (h : St B A n f g m2 w) (hb : Buf w bb S) (hbm : ∃ C T r, w.heap[bb]? = some (.cells C T r)) (hbA : bb ≠ A) (hs : S.size ≤ maxLen) (hB : B ≤ w.heap.size) (hn : n + 2 < maxLen) :
    Calls Try.prog 33 #[.pointer (some ⟨A, 0, none⟩), .slice (some ⟨bb, 0, none⟩) S.size cap, .bool first] w fun e w' => ∃ blk, e = .returned (.tuple #[.pointer (some ⟨blk, 0, none⟩), .string S]) ∧
      ∃ f' g' m2', St B A (n + 3) f' g' m2' w' ∧ Keep B A w w' ∧ Ext g g' ∧ g' S = some (.pointer (some ⟨blk, 0, none⟩)) ∧ w'.heap[blk]? = some (.cells #[.string S] 68 (0, 0)) := by
  refine (step_any B A n f g m2 bb cap S first w h hb hbm hbA hs hB hn).mono ?_
  rintro e w' ⟨v, rfl, f', g', m2', hst, hk, hx, hv⟩
  obtain ⟨blk, rfl, hblk⟩ := hst.stats S v hv
  exact ⟨blk, rfl, f', g', m2', hst, hk, hx, hv, hblk⟩

/-- The conversion's new row. -/
theorem conv_new (w : World) (S : ByteArray) : ∃ cap w1, (convert 9 22 (.string S)).run Try.prog w = .ok (.slice (some ⟨w.heap.size, 0, none⟩) S.size cap) w1 ∧ Buf w1 w.heap.size S ∧ BufBlk w1 w.heap.size S.size ∧ (∀ k, k < w.heap.size → w1.heap[k]? = w.heap[k]?) ∧ w1.heap.size = w.heap.size + 1 ∧ ∀ B, B ≤ w.heap.size → Below B w w1 := by
  refine ⟨_, _, Lib.run_convert_string_bytes w 9 22 5 S Try.underlying9 Try.underlying22 Try.underlying5, ?_, ?_, fun k hk => Lib.bytesWorld_at_old w 5 S k hk, Lib.bytesWorld_size w 5 S, fun B hB => ?_⟩
  · intro j hj
    have hj' : j < S.size := by simpa using hj
    have e : (⟨w.heap.size, 0, none⟩ : Addr).add j = ⟨w.heap.size, j, none⟩ := by unfold Addr.add; split <;> simp_all
    rw [e, Lib.bytesWorld_cell w 5 S j hj']
    simp [List.getD, List.getElem?_eq_getElem hj]
  · refine ⟨_, _, Lib.bytesWorld_at_new w 5 S, by simp [Lib.bytesCells], Nat.le_refl _, fun j hj => ⟨(S.data.toList.getD j 0).toNat, ?_⟩⟩
    have := Lib.bytesWorld_cell w 5 S j hj
    rw [cell_of_row _ _ _ _ _ _ (Lib.bytesWorld_at_new w 5 S)] at this
    exact this
  · exact ⟨rfl, rfl, rfl, by rw [Lib.bytesWorld_size]; omega, fun k hk => Lib.bytesWorld_at_old w 5 S k (by omega)⟩

theorem St.sameBut {B A n bb : Nat} {f g : ByteArray → Option Value} {m2 : Option Nat} {w W : World} (h : St B A n f g m2 w) {C : Array Value} {r : Nat × Nat} {t : TypeId} (hbb : w.heap[bb]? = some (.cells C t r)) (h60 : t ≠ 60) (h68 : t ≠ 68) (hk : ∀ k, k < w.heap.size → k ≠ bb → W.heap[k]? = w.heap[k]?) : St B A n f g m2 W := by
  obtain ⟨c0, c1, c2, m1, hA, h1, h2, h12⟩ := h.blk
  refine ⟨⟨c0, c1, c2, m1, (hk A (lt_block hA) (fun e => ?_)).trans hA, h1.same (Nat.le_refl _) (fun b es c _ hb => hk b (lt_block hb) (fun e => ?_)), h2.same (Nat.le_refl _) (fun b es c _ hb => hk b (lt_block hb) (fun e => ?_)), h12⟩, h.names, fun s v hv => ?_, h.low⟩
  · subst e; rw [hA] at hbb; simp at hbb; exact h60 hbb.2.1.symm
  · subst e; rw [hb] at hbb; cases hbb
  · subst e; rw [hb] at hbb; cases hbb
  · obtain ⟨blk, e, hb⟩ := h.stats s v hv
    refine ⟨blk, e, (hk blk (lt_block hb) (fun e => ?_)).trans hb⟩
    subst e; rw [hb] at hbb; simp at hbb; exact h68 hbb.2.1.symm

/-- What stands at a loop's head: the arena, the names' row N, the pointers' row Pb, the strings' row Q; the first k of both rows are filled. -/
structure Lp (B N A Pb Q len n k : Nat) (ss : Nat → ByteArray) (w0 : World) (g : ByteArray → Option Value) (ps ns : Array Value) (w : World) : Prop where
  st : ∃ f m2, St B A n f g m2 w
  nm : w.heap[N]? = some (.cells (strL ss len).toArray 9 (0, 0))
  pb : w.heap[Pb]? = some (.cells ps 63 (0, 0))
  pl : ps.size = len
  qb : w.heap[Q]? = some (.cells ns 9 (0, 0))
  ql : ns.size = len
  pg : ∀ j, j < k → ∃ v, ps[j]? = some v ∧ g (ss j) = some v
  qs : ∀ j, j < k → ns[j]? = some (.string (ss j))
  bel : Below B w0 w

section
variable {B N A Pb Q len n k : Nat} {ss : Nat → ByteArray} {w0 w W : World} {g : ByteArray → Option Value} {ps ns : Array Value}

theorem Lp.same (h : Lp B N A Pb Q len n k ss w0 g ps ns w) (hk : ∀ k, k < w.heap.size → W.heap[k]? = w.heap[k]?) (hb : Below B w W) : Lp B N A Pb Q len n k ss w0 g ps ns W := by
  obtain ⟨f, m2, hst⟩ := h.st
  exact ⟨⟨f, m2, hst.same hk⟩, (hk N (lt_block h.nm)).trans h.nm, (hk Pb (lt_block h.pb)).trans h.pb, h.pl, (hk Q (lt_block h.qb)).trans h.qb, h.ql, h.pg, h.qs, h.bel.trans hb⟩

theorem Lp.drewN (h : Lp B N A Pb Q len n k ss w0 g ps ns w) (nq : Nat) : Lp B N A Pb Q len n k ss w0 g ps ns (w.drewN nq) := h.same (fun _ _ => rfl) (below_drewN (Below.refl _ _) nq)

/-- The name at place j. -/
theorem Lp.name (h : Lp B N A Pb Q len n k ss w0 g ps ns w) {j : Nat} (hj : j < len) : w.cell? ⟨N, j, none⟩ = some (.string (ss j)) := by
  rw [cell_of_row _ _ _ _ _ _ h.nm]; simp [strL, hj]

/-- Behind the arena's step. -/
theorem Lp.stepped (h : Lp B N A Pb Q len n k ss w0 g ps ns w) (hNA : N ≠ A) (hPA : Pb ≠ A) (hQA : Q ≠ A) {f' g' : ByteArray → Option Value} {m2' : Option Nat} {n' : Nat} (hst : St B A n' f' g' m2' W) (hk : Keep B A w W) (hx : Ext g g') : Lp B N A Pb Q len n' k ss w0 g' ps ns W :=
  ⟨⟨f', m2', hst⟩, (hk.kept N (lt_block h.nm) hNA (fun es c => by rw [h.nm]; simp)).trans h.nm, (hk.kept Pb (lt_block h.pb) hPA (fun es c => by rw [h.pb]; simp)).trans h.pb, h.pl, (hk.kept Q (lt_block h.qb) hQA (fun es c => by rw [h.qb]; simp)).trans h.qb, h.ql,
    fun j hj => by obtain ⟨v, h1, h2⟩ := h.pg j hj; exact ⟨v, h1, hx _ _ h2⟩, h.qs, h.bel.trans hk.below⟩

/-- Behind the overwriting of the buffer. -/
theorem Lp.over (h : Lp B N A Pb Q len n k ss w0 g ps ns w) {bb m : Nat} (hbb : BufBlk w bb m) (hB : B ≤ bb) (hg : w.grownBy W (some bb)) : Lp B N A Pb Q len n k ss w0 g ps ns W := by
  obtain ⟨C, q, hb, _⟩ := hbb
  have hk : ∀ k, k < w.heap.size → k ≠ bb → W.heap[k]? = w.heap[k]? := fun k hk hne => hg.block k hk (by simpa using hne)
  obtain ⟨f, m2, hst⟩ := h.st
  refine ⟨⟨f, m2, hst.sameBut hb (by decide) (by decide) hk⟩, (hk N (lt_block h.nm) (fun e => ?_)).trans h.nm, (hk Pb (lt_block h.pb) (fun e => ?_)).trans h.pb, h.pl, (hk Q (lt_block h.qb) (fun e => ?_)).trans h.qb, h.ql, h.pg, h.qs, h.bel.grown hg (by have := lt_block hb; omega) (fun k hk => by cases hk; exact hB)⟩
  · subst e; rw [h.nm] at hb; simp at hb
  · subst e; rw [h.pb] at hb; simp at hb
  · subst e; rw [h.qb] at hb; simp at hb

/-- Behind both stores. -/
theorem Lp.stored (h : Lp B N A Pb Q len n k ss w0 g ps ns w) (hk : k < len) (hNP : N ≠ Pb) (hNQ : N ≠ Q) (hPQ : Pb ≠ Q) (hBP : B ≤ Pb) (hBQ : B ≤ Q) {v : Value} (hv : g (ss k) = some v) :
    Lp B N A Pb Q len n (k + 1) ss w0 g (ps.setIfInBounds k v) (ns.setIfInBounds k (.string (ss k))) ((w.setCell ⟨Pb, k, none⟩ v).setCell ⟨Q, k, none⟩ (.string (ss k))) := by
  have e1 : (w.setCell ⟨Pb, k, none⟩ v).heap[Pb]? = some (.cells (ps.setIfInBounds k v) 63 (0, 0)) := heap_setCell_same _ _ _ _ _ _ h.pb
  have e2 : (w.setCell ⟨Pb, k, none⟩ v).heap[Q]? = some (.cells ns 9 (0, 0)) := (heap_setCell_other _ _ _ _ hPQ.symm).trans h.qb
  have s1 : (w.setCell ⟨Pb, k, none⟩ v).heap.size = w.heap.size := by simp
  obtain ⟨f, m2, hst⟩ := h.st
  have st1 := hst.sameBut (W := w.setCell ⟨Pb, k, none⟩ v) h.pb (by decide) (by decide) (fun i _ hi => heap_setCell_other _ _ _ _ hi)
  have st2 := st1.sameBut (W := (w.setCell ⟨Pb, k, none⟩ v).setCell ⟨Q, k, none⟩ (.string (ss k))) e2 (by decide) (by decide) (fun i _ hi => heap_setCell_other _ _ _ _ hi)
  refine ⟨⟨f, m2, st2⟩, ?_, ?_, by simpa using h.pl, heap_setCell_same _ _ _ _ _ _ e2, by simpa using h.ql, fun j hj => ?_, fun j hj => ?_, (h.bel.setCell hBP _).setCell hBQ _⟩
  · exact (heap_setCell_other _ _ _ _ hNQ).trans ((heap_setCell_other _ _ _ _ hNP).trans h.nm)
  · exact (heap_setCell_other _ _ _ _ hPQ).trans e1
  · by_cases e : k = j
    · subst e; exact ⟨v, Array.getElem?_setIfInBounds_self_of_lt (by rw [h.pl]; exact hk), hv⟩
    · rw [Array.getElem?_setIfInBounds_ne e]; exact h.pg j (by omega)
  · by_cases e : k = j
    · subst e; exact Array.getElem?_setIfInBounds_self_of_lt (by rw [h.ql]; exact hk)
    · rw [Array.getElem?_setIfInBounds_ne e]; exact h.qs j (by omega)

/-- A cell of the pointers' row, of the strings' row: there to be written. -/
theorem Lp.slots (h : Lp B N A Pb Q len n k ss w0 g ps ns w) (hPQ : Pb ≠ Q) {j : Nat} (hj : j < len) (v : Value) :
    (∃ u, w.cell? ⟨Pb, j, none⟩ = some u) ∧ w.frozen? ⟨Pb, j, none⟩ = false ∧ (∃ u, (w.setCell ⟨Pb, j, none⟩ v).cell? ⟨Q, j, none⟩ = some u) ∧ (w.setCell ⟨Pb, j, none⟩ v).frozen? ⟨Q, j, none⟩ = false := by
  have e2 : (w.setCell ⟨Pb, j, none⟩ v).heap[Q]? = some (.cells ns 9 (0, 0)) := (heap_setCell_other _ _ _ _ hPQ.symm).trans h.qb
  have hp := h.pl
  have hq := h.ql
  refine ⟨⟨ps[j], ?_⟩, frozen_of_row _ _ _ _ _ h.pb, ⟨ns[j], ?_⟩, frozen_of_row _ _ _ _ _ e2⟩
  · rw [cell_of_row _ _ _ _ _ _ h.pb]; simp
  · rw [cell_of_row _ _ _ _ _ _ e2]; simp

/-- Two pointers are one just where the names are. -/
theorem Lp.ptrs (h : Lp B N A Pb Q len n len ss w0 g ps ns w) {i j : Nat} (hi : i < len) (hj : j < len) :
    ∃ a b, w.cell? ⟨Pb, i, none⟩ = some (.pointer (some ⟨a, 0, none⟩)) ∧ w.cell? ⟨Pb, j, none⟩ = some (.pointer (some ⟨b, 0, none⟩)) ∧ (a = b ↔ ss i = ss j) := by
  obtain ⟨v, h1, h2⟩ := h.pg i hi
  obtain ⟨u, h3, h4⟩ := h.pg j hj
  obtain ⟨f, m2, hst⟩ := h.st
  obtain ⟨a, rfl, ha⟩ := hst.stats _ _ h2
  obtain ⟨b, rfl, hb⟩ := hst.stats _ _ h4
  refine ⟨a, b, by rw [cell_of_row _ _ _ _ _ _ h.pb]; exact h1, by rw [cell_of_row _ _ _ _ _ _ h.pb]; exact h3, fun e => ?_, fun e => ?_⟩
  · subst e; rw [ha] at hb; simpa using hb
  · rw [e, h4] at h2; simpa using h2.symm

/-- What the second pass reads of both rows at place j. -/
theorem Lp.again (h : Lp B N A Pb Q len n len ss w0 g ps ns w) {j : Nat} (hj : j < len) {v : Value} (hv : g (ss j) = some v) : w.cell? ⟨Pb, j, none⟩ = some v ∧ w.cell? ⟨Q, j, none⟩ = some (.string (ss j)) := by
  obtain ⟨u, h1, h2⟩ := h.pg j hj
  rw [hv] at h2
  cases h2
  exact ⟨by rw [cell_of_row _ _ _ _ _ _ h.pb]; exact h1, by rw [cell_of_row _ _ _ _ _ _ h.qb]; exact h.qs j hj⟩

theorem info68 : ∃ j, Try.prog.info? 68 = some j ∧ j.size ≠ 0 := by
  have h : (Try.prog.info? 68).map (fun i => i.size) = some 1 := by kernel_rfl
  obtain ⟨j, h1, h2⟩ := Option.map_eq_some_iff.1 h
  exact ⟨j, h1, by omega⟩

/-- The two tests of the second loop: they answer alike. -/
theorem Lp.tests (h : Lp B N A Pb Q len n len ss w0 g ps ns w) {i j : Nat} (hi : i < len) (hj : j < len) :
    ∃ (a b : Nat) (c : Bool), w.cell? ⟨Pb, i, none⟩ = some (.pointer (some ⟨a, 0, none⟩)) ∧ w.cell? ⟨Pb, j, none⟩ = some (.pointer (some ⟨b, 0, none⟩)) ∧
      (∀ nq, (binOp .eql 63 (.pointer (some ⟨a, 0, none⟩)) (.pointer (some ⟨b, 0, none⟩))).run Try.prog (w.drewN nq) = .ok (.bool c) (w.drewN nq)) ∧ ((ss i).toList == (ss j).toList) = c := by
  obtain ⟨v, h1, h2⟩ := h.pg i hi
  obtain ⟨u, h3, h4⟩ := h.pg j hj
  obtain ⟨f, m2, hst⟩ := h.st
  obtain ⟨a, rfl, ha⟩ := hst.stats _ _ h2
  obtain ⟨b, rfl, hb⟩ := hst.stats _ _ h4
  obtain ⟨t, ht, hts⟩ := info68
  have c1 : w.cell? ⟨Pb, i, none⟩ = some (.pointer (some ⟨a, 0, none⟩)) := by rw [cell_of_row _ _ _ _ _ _ h.pb]; exact h1
  have c2 : w.cell? ⟨Pb, j, none⟩ = some (.pointer (some ⟨b, 0, none⟩)) := by rw [cell_of_row _ _ _ _ _ _ h.pb]; exact h3
  by_cases e : ss i = ss j
  · have hab : a = b := by rw [e, h4] at h2; simpa using h2.symm
    subst hab
    exact ⟨a, a, true, c1, c2, fun nq => run_eql_ptr_same _ _ Try.underlying63 ht, by rw [e]; simp⟩
  · have hab : a ≠ b := by intro e2; subst e2; rw [ha] at hb; exact e (by simpa using hb)
    refine ⟨a, b, false, c1, c2, fun nq => run_eql_ptr_other (w.drewN nq) Try.underlying63 ht hts (by intro e2; exact hab (congrArg Addr.block e2)) ha hb, ?_⟩
    rw [beq_eq_false_iff_ne]
    intro e2
    rw [ByteArray.toList_eq, ByteArray.toList_eq] at e2
    exact e (bytes_inj e2)
end
end Go.Proofs.Qxb6002643a.Ar
