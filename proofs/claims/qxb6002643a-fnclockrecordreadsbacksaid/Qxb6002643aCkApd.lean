/- Appending to a row of bytes of the call's own: one byte, a string's bytes. -/
import Derived.Test.Qxb6002643aRows
import Derived.Test.Qxb6002643aCkPlain
import Derived.ProofKit
import Derived.Maps.AppendAt
import Derived.Deep.AppendSrc
import Derived.WalkSpells
import Derived.Outline
import Derived.Deep.QuietTactic
import Derived.BigQuiet
import Derived.WalkSmall
import Derived.Laws.BitsAllLaws
import Derived.OpenShut
namespace Go.Proofs.Qxb6002643a.Ck
open Go.RowKit

theorem info5 : (Try.prog.info? 5).map (fun i => (i.zero, i.size, i.bytes)) = some (some (.int .u8 0), 1, 1) := by kernel_rfl
theorem hid_mk {p : Prop} (h : p) : Hid p := h

/-- What appends leave: only the slice's own row is written; the new slice lies in that row or in a new block. -/
structure Apd (w w' : World) (v v' : Value) : Prop where
  grown : w.grownBy w' v.ownBlock
  loc : v'.ownBlock = v.ownBlock ∨ ∃ g, v'.ownBlock = some g ∧ w.heap.size ≤ g

theorem Apd.trans {a b c : World} {u v x : Value} (h : Apd a b u v) (k : Apd b c v x) : Apd a c u x := by
  refine ⟨⟨k.grown.os.trans h.grown.os, k.grown.tape.trans h.grown.tape, k.grown.output.trans h.grown.output, Nat.le_trans h.grown.size k.grown.size, fun i hi hne => ?_⟩, ?_⟩
  · refine (k.grown.block i (Nat.lt_of_lt_of_le hi h.grown.size) (fun e => ?_)).trans (h.grown.block i hi hne)
    rcases h.loc with h1 | ⟨g, h1, h2⟩
    · exact hne (by rw [e, h1])
    · rw [h1] at e; have := Option.some.inj e; omega
  · rcases k.loc with h1 | ⟨g, h1, h2⟩
    · rcases h.loc with h3 | ⟨g, h3, h4⟩
      · exact .inl (h1.trans h3)
      · exact .inr ⟨g, h1.trans h3, h4⟩
    · exact .inr ⟨g, h1, Nat.le_trans h.grown.size h2⟩

/-- A new block ahead of it. -/
theorem Apd.afterAlloc {w w' : World} {o : Obj} {v v' : Value} (h : Apd (w.alloc o) w' v v') : Apd w w' v v' := by
  refine ⟨⟨h.grown.os, h.grown.tape, h.grown.output, ?_, fun i hi hne => ?_⟩, ?_⟩
  · have := h.grown.size; simp at this; omega
  · exact (h.grown.block i (by simp; omega) hne).trans (Below.heap_alloc w o i hi)
  · rcases h.loc with h1 | ⟨g, h1, h2⟩
    · exact .inl h1
    · exact .inr ⟨g, h1, by simp at h2; omega⟩

theorem Apd.of {w w' : World} {v v' : Value} (h : w.grownBy w' v.ownBlock) (k : v'.ownBlock = v.ownBlock ∨ v'.ownBlock = some w.heap.size) : Apd w w' v v' :=
  ⟨h, k.imp id fun e => ⟨_, e, Nat.le_refl _⟩⟩

theorem run_append_room_str {P : Program} (w : World) (t tx ty e : TypeId) (i : TypeInfo) (ht : P.underlying t = some (.slice e)) (hx : P.underlying tx = some .string) (hi : P.info? e = some i) (h1 : i.size = 1)
    (g sLen sCap : Nat) (cur : Array Value) (hg : w.heap[g]? = some (.cells cur e (0, 0))) (s : ByteArray) (hroom : sLen + s.size ≤ sCap) (hfit : sLen + s.size ≤ cur.size) :
    (Builtin.append_ #[t, tx] ty #[.slice (some ⟨g, 0, none⟩) sLen sCap, .string s]).run P w =
      .ok (.slice (some ⟨g, 0, none⟩) (sLen + s.size) sCap) (w.setRow g (cur.toList.take sLen ++ byteCells s ++ cur.toList.drop (sLen + s.size)).toArray) := by
  have hf := firstCells_string (P := P) s w
  have hone : ∀ u ∈ byteCells s, u.oneCell' = true := fun u hu => by
    obtain ⟨_, _, rfl⟩ := List.mem_map.1 hu
    rfl
  have hl := byteCells_length s
  have hst := run_storeCells_at P g sLen e (byteCells s) 0 cur w hg (by simpa [hl] using hfit) hone
  simp only [Nat.add_zero] at hst
  rw [hl] at hst
  simp [Builtin.append_, run_underlying ht, run_underlying hx, sizeOf, typeInfo, hi, h1, Builtin.lenOf, hroom, hf, Addr.add_lit, hst]

/-- 'append(b, s...)' where b owns a row. -/
theorem run_append_own_str {P : Program} (w : World) (base : Nat) (t tx ty e : TypeId) (i : TypeInfo) (z : Value) (ht : P.underlying t = some (.slice e)) (hx : P.underlying tx = some .string) (hi : P.info? e = some i) (hz : i.zero = some z) (h1 : i.size = 1) (hby : i.bytes = 1) (hzs : z.cells.size = 1)
    (g n cap : Nat) (xs : List Value) (hown : w.ownsRow base e 1 (.slice (some ⟨g, 0, none⟩) n cap) n xs) (s : ByteArray) (h63 : n + s.size ≤ maxLen) (hb : n + s.size ≤ 140737488355328) (hbase : base ≤ w.heap.size) :
    ∃ v' w', (Builtin.append_ #[t, tx] ty #[.slice (some ⟨g, 0, none⟩) n cap, .string s]).run P w = .ok v' w' ∧ w'.ownsRow base e 1 v' (n + s.size) (xs ++ byteCells s) ∧ Apd w w' (.slice (some ⟨g, 0, none⟩) n cap) v' := by
  have hl := byteCells_length s
  have hlen : (xs ++ byteCells s).length = (n + s.size) * 1 := by rw [List.length_append, hown.1, hl]; omega
  rcases hown.2 with ⟨h', _⟩ | ⟨g', cap', cur, h', hbg, hg, hnc, hcm, hcs, htake⟩
  · simp at h'
  simp only [Value.slice.injEq, Option.some.injEq, Addr.mk.injEq, and_true, true_and] at h'
  obtain ⟨rfl, rfl⟩ := h'
  by_cases hroom : n + s.size ≤ cap
  · have hr := run_append_room_str (P := P) w t tx ty e i ht hx hi h1 g n cap cur hg s hroom (by omega)
    refine ⟨_, _, hr, ⟨hlen, .inr ⟨g, cap, _, rfl, hbg, setRow_heap w g cur _ e _ hg, hroom, hcm, ?_, ?_⟩⟩, ⟨⟨rfl, rfl, rfl, by simp, fun k _ hk => setRow_other w g k _ (fun e => hk (by simp [Value.ownBlock, e]))⟩, .inl rfl⟩⟩
    · simp only [List.size_toArray, List.length_append, List.length_take, List.length_drop, Array.length_toList, hl]
      omega
    · rw [Nat.mul_one] at htake
      rw [htake, ← hlen]
      exact List.take_left
  · have holds : ∀ j u, xs[j]? = some u → w.drew.cell? ((⟨g, 0, none⟩ : Addr).add j) = some u := hown.cells (g := g) rfl
    have hold := run_firstCells_some (P := P) w.drew i.size n ⟨g, 0, none⟩ n cap xs (by rw [h1]; exact hown.1) holds
    have hsrc : Src P i.size tx (.string s) s.size (byteCells s) w := by rw [h1]; exact Src.ofString w hx s
    have hr := run_append_grow_src (P := P) w t tx ty e i z ht hi hz (some ⟨g, 0, none⟩) n cap xs hold (.string s) s.size (byteCells s) hsrc (by omega) (by unfold maxLen at h63; omega) (growslice_fits (by omega) (by rw [hby]; omega))
    have hge := grownCap_ge w (n + s.size) cap e
    have hcm2 : grownCap w (n + s.size) cap e ≤ maxLen := grownCap_le_maxLen w (n + s.size) cap e h63
    refine ⟨_, _, hr, ⟨hlen, .inr ⟨w.heap.size, _, _, rfl, hbase, heap_alloc_new w.drew _, hge, hcm2, ?_, ?_⟩⟩, ⟨⟨rfl, rfl, rfl, by simp, fun k hk _ => Below.heap_alloc w.drew _ k hk⟩, .inr ⟨_, rfl, Nat.le_refl _⟩⟩⟩
    · simp only [Array.size_append, List.size_toArray, size_zeroCells, hzs, hlen]
      omega
    · simp only [Array.toList_append]
      rw [← hlen]
      exact List.take_left

/-- At the operation, for the walk. -/
theorem wpList_append_str (w : World) {ops : Array Oper} {rest : List Oper} {o : Oper} {a : Act} {Q : Exit → Act → World → Prop} (hgd : o.guard = none) (s x : Operand)
    (ho : o.op = .call { callee := .builtin .append, args := #[s, x], argTypes := #[22, 9] }) (base g n cap : Nat) (zs : List Int) (hs : a.eval s = .slice (some ⟨g, 0, none⟩) n cap) (str : ByteArray) (hx : a.eval x = .string str)
    (hown : w.ownsRow base 5 1 (.slice (some ⟨g, 0, none⟩) n cap) n (zs.map (Value.int .u8))) (h63 : n + str.size ≤ 140737488355328) (hbase : base ≤ w.heap.size)
    (h : ∀ v' w', w'.ownsRow base 5 1 v' (n + str.size) ((zs ++ str.data.toList.map (fun b => (b.toNat : Int))).map (Value.int .u8)) → Apd w w' (.slice (some ⟨g, 0, none⟩) n cap) v' → wpList Try.prog ops Q rest (a.put o.dst v') w') :
    wpList Try.prog ops Q (o :: rest) a w := by
  obtain ⟨i0, hi, hz0, hz1, hz2⟩ := info_parts info5
  refine wpList_plain hgd fun K hK => ?_
  obtain ⟨v', w', hr, h2, h3⟩ := run_append_own_str (P := Try.prog) w base 22 9 o.type 5 i0 (.int .u8 0) Try.underlying22 Try.underlying9 hi hz0 hz1 hz2 rfl g n cap _ hown str (by unfold maxLen; omega) h63 hbase
  unfold Oper.wp execOp
  simp only [ho, resolve, invoke, builtin, Sem.run_bind, Sem.run_pure, Result.andThen_ok, List.map_toArray, List.map_cons, List.map_nil, hs, hx, hr]
  refine hK _ _ (h v' w' ?_ h3)
  rw [List.map_append, List.map_map]
  exact h2
end Go.Proofs.Qxb6002643a.Ck
