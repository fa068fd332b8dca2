/- The arena's state, and the contract of name. -/
import Derived.Test.Qxb6002643aArMap
import Derived.Test.Qxb6002643aRows
import Derived.ProofKit
import Derived.WalkSpells
import Derived.Outline
import Derived.Deep.QuietTactic
import Derived.BigQuiet
import Derived.WalkSmall
import Derived.Laws.IdiomStrings
import Derived.RegionTactic
namespace Go.Proofs.Qxb6002643a.Ar
open Go.RowKit

/-- A map field: nil and empty, or a block from B on. -/
def Mp (B n : Nat) (f : ByteArray → Option Value) (w : World) (m : Option Nat) : Prop :=
  (m = none ∧ ∀ s, f s = none) ∨ ∃ b, m = some b ∧ B ≤ b ∧ MapIs Try.prog 9 w b n f

structure St (B A n : Nat) (f g : ByteArray → Option Value) (m2 : Option Nat) (w : World) : Prop where
  blk : ∃ (c0 c1 c2 : Value) (m1 : Option Nat), w.heap[A]? = some (.cells #[c0, c1, c2, .map m1, .map m2] 60 (0, 0)) ∧ Mp B n f w m1 ∧ Mp B n g w m2 ∧ (∀ b, m1 = some b → m2 ≠ some b)
  names : ∀ s v, f s = some v → v = .string s
  stats : ∀ s v, g s = some v → ∃ blk, v = .pointer (some ⟨blk, 0, none⟩) ∧ w.heap[blk]? = some (.cells #[.string s] 68 (0, 0))
  low : B ≤ A

/-- Below B nothing has turned; every block that is no map and is not A is as it was. -/
structure Keep (B A : Nat) (w w' : World) : Prop where
  below : Below B w w'
  kept : ∀ k, k < w.heap.size → k ≠ A → (∀ es c, w.heap[k]? ≠ some (.map es c)) → w'.heap[k]? = w.heap[k]?

theorem Keep.refl (B A : Nat) (w : World) : Keep B A w w := ⟨Below.refl _ _, fun _ _ _ _ => rfl⟩
theorem Keep.trans {B A : Nat} {a b c : World} (h : Keep B A a b) (k : Keep B A b c) : Keep B A a c :=
  ⟨h.below.trans k.below, fun i hi hA hm => by
    have e := h.kept i hi hA hm
    rw [← e]
    exact k.kept i (Nat.lt_of_lt_of_le hi h.below.size) hA (fun es c => by rw [e]; exact hm es c)⟩

theorem zero9 (w : World) : (zeroValue 9).run Try.prog w = .ok (.string ⟨#[]⟩) w := by kernel_rfl
theorem zero63 (w : World) : (zeroValue 63).run Try.prog w = .ok (.pointer none) w := by kernel_rfl

/-- The buffer: its cells are the bytes of S. -/
def Buf (w : World) (bb : Nat) (S : ByteArray) : Prop := ∀ j (h : j < S.data.toList.length), w.cell? ((⟨bb, 0, none⟩ : Addr).add j) = some (.int .u8 (S.data.toList[j].toNat : Int))

theorem conv_buf {w : World} {bb cap : Nat} {S : ByteArray} (h : Buf w bb S) :
    (convert 22 9 (.slice (some ⟨bb, 0, none⟩) S.size cap)).run Try.prog w = .ok (.string S) w := by
  have := run_convert_bytes_back (P := Try.prog) w 22 9 5 ⟨bb, 0, none⟩ cap S.data.toList Try.underlying22 Try.underlying5 Try.underlying9 h
  have e : S.data.toList.length = S.size := by simp
  rw [e] at this
  rw [this]

/-- A look-up in a map field. -/
theorem Mp.look {B n : Nat} {f : ByteArray → Option Value} {w : World} {m : Option Nat} (h : Mp B n f w m) {T E : TypeId} (hT : Try.prog.underlying T = some (.map 9 E)) {z : Value} (hz : (zeroValue E).run Try.prog w = .ok z w) {s : ByteArray} (hs : s.size ≤ maxLen) :
    (Instr.lookup T (.map m) (.string s) true).run Try.prog w = .ok (.tuple #[(f s).getD z, .bool (f s).isSome]) w := by
  rcases h with ⟨rfl, hf⟩ | ⟨b, rfl, _, hm⟩
  · rw [hf s]; exact look_nil Try.underlying9 hT hz hs
  · exact hm.look Try.underlying9 hT hz hs

/-- name, at a name that is there. -/
theorem name_found (B A n : Nat) (f g : ByteArray → Option Value) (m2 : Option Nat) (bb cap : Nat) (S : ByteArray) (w : World) (h : St B A n f g m2 w) (hb : Buf w bb S) (hs : S.size ≤ maxLen) (hf : (f S).isSome = true) :
    Calls Try.prog 57 #[.pointer (some ⟨A, 0, none⟩), .slice (some ⟨bb, 0, none⟩) S.size cap] w fun e w' => e = .returned (.string S) ∧ ∃ nq, w' = w.drewN nq := by
  obtain ⟨c0, c1, c2, m1, hA, h1, h2, h12⟩ := h.blk
  have hcell : w.cell? ⟨A, 3, none⟩ = some (.map m1) := by rw [cell_of_row _ _ _ _ _ _ hA]; rfl
  obtain ⟨v, hv⟩ := Option.isSome_iff_exists.1 hf
  have hv' := h.names S v hv
  subst hv'
  have hl : ∀ nq, (Instr.lookup 57 (.map m1) (.string S) true).run Try.prog (w.drewN nq) = .ok (.tuple #[.string S, .bool true]) (w.drewN nq) := by
    intro nq
    have hm : Mp B n f (w.drewN nq) m1 := h1
    have := hm.look (T := 57) Try.underlying57 (zero9 _) hs
    rw [hv] at this
    exact this
  have hcv : ∀ nq, (convert 22 9 (.slice (some ⟨bb, 0, none⟩) S.size cap)).run Try.prog (w.drewN nq) = .ok (.string S) (w.drewN nq) := fun nq => conv_buf (w := w.drewN nq) hb
  clear hb h h1 h2 h12 hA hv hf
  go_enter Try.func57, Try.ntmps57
  go_wp2
  go_quiet (fail)
  go_wp2
  go_ret
  exact ⟨rfl, nq, rfl⟩

theorem lt_block {w : World} {k : Nat} {o : Obj} (h : w.heap[k]? = some o) : k < w.heap.size := (Array.getElem?_eq_some_iff.1 h).1

/-- A map field is as it was where its block is. -/
theorem Mp.same {B n n' : Nat} {f : ByteArray → Option Value} {w W : World} {m : Option Nat} (h : Mp B n f w m) (hn : n ≤ n') (hk : ∀ b es c, m = some b → w.heap[b]? = some (.map es c) → W.heap[b]? = w.heap[b]?) : Mp B n' f W m := by
  rcases h with h | ⟨b, rfl, hB, hm⟩
  · exact .inl h
  · obtain ⟨es, c, hb⟩ := hm.block
    exact .inr ⟨b, rfl, hB, (hm.same (hk b es c rfl hb)).mono hn⟩

theorem Mp.ne_size {B n : Nat} {f : ByteArray → Option Value} {w : World} {m : Option Nat} (h : Mp B n f w m) : m ≠ some w.heap.size := by
  rcases h with ⟨rfl, _⟩ | ⟨b, rfl, _, hm⟩
  · simp
  · obtain ⟨es, c, hb⟩ := hm.block
    have := lt_block hb
    simp; omega

/-- Behind a store into the names' map (an old one or a new one). -/
theorem St.named {B A n bm : Nat} {f f' g : ByteArray → Option Value} {w W : World} {m2 : Option Nat} (h : St B A n f g m2 w) {c0 c1 c2 : Value} {m1 : Option Nat} (hA : w.heap[A]? = some (.cells #[c0, c1, c2, .map m1, .map m2] 60 (0, 0))) (h2 : Mp B n g w m2)
    (hbm : B ≤ bm) (hW : W.heap[A]? = some (.cells #[c0, c1, c2, .map (some bm), .map m2] 60 (0, 0))) (hmap : MapIs Try.prog 9 W bm (n + 1) f') (hf' : ∀ s v, f' s = some v → v = .string s)
    (hoth : ∀ k, k < w.heap.size → k ≠ A → k ≠ bm → W.heap[k]? = w.heap[k]?) (h12 : m2 ≠ some bm) (hold : bm < w.heap.size → ∃ es c, w.heap[bm]? = some (.map es c)) :
    St B A (n + 1) f' g m2 W := by
  refine ⟨⟨c0, c1, c2, some bm, hW, .inr ⟨bm, rfl, hbm, hmap⟩, h2.same (Nat.le_succ n) ?_, fun b e e2 => h12 (e2.trans e.symm)⟩, hf', fun s v hv => ?_, h.low⟩
  · intro b es c e hb
    refine hoth b (lt_block hb) (fun e2 => ?_) (fun e2 => h12 (by rw [e, e2]))
    subst e2; rw [hA] at hb; cases hb
  · obtain ⟨blk, e, hb⟩ := h.stats s v hv
    refine ⟨blk, e, (hoth blk (lt_block hb) (fun e2 => ?_) (fun e2 => ?_)).trans hb⟩
    · subst e2; rw [hA] at hb; simp at hb
    · subst e2
      obtain ⟨es, c, h3⟩ := hold (lt_block hb)
      rw [h3] at hb; cases hb

theorem Keep.of {B A bm : Nat} {w W : World} (hb : Below B w W) (hoth : ∀ k, k < w.heap.size → k ≠ A → k ≠ bm → W.heap[k]? = w.heap[k]?) (hold : bm < w.heap.size → ∃ es c, w.heap[bm]? = some (.map es c)) : Keep B A w W :=
  ⟨hb, fun k hk hA hm => hoth k hk hA (fun e => by
    subst e
    obtain ⟨es, c, h⟩ := hold hk
    exact hm es c h)⟩

/-- The buffer is as it was where its block is. -/
theorem Buf.same {w W : World} {bb : Nat} {S : ByteArray} (h : Buf w bb S) (hb : W.heap[bb]? = w.heap[bb]?) : Buf W bb S := by
  intro j hj
  rw [← h j hj]
  have e : ((⟨bb, 0, none⟩ : Addr).add j).block = bb := by unfold Addr.add; split <;> rfl
  exact World.cell?_of_block (by rw [e]; exact hb)

theorem names_upd {f : ByteArray → Option Value} {S : ByteArray} (h : ∀ s v, f s = some v → v = .string s) : ∀ s v, upd f S (.string S) s = some v → v = .string s := by
  intro s v hv
  by_cases e : s = S
  · subst e; rw [upd_same] at hv; cases hv; rfl
  · rw [upd_other f _ e] at hv; exact h s v hv

set_option maxHeartbeats 1000000 in
set_option maxRecDepth 100000 in
theorem name_nil (B A n : Nat) (f g : ByteArray → Option Value) (m2 : Option Nat) (bb cap : Nat) (S : ByteArray) (w : World) (h : St B A n f g m2 w) (hb : Buf w bb S) (hbb : bb < w.heap.size) (hbA : bb ≠ A) (hs : S.size ≤ maxLen) (hB : B ≤ w.heap.size)
   (c0 c1 c2 : Value) (hA : w.heap[A]? = some (.cells #[c0, c1, c2, .map none, .map m2] 60 (0, 0))) (h2 : Mp B n g w m2) :
    Calls Try.prog 57 #[.pointer (some ⟨A, 0, none⟩), .slice (some ⟨bb, 0, none⟩) S.size cap] w fun e w' => e = .returned (.string S) ∧ ∃ f', St B A (n + 1) f' g m2 w' ∧ Keep B A w w' := by
  have hcell : w.cell? ⟨A, 3, none⟩ = some (.map none) := by rw [cell_of_row _ _ _ _ _ _ hA]; rfl
  have hl : ∀ nq, (Instr.lookup 57 (.map none) (.string S) true).run Try.prog (w.drewN nq) = .ok (.tuple #[.string ⟨#[]⟩, .bool false]) (w.drewN nq) := fun nq => look_nil Try.underlying9 Try.underlying57 (zero9 _) hs
  have hcv : ∀ nq, (convert 22 9 (.slice (some ⟨bb, 0, none⟩) S.size cap)).run Try.prog (w.drewN nq) = .ok (.string S) (w.drewN nq) := fun nq => conv_buf (w := w.drewN nq) hb
  have hmm := @run_makeMap Try.prog
  have hnil := fun (w : World) (r : Option Nat) => run_eql_map_nil (P := Try.prog) w 57 9 9 r Try.underlying57
  have HA : Hid (w.heap[A]? = some (.cells #[c0, c1, c2, .map none, .map m2] 60 (0, 0))) := hA
  have HB : Hid (Buf w bb S) := hb
  clear hA hb
  go_enter Try.func57, Try.ntmps57
  go_wp2
  go_quiet (fail)
  have HST : Hid (St B A n f g m2 (w.drewN nq)) := ⟨h.blk, h.names, h.stats, h.low⟩
  have HA1 : Hid ((w.drewN nq).heap[A]? = some (.cells #[c0, c1, c2, .map none, .map m2] 60 (0, 0))) := HA.out
  have HB1 : Hid (Buf (w.drewN nq) bb S) := HB.out
  have HK : Hid (Keep B A w (w.drewN nq)) := ⟨below_drewN (Below.refl _ _) nq, fun _ _ _ _ => rfl⟩
  have HM : Hid (Mp B n g (w.drewN nq) m2) := h2
  have hc1 : (w.drewN nq).cell? ⟨A, 3, none⟩ = some (.map none) := hcell
  have hz1 : B ≤ (w.drewN nq).heap.size := hB
  have hz2 : bb < (w.drewN nq).heap.size := hbb
  generalize w.drewN nq = w1 at HA1 HB1 HK HM HST hz1 hz2 hc1 ⊢
  clear hl hcv hcell HA HB h h2 hB hbb
  have hAs := lt_block HA1.out
  have hc2 : (w1.alloc (.map #[] 0)).cell? ⟨A, 3, none⟩ = some (.map none) := (World.cell?_alloc_past _ _ _ hAs).trans hc1
  have hA2 : Hid ((w1.alloc (.map #[] 0)).heap[A]? = some (.cells #[c0, c1, c2, .map none, .map m2] 60 (0, 0))) := (Below.heap_alloc _ _ _ hAs).trans HA1.out
  have hf2 : (w1.alloc (.map #[] 0)).frozen? ⟨A, 3, none⟩ = false := frozen_of_row _ A 3 _ 60 hA2.out
  have hsz3 : (w1.setCell ⟨A, 3, none⟩ (.map (some w1.heap.size))).heap.size = w1.heap.size := by simp
  have hA3 : Hid (((w1.setCell ⟨A, 3, none⟩ (.map (some w1.heap.size))).alloc (.map #[] 0)).heap[A]? = some (.cells #[c0, c1, c2, .map (some w1.heap.size), .map m2] 60 (0, 0))) := (Below.heap_alloc _ _ _ (by omega)).trans (heap_setCell_same _ _ _ _ _ _ HA1.out)
  have hoth3 : Hid (∀ k, k < w1.heap.size → k ≠ A → ((w1.setCell ⟨A, 3, none⟩ (.map (some w1.heap.size))).alloc (.map #[] 0)).heap[k]? = w1.heap[k]?) := fun k hk hkA => (Below.heap_alloc _ _ _ (by omega)).trans (heap_setCell_other _ _ _ _ hkA)
  have HB3 : Hid (Buf ((w1.setCell ⟨A, 3, none⟩ (.map (some w1.heap.size))).alloc (.map #[] 0)) bb S) := HB1.out.same (hoth3.out bb hz2 hbA)
  have HM3 : Hid (MapIs Try.prog 9 ((w1.setCell ⟨A, 3, none⟩ (.map (some w1.heap.size))).alloc (.map #[] 0)) w1.heap.size 0 (fun _ => none)) := by
    have := MapIs.made Try.prog 9 (w1.setCell ⟨A, 3, none⟩ (.map (some w1.heap.size)))
    rwa [hsz3] at this
  have hbel3 : Hid (Below B w1 ((w1.setCell ⟨A, 3, none⟩ (.map (some w1.heap.size))).alloc (.map #[] 0))) := ((Below.refl B w1).setCell HST.out.low _).alloc (by omega) _
  have hcv3 : (convert 22 9 (.slice (some ⟨bb, 0, none⟩) S.size cap)).run Try.prog ((w1.setCell ⟨A, 3, none⟩ (.map (some w1.heap.size))).alloc (.map #[] 0)) = .ok (.string S) _ := conv_buf HB3.out
  have hc3 : ((w1.setCell ⟨A, 3, none⟩ (.map (some w1.heap.size))).alloc (.map #[] 0)).cell? ⟨A, 3, none⟩ = some (.map (some w1.heap.size)) := by rw [cell_of_row _ _ _ _ _ _ hA3.out]; rfl
  have hsz4 : Hid (((w1.setCell ⟨A, 3, none⟩ (.map (some w1.heap.size))).alloc (.map #[] 0)).heap.size = w1.heap.size + 1) := by show _ = _; simp
  clear hsz3
  go_wp2_with (at_mapUpdate; refine wpList_put _ rfl _ _ _ rfl Try.underlying9 Try.underlying57 w1.heap.size 0 (fun _ => none) rfl HM3.out (by unfold maxLen; omega) S hs (.string S) rfl rfl ?_; intro w4 hm4 hg4)
  have hlt4 : ∀ k, k < w1.heap.size → k < ((w1.setCell ⟨A, 3, none⟩ (.map (some w1.heap.size))).alloc (.map #[] 0)).heap.size := fun k hk => by rw [hsz4.out]; omega
  have hW4 : w4.heap[A]? = some (.cells #[c0, c1, c2, .map (some w1.heap.size), .map m2] 60 (0, 0)) := (hg4.block A (hlt4 A hAs) (by simp; omega)).trans hA3.out
  have hoth4 : ∀ k, k < w1.heap.size → k ≠ A → k ≠ w1.heap.size → w4.heap[k]? = w1.heap[k]? := fun k hk hkA hkb => (hg4.block k (hlt4 k hk) (by simpa using hkb)).trans (hoth3.out k hk hkA)
  have hst := HST.out.named HA1.out HM.out hz1 hW4 (hm4.mono (by omega)) (names_upd (fun _ _ h => by cases h)) hoth4 (HM.out.ne_size) (fun h => absurd h (Nat.lt_irrefl _))
  have hkp := HK.out.trans (Keep.of (A := A) (bm := w1.heap.size) (hbel3.out.grown hg4 (by rw [hsz4.out]; omega) (fun k hk => by cases hk; exact hz1)) hoth4 (fun h => absurd h (Nat.lt_irrefl _)))
  go_ret
  exact ⟨rfl, _, hst, hkp⟩

set_option maxHeartbeats 1000000 in
set_option maxRecDepth 100000 in
theorem name_miss (B A n b : Nat) (f g : ByteArray → Option Value) (m2 : Option Nat) (bb cap : Nat) (S : ByteArray) (w : World) (h : St B A n f g m2 w) (hb : Buf w bb S) (hs : S.size ≤ maxLen) (hB : B ≤ w.heap.size) (hn : n < maxLen) (hf : f S = none)
   (c0 c1 c2 : Value) (hA : w.heap[A]? = some (.cells #[c0, c1, c2, .map (some b), .map m2] 60 (0, 0))) (h1 : MapIs Try.prog 9 w b n f) (hBb : B ≤ b) (h2 : Mp B n g w m2) (h12 : m2 ≠ some b) :
    Calls Try.prog 57 #[.pointer (some ⟨A, 0, none⟩), .slice (some ⟨bb, 0, none⟩) S.size cap] w fun e w' => e = .returned (.string S) ∧ ∃ f', St B A (n + 1) f' g m2 w' ∧ Keep B A w w' := by
  have hcell : w.cell? ⟨A, 3, none⟩ = some (.map (some b)) := by rw [cell_of_row _ _ _ _ _ _ hA]; rfl
  have hl : ∀ nq, (Instr.lookup 57 (.map (some b)) (.string S) true).run Try.prog (w.drewN nq) = .ok (.tuple #[.string ⟨#[]⟩, .bool false]) (w.drewN nq) := fun nq => by
    have hm : MapIs Try.prog 9 (w.drewN nq) b n f := h1
    have := hm.look Try.underlying9 Try.underlying57 (zero9 _) hs
    rw [hf] at this
    exact this
  have hcv : ∀ nq, (convert 22 9 (.slice (some ⟨bb, 0, none⟩) S.size cap)).run Try.prog (w.drewN nq) = .ok (.string S) (w.drewN nq) := fun nq => conv_buf (w := w.drewN nq) hb
  have hnil := fun (w : World) (r : Option Nat) => run_eql_map_nil (P := Try.prog) w 57 9 9 r Try.underlying57
  have HA : Hid (w.heap[A]? = some (.cells #[c0, c1, c2, .map (some b), .map m2] 60 (0, 0))) := hA
  have H12 : Hid (m2 ≠ some b) := h12
  clear hA hb hf h12
  go_enter Try.func57, Try.ntmps57
  go_wp2
  go_quiet (fail)
  go_wp2_with (at_mapUpdate; refine wpList_put _ rfl _ _ _ rfl Try.underlying9 Try.underlying57 b n f rfl ?hm hn S hs (.string S) rfl rfl ?_; rotate_right; intro w4 hm4 hg4)
  case hm => exact h1
  have hAs := lt_block HA.out
  have hAb : A ≠ b := by
    obtain ⟨es, c, hb⟩ := h1.block
    intro e; subst e; rw [HA.out] at hb; cases hb
  have hW4 : w4.heap[A]? = some (.cells #[c0, c1, c2, .map (some b), .map m2] 60 (0, 0)) := (hg4.block A hAs (by simpa using hAb)).trans HA.out
  have hoth4 : ∀ k, k < w.heap.size → k ≠ A → k ≠ b → w4.heap[k]? = w.heap[k]? := fun k hk _ hkb => hg4.block k hk (by simpa using hkb)
  have hst := h.named HA.out h2 hBb hW4 hm4 (names_upd h.names) hoth4 H12.out (fun _ => h1.block)
  have hkp : Keep B A w w4 := Keep.of (bm := b) ((below_drewN (Below.refl B w) nq).grown hg4 hB (fun k hk => by cases hk; exact hBb)) hoth4 (fun _ => h1.block)
  go_ret
  exact ⟨rfl, _, hst, hkp⟩

/-- name: the string of the bytes; the arena's state goes on. -/
theorem name_any (B A n : Nat) (f g : ByteArray → Option Value) (m2 : Option Nat) (bb cap : Nat) (S : ByteArray) (w : World) (h : St B A n f g m2 w) (hb : Buf w bb S) (hbb : bb < w.heap.size) (hbA : bb ≠ A) (hs : S.size ≤ maxLen) (hB : B ≤ w.heap.size) (hn : n < maxLen) :
    Calls Try.prog 57 #[.pointer (some ⟨A, 0, none⟩), .slice (some ⟨bb, 0, none⟩) S.size cap] w fun e w' => e = .returned (.string S) ∧ ∃ f', St B A (n + 1) f' g m2 w' ∧ Keep B A w w' := by
  cases hf : f S with
  | some v =>
    refine (name_found B A n f g m2 bb cap S w h hb hs (by rw [hf]; rfl)).mono ?_
    rintro e w' ⟨rfl, nq, rfl⟩
    obtain ⟨c0, c1, c2, m1, hA, h1, h2, h12⟩ := h.blk
    exact ⟨rfl, f, ⟨⟨c0, c1, c2, m1, hA, h1.same (Nat.le_succ n) (fun _ _ _ _ _ => rfl), h2.same (Nat.le_succ n) (fun _ _ _ _ _ => rfl), h12⟩, h.names, h.stats, h.low⟩, below_drewN (Below.refl _ _) nq, fun _ _ _ _ => rfl⟩
  | none =>
    obtain ⟨c0, c1, c2, m1, hA, h1, h2, h12⟩ := h.blk
    rcases h1 with ⟨rfl, _⟩ | ⟨b, rfl, hBb, h1⟩
    · exact name_nil B A n f g m2 bb cap S w h hb hbb hbA hs hB c0 c1 c2 hA h2
    · exact name_miss B A n b f g m2 bb cap S w h hb hs hB hn hf c0 c1 c2 hA h1 hBb h2 (h12 b rfl)

theorem zzName_any (B A n : Nat) (f g : ByteArray → Option Value) (m2 : Option Nat) (bb cap : Nat) (S : ByteArray) (w : World) (h : St B A n f g m2 w) (hb : Buf w bb S) (hbb : bb < w.heap.size) (hbA : bb ≠ A) (hs : S.size ≤ maxLen) (hB : B ≤ w.heap.size) (hn : n < maxLen) :
    Calls Try.prog 47 #[.pointer (some ⟨A, 0, none⟩), .slice (some ⟨bb, 0, none⟩) S.size cap] w fun e w' => e = .returned (.string S) ∧ ∃ f', St B A (n + 1) f' g m2 w' ∧ Keep B A w w' := by
  have C : Hid (Calls Try.prog 57 #[.pointer (some ⟨A, 0, none⟩), .slice (some ⟨bb, 0, none⟩) S.size cap] w fun e w' => e = .returned (.string S) ∧ ∃ f', St B A (n + 1) f' g m2 w' ∧ Keep B A w w') := name_any B A n f g m2 bb cap S w h hb hbb hbA hs hB hn
  clear h hb
  go_enter Try.func47, Try.ntmps47
  go_wp2_with (go_at_call 57; refine C.out.mono ?_; rintro e w' ⟨rfl, f', hst, hk⟩)
  go_ret
  exact ⟨rfl, f', hst, hk⟩
end Go.Proofs.Qxb6002643a.Ar
