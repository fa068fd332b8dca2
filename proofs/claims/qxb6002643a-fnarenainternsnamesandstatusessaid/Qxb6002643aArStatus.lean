/- The contract of status, its shim, and the step of the law. -/
import Derived.Test.Qxb6002643aArSt
namespace Go.Proofs.Qxb6002643a.Ar
open Go.RowKit

/-- What a step leaves: the pointer that the map holds at S; nothing that was there is lost. -/
def Ext (g g' : ByteArray → Option Value) : Prop := ∀ s v, g s = some v → g' s = some v
theorem Ext.refl (g : ByteArray → Option Value) : Ext g g := fun _ _ h => h
theorem Ext.trans {a b c : ByteArray → Option Value} (h : Ext a b) (k : Ext b c) : Ext a c := fun s v e => k s v (h s v e)
theorem Ext.upd {g : ByteArray → Option Value} {S : ByteArray} (v : Value) (h : g S = none) : Ext g (upd g S v) := by
  intro s u e
  by_cases es : s = S
  · subst es; rw [h] at e; cases e
  · rw [upd_other g v es]; exact e

theorem lt_of_some {w W : World} {k : Nat} (hk : k < w.heap.size) (h : W.heap[k]? = w.heap[k]?) : k < W.heap.size := by
  refine lt_block (o := w.heap[k]) ?_
  rw [h]; simp [hk]

theorem St.same {B A n : Nat} {f g : ByteArray → Option Value} {m2 : Option Nat} {w W : World} (h : St B A n f g m2 w) (hk : ∀ k, k < w.heap.size → W.heap[k]? = w.heap[k]?) : St B A n f g m2 W := by
  obtain ⟨c0, c1, c2, m1, hA, h1, h2, h12⟩ := h.blk
  refine ⟨⟨c0, c1, c2, m1, (hk A (lt_block hA)).trans hA, h1.same (Nat.le_refl _) (fun b es c _ hb => hk b (lt_block hb)), h2.same (Nat.le_refl _) (fun b es c _ hb => hk b (lt_block hb)), h12⟩, h.names, fun s v hv => ?_, h.low⟩
  obtain ⟨blk, e, hb⟩ := h.stats s v hv
  exact ⟨blk, e, (hk blk (lt_block hb)).trans hb⟩

theorem Keep.drewN (B A : Nat) (w : World) (nq : Nat) : Keep B A w (w.drewN nq) := ⟨below_drewN (Below.refl _ _) nq, fun _ _ _ _ => rfl⟩
theorem St.mono {B A n n' : Nat} {f g : ByteArray → Option Value} {m2 : Option Nat} {w : World} (h : St B A n f g m2 w) (hn : n ≤ n') : St B A n' f g m2 w := by
  obtain ⟨c0, c1, c2, m1, hA, h1, h2, h12⟩ := h.blk
  exact ⟨⟨c0, c1, c2, m1, hA, h1.same hn (fun _ _ _ _ _ => rfl), h2.same hn (fun _ _ _ _ _ => rfl), h12⟩, h.names, h.stats, h.low⟩

theorem status_found (B A n : Nat) (f g : ByteArray → Option Value) (m2 : Option Nat) (bb cap : Nat) (S : ByteArray) (v : Value) (w : World) (h : St B A n f g m2 w) (hb : Buf w bb S) (hs : S.size ≤ maxLen) (hv : g S = some v) :
    Calls Try.prog 56 #[.pointer (some ⟨A, 0, none⟩), .slice (some ⟨bb, 0, none⟩) S.size cap] w fun e w' => e = .returned v ∧ ∃ nq, w' = w.drewN nq := by
  obtain ⟨c0, c1, c2, m1, hA, h1, h2, h12⟩ := h.blk
  have hcell : w.cell? ⟨A, 4, none⟩ = some (.map m2) := by rw [cell_of_row _ _ _ _ _ _ hA]; rfl
  have hl : ∀ nq, (Instr.lookup 58 (.map m2) (.string S) true).run Try.prog (w.drewN nq) = .ok (.tuple #[v, .bool true]) (w.drewN nq) := by
    intro nq
    have hm : Mp B n g (w.drewN nq) m2 := h2
    have := hm.look (T := 58) Try.underlying58 (zero63 _) hs
    rw [hv] at this
    exact this
  have hcv : ∀ nq, (convert 22 9 (.slice (some ⟨bb, 0, none⟩) S.size cap)).run Try.prog (w.drewN nq) = .ok (.string S) (w.drewN nq) := fun nq => conv_buf (w := w.drewN nq) hb
  clear hb h h1 h2 h12 hA hv
  go_enter Try.func56, Try.ntmps56
  go_wp2
  go_quiet (fail)
  go_wp2
  go_ret
  exact ⟨rfl, nq, rfl⟩

/-- Behind the call of name: the new status' cell is written, then the map. -/
theorem status_tail {B A n b blk : Nat} {f g : ByteArray → Option Value} {S : ByteArray} {w4 : World} (h : St B A n f g (some b) w4) (hblk : w4.heap[blk]? = some (.cells #[.string ⟨#[]⟩] 68 (0, 0))) (hB : B ≤ blk) (hs : S.size ≤ maxLen) (hn : n < maxLen) (hnew : ∀ s v, g s = some v → v ≠ .pointer (some ⟨blk, 0, none⟩)) :
    (w4.setCell ⟨blk, 0, none⟩ (.string S)).cell? ⟨A, 4, none⟩ = some (.map (some b)) ∧ (w4.setCell ⟨blk, 0, none⟩ (.string S)).cell? ⟨blk, 0, none⟩ = some (.string S) ∧
    ∃ w6, (Instr.mapUpdate 58 (.map (some b)) (.string S) (.pointer (some ⟨blk, 0, none⟩))).run Try.prog (w4.setCell ⟨blk, 0, none⟩ (.string S)).drew = .ok () w6 ∧
      St B A (n + 1) f (upd g S (.pointer (some ⟨blk, 0, none⟩))) (some b) w6 ∧ Below B w4 w6 ∧ ∀ k, k < w4.heap.size → k ≠ blk → k ≠ b → w6.heap[k]? = w4.heap[k]? := by
  obtain ⟨c0, c1, c2, m1, hA, h1, h2, h12⟩ := h.blk
  have hAb : A ≠ blk := by intro e; subst e; rw [hblk] at hA; simp at hA
  have hb5 : (w4.setCell ⟨blk, 0, none⟩ (.string S)).heap[blk]? = some (.cells #[.string S] 68 (0, 0)) := heap_setCell_same _ _ _ _ _ _ hblk
  have ho5 : ∀ k, k ≠ blk → (w4.setCell ⟨blk, 0, none⟩ (.string S)).heap[k]? = w4.heap[k]? := fun k hk => heap_setCell_other _ _ _ _ hk
  have hs5 : (w4.setCell ⟨blk, 0, none⟩ (.string S)).heap.size = w4.heap.size := by simp
  refine ⟨?_, ?_, ?_⟩
  · rw [cell_of_row _ _ _ _ _ _ ((ho5 A hAb).trans hA)]; rfl
  · rw [cell_of_row _ _ _ _ _ _ hb5]; rfl
  rcases h2 with ⟨e, _⟩ | ⟨b', e, hBb, hm⟩
  · cases e
  cases e
  obtain ⟨es, c, hmb⟩ := hm.block
  have hbb : b ≠ blk := by intro e; subst e; rw [hmb] at hblk; cases hblk
  have hbA : b ≠ A := by intro e; subst e; rw [hmb] at hA; cases hA
  have hm5 : MapIs Try.prog 9 (w4.setCell ⟨blk, 0, none⟩ (.string S)).drew b n g := hm.same (ho5 b hbb)
  obtain ⟨w6, hrun, hm6, hg6⟩ := hm5.put Try.underlying9 Try.underlying58 hn hs (.pointer (some ⟨blk, 0, none⟩))
  have hg6' : (w4.setCell ⟨blk, 0, none⟩ (.string S)).grownBy w6 (some b) := ⟨hg6.os, hg6.tape, hg6.output, hg6.size, hg6.block⟩
  have ho6 : ∀ k, k < w4.heap.size → k ≠ b → w6.heap[k]? = (w4.setCell ⟨blk, 0, none⟩ (.string S)).heap[k]? := fun k hk hkb => hg6'.block k (by rw [hs5]; exact hk) (by simpa using hkb)
  refine ⟨w6, hrun, ⟨⟨c0, c1, c2, m1, ?_, ?_, .inr ⟨b, rfl, hBb, hm6⟩, h12⟩, h.names, ?_, h.low⟩, ?_, fun k hk h1 h2 => (ho6 k hk h2).trans (ho5 k h1)⟩
  · exact (ho6 A (lt_block hA) hbA.symm).trans ((ho5 A hAb).trans hA)
  · refine h1.same (Nat.le_succ n) (fun b1 es c e hb1 => (ho6 b1 (lt_block hb1) (fun e2 => h12 b1 e (by rw [e2]))).trans (ho5 b1 (fun e2 => ?_)))
    subst e2; rw [hblk] at hb1; cases hb1
  · intro s v hv
    by_cases es : s = S
    · subst es
      rw [upd_same] at hv
      cases hv
      exact ⟨blk, rfl, (ho6 blk (lt_block hblk) hbb.symm).trans hb5⟩
    · rw [upd_other g _ es] at hv
      obtain ⟨bk, e, hbk⟩ := h.stats s v hv
      refine ⟨bk, e, (ho6 bk (lt_block hbk) (fun e2 => ?_)).trans ((ho5 bk (fun e2 => ?_)).trans hbk)⟩
      · subst e2; rw [hmb] at hbk; cases hbk
      · exact hnew s v hv (by rw [e, e2])
  · exact ((Below.refl B w4).setCell hB _).grown hg6' (by rw [hs5]; have := lt_block hblk; omega) (fun k hk => by cases hk; exact hBb)

/-- The call of name inside status: what the walk wants of the world behind it. -/
theorem status_name (B A n b : Nat) (f g : ByteArray → Option Value) (bb cap : Nat) (S : ByteArray) (w : World) (blk : Nat) (hblk : w.heap.size = blk) (h : St B A n f g (some b) w) (hb : Buf w bb S) (hbb : bb < w.heap.size) (hbA : bb ≠ A) (hs : S.size ≤ maxLen) (hB : B ≤ w.heap.size) (hn : n + 1 < maxLen) (hg : g S = none) :
    Calls Try.prog 57 #[.pointer (some ⟨A, 0, none⟩), .slice (some ⟨bb, 0, none⟩) S.size cap] (w.alloc (.cells #[.string ⟨#[]⟩] 68)) fun e w4 => e = .returned (.string S) ∧
      w4.cell? ⟨blk, 0, none⟩ = some (.string ⟨#[]⟩) ∧ w4.frozen? ⟨blk, 0, none⟩ = false ∧ (w4.setCell ⟨blk, 0, none⟩ (.string S)).cell? ⟨A, 4, none⟩ = some (.map (some b)) ∧ (w4.setCell ⟨blk, 0, none⟩ (.string S)).cell? ⟨blk, 0, none⟩ = some (.string S) ∧
      ∃ w6, (Instr.mapUpdate 58 (.map (some b)) (.string S) (.pointer (some ⟨blk, 0, none⟩))).run Try.prog (w4.setCell ⟨blk, 0, none⟩ (.string S)).drew = .ok () w6 ∧
        Hid (∃ f' g' m2', St B A (n + 2) f' g' m2' w6 ∧ Keep B A w w6 ∧ Ext g g' ∧ g' S = some (.pointer (some ⟨blk, 0, none⟩))) := by
  subst hblk
  have HW : ∀ k, k < w.heap.size → (w.alloc (.cells #[.string ⟨#[]⟩] 68)).heap[k]? = w.heap[k]? := fun k hk => Below.heap_alloc w _ k hk
  have HN : (w.alloc (.cells #[.string ⟨#[]⟩] 68)).heap[w.heap.size]? = some (.cells #[.string ⟨#[]⟩] 68 (0, 0)) := heap_alloc_new w _
  have HS : (w.alloc (.cells #[.string ⟨#[]⟩] 68)).heap.size = w.heap.size + 1 := by simp
  have HBl : Below B w (w.alloc (.cells #[.string ⟨#[]⟩] 68)) := (Below.refl B w).alloc hB _
  generalize w.alloc (.cells #[.string ⟨#[]⟩] 68) = w3 at HW HN HS HBl ⊢
  refine (name_any B A n f g (some b) bb cap S w3 (h.same HW) (hb.same (HW bb hbb)) (by omega) hbA hs (by omega) (by omega)).mono ?_
  rintro e w4 ⟨rfl, f', hst4, hk4⟩
  have hAs : A < w.heap.size := by
    obtain ⟨_, _, _, _, hA, _⟩ := h.blk
    exact lt_block hA
  have hblk4 : w4.heap[w.heap.size]? = some (.cells #[.string ⟨#[]⟩] 68 (0, 0)) := (hk4.kept w.heap.size (by omega) (by omega) (fun es c => by rw [HN]; simp)).trans HN
  have hnew : ∀ s v, g s = some v → v ≠ .pointer (some ⟨w.heap.size, 0, none⟩) := by
    intro s v hv e
    obtain ⟨bk, e2, hbk⟩ := h.stats s v hv
    rw [e2] at e
    simp at e
    have := lt_block hbk
    omega
  obtain ⟨t1, t2, w6, hrun, hst6, hbel6, hoth6⟩ := status_tail hst4 hblk4 hB hs hn hnew
  refine ⟨rfl, by rw [cell_of_row _ _ _ _ _ _ hblk4]; rfl, frozen_of_row _ _ 0 _ 68 hblk4, t1, t2, w6, hrun, f', _, _, hst6, ⟨(HBl.trans hk4.below).trans hbel6, fun k hk hkA hkm => ?_⟩, Ext.upd _ hg, upd_same _ _ _⟩
  have e3 := HW k hk
  have e4 := hk4.kept k (by omega) hkA (fun es c => by rw [e3]; exact hkm es c)
  refine (hoth6 k (lt_of_some hk (e4.trans e3)) (by omega) (fun e => ?_)).trans (e4.trans e3)
  subst e
  obtain ⟨_, _, _, _, _, _, h2, _⟩ := hst4.blk
  rcases h2 with ⟨e, _⟩ | ⟨b', e, _, hm⟩
  · cases e
  · cases e
    obtain ⟨es, c, hmb⟩ := hm.block
    exact hkm es c (by rw [← e3, ← e4]; exact hmb)

set_option maxHeartbeats 1000000 in
set_option maxRecDepth 100000 in
theorem status_miss (B A n b : Nat) (f g : ByteArray → Option Value) (bb cap : Nat) (S : ByteArray) (w : World) (h : St B A n f g (some b) w) (hb : Buf w bb S) (hbb : bb < w.heap.size) (hbA : bb ≠ A) (hs : S.size ≤ maxLen) (hB : B ≤ w.heap.size) (hn : n + 1 < maxLen) (hg : g S = none) :
    Calls Try.prog 56 #[.pointer (some ⟨A, 0, none⟩), .slice (some ⟨bb, 0, none⟩) S.size cap] w fun e w' => ∃ v, e = .returned v ∧ ∃ f' g' m2', St B A (n + 2) f' g' m2' w' ∧ Keep B A w w' ∧ Ext g g' ∧ g' S = some v := by
  obtain ⟨c0, c1, c2, m1, hA, h1, h2, h12⟩ := h.blk
  have hcell : w.cell? ⟨A, 4, none⟩ = some (.map (some b)) := by rw [cell_of_row _ _ _ _ _ _ hA]; rfl
  have hl : ∀ nq, (Instr.lookup 58 (.map (some b)) (.string S) true).run Try.prog (w.drewN nq) = .ok (.tuple #[.pointer none, .bool false]) (w.drewN nq) := by
    intro nq
    have hm : Mp B n g (w.drewN nq) (some b) := h2
    have := hm.look (T := 58) Try.underlying58 (zero63 _) hs
    rw [hg] at this
    exact this
  have hcv : ∀ nq, (convert 22 9 (.slice (some ⟨bb, 0, none⟩) S.size cap)).run Try.prog (w.drewN nq) = .ok (.string S) (w.drewN nq) := fun nq => conv_buf (w := w.drewN nq) hb
  have hnil := fun (w : World) (r : Option Nat) => run_eql_map_nil (P := Try.prog) w 58 9 63 r Try.underlying58
  have HB : Hid (Buf w bb S) := hb
  have HG : Hid (g S = none) := hg
  clear hb h1 h2 h12 hA hg
  go_enter Try.func56, Try.ntmps56
  go_wp2
  go_quiet (fail)
  go_wp2_with fail
  refine (status_name B A n b f g bb cap S (w.drewN nq) w.heap.size rfl (h.same (fun _ _ => rfl)) HB.out hbb hbA hs hB hn HG.out).mono ?_
  rintro e w4 ⟨rfl, hc4, hf4, t1, t2, w6, hrun, HE⟩
  clear hcell hl hcv
  go_wp2
  generalize w4.setCell ⟨w.heap.size, 0, none⟩ (.string S) = w5 at t1 t2 hrun ⊢
  clear hc4 hf4
  go_region
  go_wp2
  go_ret
  obtain ⟨f', g', m2', hst, hk, hx, hv⟩ := HE.out
  exact ⟨_, rfl, f', g', m2', hst, (Keep.drewN B A w nq).trans hk, hx, hv⟩

/-- The statuses' map is made. -/
theorem St.mapMade {B A n : Nat} {f g : ByteArray → Option Value} {w : World} (h : St B A n f g none w) (hB : B ≤ w.heap.size) :
    ∀ W, W = (w.setCell ⟨A, 4, none⟩ (.map (some w.heap.size))).alloc (.map #[] 0) → St B A n f g (some w.heap.size) W ∧ (∀ k, k < w.heap.size → k ≠ A → W.heap[k]? = w.heap[k]?) ∧ W.heap.size = w.heap.size + 1 ∧ Below B w W := by
  intro W hW
  obtain ⟨c0, c1, c2, m1, hA, h1, h2, h12⟩ := h.blk
  have hAs := lt_block hA
  have hs : (w.setCell ⟨A, 4, none⟩ (.map (some w.heap.size))).heap.size = w.heap.size := by simp
  have hoth : ∀ k, k < w.heap.size → k ≠ A → W.heap[k]? = w.heap[k]? := fun k hk hkA => by
    rw [hW]; exact (Below.heap_alloc _ _ _ (by omega)).trans (heap_setCell_other _ _ _ _ hkA)
  have hg : ∀ s, g s = none := by
    rcases h2 with ⟨_, h⟩ | ⟨b, e, _⟩
    · exact h
    · cases e
  refine ⟨⟨⟨c0, c1, c2, m1, ?_, ?_, .inr ⟨w.heap.size, rfl, hB, ?_⟩, fun b e e2 => ?_⟩, h.names, fun s v hv => ?_, h.low⟩, hoth, by rw [hW]; simp, ?_⟩
  · rw [hW]; exact (Below.heap_alloc _ _ _ (by omega)).trans (heap_setCell_same _ _ _ _ _ _ hA)
  · refine h1.same (Nat.le_refl _) (fun b es c _ hb => hoth b (lt_block hb) (fun e => ?_))
    subst e; rw [hA] at hb; cases hb
  · have := MapIs.made Try.prog 9 (w.setCell ⟨A, 4, none⟩ (.map (some w.heap.size)))
    rw [hs, ← hW] at this
    rw [show g = fun _ => none from funext hg]
    exact this.mono (Nat.zero_le _)
  · exact h1.ne_size (e.trans e2.symm)
  · rw [hg s] at hv; cases hv
  · rw [hW]; exact ((Below.refl B w).setCell h.low _).alloc (by rw [hs]; exact hB) _

set_option maxHeartbeats 1000000 in
set_option maxRecDepth 100000 in
theorem status_nil (B A n : Nat) (f g : ByteArray → Option Value) (bb cap : Nat) (S : ByteArray) (w : World) (h : St B A n f g none w) (hb : Buf w bb S) (hbb : bb < w.heap.size) (hbA : bb ≠ A) (hs : S.size ≤ maxLen) (hB : B ≤ w.heap.size) (hn : n + 1 < maxLen) :
    Calls Try.prog 56 #[.pointer (some ⟨A, 0, none⟩), .slice (some ⟨bb, 0, none⟩) S.size cap] w fun e w' => ∃ v, e = .returned v ∧ ∃ f' g' m2', St B A (n + 2) f' g' m2' w' ∧ Keep B A w w' ∧ Ext g g' ∧ g' S = some v := by
  obtain ⟨c0, c1, c2, m1, hA, h1, h2, h12⟩ := h.blk
  have hcell : w.cell? ⟨A, 4, none⟩ = some (.map none) := by rw [cell_of_row _ _ _ _ _ _ hA]; rfl
  have hl : ∀ nq, (Instr.lookup 58 (.map none) (.string S) true).run Try.prog (w.drewN nq) = .ok (.tuple #[.pointer none, .bool false]) (w.drewN nq) := fun nq => look_nil Try.underlying9 Try.underlying58 (zero63 _) hs
  have hcv : ∀ nq, (convert 22 9 (.slice (some ⟨bb, 0, none⟩) S.size cap)).run Try.prog (w.drewN nq) = .ok (.string S) (w.drewN nq) := fun nq => conv_buf (w := w.drewN nq) hb
  have hmm := @run_makeMap Try.prog
  have hnil := fun (w : World) (r : Option Nat) => run_eql_map_nil (P := Try.prog) w 58 9 63 r Try.underlying58
  have HB : Hid (Buf w bb S) := hb
  have HA : Hid (w.heap[A]? = some (.cells #[c0, c1, c2, .map m1, .map none] 60 (0, 0))) := hA
  have HG : Hid (g S = none) := by
    rcases h2 with ⟨_, h⟩ | ⟨b, e, _⟩
    · exact h S
    · cases e
  clear hb h1 h2 h12 hA
  go_enter Try.func56, Try.ntmps56
  go_wp2
  go_quiet (fail)
  have HST : Hid (St B A n f g none (w.drewN nq)) := h.same (fun _ _ => rfl)
  have HA1 : Hid ((w.drewN nq).heap[A]? = some (.cells #[c0, c1, c2, .map m1, .map none] 60 (0, 0))) := HA.out
  have HB1 : Hid (Buf (w.drewN nq) bb S) := HB.out
  have HK : Hid (Keep B A w (w.drewN nq)) := ⟨below_drewN (Below.refl _ _) nq, fun _ _ _ _ => rfl⟩
  have hc1 : (w.drewN nq).cell? ⟨A, 4, none⟩ = some (.map none) := hcell
  have hz1 : B ≤ (w.drewN nq).heap.size := hB
  have hz2 : bb < (w.drewN nq).heap.size := hbb
  generalize w.drewN nq = w1 at HA1 HB1 HK HST hz1 hz2 hc1 ⊢
  clear hl hcv hcell HA HB h hB hbb
  have hAs := lt_block HA1.out
  have hc2 : (w1.alloc (.map #[] 0)).cell? ⟨A, 4, none⟩ = some (.map none) := (World.cell?_alloc_past _ _ _ hAs).trans hc1
  have hA2 : Hid ((w1.alloc (.map #[] 0)).heap[A]? = some (.cells #[c0, c1, c2, .map m1, .map none] 60 (0, 0))) := (Below.heap_alloc _ _ _ hAs).trans HA1.out
  have hf2 : (w1.alloc (.map #[] 0)).frozen? ⟨A, 4, none⟩ = false := frozen_of_row _ A 4 _ 60 hA2.out
  go_wp2_with fail
  obtain ⟨s1, s2, s3, s4⟩ := HST.out.mapMade hz1 _ rfl
  refine (status_name B A n w1.heap.size f g bb cap S _ (w1.heap.size + 1) s3 s1 (HB1.out.same (s2 bb hz2 hbA)) (by omega) hbA hs (by omega) hn HG.out).mono ?_
  rintro e w4 ⟨rfl, hc4, hf4, t1, t2, w6, hrun, HE⟩
  have HK2 : Hid (Keep B A w1 ((w1.setCell ⟨A, 4, none⟩ (.map (some w1.heap.size))).alloc (.map #[] 0))) := ⟨s4, fun k hk hkA _ => s2 k hk hkA⟩
  clear s1 s2 s3 s4 hc1 hc2 hA2 hf2 hmm
  go_wp2
  generalize w4.setCell ⟨w1.heap.size + 1, 0, none⟩ (.string S) = w5 at t1 t2 hrun ⊢
  clear hc4 hf4
  go_region
  go_wp2
  go_ret
  obtain ⟨f', g', m2', hst, hk, hx, hv⟩ := HE.out
  exact ⟨_, rfl, f', g', m2', hst, (HK.out.trans HK2.out).trans hk, hx, hv⟩

/-- status: the pointer that the map holds at S from now on. -/
theorem status_any (B A n : Nat) (f g : ByteArray → Option Value) (m2 : Option Nat) (bb cap : Nat) (S : ByteArray) (w : World) (h : St B A n f g m2 w) (hb : Buf w bb S) (hbb : bb < w.heap.size) (hbA : bb ≠ A) (hs : S.size ≤ maxLen) (hB : B ≤ w.heap.size) (hn : n + 1 < maxLen) :
    Calls Try.prog 56 #[.pointer (some ⟨A, 0, none⟩), .slice (some ⟨bb, 0, none⟩) S.size cap] w fun e w' => ∃ v, e = .returned v ∧ ∃ f' g' m2', St B A (n + 2) f' g' m2' w' ∧ Keep B A w w' ∧ Ext g g' ∧ g' S = some v := by
  cases hg : g S with
  | some v =>
    refine (status_found B A n f g m2 bb cap S v w h hb hs hg).mono ?_
    rintro e w' ⟨rfl, nq, rfl⟩
    exact ⟨v, rfl, f, g, m2, (h.same (W := w.drewN nq) (fun _ _ => rfl)).mono (by omega), Keep.drewN B A w nq, Ext.refl g, hg⟩
  | none =>
    cases m2 with
    | none => exact status_nil B A n f g bb cap S w h hb hbb hbA hs hB hn
    | some b => exact status_miss B A n b f g bb cap S w h hb hbb hbA hs hB hn hg

theorem zzStatus_any (B A n : Nat) (f g : ByteArray → Option Value) (m2 : Option Nat) (bb cap : Nat) (S : ByteArray) (w : World) (h : St B A n f g m2 w) (hb : Buf w bb S) (hbb : bb < w.heap.size) (hbA : bb ≠ A) (hs : S.size ≤ maxLen) (hB : B ≤ w.heap.size) (hn : n + 1 < maxLen) :
    Calls Try.prog 46 #[.pointer (some ⟨A, 0, none⟩), .slice (some ⟨bb, 0, none⟩) S.size cap] w fun e w' => ∃ v, e = .returned v ∧ ∃ f' g' m2', St B A (n + 2) f' g' m2' w' ∧ Keep B A w w' ∧ Ext g g' ∧ g' S = some v := by
  have C : Hid (Calls Try.prog 56 #[.pointer (some ⟨A, 0, none⟩), .slice (some ⟨bb, 0, none⟩) S.size cap] w fun e w' => ∃ v, e = .returned v ∧ ∃ f' g' m2', St B A (n + 2) f' g' m2' w' ∧ Keep B A w w' ∧ Ext g g' ∧ g' S = some v) := status_any B A n f g m2 bb cap S w h hb hbb hbA hs hB hn
  clear h hb
  go_enter Try.func46, Try.ntmps46
  go_wp2_with (go_at_call 56; refine C.out.mono ?_; rintro e w' ⟨v, rfl, H⟩)
  go_ret
  exact ⟨_, rfl, H⟩

/-- One step of the law: both calls, in whichever order. -/
theorem step_any (B A n : Nat) (f g : ByteArray → Option Value) (m2 : Option Nat) (bb cap : Nat) (S : ByteArray) (first : Bool) (w : World) (h : St B A n f g m2 w) (hb : Buf w bb S) (hbm : ∃ C T r, w.heap[bb]? = some (.cells C T r)) (hbA : bb ≠ A) (hs : S.size ≤ maxLen) (hB : B ≤ w.heap.size) (hn : n + 2 < maxLen) :
    Calls Try.prog 33 #[.pointer (some ⟨A, 0, none⟩), .slice (some ⟨bb, 0, none⟩) S.size cap, .bool first] w fun e w' => ∃ v, e = .returned (.tuple #[v, .string S]) ∧ ∃ f' g' m2', St B A (n + 3) f' g' m2' w' ∧ Keep B A w w' ∧ Ext g g' ∧ g' S = some v := by
  obtain ⟨C, T, r, hcb⟩ := hbm
  have hbb := lt_block hcb
  have hnm : ∀ es c, w.heap[bb]? ≠ some (.map es c) := fun es c => by rw [hcb]; simp
  cases first
  · have C1 : Hid (Calls Try.prog 47 #[.pointer (some ⟨A, 0, none⟩), .slice (some ⟨bb, 0, none⟩) S.size cap] w fun e w' => e = .returned (.string S) ∧ ∃ f', St B A (n + 1) f' g m2 w' ∧ Keep B A w w') := zzName_any B A n f g m2 bb cap S w h hb hbb hbA hs hB (by omega)
    have HB : Hid (Buf w bb S) := hb
    clear h hb
    go_enter Try.func33, Try.ntmps33
    go_wp2_with (go_at_call 47; refine C1.out.mono ?_; rintro e w1 ⟨rfl, f1, hst1, hk1⟩)
    have e1 := hk1.kept bb hbb hbA hnm
    have hsz := hk1.below.size
    refine (zzStatus_any B A (n + 1) f1 g m2 bb cap S w1 hst1 (HB.out.same e1) (by omega) hbA hs (by omega) (by omega)).mono ?_
    rintro e w2 ⟨v, rfl, f2, g2, m2', hst2, hk2, hx, hv⟩
    go_wp2
    go_ret2
    exact ⟨v, rfl, f2, g2, m2', hst2, hk1.trans hk2, hx, hv⟩
  · have C1 : Hid (Calls Try.prog 46 #[.pointer (some ⟨A, 0, none⟩), .slice (some ⟨bb, 0, none⟩) S.size cap] w fun e w' => ∃ v, e = .returned v ∧ ∃ f' g' m2', St B A (n + 2) f' g' m2' w' ∧ Keep B A w w' ∧ Ext g g' ∧ g' S = some v) := zzStatus_any B A n f g m2 bb cap S w h hb hbb hbA hs hB (by omega)
    have HB : Hid (Buf w bb S) := hb
    clear h hb
    go_enter Try.func33, Try.ntmps33
    go_wp2_with (go_at_call 46; refine C1.out.mono ?_; rintro e w1 ⟨v, rfl, f1, g1, m2', hst1, hk1, hx, hv⟩)
    have e1 := hk1.kept bb hbb hbA hnm
    have hsz := hk1.below.size
    refine (zzName_any B A (n + 2) f1 g1 m2' bb cap S w1 hst1 (HB.out.same e1) (by omega) hbA hs (by omega) (by omega)).mono ?_
    rintro e w2 ⟨rfl, f2, hst2, hk2⟩
    have HV : Hid (g1 S = some v) := hv
    clear hv
    go_wp2
    go_ret2
    exact ⟨v, rfl, f2, g1, m2', hst2, hk1.trans hk2, hx, HV.out⟩
end Go.Proofs.Qxb6002643a.Ar
