/- The contract of cloneBytes of the api laws. -/
import Derived.Test.Qxb6002643aRows
import Derived.WalkKit
import Derived.ProofKit
import Derived.WalkSpells
import Derived.Outline
namespace Go.Proofs.Qxb6002643a.Clone
open Go.RowKit
theorem info5 : (Try.prog.info? 5).map (fun i => (i.zero, i.size, i.bytes)) = some (some (.int .u8 0), 1, 1) := by kernel_rfl

theorem take_snoc (zs : List Int) (k : Nat) (h : k < zs.length) : zs.take (k + 1) = zs.take k ++ [zs.getD k 0] := by
  rw [List.take_succ_eq_append_getElem h]; simp [h]

theorem add_block (x : Addr) (n : Nat) : (x.add n).block = x.block := by unfold Addr.add; split <;> rfl

theorem q22 : ∀ (w : World) (a : Option Addr) (n c n' c' : Nat), (binOp .eql 22 (.slice a n c) (.slice none n' c')).run Try.prog w = .ok (.bool a.isNone) w := fun w a n c n' c' => Lib.run_eql_slice_nil w _ _ a n c n' c' Try.underlying22

theorem clone_nil (w : World) :
    Calls Try.prog 12 #[.slice none 0 0] w fun e w' => e = .returned (.slice none 0 0) ∧ w' = w := by
  have hq := q22
  go_enter Try.func12, Try.ntmps12
  go_wp2
  go_ret
  exact ⟨rfl, rfl⟩

set_option maxHeartbeats 400000 in
theorem clone_row (x : Addr) (len cap : Nat) (zs : List Int) (w : World) (hz : zs.length = len) (hl : len ≤ 1048576)
    (hc : ∀ i, i < len → w.cell? (x.add i) = some (.int .u8 (zs.getD i 0))) :
    Calls Try.prog 12 #[.slice (some x) len cap] w fun e w' => e = .returned (.slice (some ⟨w.heap.size, 0, none⟩) len len) ∧
      w'.ownsRow w.heap.size 5 1 (.slice (some ⟨w.heap.size, 0, none⟩) len len) len (zs.map (Value.int .u8)) ∧ Below w.heap.size w w' := by
  obtain ⟨i0, hi, hz0, hz1, hz2⟩ := info_parts info5
  have hq := q22
  obtain ⟨G, hG⟩ : ∃ G, w.heap.size = G := ⟨_, rfl⟩
  rw [hG]
  have HZ : Hid (zs.length = len) := hz
  have HC : Hid (∀ i, i < len → w.cell? (x.add i) = some (.int .u8 (zs.getD i 0))) := hc
  clear hz hc
  go_enter Try.func12, Try.ntmps12
  go_wp2_with (at_make; refine wpList_make_full _ rfl _ _ 22 rfl G 5 i0 (.int .u8 0) 1 Try.underlying22 hi hz0 hz1 _ _ _ _ len rfl rfl rfl rfl ?b2 ?b3 ?b4 ?_; rotate_right; intro w2 hown2 hgrow2; rw [hG] at hown2)
  case b2 => rw [hz2]; omega
  case b3 => unfold maxLen; omega
  case b4 => omega
  have HC2 : Hid (∀ i, i < len → w2.cell? (x.add i) = some (.int .u8 (zs.getD i 0)) ∧ x.block < G) := fun i h => ⟨hgrow2.cell (HC.out i h) (by simp), by have h2 : (x.add i).block < w.heap.size := World.block_lt_of_cell? w _ (HC.out i h); have h3 := add_block x i; omega⟩
  have hb2 : Below G w w2 := (Below.refl _ _).grown hgrow2 (by omega) (fun k h => by cases h)
  generalize (madeCells (Value.int .u8 0).cells (len * 1)).toList = xs0 at hown2
  clear HC hgrow2 hG
  go_loopw [4] (fun i wr => ∃ (k : Nat) (xs : List Value), k ≤ len ∧ i = .int .i64 k ∧ wr.ownsRow G 5 1 (.slice (some ⟨G, 0, none⟩) len len) len xs ∧ xs.take k = (zs.take k).map (Value.int .u8) ∧
      Hid (∀ i, i < len → wr.cell? (x.add i) = some (.int .u8 (zs.getD i 0)) ∧ x.block < G) ∧ Below G w wr) (fun i _ => len - (intOf i).toNat)
  case atStart => exact ⟨0, xs0, Nat.zero_le _, rfl, hown2, rfl, HC2, hb2⟩
  case round =>
    clear HC2 hb2 hown2
    obtain ⟨k, xs, hk, rfl, hown, htk, HC, hbr⟩ := hrel
    have HT : Hid (xs.take k = (zs.take k).map (Value.int .u8)) := htk
    clear htk
    by_cases hlt : k < len
    · have hcell := (HC.out k hlt).1
      have hfz := hown.frozenAt k
      obtain ⟨v0, hold⟩ : ∃ v0, wr.cell? ⟨G, k, none⟩ = some v0 := by
        have h1 := hown.1
        exact ⟨xs[k], by rw [hown.cellAt k (by omega)]; simp⟩
      have HS : Hid (zs.take (k + 1) = zs.take k ++ [zs.getD k 0]) := take_snoc zs k (by rw [HZ.out]; omega)
      obtain ⟨hown', hgrow'⟩ := hown.stored k (.int .u8 (zs.getD k 0))
      generalize zs.getD k 0 = c at hcell HS hown' hgrow'
      go_wp2
      go_roundw
      case rel =>
        refine ⟨k + 1, _, by omega, by go_num, hown', ?_, fun i h => ⟨hgrow'.cell (HC.out i h).1 ?_, (HC.out i h).2⟩, hbr.setCell (Nat.le_refl _) _⟩
        · have h1 := hown.1
          rw [HS.out, List.map_append, ← HT.out, List.take_succ_eq_append_getElem (by simp; omega), List.getElem_set_self, List.take_set_of_le (by omega)]; rfl
        · have h2 := (HC.out i h).2
          have h3 := add_block x i
          intro e
          have h4 := Option.some.inj e
          omega
      case measure => simp [intOf]; omega
    · have hkl : k = len := by omega
      subst hkl
      have h1 := hown.1
      have hx : xs = zs.map (Value.int .u8) := by
        have := HT.out
        rwa [List.take_of_length_le (by omega), List.take_of_length_le (by rw [HZ.out]; omega)] at this
      have HX : Hid (xs = zs.map (Value.int .u8)) := hx
      clear hx h1
      go_wp2
      go_ret
      exact ⟨rfl, by rw [← HX.out]; exact hown, hbr⟩
end Go.Proofs.Qxb6002643a.Clone
