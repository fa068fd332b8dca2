/- The contracts of outcome and its shim. -/
import Derived.Test.Qxb6604170aClone
import Derived.Laws.IdiomStrings
namespace Go.Proofs.Qxb6604170a.Out
open Go.RowKit

theorem idx0 (w : World) : (Instr.index 35 (.agg #[.string ⟨#[114, 117, 110, 110, 105, 110, 103]⟩, .string ⟨#[111, 107]⟩, .string ⟨#[102, 97, 105, 108, 101, 100]⟩, .string ⟨#[116, 105, 109, 101, 111, 117, 116]⟩, .string ⟨#[115, 107, 105, 112, 112, 101, 100]⟩, .string ⟨#[105, 110, 116, 101, 114, 114, 117, 112, 116, 101, 100]⟩, .string ⟨#[99, 97, 110, 99, 101, 108, 108, 101, 100]⟩]) (.int .i64 0)).run Try.prog w = .ok (.string ⟨#[114, 117, 110, 110, 105, 110, 103]⟩) w := by kernel_rfl
theorem idx1 (w : World) : (Instr.index 35 (.agg #[.string ⟨#[114, 117, 110, 110, 105, 110, 103]⟩, .string ⟨#[111, 107]⟩, .string ⟨#[102, 97, 105, 108, 101, 100]⟩, .string ⟨#[116, 105, 109, 101, 111, 117, 116]⟩, .string ⟨#[115, 107, 105, 112, 112, 101, 100]⟩, .string ⟨#[105, 110, 116, 101, 114, 114, 117, 112, 116, 101, 100]⟩, .string ⟨#[99, 97, 110, 99, 101, 108, 108, 101, 100]⟩]) (.int .i64 1)).run Try.prog w = .ok (.string ⟨#[111, 107]⟩) w := by kernel_rfl
theorem idx2 (w : World) : (Instr.index 35 (.agg #[.string ⟨#[114, 117, 110, 110, 105, 110, 103]⟩, .string ⟨#[111, 107]⟩, .string ⟨#[102, 97, 105, 108, 101, 100]⟩, .string ⟨#[116, 105, 109, 101, 111, 117, 116]⟩, .string ⟨#[115, 107, 105, 112, 112, 101, 100]⟩, .string ⟨#[105, 110, 116, 101, 114, 114, 117, 112, 116, 101, 100]⟩, .string ⟨#[99, 97, 110, 99, 101, 108, 108, 101, 100]⟩]) (.int .i64 2)).run Try.prog w = .ok (.string ⟨#[102, 97, 105, 108, 101, 100]⟩) w := by kernel_rfl
theorem idx3 (w : World) : (Instr.index 35 (.agg #[.string ⟨#[114, 117, 110, 110, 105, 110, 103]⟩, .string ⟨#[111, 107]⟩, .string ⟨#[102, 97, 105, 108, 101, 100]⟩, .string ⟨#[116, 105, 109, 101, 111, 117, 116]⟩, .string ⟨#[115, 107, 105, 112, 112, 101, 100]⟩, .string ⟨#[105, 110, 116, 101, 114, 114, 117, 112, 116, 101, 100]⟩, .string ⟨#[99, 97, 110, 99, 101, 108, 108, 101, 100]⟩]) (.int .i64 3)).run Try.prog w = .ok (.string ⟨#[116, 105, 109, 101, 111, 117, 116]⟩) w := by kernel_rfl
theorem idx4 (w : World) : (Instr.index 35 (.agg #[.string ⟨#[114, 117, 110, 110, 105, 110, 103]⟩, .string ⟨#[111, 107]⟩, .string ⟨#[102, 97, 105, 108, 101, 100]⟩, .string ⟨#[116, 105, 109, 101, 111, 117, 116]⟩, .string ⟨#[115, 107, 105, 112, 112, 101, 100]⟩, .string ⟨#[105, 110, 116, 101, 114, 114, 117, 112, 116, 101, 100]⟩, .string ⟨#[99, 97, 110, 99, 101, 108, 108, 101, 100]⟩]) (.int .i64 4)).run Try.prog w = .ok (.string ⟨#[115, 107, 105, 112, 112, 101, 100]⟩) w := by kernel_rfl
theorem idx5 (w : World) : (Instr.index 35 (.agg #[.string ⟨#[114, 117, 110, 110, 105, 110, 103]⟩, .string ⟨#[111, 107]⟩, .string ⟨#[102, 97, 105, 108, 101, 100]⟩, .string ⟨#[116, 105, 109, 101, 111, 117, 116]⟩, .string ⟨#[115, 107, 105, 112, 112, 101, 100]⟩, .string ⟨#[105, 110, 116, 101, 114, 114, 117, 112, 116, 101, 100]⟩, .string ⟨#[99, 97, 110, 99, 101, 108, 108, 101, 100]⟩]) (.int .i64 5)).run Try.prog w = .ok (.string ⟨#[105, 110, 116, 101, 114, 114, 117, 112, 116, 101, 100]⟩) w := by kernel_rfl
theorem idx6 (w : World) : (Instr.index 35 (.agg #[.string ⟨#[114, 117, 110, 110, 105, 110, 103]⟩, .string ⟨#[111, 107]⟩, .string ⟨#[102, 97, 105, 108, 101, 100]⟩, .string ⟨#[116, 105, 109, 101, 111, 117, 116]⟩, .string ⟨#[115, 107, 105, 112, 112, 101, 100]⟩, .string ⟨#[105, 110, 116, 101, 114, 114, 117, 112, 116, 101, 100]⟩, .string ⟨#[99, 97, 110, 99, 101, 108, 108, 101, 100]⟩]) (.int .i64 6)).run Try.prog w = .ok (.string ⟨#[99, 97, 110, 99, 101, 108, 108, 101, 100]⟩) w := by kernel_rfl

theorem ret_str {S b : ByteArray} {l : List UInt8} (h : (S.toList == l) = true) (hb : b.data.toList = l) : Ending.returned (.string b) = .returned (.string S) := by
  have h1 := eq_of_beq h
  rw [← hb, ByteArray.toList_eq] at h1
  have : b = S := Go.WideShapes.bytes_inj h1.symm
  rw [this]

set_option maxHeartbeats 1000000 in
theorem outcome_any (ao : Option Addr) (len cap : Nat) (S : ByteArray) (w : World) (hconv : (convert 22 9 (.slice ao len cap)).run Try.prog w = .ok (.string S) w) :
    Calls Try.prog 18 #[.slice ao len cap] w fun e w' => e = .returned (.string S) ∧ w' = w := by
  have j0 := idx0
  have j1 := idx1
  have j2 := idx2
  have j3 := idx3
  have j4 := idx4
  have j5 := idx5
  have j6 := idx6
  go_enter Try.func18, Try.ntmps18
  go_wp2
  go_loop [6] (fun i => ∃ k : Nat, k ≤ 7 ∧ i = .int .i64 k) (fun i => 7 - (intOf i).toNat)
  case atStart => exact ⟨0, Nat.zero_le _, rfl⟩
  case round =>
    obtain ⟨k, hk, rfl⟩ := hrel
    rcases (show k = 0 ∨ k = 1 ∨ k = 2 ∨ k = 3 ∨ k = 4 ∨ k = 5 ∨ k = 6 ∨ k = 7 from by omega) with rfl | rfl | rfl | rfl | rfl | rfl | rfl | rfl
    · go_wp2
      · go_ret
        exact ⟨ret_str (l := [114, 117, 110, 110, 105, 110, 103]) (by assumption) rfl, rfl⟩
      · go_round
        case rel => exact ⟨1, by omega, rfl⟩
        case measure => simp [intOf]
    · go_wp2
      · go_ret
        exact ⟨ret_str (l := [111, 107]) (by assumption) rfl, rfl⟩
      · go_round
        case rel => exact ⟨2, by omega, rfl⟩
        case measure => simp [intOf]
    · go_wp2
      · go_ret
        exact ⟨ret_str (l := [102, 97, 105, 108, 101, 100]) (by assumption) rfl, rfl⟩
      · go_round
        case rel => exact ⟨3, by omega, rfl⟩
        case measure => simp [intOf]
    · go_wp2
      · go_ret
        exact ⟨ret_str (l := [116, 105, 109, 101, 111, 117, 116]) (by assumption) rfl, rfl⟩
      · go_round
        case rel => exact ⟨4, by omega, rfl⟩
        case measure => simp [intOf]
    · go_wp2
      · go_ret
        exact ⟨ret_str (l := [115, 107, 105, 112, 112, 101, 100]) (by assumption) rfl, rfl⟩
      · go_round
        case rel => exact ⟨5, by omega, rfl⟩
        case measure => simp [intOf]
    · go_wp2
      · go_ret
        exact ⟨ret_str (l := [105, 110, 116, 101, 114, 114, 117, 112, 116, 101, 100]) (by assumption) rfl, rfl⟩
      · go_round
        case rel => exact ⟨6, by omega, rfl⟩
        case measure => simp [intOf]
    · go_wp2
      · go_ret
        exact ⟨ret_str (l := [99, 97, 110, 99, 101, 108, 108, 101, 100]) (by assumption) rfl, rfl⟩
      · go_round
        case rel => exact ⟨7, by omega, rfl⟩
        case measure => simp [intOf]
    · go_wp2
      go_ret
      exact ⟨rfl, rfl⟩

theorem zzOutcome_any (ao : Option Addr) (len cap : Nat) (S : ByteArray) (w : World) (hconv : (convert 22 9 (.slice ao len cap)).run Try.prog w = .ok (.string S) w) :
    Calls Try.prog 14 #[.slice ao len cap] w fun e w' => e = .returned (.string S) ∧ w' = w := by
  have H : Hid (Calls Try.prog 18 #[.slice ao len cap] w fun e w' => e = .returned (.string S) ∧ w' = w) := outcome_any ao len cap S w hconv
  clear hconv
  go_enter Try.func14, Try.ntmps14
  go_wp2_with (go_at_call 18; refine H.out.mono ?_; rintro e w' ⟨rfl, rfl⟩)
  go_ret
  exact ⟨rfl, rfl⟩

/-- The bytes of a row of numbers. -/
def bts (zs : List Int) : List UInt8 := zs.map fun n => UInt8.ofNat n.toNat
def bstr (zs : List Int) : ByteArray := ⟨(bts zs).toArray⟩

theorem bts_length (zs : List Int) : (bts zs).length = zs.length := by simp [bts]
theorem bstr_size (zs : List Int) : (bstr zs).size = zs.length := by simp [bstr, bts, ByteArray.size]

theorem bts_at (zs : List Int) (hb : ∀ n ∈ zs, 0 ≤ n ∧ n ≤ 255) (j : Nat) (hj : j < (bts zs).length) : ((bts zs)[j].toNat : Int) = zs.getD j 0 := by
  have hj' : j < zs.length := by simpa [bts] using hj
  have h := hb zs[j] (List.getElem_mem hj')
  simp [bts, hj']
  omega

theorem bstr_at (zs : List Int) (hb : ∀ n ∈ zs, 0 ≤ n ∧ n ≤ 255) (j : Nat) (hj : j < (bstr zs).size) : ((bstr zs)[j].toNat : Int) = zs.getD j 0 := by
  have hj' : j < (bts zs).length := by rw [bts_length]; rwa [bstr_size] at hj
  rw [← bts_at zs hb j hj']
  rfl

/-- 'string(b)' over a row of the call's own. -/
theorem conv_own {w : World} {base g n cap : Nat} {zs : List Int} (hown : w.ownsRow base 5 1 (.slice (some ⟨g, 0, none⟩) n cap) n (zs.map (Value.int .u8))) (hl : zs.length = n) (hb : ∀ n ∈ zs, 0 ≤ n ∧ n ≤ 255) :
    (convert 22 9 (.slice (some ⟨g, 0, none⟩) n cap)).run Try.prog w = .ok (.string (bstr zs)) w := by
  have h := run_convert_bytes_back (P := Try.prog) w 22 9 5 ⟨g, 0, none⟩ cap (bts zs) Try.underlying22 Try.underlying5 Try.underlying9 (fun j hj => by
    have hj' : j < zs.length := by simpa [bts] using hj
    have e : (⟨g, 0, none⟩ : Addr).add j = ⟨g, j, none⟩ := by unfold Addr.add; split <;> simp_all
    rw [e, hown.cellAt j (by omega), bts_at zs hb j hj]
    simp [hj'])
  rw [bts_length, hl] at h
  exact h

/-- The row read byte for byte as the string. -/
theorem own_bytes {w : World} {base g n cap : Nat} {zs : List Int} (hown : w.ownsRow base 5 1 (.slice (some ⟨g, 0, none⟩) n cap) n (zs.map (Value.int .u8))) (hl : zs.length = n) (hb : ∀ n ∈ zs, 0 ≤ n ∧ n ≤ 255) :
    ∀ k (h : k < (bstr zs).size), w.cell? ⟨g, k, none⟩ = some (.int .u8 ((bstr zs)[k].toNat : Int)) := by
  intro k h
  have hk : k < zs.length := by rwa [bstr_size] at h
  rw [hown.cellAt k (by omega), bstr_at zs hb k h]
  simp [hk]
end Go.Proofs.Qxb6604170a.Out
