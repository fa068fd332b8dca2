/- The walk of FnOutcomeIsItsOwnText. -/
import Derived.Test.Qxb6604170aOut
import Derived.Deep.QuietTactic
import Derived.BigQuiet
import Derived.OpenShut
import Derived.WalkSmall
namespace Go.Proofs.Qxb6604170a.Out
open Go.RowKit

theorem conv_nil (w : World) : (convert 22 9 (.slice none 0 0)).run Try.prog w = .ok (.string ⟨#[]⟩) w := by
  rw [run_convert_bytes_string w 22 9 5 none 0 0 Try.underlying22 Try.underlying5 Try.underlying9]
  simp [Conv.bytesToString]
  rfl

theorem bytes13 (ao : Option Addr) (len cap : Nat) (w : World) (h : len ≤ maxLen) :
    Calls Try.prog 13 #[.slice ao len cap] w fun e w' => e = .returned (.bool (decide (len ≤ 1048576))) ∧ w' = w := by
  unfold maxLen at h
  by_cases hl : len ≤ 1048576
  · have hd : decide ((1048576 : Int) < (len : Int)) = false := decide_eq_false (by omega)
    go_enter Try.func13, Try.ntmps13
    go_wp2
    go_ret
    exact ⟨by simp [hl], rfl⟩
  · have hd : (1048576 : Int) < (len : Int) := by omega
    go_enter Try.func13, Try.ntmps13
    go_wp2
    go_ret
    exact ⟨by simp [hl], rfl⟩

theorem law_long (ao : Option Addr) (len cap : Nat) (w : World) (h : len ≤ maxLen) (hl : ¬ len ≤ 1048576) :
    Calls Try.prog 5 #[.slice ao len cap] w fun e w' => e = .returned (.bool true) ∧ Below w.heap.size w w' := by
  have C : Hid (Calls Try.prog 13 #[.slice ao len cap] w fun e w' => e = .returned (.bool false) ∧ w' = w) := by
    have := bytes13 ao len cap w h
    rwa [decide_eq_false hl] at this
  go_enter Try.func5, Try.ntmps5
  go_wp2_with (go_at_call 13; refine C.out.mono ?_; rintro e w' ⟨rfl, rfl⟩)
  go_ret
  exact ⟨rfl, Below.refl _ _⟩

theorem law_nil (w : World) :
    Calls Try.prog 5 #[.slice none 0 0] w fun e w' => e = .returned (.bool true) ∧ Below w.heap.size w w' := by
  have C : Hid (∀ w, Calls Try.prog 13 #[.slice none 0 0] w fun e w' => e = .returned (.bool true) ∧ w' = w) := fun w => bytes13 none 0 0 w (Nat.zero_le _)
  have C2 : Hid (∀ w, Calls Try.prog 14 #[.slice none 0 0] w fun e w' => e = .returned (.string ⟨#[]⟩) ∧ w' = w) := fun w => zzOutcome_any none 0 0 ⟨#[]⟩ w (conv_nil w)
  go_enter Try.func5, Try.ntmps5
  go_wp2_with (first
    | (go_at_call 13; refine (C.out _).mono ?_; rintro e w' ⟨rfl, rfl⟩)
    | (go_at_call 9; refine (Clone.clone_nil _).mono ?_; rintro e w' ⟨rfl, rfl⟩)
    | (go_at_call 14; refine (C2.out _).mono ?_; rintro e w' ⟨rfl, rfl⟩))
  refine wp_loop_rounds 1 ?_
  rw [rounds_succ]
  go_wp2
  go_ret
  exact ⟨rfl, Below.refl _ _⟩

set_option maxHeartbeats 1000000 in
theorem law_row (x : Addr) (len cap : Nat) (zs : List Int) (w : World) (hz : zs.length = len) (hl : len ≤ 1048576) (hb : ∀ n ∈ zs, 0 ≤ n ∧ n ≤ 255)
    (hc : ∀ i, i < len → w.cell? (x.add i) = some (.int .u8 (zs.getD i 0))) :
    Calls Try.prog 5 #[.slice (some x) len cap] w fun e w' => e = .returned (.bool true) ∧ Below w.heap.size w w' := by
  have C : Hid (∀ w, Calls Try.prog 13 #[.slice (some x) len cap] w fun e w' => e = .returned (.bool true) ∧ w' = w) := fun w => by
    have := bytes13 (some x) len cap w (by unfold maxLen; omega)
    rwa [decide_eq_true hl] at this
  have C1 : Hid (Calls Try.prog 9 #[.slice (some x) len cap] w fun e w' => e = .returned (.slice (some ⟨w.heap.size, 0, none⟩) len len) ∧
      w'.ownsRow w.heap.size 5 1 (.slice (some ⟨w.heap.size, 0, none⟩) len len) len (zs.map (Value.int .u8)) ∧ Below w.heap.size w w') := Clone.clone_row x len cap zs w hz hl hc
  have HZ : Hid (zs.length = len) := hz
  have HB : Hid (∀ n ∈ zs, 0 ≤ n ∧ n ≤ 255) := hb
  clear hc hz hb
  obtain ⟨G, hG⟩ : ∃ G, w.heap.size = G := ⟨_, rfl⟩
  rw [hG] at C1 ⊢
  have hgt : decide ((1048576 : Int) < (len : Int)) = false := decide_eq_false (by omega)
  go_enter Try.func5, Try.ntmps5
  go_wp2_with (first
    | (go_at_call 13; refine (C.out _).mono ?_; rintro e w' ⟨rfl, hw⟩; subst w')
    | (go_at_call 9; refine C1.out.mono ?_; rintro e w1 ⟨rfl, hown, hb1⟩))
  have C2 : Hid (Calls Try.prog 14 #[.slice (some ⟨G, 0, none⟩) len len] w1 fun e w' => e = .returned (.string (bstr zs)) ∧ w' = w1) := zzOutcome_any _ len len (bstr zs) w1 (conv_own hown HZ.out HB.out)
  have HC : Hid (∀ k (h : k < (bstr zs).size), w1.cell? ⟨G, k, none⟩ = some (.int .u8 ((bstr zs)[k].toNat : Int))) := own_bytes hown HZ.out HB.out
  obtain ⟨S, hS⟩ : ∃ S, bstr zs = S := ⟨_, rfl⟩
  have hSz : Hid (S.size = len) := by rw [← hS]; exact (bstr_size zs).trans HZ.out
  rw [hS] at HC C2
  refine C2.out.mono ?_
  rintro e w' ⟨rfl, hw⟩; subst w'
  clear C C1 C2 hS hown HB HZ
  have hne : ((S.size : Int) != (len : Int)) = false := by rw [hSz.out]; simp
  have hs1 : S.size ≤ len := by rw [hSz.out]; omega
  have hs2 : len ≤ S.size := by rw [hSz.out]; omega
  go_wp2
  go_loopw [4] (fun i wr => ∃ k : Nat, k ≤ len ∧ i = .int .i64 k ∧ Hid (∀ k (h : k < S.size), wr.cell? ⟨G, k, none⟩ = some (.int .u8 (S[k].toNat : Int))) ∧ Below G w wr) (fun i _ => len - (intOf i).toNat)
  case atStart => exact ⟨0, Nat.zero_le _, rfl, HC, hb1⟩
  case round =>
    clear HC hb1
    obtain ⟨k, hk, rfl, HC, hbr⟩ := hrel
    by_cases hlt : k < len
    · have hks : k < S.size := by omega
      have hcell := HC.out k hks
      have hki : (k : Int) < (len : Int) := by omega
      have hkj : (k : Int) < (S.size : Int) := by omega
      go_wp2
      go_quiet (fail)
      go_wp2
      go_roundw
      case rel => exact ⟨k + 1, by omega, by go_num, fun k h => by simpa using HC.out k h, below_drewN hbr nq⟩
      case measure => simp [intOf]; omega
    · go_wp2
      go_ret
      exact ⟨rfl, hbr⟩
end Go.Proofs.Qxb6604170a.Out
