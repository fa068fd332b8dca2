/- The walk of FnDigitsMatchesRightToLeftModel. -/
import Derived.Test.Qxb6604170aMod
import Derived.Test.Qxb6604170aClone
import Derived.Test.Qxb6604170aRound
namespace Go.Proofs.Qxb6604170a.Dig
open Go.RowKit

theorem match_long (ao : Option Addr) (len cap : Nat) (w : World) (h : len ≤ maxLen) (hl : ¬ len ≤ 1048576) :
    Calls Try.prog 3 #[.slice ao len cap] w fun e w' => e = .returned (.bool true) ∧ Below w.heap.size w w' := by
  have C : Hid (Calls Try.prog 8 #[.slice ao len cap] w fun e w' => e = .returned (.bool false) ∧ w' = w) := by
    have := Clone.bytes8 ao len cap w h
    rwa [decide_eq_false hl] at this
  go_enter Try.func3, Try.ntmps3
  go_wp2_with (go_at_call 8; refine C.out.mono ?_; rintro e w' ⟨rfl, rfl⟩)
  go_ret
  exact ⟨rfl, Below.refl _ _⟩

theorem match_nil (w : World) :
    Calls Try.prog 3 #[.slice none 0 0] w fun e w' => e = .returned (.bool true) ∧ Below w.heap.size w w' := by
  have C : Hid (∀ w, Calls Try.prog 8 #[.slice none 0 0] w fun e w' => e = .returned (.bool true) ∧ w' = w) := fun w => Clone.bytes8 none 0 0 w (Nat.zero_le _)
  have C2 : Hid (∀ w, Calls Try.prog 10 #[.slice none 0 0] w fun e w' => e = .returned (.tuple #[.int .i64 0, .bool false]) ∧ w' = w) := fun w => zzDigits_empty none 0 w
  have C3 : Hid (∀ w, Calls Try.prog 11 #[.slice none 0 0] w fun e w' => e = .returned (.tuple #[.int .i64 0, .bool false]) ∧ w' = w) := fun w => model_empty none 0 w
  go_enter Try.func3, Try.ntmps3
  go_wp2_with (first
    | (go_at_call 8; refine (C.out _).mono ?_; rintro e w' ⟨rfl, rfl⟩)
    | (go_at_call 9; refine (Clone.clone_nil _).mono ?_; rintro e w' ⟨rfl, rfl⟩)
    | (go_at_call 10; refine (C2.out _).mono ?_; rintro e w' ⟨rfl, rfl⟩)
    | (go_at_call 11; refine (C3.out _).mono ?_; rintro e w' ⟨rfl, rfl⟩))
  go_ret
  exact ⟨rfl, Below.refl _ _⟩

set_option maxHeartbeats 1000000 in
theorem match_row (x : Addr) (len cap : Nat) (zs : List Int) (w : World) (hz : zs.length = len) (hl : len ≤ 1048576) (hb : byteAll zs = true)
    (hc : ∀ i, i < len → w.cell? (x.add i) = some (.int .u8 (zs.getD i 0))) :
    Calls Try.prog 3 #[.slice (some x) len cap] w fun e w' => e = .returned (.bool true) ∧ Below w.heap.size w w' := by
  have C : Hid (∀ w, Calls Try.prog 8 #[.slice (some x) len cap] w fun e w' => e = .returned (.bool true) ∧ w' = w) := fun w => by
    have := Clone.bytes8 (some x) len cap w (by unfold maxLen; omega)
    rwa [decide_eq_true hl] at this
  have C1 : Hid (Calls Try.prog 9 #[.slice (some x) len cap] w fun e w' => e = .returned (.slice (some ⟨w.heap.size, 0, none⟩) len len) ∧
      w'.ownsRow w.heap.size 5 1 (.slice (some ⟨w.heap.size, 0, none⟩) len len) len (zs.map (Value.int .u8)) ∧ Below w.heap.size w w') := Clone.clone_row x len cap zs w hz hl hc
  have HZ : Hid (zs.length = len) := hz
  have HB : Hid (byteAll zs = true) := hb
  clear hc hz hb
  obtain ⟨G, hG⟩ : ∃ G, w.heap.size = G := ⟨_, rfl⟩
  rw [hG] at C1 ⊢
  have hgt : decide ((1048576 : Int) < (len : Int)) = false := decide_eq_false (by omega)
  go_enter Try.func3, Try.ntmps3
  go_wp2_with (first
    | (go_at_call 8; refine (C.out _).mono ?_; rintro e w' ⟨rfl, hw⟩; subst w')
    | (go_at_call 9; refine C1.out.mono ?_; rintro e w1 ⟨rfl, hown, hb1⟩))
  have C2 : Hid (Calls Try.prog 10 #[.slice (some ⟨G, 0, none⟩) len len] w1 fun e w' => e = .returned (.tuple #[.int .i64 (digR zs).1, .bool (digR zs).2]) ∧ w' = w1) :=
    zzDigits_own w1 G G len len zs _ hown HZ.out (by unfold maxLen; omega) HB.out rfl
  have C3 : Hid (Calls Try.prog 11 #[.slice (some ⟨G, 0, none⟩) len len] w1 fun e w' => e = .returned (.tuple #[.int .i64 (digR zs).1, .bool (digR zs).2]) ∧ w' = w1) := by
    by_cases h0 : 0 < len
    · exact model_row G 0 len len zs w1 HZ.out h0 (by unfold maxLen; omega) (byteAll_of zs HB.out) (own_cells hown HZ.out)
    · have e0 : len = 0 := by omega
      subst e0
      have ez : zs = [] := List.eq_nil_of_length_eq_zero HZ.out
      rw [ez]
      exact model_empty _ 0 w1
  clear C C1 hown HB HZ
  generalize (digR zs).1 = n at C2 C3
  generalize (digR zs).2 = ok at C2 C3
  refine C2.out.mono ?_
  rintro e w' ⟨rfl, hw⟩; subst w'
  go_wp2_with (go_at_call 11; refine C3.out.mono ?_; rintro e w' ⟨rfl, hw⟩; subst w')
  go_ret
  exact ⟨by simp, hb1⟩

end Go.Proofs.Qxb6604170a.Dig
