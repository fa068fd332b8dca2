/- The contracts of skipSpace, its shim, isJSONSpace and the length test. -/
import Derived.Test.Qxb6002643aClone
import Derived.Test.Qxb6002643aSkipPlain
namespace Go.Proofs.Qxb6002643a.Skip
open Go.RowKit

theorem bytes15 (ao : Option Addr) (len cap : Nat) (i : Int) (w : World) (h : len ≤ maxLen) :
    Calls Try.prog 15 #[.slice ao len cap, .int .i64 i] w fun e w' => e = .returned (.bool (decide (len ≤ 1048576))) ∧ w' = w := by
  unfold maxLen at h
  by_cases hl : len ≤ 1048576
  · have hd : decide ((1048576 : Int) < (len : Int)) = false := decide_eq_false (by omega)
    go_enter Try.func15, Try.ntmps15
    go_wp2
    go_ret
    exact ⟨by simp [hl], rfl⟩
  · have hd : (1048576 : Int) < (len : Int) := by omega
    go_enter Try.func15, Try.ntmps15
    go_wp2
    go_ret
    exact ⟨by simp [hl], rfl⟩

theorem isSpace_any (c : Int) (w : World) :
    Calls Try.prog 17 #[.int .u8 c] w fun e w' => e = .returned (.bool (isSp c)) ∧ w' = w := by
  by_cases h1 : c = 32
  · subst h1
    go_enter Try.func17, Try.ntmps17
    go_wp2
    go_ret
    exact ⟨rfl, rfl⟩
  by_cases h2 : c = 9
  · subst h2
    go_enter Try.func17, Try.ntmps17
    go_wp2
    go_ret
    exact ⟨rfl, rfl⟩
  by_cases h3 : c = 10
  · subst h3
    go_enter Try.func17, Try.ntmps17
    go_wp2
    go_ret
    exact ⟨rfl, rfl⟩
  by_cases h4 : c = 13
  · subst h4
    go_enter Try.func17, Try.ntmps17
    go_wp2
    go_ret
    exact ⟨rfl, rfl⟩
  have g1 : (c == 32) = false := by simpa using h1
  have g2 : (c == 9) = false := by simpa using h2
  have g3 : (c == 10) = false := by simpa using h3
  have g4 : (c == 13) = false := by simpa using h4
  clear h1 h2 h3 h4
  go_enter Try.func17, Try.ntmps17
  go_wp2
  go_ret
  exact ⟨by simp [isSp, g1, g2, g3, g4], rfl⟩

theorem isSp_cases (c : Int) : isSp c = true → c = 32 ∨ c = 9 ∨ c = 10 ∨ c = 13 := by
  intro h; simp [isSp] at h; omega
theorem isSp_not (c : Int) : isSp c = false → (c == 32) = false ∧ (c == 9) = false ∧ (c == 10) = false ∧ (c == 13) = false := by
  intro h; simp [isSp] at h; simp; omega

theorem skip_past (ao : Option Addr) (len cap i : Nat) (w : World) (h : len ≤ i) :
    Calls Try.prog 41 #[.slice ao len cap, .int .i64 i] w fun e w' => e = .returned (.int .i64 i) ∧ w' = w := by
  have hd : decide ((i : Int) < (len : Int)) = false := decide_eq_false (by omega)
  go_enter Try.func41, Try.ntmps41
  go_wp2
  refine wp_loop_rounds 1 ?_
  rw [rounds_succ]
  go_wp2
  go_ret
  exact ⟨rfl, rfl⟩

set_option maxHeartbeats 1000000 in
theorem skip_row (b off len cap i : Nat) (zs : List Int) (w : World) (hz0 : zs.length = len) (hm : len ≤ 1048576) (hi : i < len)
    (hc : ∀ i, i < len → w.cell? ⟨b, off + i, none⟩ = some (.int .u8 (zs.getD i 0))) :
    Calls Try.prog 41 #[.slice (some ⟨b, off, none⟩) len cap, .int .i64 i] w fun e w' => e = .returned (.int .i64 (skp zs i)) ∧ w' = w := by
  have HZ : Hid (zs.length = len) := hz0
  have HC : Hid (∀ i, i < len → w.cell? ⟨b, off + i, none⟩ = some (.int .u8 (zs.getD i 0))) := hc
  clear hz0 hc
  go_enter Try.func41, Try.ntmps41
  go_wp2
  go_loop [1] (fun v => ∃ k : Nat, k ≤ len ∧ v = .int .i64 k ∧ Hid (skp zs k = skp zs i)) (fun v => len - (intOf v).toNat)
  case atStart => exact ⟨i, by omega, rfl, rfl⟩
  case round =>
    obtain ⟨k, hk, rfl, HK⟩ := hrel
    by_cases hlt : k < len
    · have hcell := HC.out k hlt
      have HS : Hid (isSp (zs.getD k 0) = true → skp zs (k + 1) = skp zs k) := skp_step zs k (by rw [HZ.out]; exact hlt)
      have HT : Hid (isSp (zs.getD k 0) = false → skp zs k = k) := skp_stop zs k (by rw [HZ.out]; exact hlt)
      generalize zs.getD k 0 = c at hcell HS HT
      have hki : (k : Int) < (len : Int) := by omega
      cases hsp : isSp c
      · obtain ⟨g1, g2, g3, g4⟩ := isSp_not c hsp
        have HE : Hid (skp zs i = k) := HK.out.symm.trans (HT.out hsp)
        clear hsp
        go_wp2
        go_ret
        rw [HE.out]
        exact ⟨rfl, rfl⟩
      · have HE : Hid (skp zs (k + 1) = skp zs i) := (HS.out hsp).trans HK.out
        rcases isSp_cases c hsp with rfl | rfl | rfl | rfl
        all_goals
          clear hsp
          go_wp2
          go_round
          case rel => exact ⟨k + 1, by omega, by go_num, HE⟩
          case measure => simp [intOf]; omega
    · have HE : Hid (skp zs i = k) := HK.out.symm.trans (skp_past zs k (by rw [HZ.out]; omega))
      have hd : decide ((k : Int) < (len : Int)) = false := decide_eq_false (by omega)
      go_wp2
      go_ret
      rw [HE.out]
      exact ⟨rfl, rfl⟩

theorem zzSkip_past (ao : Option Addr) (len cap i : Nat) (w : World) (h : len ≤ i) :
    Calls Try.prog 16 #[.slice ao len cap, .int .i64 i] w fun e w' => e = .returned (.int .i64 i) ∧ w' = w := by
  go_enter Try.func16, Try.ntmps16
  go_wp2_with (go_at_call 41; refine (skip_past ao len cap i _ h).mono ?_; rintro e w' ⟨rfl, rfl⟩)
  go_ret
  exact ⟨rfl, rfl⟩

/-- From every offset, inside or past the end, over a row of the call's own. -/
theorem zzSkip_own (G len cap i : Nat) (zs : List Int) (w : World) (hz0 : zs.length = len) (hm : len ≤ 1048576) (hown : w.ownsRow G 5 1 (.slice (some ⟨G, 0, none⟩) len cap) len (zs.map (Value.int .u8))) :
    Calls Try.prog 16 #[.slice (some ⟨G, 0, none⟩) len cap, .int .i64 i] w fun e w' => e = .returned (.int .i64 (skp zs i)) ∧ w' = w := by
  by_cases h : i < len
  · have HH : Hid (Calls Try.prog 41 #[.slice (some ⟨G, 0, none⟩) len cap, .int .i64 i] w fun e w' => e = .returned (.int .i64 (skp zs i)) ∧ w' = w) :=
      skip_row G 0 len cap i zs w hz0 hm h (fun j hj => by rw [Nat.zero_add, hown.cellAt j (by omega)]; simp [hz0, hj])
    clear hown
    go_enter Try.func16, Try.ntmps16
    go_wp2_with (go_at_call 41; refine HH.out.mono ?_; rintro e w' ⟨rfl, rfl⟩)
    go_ret
    exact ⟨rfl, rfl⟩
  · rw [skp_past zs i (by omega)]
    exact zzSkip_past _ len cap i w (by omega)
end Go.Proofs.Qxb6002643a.Skip
