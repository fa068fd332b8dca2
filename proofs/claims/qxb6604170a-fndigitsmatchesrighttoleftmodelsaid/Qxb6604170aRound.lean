/- The walk of FnDigitsRoundTripsDecimalText. -/
import Derived.Test.Qxb6604170aItoa
import Derived.OpenShut
namespace Go.Proofs.Qxb6604170a.Dig
open Go.RowKit

theorem own_cells {w : World} {base g n cap : Nat} {zs : List Int} (hown : w.ownsRow base 5 1 (.slice (some ⟨g, 0, none⟩) n cap) n (zs.map (Value.int .u8))) (hl : zs.length = n) :
    ∀ i, i < n → w.cell? ⟨g, 0 + i, none⟩ = some (.int .u8 (zs.getD i 0)) := by
  intro i hi
  rw [Nat.zero_add, hown.cellAt i (by omega)]
  simp [hl, hi]

def byteAll (l : List Int) : Bool := l.all fun c => decide (0 ≤ c ∧ c ≤ 255)
theorem byteAll_of (l : List Int) (h : byteAll l = true) (j : Nat) : 0 ≤ l.getD j 0 ∧ l.getD j 0 ≤ 255 := by
  by_cases hj : j < l.length
  · have := List.all_eq_true.1 h (l.getD j 0) (by simp [hj])
    simpa using this
  · rw [show l.getD j 0 = 0 from by simp [Nat.le_of_not_lt hj]]; omega
theorem byteAll_dig (l : List Int) (h : l.all isDig = true) : byteAll l = true := by
  refine List.all_eq_true.2 fun c hc => ?_
  have := List.all_eq_true.1 h c hc
  simp [isDig] at this
  simp; omega
theorem byteAll_append (l m : List Int) (h : byteAll l = true) (k : byteAll m = true) : byteAll (l ++ m) = true := by
  unfold byteAll at *
  rw [List.all_append, h, k]; rfl

/-- zzDigits over a row of bytes of the call's own, its answer named. -/
theorem zzDigits_own (w : World) (base g n cap : Nat) (zs : List Int) (r : Int × Bool) (hown : w.ownsRow base 5 1 (.slice (some ⟨g, 0, none⟩) n cap) n (zs.map (Value.int .u8))) (hl : zs.length = n) (hn : n ≤ maxLen) (hb : byteAll zs = true) (hr : digR zs = r) :
    Calls Try.prog 10 #[.slice (some ⟨g, 0, none⟩) n cap] w fun e w' => e = .returned (.tuple #[.int .i64 r.1, .bool r.2]) ∧ w' = w := by
  subst hr
  exact zzDigits_row g 0 n cap zs w hl hn (byteAll_of zs hb) (own_cells hown hl)

set_option maxHeartbeats 1000000 in
theorem round_pos (n0 : Nat) (w : World) (hn : n0 < 9223372036854775808) :
    Calls Try.prog 4 #[.int .i64 n0] w fun e w' => e = .returned (.bool true) ∧ Below w.heap.size w w' := by
  obtain ⟨i0, hi, hz0, hz1, hz2⟩ := info_parts info5
  have hneg : decide ((n0 : Int) < 0) = false := decide_eq_false (by omega)
  go_enter Try.func4, Try.ntmps4
  go_wp2_with (go_at_call 12; refine (itoa_any n0 _ hn).mono ?_; rintro e w1 ⟨g, len, cap, ds, rfl, hl0, hl19, hdl, hda, hdv, hg, hg1, hc, hb⟩)
  have C1 : Hid (Calls Try.prog 10 #[.slice (some ⟨g, 0, none⟩) len cap] w1 fun e w' => e = .returned (.tuple #[.int .i64 n0, .bool true]) ∧ w' = w1) := by
    have := zzDigits_row g 0 len cap ds w1 hdl (by unfold maxLen; omega) (byteAll_of ds (byteAll_dig ds hda)) (by simpa using hc)
    rw [digR_of ds n0 hn (by omega) hda hdv] at this
    exact this
  have HL : Hid (ds.length = len) := hdl
  have HA : Hid (ds.all isDig = true) := hda
  have HV : Hid (val ds = n0) := hdv
  have HC : Hid (∀ t, t < len → w1.cell? ⟨g, t, none⟩ = some (.int .u8 (ds.getD t 0))) := hc
  clear hdl hda hdv hc
  refine C1.out.mono ?_
  rintro e w' ⟨rfl, rfl⟩
  clear C1
  obtain ⟨G, hG⟩ : ∃ G, w'.heap.size = G := ⟨_, rfl⟩
  go_wp2_with (first
    | (at_make; refine wpList_make_own _ rfl _ _ 22 rfl G 5 i0 (.int .u8 0) 1 Try.underlying22 hi hz0 hz1 _ _ _ (len + 1) rfl rfl (by omega) ?b2 ?b3 ?b4 ?_; rotate_right; intro w2 hown2 hgrow2; rw [hG] at hown2)
    | (at_builtin; refine wpList_append_fits _ rfl (.tmp 34) (.tmp 35) 22 rfl G 5 i0 1 Try.underlying22 hi hz1 G 0 (len + 1) _ rfl (hown2.alloc _) ⟨w2.heap.size, 0, none⟩ 1 1 [.int .u8 48] rfl rfl (cell_one_new _ _ _) ?c2 (by omega) ?_; rotate_right; intro w3 hown3 hgrow3))
  case b2 => rw [hz2]; omega
  case b3 => unfold maxLen; omega
  case b4 => omega
  case c2 => intro u hu; simp at hu; subst hu; rfl
  have HC3 : Hid (∀ t, t < len → w3.cell? ⟨g, t, none⟩ = some (.int .u8 (ds.getD t 0))) := fun t ht =>
    hgrow3.cell ((World.cell?_alloc_past _ _ _ (by have := hgrow2.size; omega)).trans (hgrow2.cell (HC.out t ht) (by simp))) (by simp; omega)
  have hb3 : Below w.heap.size w w3 := ((hb.grown hgrow2 (by omega) (fun k h => by cases h)).alloc (by have := hgrow2.size; omega) _).grown hgrow3 (by simp; have := hgrow2.size; omega) (fun k hk => by cases hk; omega)
  have hs3 : G ≤ w3.heap.size := by have := hgrow2.size; have := hgrow3.size; simp at this; omega
  have hgG : g < G := by omega
  have hwG : w.heap.size ≤ G := by omega
  simp only [Nat.zero_add, List.nil_append] at hown3
  clear HC hb hgrow2 hgrow3 hown2 hG hg1
  go_loopw [6, 7] (fun z i wr => ∃ t : Nat, t ≤ len ∧ z = .slice (some ⟨G, 0, none⟩) (1 + t) (len + 1) ∧ i = .int .i64 t ∧
      wr.ownsRow G 5 1 (.slice (some ⟨G, 0, none⟩) (1 + t) (len + 1)) (1 + t) (([48] ++ ds.take t).map (Value.int .u8)) ∧
      Hid (∀ t, t < len → wr.cell? ⟨g, t, none⟩ = some (.int .u8 (ds.getD t 0))) ∧ Below w.heap.size w wr ∧ G ≤ wr.heap.size) (fun _ i _ => len - (intOf i).toNat)
  case atStart => exact ⟨0, Nat.zero_le _, rfl, rfl, by simpa using hown3, HC3, hb3, hs3⟩
  case round =>
    clear HC3 hb3 hs3 hown3
    obtain ⟨t, ht, rfl, rfl, hown, HC, hbr, hsr⟩ := hrel
    by_cases hlt : t < len
    · have hcell := HC.out t hlt
      have HS : Hid (ds.take (t + 1) = ds.take t ++ [ds.getD t 0]) := take_snoc ds t (by rw [HL.out]; omega)
      generalize ds.getD t 0 = c at hcell HS
      go_wp2_with (at_builtin; refine wpList_append_fits _ rfl _ _ 22 rfl G 5 i0 1 Try.underlying22 hi hz1 G (1 + t) (len + 1) _ rfl (hown.alloc _) ⟨wr.heap.size, 0, none⟩ 1 1 [.int .u8 c] rfl rfl (cell_one_new _ _ _) ?d2 (by omega) ?_)
      case d2 => intro u hu; simp at hu; subst hu; rfl
      intro w4 hown4 hgrow4
      go_wp2
      go_roundw
      case rel =>
        refine ⟨t + 1, by omega, rfl, by go_num, ?_, fun t' h' => ?_, ?_, ?_⟩
        · rw [HS.out, ← Nat.add_assoc]; simpa using hown4
        · exact hgrow4.cell ((World.cell?_alloc_past _ _ _ (by omega)).trans (HC.out t' h')) (by simp; omega)
        · exact (hbr.alloc (by omega) _).grown hgrow4 (by simp; omega) (fun k hk => by cases hk; omega)
        · have := hgrow4.size; simp at this; omega
      case measure => simp [intOf]; omega
    · have htk : t = len := by omega
      subst htk
      have C2 : Hid (Calls Try.prog 10 #[.slice (some ⟨G, 0, none⟩) (1 + t) (t + 1)] wr fun e w' => e = .returned (.tuple #[.int .i64 n0, .bool true]) ∧ w' = wr) := by
        rw [List.take_of_length_le (by rw [HL.out]; omega)] at hown
        exact zzDigits_own wr G G (1 + t) (t + 1) ([48] ++ ds) (n0, true) hown (by simp [HL.out]; omega) (by unfold maxLen; omega) (byteAll_append _ _ rfl (byteAll_dig ds HA.out)) (digR_zero_cons ds n0 hn HA.out HV.out)
      clear hown
      obtain ⟨G2, hG2⟩ : ∃ G2, wr.heap.size = G2 := ⟨_, rfl⟩
      go_wp2_with (first
        | (go_at_call 10; refine C2.out.mono ?_; rintro e w' ⟨rfl, rfl⟩)
        | (at_make; refine wpList_make_own _ rfl _ _ 22 rfl G2 5 i0 (.int .u8 0) 1 Try.underlying22 hi hz0 hz1 _ _ _ (t + 1) rfl rfl (by omega) ?e2 ?e3 ?e4 ?_; rotate_right; intro w5 hown5 hgrow5; rw [hG2] at hown5))
      case e2 => rw [hz2]; omega
      case e3 => unfold maxLen; omega
      case e4 => omega
      have HC5 : Hid (∀ t', t' < t → w5.cell? ⟨g, t', none⟩ = some (.int .u8 (ds.getD t' 0))) := fun t' ht => hgrow5.cell (HC.out t' ht) (by simp)
      have hb5 : Below w.heap.size w w5 := hbr.grown hgrow5 (by omega) (fun k h => by cases h)
      have hs5 : G2 ≤ w5.heap.size := by have := hgrow5.size; omega
      have hgG2 : g < G2 := by omega
      have hwG2 : w.heap.size ≤ G2 := by omega
      clear HC hbr hgrow5 hG2 hsr C2
      go_loopw [10, 11] (fun z i wr => ∃ k : Nat, k ≤ t ∧ z = .slice (some ⟨G2, 0, none⟩) k (t + 1) ∧ i = .int .i64 k ∧
          wr.ownsRow G2 5 1 (.slice (some ⟨G2, 0, none⟩) k (t + 1)) k ((ds.take k).map (Value.int .u8)) ∧
          Hid (∀ t', t' < t → wr.cell? ⟨g, t', none⟩ = some (.int .u8 (ds.getD t' 0))) ∧ Below w.heap.size w wr ∧ G2 ≤ wr.heap.size) (fun _ i _ => t - (intOf i).toNat)
      case atStart => exact ⟨0, Nat.zero_le _, rfl, rfl, by simpa using hown5, HC5, hb5, hs5⟩
      case round =>
        clear HC5 hb5 hs5 hown5
        obtain ⟨k, hk, rfl, rfl, hown, HC, hbr, hsr⟩ := hrel
        by_cases hlt : k < t
        · have hcell := HC.out k hlt
          have HS : Hid (ds.take (k + 1) = ds.take k ++ [ds.getD k 0]) := take_snoc ds k (by rw [HL.out]; omega)
          generalize ds.getD k 0 = c at hcell HS
          go_wp2_with (at_builtin; refine wpList_append_fits _ rfl _ _ 22 rfl G2 5 i0 1 Try.underlying22 hi hz1 G2 k (t + 1) _ rfl (hown.alloc _) ⟨wr.heap.size, 0, none⟩ 1 1 [.int .u8 c] rfl rfl (cell_one_new _ _ _) ?f2 (by omega) ?_)
          case f2 => intro u hu; simp at hu; subst hu; rfl
          intro w6 hown6 hgrow6
          go_wp2
          go_roundw
          case rel =>
            refine ⟨k + 1, by omega, rfl, by go_num, ?_, fun t' h' => ?_, ?_, ?_⟩
            · rw [HS.out]; simpa using hown6
            · exact hgrow6.cell ((World.cell?_alloc_past _ _ _ (by omega)).trans (HC.out t' h')) (by simp; omega)
            · exact (hbr.alloc (by omega) _).grown hgrow6 (by simp; omega) (fun k hk => by cases hk; omega)
            · have := hgrow6.size; simp at this; omega
          case measure => simp [intOf]; omega
        · have hkt : k = t := by omega
          subst hkt
          rw [List.take_of_length_le (by rw [HL.out]; omega)] at hown
          clear HC
          go_wp2_with (at_builtin; refine wpList_append_fits _ rfl (.tmp 79) (.tmp 80) 22 rfl G2 5 i0 1 Try.underlying22 hi hz1 G2 k (k + 1) _ rfl (hown.alloc _) ⟨wr.heap.size, 0, none⟩ 1 1 [.int .u8 32] rfl rfl (cell_one_new _ _ _) ?g2 (by omega) ?_; rotate_right; intro w7 hown7 hgrow7)
          case g2 => intro u hu; simp at hu; subst hu; rfl
          have hb7 : Below w.heap.size w w7 := (hbr.alloc (by omega) _).grown hgrow7 (by simp; omega) (fun k hk => by cases hk; omega)
          have C3 : Hid (Calls Try.prog 10 #[.slice (some ⟨G2, 0, none⟩) (k + 1) (k + 1)] w7 fun e w' => e = .returned (.tuple #[.int .i64 0, .bool false]) ∧ w' = w7) :=
            zzDigits_own w7 G2 G2 (k + 1) (k + 1) (ds ++ [32]) (0, false) (by simpa using hown7) (by simp [HL.out]) (by unfold maxLen; omega) (byteAll_append _ _ (byteAll_dig ds HA.out) rfl) (digR_space ds)
          clear hown7 hgrow7 hown hbr
          refine C3.out.mono ?_
          rintro e w' ⟨rfl, rfl⟩
          go_wp2
          go_ret
          exact ⟨rfl, hb7⟩

theorem round_any (a : Int) (w : World) (ha : (Lit.int .i64 a).wf = true) :
    Calls Try.prog 4 #[.int .i64 a] w fun e w' => e = .returned (.bool true) ∧ Below w.heap.size w w' := by
  by_cases h : a < 0
  · go_enter Try.func4, Try.ntmps4
    go_wp2
    go_ret
    exact ⟨rfl, Below.refl _ _⟩
  · obtain ⟨n, rfl⟩ : ∃ n : Nat, a = n := ⟨a.toNat, by omega⟩
    refine round_pos n w ?_
    have := bounds_i64 ha
    omega
end Go.Proofs.Qxb6604170a.Dig
