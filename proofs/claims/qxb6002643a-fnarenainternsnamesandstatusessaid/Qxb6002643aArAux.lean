/- The contracts of the law's helpers: the length tests, the clone, the overwriting. -/
import Derived.Test.Qxb6002643aArStatus
import Derived.Laws.CopyOwn
namespace Go.Proofs.Qxb6002643a.Ar
open Go.RowKit

theorem info9 : (Try.prog.info? 9).map (fun i => (i.zero, i.size, i.bytes)) = some (some (.string ⟨#[]⟩), 1, 16) := by kernel_rfl
theorem size9 : (Try.prog.info? 9).map (·.size) = some 1 := by kernel_rfl
theorem q49 : ∀ (w : World) (a : Option Addr) (n c n' c' : Nat), (binOp .eql 49 (.slice a n c) (.slice none n' c')).run Try.prog w = .ok (.bool a.isNone) w := fun w a n c n' c' => Lib.run_eql_slice_nil w _ _ a n c n' c' Try.underlying49

/-- A slice of strings that came in: cell i holds ss i. -/
def Strs (w : World) (x : Addr) (len : Nat) (ss : Nat → ByteArray) : Prop := ∀ i, i < len → w.cell? (x.add i) = some (.string (ss i)) ∧ (ss i).size ≤ maxLen

def IsB (e : Ending) : Prop := ∃ v, e = .returned (.bool v)
def IsI (e : Ending) : Prop := ∃ v, e = .returned (.int .i64 v)

theorem bytes30_nil (u : Int) (w : World) :
    Calls Try.prog 30 #[.slice none 0 0, .int .u64 u] w fun e w' => IsB e ∧ w' = w := by
  go_enter Try.func30, Try.ntmps30
  go_wp2
  refine wp_loop_rounds 1 ?_
  rw [rounds_succ]
  go_wp2
  go_ret
  first | exact ⟨⟨_, rfl⟩, rfl⟩ | exact ⟨_, rfl⟩

set_option maxHeartbeats 1000000 in
theorem bytes30 (x : Addr) (len cap : Nat) (u : Int) (ss : Nat → ByteArray) (w : World) (hm : len ≤ maxLen) (h : Strs w x len ss) :
    Calls Try.prog 30 #[.slice (some x) len cap, .int .u64 u] w fun e w' => IsB e ∧ w' = w := by
  have H : Hid (Strs w x len ss) := h
  clear h
  unfold maxLen at hm
  by_cases hl : len ≤ 1048576
  · have hd : decide ((1048576 : Int) < (len : Int)) = false := decide_eq_false (by omega)
    go_enter Try.func30, Try.ntmps30
    go_wp2
    go_loop [5, 6] (fun z i => ∃ (k : Nat) (t : Int), k ≤ len ∧ i = .int .i64 k ∧ z = .int .i64 t ∧ 0 ≤ t ∧ t ≤ 1048576) (fun _ i => len - (intOf i).toNat)
    case atStart => exact ⟨0, len, Nat.zero_le _, rfl, rfl, by omega, by omega⟩
    case round =>
      obtain ⟨k, t, hk, rfl, rfl, ht0, ht1⟩ := hrel
      by_cases hlt : k < len
      · obtain ⟨hcell, hsz⟩ := H.out k hlt
        generalize ss k = s at hcell hsz
        unfold maxLen at hsz
        by_cases hsl : s.size ≤ 1048576
        · by_cases hst : t + s.size ≤ 1048576
          · go_wp2
            go_round
            case rel => exact ⟨k + 1, t + s.size, by omega, by go_num, rfl, by omega, by omega⟩
            case measure => simp [intOf]; omega
          · go_wp2
            go_ret
            first | exact ⟨⟨_, rfl⟩, rfl⟩ | exact ⟨_, rfl⟩
        · go_wp2
          go_ret
          first | exact ⟨⟨_, rfl⟩, rfl⟩ | exact ⟨_, rfl⟩
      · go_wp2
        go_ret
        first | exact ⟨⟨_, rfl⟩, rfl⟩ | exact ⟨_, rfl⟩
  · have hd : (1048576 : Int) < (len : Int) := by omega
    go_enter Try.func30, Try.ntmps30
    go_wp2
    go_ret
    first | exact ⟨⟨_, rfl⟩, rfl⟩ | exact ⟨_, rfl⟩

theorem bytes31_nil (w : World) :
    Calls Try.prog 31 #[.slice none 0 0] w fun e w' => IsI e ∧ w' = w := by
  go_enter Try.func31, Try.ntmps31
  go_wp2
  refine wp_loop_rounds 1 ?_
  rw [rounds_succ]
  go_wp2
  go_ret
  first | exact ⟨⟨_, rfl⟩, rfl⟩ | exact ⟨_, rfl⟩

set_option maxHeartbeats 1000000 in
theorem bytes31 (x : Addr) (len cap : Nat) (ss : Nat → ByteArray) (w : World) (hm : len ≤ maxLen) (h : Strs w x len ss) :
    Calls Try.prog 31 #[.slice (some x) len cap] w fun e w' => IsI e ∧ w' = w := by
  have H : Hid (Strs w x len ss) := h
  clear h
  unfold maxLen at hm
  by_cases hl : len ≤ 1048576
  · have hd : decide ((1048576 : Int) < (len : Int)) = false := decide_eq_false (by omega)
    go_enter Try.func31, Try.ntmps31
    go_wp2
    go_loop [3, 4] (fun z i => ∃ (k : Nat) (t : Int), k ≤ len ∧ i = .int .i64 k ∧ z = .int .i64 t ∧ 0 ≤ t ∧ t ≤ 16777216) (fun _ i => len - (intOf i).toNat)
    case atStart => exact ⟨0, 16 * len, Nat.zero_le _, rfl, rfl, by omega, by omega⟩
    case round =>
      obtain ⟨k, t, hk, rfl, rfl, ht0, ht1⟩ := hrel
      by_cases hlt : k < len
      · obtain ⟨hcell, hsz⟩ := H.out k hlt
        generalize ss k = s at hcell hsz
        unfold maxLen at hsz
        by_cases hsl : s.size ≤ 1048576
        · by_cases hst : t + s.size ≤ 1048576
          · go_wp2
            go_round
            case rel => exact ⟨k + 1, t + s.size, by omega, by go_num, rfl, by omega, by omega⟩
            case measure => simp [intOf]; omega
          · go_wp2
            go_ret
            first | exact ⟨⟨_, rfl⟩, rfl⟩ | exact ⟨_, rfl⟩
        · go_wp2
          go_ret
          first | exact ⟨⟨_, rfl⟩, rfl⟩ | exact ⟨_, rfl⟩
      · go_wp2
        go_ret
        first | exact ⟨⟨_, rfl⟩, rfl⟩ | exact ⟨_, rfl⟩
  · have hd : (1048576 : Int) < (len : Int) := by omega
    go_enter Try.func31, Try.ntmps31
    go_wp2
    go_ret
    first | exact ⟨⟨_, rfl⟩, rfl⟩ | exact ⟨_, rfl⟩

theorem clone32_nil (w : World) :
    Calls Try.prog 32 #[.slice none 0 0] w fun e w' => e = .returned (.slice none 0 0) ∧ w' = w := by
  have hq := q49
  go_enter Try.func32, Try.ntmps32
  go_wp2
  go_ret
  exact ⟨rfl, rfl⟩

theorem hid_mk {p : Prop} (h : p) : Hid p := h
/-- The block of a row that was made in full. -/
theorem own_block {w : World} {base e g n : Nat} {xs : List Value} (h : w.ownsRow base e 1 (.slice (some ⟨g, 0, none⟩) n n) n xs) : ∃ cur : List Value, cur.length = n ∧ w.heap[g]? = some (.cells cur.toArray e (0, 0)) := by
  rcases h.2 with ⟨h', _⟩ | ⟨g', cap', cur, h', _, hg, _, _, hcs, _⟩
  · simp at h'
  · simp only [Value.slice.injEq, Option.some.injEq, Addr.mk.injEq, and_true, true_and] at h'
    obtain ⟨rfl, rfl⟩ := h'
    exact ⟨cur.toList, by simpa using hcs, by simpa using hg⟩

def strL (ss : Nat → ByteArray) (len : Nat) : List Value := (List.range len).map fun i => .string (ss i)
theorem strL_length (ss : Nat → ByteArray) (len : Nat) : (strL ss len).length = len := by simp [strL]

set_option maxHeartbeats 1000000 in
set_option maxRecDepth 100000 in
theorem clone32 (x : Addr) (len cap : Nat) (ss : Nat → ByteArray) (w : World) (hm : len ≤ 256) (h : Strs w x len ss) :
    Calls Try.prog 32 #[.slice (some x) len cap] w fun e w' => e = .returned (.slice (some ⟨w.heap.size, 0, none⟩) len len) ∧ w'.heap[w.heap.size]? = some (.cells (strL ss len).toArray 9 (0, 0)) ∧ Below w.heap.size w w' := by
  obtain ⟨i0, hi, hz0, hz1, hz2⟩ := info_parts info9
  have hq := q49
  have H : Hid (Strs w x len ss) := h
  clear h
  obtain ⟨G, hG⟩ : ∃ G, w.heap.size = G := ⟨_, rfl⟩
  rw [hG]
  go_enter Try.func32, Try.ntmps32
  go_wp2_with (first
    | (at_make; refine wpList_make_full _ rfl _ _ 49 rfl G 9 i0 (.string ⟨#[]⟩) 1 Try.underlying49 hi hz0 hz1 _ _ _ _ len rfl rfl rfl rfl ?b2 ?b3 ?b4 ?_; rotate_right; intro w2 hown2 hgrow2; rw [hG] at hown2; obtain ⟨cur, hcl, hblk⟩ := own_block hown2; have HBK := hid_mk hblk; clear hblk)
    | (refine wpList_copy_splice rfl (.tmp 9) (.tmp 10) 49 49 rfl 9 Try.underlying49 size9 _ _ _ _ _ _ rfl rfl G 0 cur 9 HBK.out (strL ss len) ?n1 ?p1 ?f1 ?o1 G w ?k1 (Nat.le_refl _) ?_; rotate_right; intro w3 hb3 hbel3))
  case b2 => rw [hz2]; omega
  case b3 => unfold maxLen; omega
  case b4 => omega
  case n1 => rw [strL_length]; show len = min len len; omega
  case p1 =>
    intro _ j v hj
    have hj' : j < len := by
      have := (List.getElem?_eq_some_iff.1 hj).1
      rwa [strL_length] at this
    have h1 := hgrow2.cell (H.out j hj').1 (by simp)
    rw [h1]
    simp [strL, hj'] at hj
    rw [hj]
  case f1 => rw [strL_length]; omega
  case o1 =>
    intro v hv
    simp [strL] at hv
    obtain ⟨i, _, rfl⟩ := hv
    rfl
  case k1 => exact (Below.refl _ _).grown hgrow2 (by omega) (fun k h => by cases h)
  have he : splice cur 0 (strL ss len) = strL ss len := by
    unfold splice
    rw [strL_length, Nat.zero_add, List.drop_of_length_le (by omega)]; simp
  rw [he] at hb3
  go_ret
  exact ⟨rfl, hb3.out, hbel3⟩

theorem grown_andSet {w wr : World} {bb : Nat} (h : w.grownBy wr (some bb)) (j : Nat) (v : Value) : w.grownBy (wr.setCell ⟨bb, j, none⟩ v) (some bb) :=
  ⟨h.os, h.tape, h.output, by simpa using h.size, fun k hk hne => (heap_setCell_other _ _ _ _ (fun e => hne (by rw [e]))).trans (h.block k hk hne)⟩

theorem setCell_mark (w : World) (g i : Nat) (cs : Array Value) (t : TypeId) (fr : Nat × Nat) (v : Value) (hg : w.heap[g]? = some (.cells cs t fr)) :
    (w.setCell ⟨g, i, none⟩ v).heap[g]? = some (.cells (cs.setIfInBounds i v) t fr) := by
  rw [setCell_eq_setRow w g i cs t fr v hg]
  exact setRow_heap w g cs _ t _ hg

/-- The buffer's block: bytes, and the mark that a conversion leaves behind them. -/
def BufBlk (w : World) (bb n : Nat) : Prop := ∃ (C : Array Value) (m : Nat), w.heap[bb]? = some (.cells C 5 (m, m + 1)) ∧ n ≤ C.size ∧ C.size ≤ m ∧ ∀ j, j < n → ∃ c : Int, C[j]? = some (.int .u8 c)

theorem BufBlk.cell {w : World} {bb n : Nat} (h : BufBlk w bb n) {j : Nat} (hj : j < n) : (∃ c : Int, w.cell? ⟨bb, j, none⟩ = some (.int .u8 c)) ∧ w.frozen? ⟨bb, j, none⟩ = false := by
  obtain ⟨C, m, hb, h1, h2, h3⟩ := h
  obtain ⟨c, hc⟩ := h3 j hj
  refine ⟨⟨c, by rw [cell_of_row _ _ _ _ _ _ hb]; exact hc⟩, ?_⟩
  have : ¬ m ≤ j := by omega
  simp [World.frozen?, hb, this]

theorem BufBlk.set {w : World} {bb n : Nat} (h : BufBlk w bb n) (j : Nat) (c : Int) : BufBlk (w.setCell ⟨bb, j, none⟩ (.int .u8 c)) bb n := by
  obtain ⟨C, m, hb, h1, h2, h3⟩ := h
  refine ⟨_, m, setCell_mark w bb j C 5 _ _ hb, by simpa using h1, by simpa using h2, fun i hi => ?_⟩
  by_cases e : j = i
  · subst e; exact ⟨c, Array.getElem?_setIfInBounds_self_of_lt (by omega)⟩
  · rw [Array.getElem?_setIfInBounds_ne e]; exact h3 i hi

set_option maxHeartbeats 1000000 in
/-- zzOverwrite: the buffer's own block alone is written. -/
theorem over34 (bb cap n : Nat) (w : World) (h : BufBlk w bb n) (hx : n ≤ maxLen) :
    Calls Try.prog 34 #[.slice (some ⟨bb, 0, none⟩) n cap] w fun e w' => e = .returned (.tuple #[]) ∧ w.grownBy w' (some bb) := by
  have HB : Hid (BufBlk w bb n) := h
  clear h
  unfold maxLen at hx
  go_enter Try.func34, Try.ntmps34
  go_wp2
  go_loopw [2] (fun i wr => ∃ k : Nat, k ≤ n ∧ i = .int .i64 k ∧ Hid (BufBlk wr bb n) ∧ w.grownBy wr (some bb)) (fun i _ => n - (intOf i).toNat)
  case atStart => exact ⟨0, Nat.zero_le _, rfl, HB, World.grownBy.refl _ _⟩
  case round =>
    clear HB
    obtain ⟨k, hk, rfl, HB, hg⟩ := hrel
    by_cases hlt : k < n
    · obtain ⟨⟨c, hcell⟩, hfz⟩ := HB.out.cell hlt
      go_wp2
      go_roundw
      case rel => exact ⟨k + 1, by omega, by go_num, HB.out.set k _, grown_andSet hg k _⟩
      case measure => simp [intOf]; omega
    · go_wp2
      go_end0
      exact ⟨rfl, hg⟩
end Go.Proofs.Qxb6002643a.Ar
