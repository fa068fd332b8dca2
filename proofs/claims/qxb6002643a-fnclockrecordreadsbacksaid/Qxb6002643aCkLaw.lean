/- The walk of FnClockRecordReadsBack. -/
import Derived.Test.Qxb6002643aCkAux
namespace Go.Proofs.Qxb6002643a.Ck
open Go.RowKit

theorem law_long (ao : Option Addr) (len cap : Nat) (s : ByteArray) (hasNow : Bool) (a n : Int) (w : World) (h : len ≤ maxLen) (hs : s.size ≤ maxLen) (hl : ¬ len + s.size ≤ 1048576) :
    Calls Try.prog 7 #[.slice ao len cap, .string s, .bool hasNow, .int .i64 a, .int .i64 n] w fun e w' => e = .returned (.bool true) ∧ Below w.heap.size w w' := by
  have C : Hid (Calls Try.prog 28 #[.slice ao len cap, .string s, .bool hasNow, .int .i64 a, .int .i64 n] w fun e w' => e = .returned (.bool false) ∧ w' = w) := by
    have := bytes28 ao len cap s hasNow a n w h hs
    rwa [decide_eq_false hl] at this
  go_enter Try.func7, Try.ntmps7
  go_wp2_with (go_at_call 28; refine C.out.mono ?_; rintro e w' ⟨rfl, hw⟩; subst w')
  go_ret
  exact ⟨rfl, Below.refl _ _⟩

theorem law_bad (ao : Option Addr) (len cap : Nat) (s : ByteArray) (a n : Int) (w : World) (hl : len + s.size ≤ 1048576) (ht : ¬ (-62167219200 ≤ a ∧ a ≤ 253402300799 ∧ 0 ≤ n ∧ n < 1000000000)) :
    Calls Try.prog 7 #[.slice ao len cap, .string s, .bool true, .int .i64 a, .int .i64 n] w fun e w' => e = .returned (.bool true) ∧ Below w.heap.size w w' := by
  have C : Hid (Calls Try.prog 28 #[.slice ao len cap, .string s, .bool true, .int .i64 a, .int .i64 n] w fun e w' => e = .returned (.bool true) ∧ w' = w) := by
    have := bytes28 ao len cap s true a n w (by unfold maxLen; omega) (by unfold maxLen; omega)
    rwa [decide_eq_true hl] at this
  have C2 : Hid (Calls Try.prog 19 #[.slice ao len cap, .string s, .string ⟨#[]⟩] w fun e w' => e = .returned (.int .i64 ((len : Int) + s.size)) ∧ w' = w) := three19 ao len cap s w hl
  have C3 : Hid (Calls Try.prog 20 #[.int .i64 a, .int .i64 n] w fun e w' => e = .returned (.bool false) ∧ w' = w) := by
    have := timeOk20 a n w
    rwa [decide_eq_false ht] at this
  have hd : decide ((1048576 : Int) < (len : Int) + s.size) = false := decide_eq_false (by omega)
  clear ht
  go_enter Try.func7, Try.ntmps7
  go_wp2_with (first
    | (go_at_call 28; refine C.out.mono ?_; rintro e w' ⟨rfl, hw⟩; subst w')
    | (go_at_call 19; refine C2.out.mono ?_; rintro e w' ⟨rfl, hw⟩; subst w')
    | (go_at_call 20; refine C3.out.mono ?_; rintro e w' ⟨rfl, hw⟩; subst w'))
  go_ret
  exact ⟨rfl, Below.refl _ _⟩

theorem own_ge {w : World} {base n k : Nat} {v : Value} {xs : List Value} (h : w.ownsRow base 5 1 v n xs) (hk : v.ownBlock = some k) : base ≤ k := by
  rcases h.2 with ⟨rfl, _⟩ | ⟨g, cap, cur, rfl, hb, _⟩
  · cases hk
  · cases hk; exact hb

theorem own_below {w w' : World} {base n : Nat} {v : Value} {xs : List Value} (h : w.ownsRow base 5 1 v n xs) (hb : Below w.heap.size w w') : w'.ownsRow base 5 1 v n xs :=
  h.kept (row := none) ⟨hb.os, hb.tape, hb.output, hb.size, fun k hk _ => hb.block k hk⟩ (by cases hv : v.ownBlock <;> simp)

/-- The second clone's row stays while the first one's slice is appended to. -/
theorem own_apd {w w' : World} {base n : Nat} {v v' vk : Value} {xs : List Value} (hk : w.ownsRow base 5 1 vk n xs) (hlt : ∀ k, v.ownBlock = some k → k < base) (ha : Apd w w' v v') : w'.ownsRow base 5 1 vk n xs := by
  refine hk.kept ha.grown ?_
  rcases hk.2 with ⟨rfl, _⟩ | ⟨g, cap, cur, rfl, hb, _⟩
  · exact .inl rfl
  · refine .inr (fun e => ?_)
    have := hlt g e.symm
    omega

/-- What the law's readers find behind the record, whatever it holds. -/
structure Reads (w : World) (g cap l len ck : Nat) (fl : Int) (ak : Option Addr) (s : ByteArray) (j2 j3 : Nat) : Prop where
  pre : Calls Try.prog 24 #[.slice (some ⟨g, 0, none⟩) l cap, .slice ak len ck] w fun e w' => e = .returned (.bool true) ∧ ∃ nq, w' = w.drewN nq
  lt : len < l
  one : w.cell? ⟨g, len, none⟩ = some (.int .u8 1)
  num : ∀ nq, Calls Try.prog 25 #[.slice (some ⟨g, 0, none⟩) l cap, .int .i64 ((len : Int) + 1), .int .u64 fl] (w.drewN nq) fun e w' => e = .returned (.tuple #[.int .i64 j2, .bool true]) ∧ w' = w.drewN nq
  str : ∀ nq, Calls Try.prog 26 #[.slice (some ⟨g, 0, none⟩) l cap, .int .i64 j2, .string s] (w.drewN nq) fun e w' => e = .returned (.tuple #[.int .i64 j3, .bool true]) ∧ ∃ n2, w' = w.drewN n2

theorem reads_of {w : World} {B B2 g cap l len ck : Nat} {ak : Option Addr} {s : ByteArray} {zs tail : List Int} (fl : Nat) (flv : Int) (hv : flv = fl) (hfl : fl < 2) (hs : s.size ≤ 1048576) (hlen : len ≤ 1048576) (ht : tail.length ≤ 20)
    (hl : l = len + ([1] ++ uv fl ++ (uv s.size ++ strI s) ++ tail).length)
    (ho : w.ownsRow B 5 1 (.slice (some ⟨g, 0, none⟩) l cap) l ((zs ++ ([1] ++ uv fl ++ (uv s.size ++ strI s) ++ tail)).map (Value.int .u8))) (hk : w.ownsRow B2 5 1 (.slice ak len ck) len (zs.map (Value.int .u8))) :
    ∃ j2 j3 : Nat, Reads w g cap l len ck flv ak s j2 j3 ∧ j3 + tail.length = l ∧ (zs ++ ([1] ++ uv fl ++ (uv s.size ++ strI s) ++ tail)).drop j3 = tail ∧ Rd w g (zs ++ ([1] ++ uv fl ++ (uv s.size ++ strI s) ++ tail)) ∧ l = (zs ++ ([1] ++ uv fl ++ (uv s.size ++ strI s) ++ tail)).length ∧ l ≤ 1099511627776 := by
  subst hv
  have hzl : zs.length = len := by have := hk.1; simp at this; omega
  have hul := uv_length fl
  have hul2 := uv_length s.size
  have hsl := strI_length s
  have hl2 : l = (zs ++ ([1] ++ uv fl ++ (uv s.size ++ strI s) ++ tail)).length := by rw [hl]; simp only [List.length_append, hzl]
  have hL : l ≤ 1099511627776 := by rw [hl]; simp [hsl]; omega
  have hr := Rd.ofOwn ho
  obtain ⟨R, hR⟩ : ∃ R, [1] ++ uv fl ++ (uv s.size ++ strI s) ++ tail = R := ⟨_, rfl⟩
  have e1 : zs ++ R = (zs ++ [1]) ++ (uv fl ++ ((uv s.size ++ strI s) ++ tail)) := by rw [← hR]; simp
  have d1 : (zs ++ R).drop (len + 1) = uv fl ++ ((uv s.size ++ strI s) ++ tail) := by
    rw [e1, List.drop_left' (by simp [hzl])]
  have d2 : (zs ++ R).drop (len + 1 + (uv fl).length) = (uv s.size ++ strI s) ++ tail := by
    rw [← List.drop_drop, d1, List.drop_left]
  have d3 : (zs ++ R).drop (len + 1 + (uv fl).length + (uv s.size ++ strI s).length) = tail := by
    rw [← List.drop_drop, d2, List.drop_left]
  rw [hR] at hl ho hl2 hr ⊢
  refine ⟨len + 1 + (uv fl).length, len + 1 + (uv fl).length + (uv s.size ++ strI s).length, ⟨?_, ?_, ?_, fun nq => ?_, fun nq => ?_⟩, ?_, d3, hr, hl2, hL⟩
  · exact prefixAny g cap l len ck ak B2 zs R w hl2 hL hr hk
  · rw [hl, ← hR]; simp
  · rw [hr len (by rw [← hl2, hl, ← hR]; simp)]
    have : (zs ++ R).getD len 0 = 1 := by
      rw [e1, List.getD_eq_getElem?_getD, List.getElem?_append_left (by simp [hzl]), List.getElem?_append_right (by omega)]
      simp [hzl]
    rw [this]
  · have := number25 g cap (len + 1) fl (zs ++ R) _ (w.drewN nq) (by omega) (by rw [← hl2]; exact hL) hr d1
    rw [← hl2] at this
    exact this
  · have := string26 g cap (len + 1 + (uv fl).length) s (zs ++ R) tail (w.drewN nq) hs (by rw [← hl2]; exact hL) hr d2
    rw [← hl2] at this
    refine this.mono ?_
    rintro e w' ⟨h1, n2, h2⟩
    exact ⟨h1, nq + n2, by rw [h2]; simp⟩
  · rw [hl, ← hR]; simp; omega

set_option maxHeartbeats 400000 in
set_option maxRecDepth 100000 in
theorem law_none (a0 : Option Addr) (len cap : Nat) (s : ByteArray) (a n : Int) (zs : List Int) (w : World) (hl : len + s.size ≤ 1048576) (h : In w a0 len cap zs) :
    Calls Try.prog 7 #[.slice a0 len cap, .string s, .bool false, .int .i64 a, .int .i64 n] w fun e w' => e = .returned (.bool true) ∧ Below w.heap.size w w' := by
  have C : Hid (Calls Try.prog 28 #[.slice a0 len cap, .string s, .bool false, .int .i64 a, .int .i64 n] w fun e w' => e = .returned (.bool true) ∧ w' = w) := by
    have := bytes28 a0 len cap s false a n w (by unfold maxLen; omega) (by unfold maxLen; omega)
    rwa [decide_eq_true hl] at this
  have C2 : Hid (Calls Try.prog 19 #[.slice a0 len cap, .string s, .string ⟨#[]⟩] w fun e w' => e = .returned (.int .i64 ((len : Int) + s.size)) ∧ w' = w) := three19 a0 len cap s w hl
  have HI := hid_mk h
  clear h
  have hd : decide ((1048576 : Int) < (len : Int) + s.size) = false := decide_eq_false (by omega)
  have C3 : Hid (Calls Try.prog 21 #[.slice a0 len cap] w fun e w' => Cloned len zs w e w') := clone21 a0 len cap zs w (by omega) HI.out
  go_enter Try.func7, Try.ntmps7
  go_wp2_with (first
    | (go_at_call 28; refine C.out.mono ?_; rintro e w' ⟨rfl, hw⟩; subst w')
    | (go_at_call 19; refine C2.out.mono ?_; rintro e w' ⟨rfl, hw⟩; subst w')
    | fail)
  refine C3.out.mono ?_
  rintro e w1 ⟨a1, c1, rfl, ho1, hb1⟩
  have HO1 := hid_mk ho1
  clear ho1 C C2 C3
  go_wp2_with fail
  refine (clone21 a1 len c1 zs w1 (by omega) (In.ofOwn HO1.out)).mono ?_
  rintro e w2 ⟨ak, ck, rfl, hok, hb2⟩
  have HOK := hid_mk hok
  have HO2 := hid_mk (own_below HO1.out hb2)
  have hb12 : Below w.heap.size w w2 := hb1.trans (hb2.mono hb1.size)
  have hsz1 := hb1.size
  have hsz2 := hb2.size
  clear hok
  go_wp2_with fail
  refine (shim29_none w.heap.size len s _ zs w2 (by omega) HO2.out (by omega) hb12.size).mono ?_
  rintro e w3 ⟨g, cap3, l, rfl, hl3, ho3, ha3⟩
  have hk3 := own_apd HOK.out (fun k hk => own_lt HO1.out hk) ha3
  have hbel3 : Below w.heap.size w w3 := hb12.grown ha3.grown hb12.size (fun k hk => own_ge HO2.out hk)
  have er : recB s none = [1] ++ uv 0 ++ (uv s.size ++ strI s) ++ [] := by simp [recB]
  rw [er] at ho3
  obtain ⟨j2, j3, HR, hj, q1, q2, q3, q4⟩ := reads_of 0 0 rfl (by omega) (by omega) (by omega) (by simp) (by rw [← er]; exact hl3.out) ho3 hk3
  clear q1 q2 q3 q4
  have HRD := hid_mk HR
  have h1 := HR.one
  have h2 := HR.lt
  have hd3 : decide (l ≤ len) = false := decide_eq_false (by omega)
  have hje : ((j3 : Int) == (l : Int)) = true := by simp at hj; simp; omega
  clear hl3 ho3 ha3 hk3 er HR hj HO1 HO2 HOK
  go_wp2_with fail
  refine HRD.out.pre.mono ?_
  rintro e w' ⟨rfl, nq, rfl⟩
  go_wp2_with fail
  refine (HRD.out.num nq).mono ?_
  rintro e w' ⟨rfl, rfl⟩
  go_wp2_with fail
  refine (HRD.out.str nq).mono ?_
  rintro e w' ⟨rfl, n2, rfl⟩
  go_wp2
  go_ret
  exact ⟨by simp, below_drewN hbel3 _⟩

set_option maxHeartbeats 800000 in
set_option maxRecDepth 100000 in
theorem law_now (a0 : Option Addr) (len cap : Nat) (s : ByteArray) (a : Int) (n : Nat) (zs : List Int) (w : World) (hl : len + s.size ≤ 1048576) (ha1 : -62167219200 ≤ a) (ha2 : a ≤ 253402300799) (hn : n < 1000000000) (h : In w a0 len cap zs) :
    Calls Try.prog 7 #[.slice a0 len cap, .string s, .bool true, .int .i64 a, .int .i64 n] w fun e w' => e = .returned (.bool true) ∧ Below w.heap.size w w' := by
  have C : Hid (Calls Try.prog 28 #[.slice a0 len cap, .string s, .bool true, .int .i64 a, .int .i64 n] w fun e w' => e = .returned (.bool true) ∧ w' = w) := by
    have := bytes28 a0 len cap s true a n w (by unfold maxLen; omega) (by unfold maxLen; omega)
    rwa [decide_eq_true hl] at this
  have C2 : Hid (Calls Try.prog 19 #[.slice a0 len cap, .string s, .string ⟨#[]⟩] w fun e w' => e = .returned (.int .i64 ((len : Int) + s.size)) ∧ w' = w) := three19 a0 len cap s w hl
  have C4 : Hid (Calls Try.prog 20 #[.int .i64 a, .int .i64 n] w fun e w' => e = .returned (.bool true) ∧ w' = w) := by
    have := timeOk20 a n w
    rwa [decide_eq_true ⟨ha1, ha2, by omega, by omega⟩] at this
  have HI := hid_mk h
  clear h
  have hd : decide ((1048576 : Int) < (len : Int) + s.size) = false := decide_eq_false (by omega)
  have C3 : Hid (Calls Try.prog 21 #[.slice a0 len cap] w fun e w' => Cloned len zs w e w') := clone21 a0 len cap zs w (by omega) HI.out
  go_enter Try.func7, Try.ntmps7
  go_wp2_with (first
    | (go_at_call 28; refine C.out.mono ?_; rintro e w' ⟨rfl, hw⟩; subst w')
    | (go_at_call 19; refine C2.out.mono ?_; rintro e w' ⟨rfl, hw⟩; subst w')
    | (go_at_call 20; refine C4.out.mono ?_; rintro e w' ⟨rfl, hw⟩; subst w')
    | fail)
  refine C3.out.mono ?_
  rintro e w1 ⟨a1, c1, rfl, ho1, hb1⟩
  have HO1 := hid_mk ho1
  clear ho1 C C2 C3 C4
  go_wp2_with fail
  refine (clone21 a1 len c1 zs w1 (by omega) (In.ofOwn HO1.out)).mono ?_
  rintro e w2 ⟨ak, ck, rfl, hok, hb2⟩
  have HOK := hid_mk hok
  have HO2 := hid_mk (own_below HO1.out hb2)
  have hb12 : Below w.heap.size w w2 := hb1.trans (hb2.mono hb1.size)
  have hsz1 := hb1.size
  have hsz2 := hb2.size
  clear hok
  go_wp2_with fail
  refine (timeOf22 a n w2 ha1 ha2 hn).mono ?_
  unfold tim
  rintro e w3 ⟨rfl, hb3⟩
  have HOK3 := hid_mk (own_below HOK.out hb3)
  have HO3 := hid_mk (own_below HO2.out hb3)
  have hb13 : Below w.heap.size w w3 := hb12.trans (hb3.mono (by omega))
  have hsz3 := hb3.size
  clear HOK HO2 hb12
  go_wp2_with fail
  refine (shim29_some w.heap.size len w3.heap.size n a s _ zs _ ha1 ha2 hn (by omega) (HO3.out.alloc _) (by omega) (by simp; omega) (heap_alloc_new w3 _) (fun e => Nat.lt_irrefl _ (own_lt HO3.out e))).mono ?_
  rintro e w4 ⟨g, cap3, l, rfl, hl3, ho3, ha3⟩
  have hk4 := own_apd (HOK3.out.alloc _) (fun k hk => own_lt HO1.out hk) ha3
  have hbel4 : Below w.heap.size w w4 := (hb13.alloc (by omega) _).grown ha3.grown (by simp; omega) (fun k hk => own_ge HO3.out hk)
  have er : recB s (some (a, n)) = [1] ++ uv 1 ++ (uv s.size ++ strI s) ++ (uv (zz a) ++ uv n) := by simp [recB]
  rw [er] at ho3
  obtain ⟨j2, j3, HR, hj, q1, q2, q3, q4⟩ := reads_of 1 1 rfl (by omega) (by omega) (by omega) (by have := uv_length (zz a); have := uv_length n; simp; omega) (by rw [← er]; exact hl3.out) ho3 hk4
  obtain ⟨j4, hj4, C27⟩ : ∃ j4 : Nat, j4 = l ∧ Hid (∀ nq, Calls Try.prog 27 #[.slice (some ⟨g, 0, none⟩) l cap3, .int .i64 j3, .int .i64 a, .int .i64 n] (w4.drewN nq) fun e w' => e = .returned (.tuple #[.int .i64 j4, .bool true]) ∧ w' = w4.drewN nq) := by
    refine ⟨_, hj, fun nq => ?_⟩
    have := time27 g cap3 j3 n a _ [] (w4.drewN nq) (by omega) (by omega) hn (by rw [← q3]; exact q4) q2 (by rw [q1]; simp)
    rw [← q3] at this
    simpa using this
  clear q1 q2 q3 q4
  have HRD := hid_mk HR
  have h1 := HR.one
  have h2 := HR.lt
  have hd3 : decide (l ≤ len) = false := decide_eq_false (by omega)
  have hje : ((j4 : Int) == (l : Int)) = true := by simp; omega
  clear hl3 ho3 ha3 hk4 er HR hj hj4 HO1 HO3 HOK3
  go_wp2_with fail
  refine HRD.out.pre.mono ?_
  rintro e w' ⟨rfl, nq, rfl⟩
  go_wp2_with fail
  refine (HRD.out.num nq).mono ?_
  rintro e w' ⟨rfl, rfl⟩
  go_wp2_with fail
  refine (HRD.out.str nq).mono ?_
  rintro e w' ⟨rfl, n2, rfl⟩
  go_wp2_with fail
  refine (C27.out n2).mono ?_
  rintro e w' ⟨rfl, rfl⟩
  go_wp2
  go_ret
  exact ⟨by simp, below_drewN hbel4 _⟩
end Go.Proofs.Qxb6002643a.Ck
