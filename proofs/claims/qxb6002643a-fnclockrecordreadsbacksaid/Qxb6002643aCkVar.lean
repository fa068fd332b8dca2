/- AppendUvarint, AppendVarint, putNumber, putString. -/
import Derived.Test.Qxb6002643aCkApd
namespace Go.Proofs.Qxb6002643a.Ck
open Go.RowKit

theorem or128_nat : ∀ a : Fin 256, a.val ||| 128 = a.val % 128 + 128 := by decide +kernel
theorem or128 (y : Nat) : bits .or .u8 ((y : Int) % 256) 128 = ((y % 128 + 128 : Nat) : Int) := by
  have e : (y : Int) % 256 = ((y % 256 : Nat) : Int) := by omega
  have h := u8_or_nat (y % 256) 128 (by omega) (by omega)
  have h2 := or128_nat ⟨y % 256, by omega⟩
  simp only at h2
  rw [e, show (128 : Int) = ((128 : Nat) : Int) from rfl, h, h2]
  congr 1; omega

theorem own_shape {w : World} {base n : Nat} {v : Value} {xs : List Value} (h : w.ownsRow base 5 1 v n xs) (hn : 0 < n) : ∃ g cap, v = .slice (some ⟨g, 0, none⟩) n cap := by
  rcases h.2 with ⟨_, h0⟩ | ⟨g, cap, cur, h', _⟩
  · omega
  · exact ⟨g, cap, h'⟩

/-- What a writer leaves: a slice that owns the old bytes and the new ones. -/
def Wrote (base n : Nat) (zs new : List Int) (v : Value) (w : World) (e : Ending) (w' : World) : Prop :=
  ∃ g cap l, e = .returned (.slice (some ⟨g, 0, none⟩) l cap) ∧ Hid (l = n + new.length) ∧ w'.ownsRow base 5 1 (.slice (some ⟨g, 0, none⟩) l cap) l ((zs ++ new).map (Value.int .u8)) ∧ Apd w w' v (.slice (some ⟨g, 0, none⟩) l cap)

theorem Wrote.mk' {base n m : Nat} {zs new : List Int} {v v' : Value} {w w' : World} (hm : m = n + new.length) (hp : 0 < m) (hown : w'.ownsRow base 5 1 v' m ((zs ++ new).map (Value.int .u8))) (ha : Apd w w' v v') : Wrote base n zs new v w (.returned v') w' := by
  obtain ⟨g, cap, rfl⟩ := own_shape hown hp
  exact ⟨g, cap, m, rfl, hm, hown, ha⟩

theorem Apd.refl (w : World) (v : Value) : Apd w w v v := ⟨World.grownBy.refl _ _, .inl rfl⟩

set_option maxHeartbeats 1000000 in
theorem appendUvarint (base n x : Nat) (v : Value) (zs : List Int) (w : World) (hx : x < 18446744073709551616) (hown : w.ownsRow base 5 1 v n (zs.map (Value.int .u8))) (hn : n ≤ 1099511627776) (hbase : base ≤ w.heap.size) :
    Calls Try.prog 60 #[v, .int .u64 x] w fun e w' => Wrote base n zs (uv x) v w e w' := by
  obtain ⟨i0, hi, hz0, hz1, hz2⟩ := info_parts info5
  have hul := uv_length x
  have HX : Hid (x < 2 * 128 ^ 9) := ok_start x hx
  have H0 := hid_mk hown
  clear hown
  go_enter Try.func60, Try.ntmps60
  go_wp2
  go_loopw [0, 1] (fun vv xv wr => ∃ (g y m : Nat) (ws : List Int), xv = .int .u64 y ∧ y < 18446744073709551616 ∧ Hid (y < 2 * 128 ^ g ∧ ws ++ uvF (g + 1) y = zs ++ uv x ∧ m + (uvF (g + 1) y).length = n + (uv x).length) ∧ Hid (wr.ownsRow base 5 1 vv m (ws.map (Value.int .u8))) ∧ Hid (Apd w wr v vv) ∧ m ≤ n + 10 ∧ base ≤ wr.heap.size) (fun _ xv _ => (intOf xv).toNat)
  case atStart => exact ⟨9, x, n, zs, rfl, hx, ⟨HX.out, rfl, rfl⟩, H0, Apd.refl _ _, by omega, hbase⟩
  clear H0
  case round =>
    obtain ⟨g, y, m, ws, rfl, hy, HG, HO, HA, hm, hb⟩ := hrel
    by_cases hlt : y < 128
    · have hd : decide ((128 : Int) ≤ (y : Int)) = false := decide_eq_false (by omega)
      go_wp2_with (at_builtin; refine wpList_append_own_at _ rfl _ _ 22 rfl base 5 i0 (.int .u8 0) 1 1 Try.underlying22 hi hz0 hz1 hz2 rfl (by decide) _ _ _ rfl (HO.out.alloc _) ⟨wr.heap.size, 0, none⟩ 1 1 [.int .u8 y] rfl rfl (cell_one_new _ _ _) ?c2 ?c3 ?c4 ?c5 ?_; rotate_right; intro v' w1 hown' hgrow _ hloc)
      case c2 => intro u hu; simp at hu; subst hu; rfl
      case c3 => unfold maxLen; omega
      case c4 => omega
      case c5 => simp; omega
      obtain ⟨g1, g2, g3⟩ := HG.out
      rw [uv_last g y hlt] at g2 g3
      have ha := HA.out.trans (Apd.of hgrow hloc).afterAlloc
      go_ret
      refine Wrote.mk' (m := m + 1) (by simpa using g3) (by omega) ?_ ha
      rw [← g2, List.map_append]
      exact hown'
    · have hd : (128 : Int) ≤ (y : Int) := by omega
      have ho := or128 y
      obtain ⟨c, hc⟩ : ∃ c : Int, bits .or .u8 ((y : Int) % 256) 128 = c := ⟨_, rfl⟩
      have HC : Hid (((y % 128 + 128 : Nat) : Int) = c) := by rw [hc] at ho; exact ho.symm
      clear ho
      go_wp2_with (at_builtin; refine wpList_append_own_at _ rfl _ _ 22 rfl base 5 i0 (.int .u8 0) 1 1 Try.underlying22 hi hz0 hz1 hz2 rfl (by decide) _ _ _ rfl (HO.out.alloc _) ⟨wr.heap.size, 0, none⟩ 1 1 [.int .u8 c] rfl rfl (cell_one_new _ _ _) ?d2 ?d3 ?d4 ?d5 ?_; rotate_right; intro v' w1 hown' hgrow _ hloc)
      case d2 => intro u hu; simp at hu; subst hu; rfl
      case d3 => unfold maxLen; omega
      case d4 => omega
      case d5 => simp; omega
      have HS := hid_mk hgrow.size
      have HA' := hid_mk (HA.out.trans (Apd.of hgrow hloc).afterAlloc)
      have HO' := hid_mk hown'
      clear hgrow hloc hown' HO HA hc
      go_wp2
      go_roundw
      case rel =>
        obtain ⟨g1, g2, g3⟩ := HG.out
        obtain ⟨g', rfl, g4⟩ := ok_step g y hlt g1
        rw [uv_step (g' + 1) y hlt] at g2 g3
        have hs := HS.out
        simp at hs
        refine ⟨g', y / 128, m + 1, ws ++ [((y % 128 + 128 : Nat) : Int)], by go_num, by omega, ⟨g4, by simpa using g2, by simp at g3; omega⟩, ?_, HA', ?_, by omega⟩
        · rw [HC.out, List.map_append]; exact HO'
        · simp at g3; omega
      case measure => simp [intOf]; omega
end Go.Proofs.Qxb6002643a.Ck
