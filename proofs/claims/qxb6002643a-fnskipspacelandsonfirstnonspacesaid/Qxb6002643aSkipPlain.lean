/- Plain laws of skipSpace: nothing of the dump. -/
import Derived.WalkKit
namespace Go.Proofs.Qxb6002643a.Skip

def isSp (c : Int) : Bool := c == 32 || c == 9 || c == 10 || c == 13
/-- How many white spaces a row begins with. -/
def lead : List Int → Nat
  | [] => 0
  | c :: l => if isSp c = true then lead l + 1 else 0
/-- What skipSpace answers from i on. -/
def skp (zs : List Int) (i : Nat) : Nat := i + lead (zs.drop i)

theorem lead_le (l : List Int) : lead l ≤ l.length := by
  induction l with
  | nil => simp [lead]
  | cons c l ih => simp only [lead, List.length_cons]; split <;> omega

theorem lead_sp (l : List Int) (j : Nat) (h : j < lead l) : isSp (l.getD j 0) = true := by
  induction l generalizing j with
  | nil => simp [lead] at h
  | cons c l ih =>
    simp only [lead] at h
    split at h
    · rename_i hc
      cases j with
      | zero => simpa using hc
      | succ j => simpa using ih j (by omega)
    · omega

theorem lead_not (l : List Int) (h : lead l < l.length) : isSp (l.getD (lead l) 0) = false := by
  induction l with
  | nil => simp [lead] at h
  | cons c l ih =>
    simp only [lead, List.length_cons] at h ⊢
    split at h
    · rename_i hc
      rw [if_pos hc]
      simpa using ih (by omega)
    · rename_i hc
      rw [if_neg hc]
      simpa using hc

theorem lead_drop (l : List Int) (j : Nat) (h : j ≤ lead l) : lead (l.drop j) + j = lead l := by
  induction l generalizing j with
  | nil => simp [lead] at h; subst h; rfl
  | cons c l ih =>
    cases j with
    | zero => rfl
    | succ j =>
      simp only [lead] at h ⊢
      split at h
      · rename_i hc
        rw [if_pos hc]
        have := ih j (by omega)
        simp only [List.drop_succ_cons]; omega
      · omega

theorem skp_past (zs : List Int) (i : Nat) (h : zs.length ≤ i) : skp zs i = i := by
  unfold skp; rw [List.drop_of_length_le h]; rfl

theorem skp_ge (zs : List Int) (i : Nat) : i ≤ skp zs i := by unfold skp; omega
theorem skp_le (zs : List Int) (i : Nat) (h : i ≤ zs.length) : skp zs i ≤ zs.length := by
  unfold skp; have := lead_le (zs.drop i); rw [List.length_drop] at this; omega

theorem skp_sp (zs : List Int) (i j : Nat) (h1 : i ≤ j) (h2 : j < skp zs i) : isSp (zs.getD j 0) = true := by
  unfold skp at h2
  have := lead_sp (zs.drop i) (j - i) (by omega)
  rw [List.getD_eq_getElem?_getD, List.getElem?_drop, show i + (j - i) = j from by omega, ← List.getD_eq_getElem?_getD] at this
  exact this

theorem skp_not (zs : List Int) (i : Nat) (h0 : i ≤ zs.length) (h : skp zs i < zs.length) : isSp (zs.getD (skp zs i) 0) = false := by
  unfold skp at h ⊢
  have := lead_not (zs.drop i) (by rw [List.length_drop]; omega)
  rw [List.getD_eq_getElem?_getD, List.getElem?_drop, ← List.getD_eq_getElem?_getD] at this
  exact this

theorem skp_same (zs : List Int) (i j : Nat) (h1 : i ≤ j) (h2 : j ≤ skp zs i) : skp zs j = skp zs i := by
  unfold skp at h2 ⊢
  have := lead_drop (zs.drop i) (j - i) (by omega)
  rw [List.drop_drop, show i + (j - i) = j from by omega] at this
  omega

/-- One step: a white space is passed over; another byte is where it ends. -/
theorem skp_step (zs : List Int) (k : Nat) (h : k < zs.length) (hc : isSp (zs.getD k 0) = true) : skp zs (k + 1) = skp zs k := by
  unfold skp
  rw [List.drop_eq_getElem_cons h]
  simp only [List.getD_eq_getElem?_getD, List.getElem?_eq_getElem h, Option.getD_some] at hc
  simp only [lead, hc, if_true]; omega

theorem skp_stop (zs : List Int) (k : Nat) (h : k < zs.length) (hc : isSp (zs.getD k 0) = false) : skp zs k = k := by
  unfold skp
  rw [List.drop_eq_getElem_cons h]
  simp only [List.getD_eq_getElem?_getD, List.getElem?_eq_getElem h, Option.getD_some] at hc
  simp [lead, hc]
end Go.Proofs.Qxb6002643a.Skip
