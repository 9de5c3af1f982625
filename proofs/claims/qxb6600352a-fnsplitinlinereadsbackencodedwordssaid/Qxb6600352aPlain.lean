/-
  Plain functions on bytes (as Int), no Go in sight.
-/
namespace Go.Proofs.Qxb6600352a.Plain

def isSp (c : Int) : Bool := c == 32 || c == 9 || c == 10 || c == 11 || c == 12 || c == 13
def ends (c : Int) : Bool := c == 32 || c == 9 || c == 10 || c == 13
def isHx (c : Int) : Bool := (decide (48 ≤ c) && decide (c ≤ 57)) || (decide (97 ≤ c) && decide (c ≤ 102)) || (decide (65 ≤ c) && decide (c ≤ 70))
def hexV (c : Int) : Int := if c ≤ 57 then c - 48 else if c ≤ 70 then c - 55 else c - 87
def hexS (c : Int) : Int := if isHx c = true then hexV c else -1
def unesc (c : Int) : Int := if c = 110 then 10 else if c = 114 then 13 else if c = 116 then 9 else if c = 98 then 8 else if c = 97 then 7 else c

theorem isSp_iff (c : Int) : isSp c = true ↔ c = 32 ∨ (9 ≤ c ∧ c ≤ 13) := by
  simp [isSp]; omega
theorem ends_iff (c : Int) : ends c = true ↔ c = 32 ∨ c = 9 ∨ c = 10 ∨ c = 13 := by
  simp [ends, or_assoc]
theorem isHx_iff (c : Int) : isHx c = true ↔ (48 ≤ c ∧ c ≤ 57) ∨ (97 ≤ c ∧ c ≤ 102) ∨ (65 ≤ c ∧ c ≤ 70) := by
  simp [isHx, or_assoc]
theorem hexV_bd (c : Int) (h : isHx c = true) : 0 ≤ hexV c ∧ hexV c ≤ 15 := by
  rw [isHx_iff] at h
  unfold hexV
  split
  · omega
  · split <;> omega
theorem unesc_bd (c : Int) (h : 0 ≤ c) (h' : c ≤ 255) : 0 ≤ unesc c ∧ unesc c ≤ 255 := by
  unfold unesc
  repeat' split
  all_goals omega

/-- The hex digits by their places. -/
def lo (k : Nat) : Int := if k < 10 then 48 + k else 87 + k
def up (k : Nat) : Int := if k < 10 then 48 + k else 55 + k
theorem hexS_lo (k : Nat) (h : k < 16) (c : Int) (hc : lo k = c ∨ up k = c) : hexS c = k := by
  have hx : isHx c = true := by
    rw [isHx_iff]
    rcases hc with rfl | rfl
    · unfold lo; split <;> omega
    · unfold up; split <;> omega
  rw [hexS, if_pos hx]
  unfold hexV
  rcases hc with rfl | rfl
  · unfold lo; repeat' split
    all_goals omega
  · unfold up; repeat' split
    all_goals omega
theorem hexS_none (c : Int) (h : ∀ j, j < 16 → ¬ lo j = c ∧ ¬ up j = c) : hexS c = -1 := by
  rw [hexS, if_neg]
  rw [isHx_iff]
  intro hx
  rcases hx with hx | hx | hx
  · have := (h (c - 48).toNat (by omega)).1
    unfold lo at this
    rw [if_pos (by omega)] at this
    omega
  · have := (h (c - 87).toNat (by omega)).1
    unfold lo at this
    rw [if_neg (by omega)] at this
    omega
  · have := (h (c - 55).toNat (by omega)).2
    unfold up at this
    rw [if_neg (by omega)] at this
    omega
end Go.Proofs.Qxb6600352a.Plain
