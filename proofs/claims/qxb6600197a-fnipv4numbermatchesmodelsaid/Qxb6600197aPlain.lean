/- Seat 197a: the plain law. No Go in sight: digits, values, the two ways of summing. -/
namespace Go.Proofs.Qxb6600197a
namespace Ip

/-- the value of a lower-case hexadecimal digit, or -1 -/
def dv (c : UInt8) : Int :=
  if 48 ≤ (c.toNat : Int) ∧ (c.toNat : Int) ≤ 57 then (c.toNat : Int) - 48
  else if 97 ≤ (c.toNat : Int) ∧ (c.toNat : Int) ≤ 102 then (c.toNat : Int) - 87 else -1
/-- a digit below the base -/
def good (b : Int) (c : UInt8) : Prop := 0 ≤ dv c ∧ dv c < b
def cap : Int := 4294967296
/-- the value, the last digit the lowest -/
def val (b : Int) : List UInt8 → Int
  | [] => 0
  | c :: l => dv c * b ^ l.length + val b l
/-- left to right, capped at each step -/
def fwd (b : Int) (n : Int) : List UInt8 → Int
  | [] => n
  | c :: l => fwd b (min (n * b + dv c) cap) l

theorem dv_ge (c : UInt8) : -1 ≤ dv c := by unfold dv; split <;> (try split) <;> omega
theorem dv_le (c : UInt8) : dv c ≤ 15 := by unfold dv; split <;> (try split) <;> omega

theorem pow_pos' (b : Int) (h : 1 ≤ b) (n : Nat) : 1 ≤ b ^ n := by
  induction n with
  | zero => simp
  | succ n ih =>
    rw [Int.pow_succ]
    have := Int.mul_le_mul ih h (by omega) (by omega)
    omega

theorem val_nonneg (b : Int) (h : 1 ≤ b) (l : List UInt8) (hl : ∀ c ∈ l, good b c) : 0 ≤ val b l := by
  induction l with
  | nil => simp [val]
  | cons c l ih =>
    have h1 := (hl c (by simp)).1
    have h2 := pow_pos' b h l.length
    have h3 := ih fun x hx => hl x (by simp [hx])
    have h4 : 0 ≤ dv c * b ^ l.length := Int.mul_nonneg h1 (by omega)
    unfold val
    omega

theorem fwd_val (b : Int) (h : 1 ≤ b) (l : List UInt8) : ∀ n : Int, 0 ≤ n → n ≤ cap → (∀ c ∈ l, good b c) →
    fwd b n l = min (n * b ^ l.length + val b l) cap := by
  induction l with
  | nil => intro n h0 h1 _; simp [fwd, val]; omega
  | cons c l ih =>
    intro n h0 h1 hl
    have hc := (hl c (by simp)).1
    have hl' : ∀ x ∈ l, good b x := fun x hx => hl x (by simp [hx])
    have hp := pow_pos' b h l.length
    have hv := val_nonneg b h l hl'
    have hnb : 0 ≤ n * b := Int.mul_nonneg h0 (by omega)
    have hcap : (0 : Int) ≤ cap := by decide
    unfold fwd
    rw [ih _ (by omega) (by omega) hl']
    have e : n * b ^ (c :: l).length + val b (c :: l) = (n * b + dv c) * b ^ l.length + val b l := by
      simp only [List.length_cons, val, Int.pow_succ, Int.add_mul, Int.mul_assoc, Int.mul_comm b]
      omega
    rw [e]
    by_cases hle : n * b + dv c ≤ cap
    · rw [Int.min_eq_left hle]
    · rw [Int.min_eq_right (by omega : cap ≤ n * b + dv c)]
      have h5 : cap ≤ cap * b ^ l.length := by
        have := Int.mul_le_mul (Int.le_refl cap) hp (by omega) hcap
        omega
      have h6 : cap * b ^ l.length ≤ (n * b + dv c) * b ^ l.length := Int.mul_le_mul (by omega) (Int.le_refl _) (by omega) (by omega)
      omega

theorem fwd_snoc (b : Int) (c : UInt8) (l : List UInt8) : ∀ n, fwd b n (l ++ [c]) = min (fwd b n l * b + dv c) cap := by
  induction l with
  | nil => intro n; rfl
  | cons x l ih => intro n; simp only [List.cons_append, fwd, ih]

theorem fwd_bd (b : Int) (h : 1 ≤ b) (l : List UInt8) (hl : ∀ c ∈ l, good b c) : 0 ≤ fwd b 0 l ∧ fwd b 0 l ≤ cap := by
  have hv := val_nonneg b h l hl
  have hcap : (0 : Int) ≤ cap := by decide
  rw [fwd_val b h l 0 (by omega) hcap hl]
  omega

/-! ### right to left -/
/-- what the second loop of the model holds behind the digits 'l' -/
def Back (b : Int) (l : List UInt8) (sum pow : Int) (over : Bool) : Prop :=
  sum = min (val b l) cap ∧ 1 ≤ pow ∧ pow ≤ 68719476736 ∧
  ((over = false ∧ pow = b ^ l.length ∧ pow ≤ cap) ∨ (over = true ∧ cap < b ^ l.length))

theorem back_nil (b : Int) : Back b [] 0 1 false := by
  refine ⟨by unfold val cap; omega, by omega, by omega, .inl ⟨rfl, by simp, by decide⟩⟩

theorem back_bd {b : Int} {l : List UInt8} {sum pow : Int} {over : Bool} (h : 1 ≤ b) (hl : ∀ c ∈ l, good b c) (hb : Back b l sum pow over) :
    0 ≤ sum ∧ sum ≤ cap ∧ 1 ≤ pow ∧ pow ≤ 68719476736 ∧ (over = false → pow ≤ cap) := by
  have hv := val_nonneg b h l hl
  have hcap : (0 : Int) ≤ cap := by decide
  obtain ⟨h1, h2, h3, h4⟩ := hb
  refine ⟨by omega, by omega, h2, h3, fun e => ?_⟩
  rcases h4 with ⟨_, _, h5⟩ | ⟨h5, _⟩
  · exact h5
  · rw [e] at h5; cases h5

/-- the step, the new sum and the new power said apart -/
theorem back_step {b : Int} {c : UInt8} {l : List UInt8} {sum pow sum' pow' : Int} {over over' : Bool} (h : 1 ≤ b) (h16 : b ≤ 16) (hc : good b c) (hl : ∀ c ∈ l, good b c)
    (hb : Back b l sum pow over)
    (hs : sum' = if dv c = 0 then sum else if over = true then cap else min (sum + dv c * pow) cap)
    (hp : pow' = if over = true then pow else pow * b)
    (ho : over' = if over = true then true else decide (cap < pow * b)) : Back b (c :: l) sum' pow' over' := by
  have hv := val_nonneg b h l hl
  have hcap : (0 : Int) ≤ cap := by decide
  have hcap' : cap = 4294967296 := rfl
  have h0 := hc.1
  obtain ⟨h1, h2, h3, h4⟩ := hb
  have hpp := pow_pos' b h l.length
  have hv2 : val b (c :: l) = dv c * b ^ l.length + val b l := rfl
  have hlen : b ^ (c :: l).length = b ^ l.length * b := by rw [List.length_cons, Int.pow_succ]
  rcases h4 with ⟨rfl, h5, h6⟩ | ⟨rfl, h5⟩
  · simp only [Bool.false_eq_true, if_false] at hs hp ho
    have hge : pow * 1 ≤ pow * b := Int.mul_le_mul (Int.le_refl _) h (by omega) (by omega)
    have hle : pow * b ≤ pow * 16 := Int.mul_le_mul (Int.le_refl _) h16 (by omega) (by omega)
    refine ⟨?_, by omega, by omega, ?_⟩
    · rw [hs, hv2, ← h5]
      by_cases hz : dv c = 0
      · rw [if_pos hz, hz, h1]; simp
      · rw [if_neg hz, h1]
        have hd : 0 ≤ dv c * pow := Int.mul_nonneg h0 (by omega)
        omega
    · by_cases hgt : cap < pow * b
      · right; rw [hlen, ← h5]; exact ⟨by rw [ho]; simpa using hgt, hgt⟩
      · left; rw [hlen, ← h5]; exact ⟨by rw [ho]; simpa using hgt, hp, by omega⟩
  · simp only [if_true] at hs hp ho
    have hge : b ^ l.length * 1 ≤ b ^ l.length * b := Int.mul_le_mul (Int.le_refl _) h (by omega) (by omega)
    refine ⟨?_, by omega, by omega, .inr ⟨ho, by rw [hlen]; omega⟩⟩
    rw [hs, hv2]
    by_cases hz : dv c = 0
    · rw [if_pos hz, hz, h1]; simp
    · rw [if_neg hz]
      have hd : 1 * b ^ l.length ≤ dv c * b ^ l.length := Int.mul_le_mul (by omega) (Int.le_refl _) (by omega) (by omega)
      omega

/-- the step in the walk's own tests -/
theorem back_round {b d : Int} {c : UInt8} {l : List UInt8} {sum pow sum' pow' : Int} {over over' : Bool} (h : 1 ≤ b) (h16 : b ≤ 16) (hc : good b c) (hl : ∀ c ∈ l, good b c)
    (hd : dv c = d) (hb : Back b l sum pow over)
    (hs : d = 0 ∧ sum' = sum ∨ d ≠ 0 ∧ over = true ∧ sum' = 4294967296 ∨ d ≠ 0 ∧ over = false ∧ sum + d * pow ≤ 4294967296 ∧ sum' = sum + d * pow ∨ d ≠ 0 ∧ over = false ∧ 4294967296 < sum + d * pow ∧ sum' = 4294967296)
    (hp : over = true ∧ pow' = pow ∧ over' = true ∨ over = false ∧ pow' = pow * b ∧ (4294967296 < pow * b ∧ over' = true ∨ pow * b ≤ 4294967296 ∧ over' = false)) : Back b (c :: l) sum' pow' over' := by
  subst hd
  have hcap : cap = 4294967296 := rfl
  refine back_step h h16 hc hl hb ?_ ?_ ?_
  · rcases hs with ⟨h1, rfl⟩ | ⟨h1, rfl, rfl⟩ | ⟨h1, rfl, h2, rfl⟩ | ⟨h1, rfl, h2, rfl⟩
    · rw [if_pos h1]
    · rw [if_neg h1, if_pos rfl, hcap]
    · rw [if_neg h1, if_neg (by simp), hcap, Int.min_eq_left h2]
    · rw [if_neg h1, if_neg (by simp), hcap, Int.min_eq_right (by omega)]
  · rcases hp with ⟨rfl, rfl, rfl⟩ | ⟨rfl, rfl, _⟩
    · rw [if_pos rfl]
    · rw [if_neg (by simp)]
  · rcases hp with ⟨rfl, rfl, rfl⟩ | ⟨rfl, rfl, ⟨h1, rfl⟩ | ⟨h1, rfl⟩⟩
    · rw [if_pos rfl]
    · rw [if_neg (by simp), hcap]; exact (decide_eq_true h1).symm
    · rw [if_neg (by simp), hcap]; exact (decide_eq_false (by omega)).symm

theorem back_fwd {b : Int} {l : List UInt8} {sum pow : Int} {over : Bool} (h : 1 ≤ b) (hl : ∀ c ∈ l, good b c) (hb : Back b l sum pow over) : sum = fwd b 0 l := by
  rw [fwd_val b h l 0 (by omega) (by decide) hl, hb.1]
  simp

end Ip
end Go.Proofs.Qxb6600197a
