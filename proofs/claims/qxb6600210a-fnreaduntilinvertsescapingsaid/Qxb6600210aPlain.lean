/- Seat 210a: the plain law. Reading up to an unescaped stop, the parity model, escaping. No Go in sight. -/
namespace Go.Proofs.Qxb6600210a
namespace Ru

/-- a byte ahead of what is read -/
def put (acc : List UInt8) (r : Option (List UInt8 × List UInt8)) : Option (List UInt8 × List UInt8) := r.map fun x => (acc ++ x.1, x.2)

/-- readUntil, by recursion on the text: what is read and the rest; none where a backslash ends the text -/
def rd (st : UInt8 → Bool) : List UInt8 → Option (List UInt8 × List UInt8)
  | [] => some ([], [])
  | [c] => if c = 92 then none else if st c = true then some ([], [c]) else some ([c], [])
  | c :: d :: l => if c = 92 then put [d] (rd st l) else if st c = true then some ([], c :: d :: l) else put [c] (rd st (d :: l))

/-- the parity model: 'p': an odd run of backslashes stands right before -/
def md (st : UInt8 → Bool) : Bool → List UInt8 → Option (List UInt8 × List UInt8)
  | p, [] => if p = true then none else some ([], [])
  | p, c :: l => if c = 92 then (if p = true then put [92] (md st false l) else md st true l)
      else if p = false ∧ st c = true then some ([], c :: l) else put [c] (md st false l)

/-- escaping -/
def esc (st : UInt8 → Bool) : List UInt8 → List UInt8
  | [] => []
  | c :: l => if c = 92 ∨ st c = true then 92 :: c :: esc st l else c :: esc st l

theorem put_put (a b : List UInt8) (r) : put a (put b r) = put (a ++ b) r := by
  cases r <;> simp [put]
theorem put_nil (r) : put [] r = r := by cases r <;> simp [put]
theorem put_some (a k r : List UInt8) : put a (some (k, r)) = some (a ++ k, r) := rfl
theorem put_none (a : List UInt8) : put a none = none := rfl

theorem rd_bs (st) (d : UInt8) (l : List UInt8) : rd st (92 :: d :: l) = put [d] (rd st l) := by simp [rd]
theorem rd_bs_end (st) : rd st [92] = none := by simp [rd]
theorem rd_stop (st) (c : UInt8) (l : List UInt8) (h : c ≠ 92) (hs : st c = true) : rd st (c :: l) = some ([], c :: l) := by
  cases l <;> simp [rd, h, hs]
theorem rd_other (st) (c : UInt8) (l : List UInt8) (h : c ≠ 92) (hs : st c = false) : rd st (c :: l) = put [c] (rd st l) := by
  cases l <;> simp [rd, h, hs, put]
theorem rd_nil (st) : rd st [] = some ([], []) := by simp [rd]

/-- the parity model answers as the reader does -/
theorem md_rd (st) : ∀ (n : Nat) (l : List UInt8), l.length ≤ n → md st false l = rd st l ∧ (md st true l = match l with | [] => none | d :: l' => put [d] (rd st l')) := by
  intro n
  induction n with
  | zero =>
    intro l h
    obtain rfl : l = [] := List.length_eq_zero_iff.1 (by omega)
    simp [md, rd]
  | succ n ih =>
    intro l h
    cases l with
    | nil => simp [md, rd]
    | cons c l =>
      have hl : l.length ≤ n := by simpa using h
      obtain ⟨h1, h2⟩ := ih l hl
      refine ⟨?_, ?_⟩
      · by_cases hc : c = 92
        · subst hc
          simp only [md, if_true, Bool.false_eq_true, if_false, h2]
          cases l with
          | nil => simp [rd]
          | cons d l' => rw [rd_bs]
        · by_cases hs : st c = true
          · rw [rd_stop st c l hc hs]; simp [md, hc, hs]
          · have hs' : st c = false := by simpa using hs
            rw [rd_other st c l hc hs']; simp [md, hc, hs', h1]
      · by_cases hc : c = 92
        · subst hc; simp [md, h1]
        · simp [md, hc, h1]

/-- an escaped key reads back -/
theorem rd_esc (st) (tail : List UInt8) (ht : ∀ c l, tail = c :: l → c ≠ 92 ∧ st c = true) : ∀ key : List UInt8, rd st (esc st key ++ tail) = some (key, tail) := by
  intro key
  induction key with
  | nil =>
    cases tail with
    | nil => simp [esc, rd]
    | cons c l =>
      obtain ⟨h1, h2⟩ := ht c l rfl
      simp only [esc, List.nil_append]
      rw [rd_stop st c l h1 h2]
  | cons c key ih =>
    by_cases hc : c = 92 ∨ st c = true
    · have e : esc st (c :: key) ++ tail = 92 :: c :: (esc st key ++ tail) := by simp [esc, hc]
      rw [e, rd_bs, ih, put_some]; rfl
    · have e : esc st (c :: key) ++ tail = c :: (esc st key ++ tail) := by simp [esc, hc]
      have h1 : c ≠ 92 := fun h => hc (.inl h)
      have h2 : st c = false := by
        cases hs : st c
        · rfl
        · exact absurd (.inr hs) hc
      rw [e, rd_other st c _ h1 h2, ih, put_some]; rfl

theorem esc_snoc (st) (c : UInt8) (l : List UInt8) : esc st (l ++ [c]) = esc st l ++ (if c = 92 ∨ st c = true then [92, c] else [c]) := by
  induction l with
  | nil => simp only [List.nil_append, esc]
  | cons x l ih => simp only [List.cons_append, esc, ih]; split <;> simp

theorem esc_le (st) (l : List UInt8) : (esc st l).length ≤ 2 * l.length := by
  induction l with
  | nil => simp [esc]
  | cons x l ih => simp only [esc]; split <;> simp <;> omega

end Ru
end Go.Proofs.Qxb6600210a
