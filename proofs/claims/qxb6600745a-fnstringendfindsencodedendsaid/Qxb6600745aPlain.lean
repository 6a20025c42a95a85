/- Seat 745a: the plain law. A string encoder, the backslashes right before a place, the places between two encoded bytes. No Go in sight. -/
namespace Go.Proofs.Qxb6600745a
namespace Se

def hexs : List UInt8 := [48, 49, 50, 51, 52, 53, 54, 55, 56, 57, 97, 98, 99, 100, 101, 102]
def hexOf (n : Nat) : UInt8 := hexs.getD (n % 16) 48

/-- a byte as it stands inside a JSON string -/
def je (c : UInt8) : List UInt8 :=
  if c = 34 then [92, 34] else if c = 92 then [92, 92] else if c = 47 then [92, 47] else if c = 10 then [92, 110]
  else if c.toNat < 32 then [92, 117, 48, 48, hexOf (c.toNat / 16), hexOf c.toNat] else [c]
def enc : List UInt8 → List UInt8
  | [] => []
  | c :: l => je c ++ enc l

theorem enc_append (a b : List UInt8) : enc (a ++ b) = enc a ++ enc b := by
  induction a with
  | nil => rfl
  | cons c a ih => simp only [List.cons_append, enc, ih, List.append_assoc]
theorem enc_one (c : UInt8) : enc [c] = je c := by simp [enc]

theorem je_no (c : UInt8) (h : c ≠ 34) : 34 ∉ je c := by
  have key : ∀ n : Fin 256, UInt8.ofNat n.val ≠ 34 → 34 ∉ je (UInt8.ofNat n.val) := by decide +kernel
  have := key ⟨c.toNat, c.toNat_lt⟩
  simp only [UInt8.ofNat_toNat] at this
  exact this h
theorem je_last (c : UInt8) (h : c ≠ 92) : ∃ y z, je c = y ++ [z] ∧ z ≠ 92 := by
  have key : ∀ n : Fin 256, UInt8.ofNat n.val ≠ 92 → (je (UInt8.ofNat n.val)).reverse.headD 92 ≠ 92 := by decide +kernel
  have := key ⟨c.toNat, c.toNat_lt⟩
  simp only [UInt8.ofNat_toNat] at this
  have h1 := this h
  cases hr : (je c).reverse with
  | nil => rw [hr] at h1; exact absurd rfl h1
  | cons z y =>
    rw [hr] at h1
    refine ⟨y.reverse, z, ?_, h1⟩
    rw [← List.reverse_reverse (je c), hr, List.reverse_cons]
theorem je_len (c : UInt8) : (je c).length ≤ 6 := by
  unfold je
  repeat' split
  all_goals simp

theorem enc_len (l : List UInt8) : (enc l).length ≤ 6 * l.length := by
  induction l with
  | nil => simp [enc]
  | cons c l ih => have := je_len c; simp only [enc, List.length_append, List.length_cons]; omega

/-- the backslashes at a list's head -/
def tr : List UInt8 → Nat
  | [] => 0
  | c :: l => if c = 92 then tr l + 1 else 0
/-- .. at its end -/
def T (x : List UInt8) : Nat := tr x.reverse

theorem T_snoc (x : List UInt8) (c : UInt8) : T (x ++ [c]) = if c = 92 then T x + 1 else 0 := by
  unfold T; rw [List.reverse_append]; rfl
theorem tr_le (x : List UInt8) : tr x ≤ x.length := by
  induction x with
  | nil => exact Nat.le_refl _
  | cons c l ih => unfold tr; split <;> simp <;> omega
theorem tr_lt (x : List UInt8) : ∀ b, b < tr x → x[b]? = some 92 := by
  induction x with
  | nil => intro b h; simp [tr] at h
  | cons c l ih =>
    intro b h
    unfold tr at h
    split at h
    · rename_i hc
      cases b with
      | zero => simp [hc]
      | succ b => simp; exact ih b (by omega)
    · omega
theorem tr_at (x : List UInt8) (h : tr x < x.length) : x[tr x]? ≠ some 92 := by
  induction x with
  | nil => simp at h
  | cons c l ih =>
    unfold tr at h ⊢
    split at h
    · rename_i hc
      rw [if_pos hc]
      simp at h ⊢
      exact ih h
    · rename_i hc
      rw [if_neg hc]
      simp [hc]

theorem rev_at (l : List UInt8) (i b : Nat) (hi : i ≤ l.length) (hb : b < i) : (l.take i).reverse[b]? = l[i - 1 - b]? := by
  rw [List.getElem?_reverse (by simp; omega), List.length_take, Nat.min_eq_left hi, List.getElem?_take_of_lt (by omega)]
theorem T_lt (l : List UInt8) (i b : Nat) (hi : i ≤ l.length) (h : b < T (l.take i)) : l[i - 1 - b]? = some 92 := by
  have h1 := tr_le (l.take i).reverse
  have h2 : (l.take i).reverse.length = i := by simp; omega
  unfold T at h
  rw [← rev_at l i b hi (by omega)]
  exact tr_lt _ b h
theorem T_at (l : List UInt8) (i : Nat) (hi : i ≤ l.length) (h : T (l.take i) < i) : l[i - 1 - T (l.take i)]? ≠ some 92 := by
  rw [← rev_at l i _ hi h]
  exact tr_at _ (by have h2 : (l.take i).reverse.length = i := by simp; omega
                    rw [h2]; exact h)

theorem T_le (x : List UInt8) : T x ≤ x.length := by have := tr_le x.reverse; simpa [T] using this

/-- behind whole encoded bytes the number of backslashes stays even -/
theorem T_enc (l : List UInt8) : ∀ x, T x % 2 = 0 → T (x ++ enc l) % 2 = 0 ∧ T (x ++ enc l) ≤ T x + (enc l).length := by
  induction l with
  | nil => intro x h; simp [enc, h]
  | cons c l ih =>
    intro x h
    have e : x ++ enc (c :: l) = (x ++ je c) ++ enc l := by simp [enc]
    have hx : T (x ++ je c) % 2 = 0 ∧ T (x ++ je c) ≤ T x + (je c).length := by
      by_cases hc : c = 92
      · subst hc
        have e2 : je 92 = [92] ++ [92] := by decide
        rw [e2, ← List.append_assoc, T_snoc, T_snoc]
        simp; omega
      · obtain ⟨y, z, hy, hz⟩ := je_last c hc
        rw [hy, ← List.append_assoc, T_snoc, if_neg hz]
        simp
    obtain ⟨h1, h2⟩ := ih (x ++ je c) hx.1
    rw [e]
    refine ⟨h1, ?_⟩
    have : (enc (c :: l)).length = (je c).length + (enc l).length := by simp [enc]
    omega

theorem enc_no (l : List UInt8) (h : 34 ∉ l) : 34 ∉ enc l := by
  induction l with
  | nil => simp [enc]
  | cons c l ih =>
    simp only [List.mem_cons, not_or] at h
    simp only [enc, List.mem_append, not_or]
    exact ⟨je_no c (fun e => h.1 e.symm), ih h.2⟩

/-- the first quote of a list, or none -/
theorem first_quote (l : List UInt8) : 34 ∉ l ∨ ∃ u v, l = u ++ 34 :: v ∧ 34 ∉ u := by
  induction l with
  | nil => left; simp
  | cons c l ih =>
    by_cases hc : c = 34
    · right; exact ⟨[], l, by rw [hc]; rfl, by simp⟩
    · rcases ih with h | ⟨u, v, rfl, hu⟩
      · left; simp only [List.mem_cons, not_or]; exact ⟨fun e => hc e.symm, h⟩
      · right; exact ⟨c :: u, v, rfl, by simp only [List.mem_cons, not_or]; exact ⟨fun e => hc e.symm, hu⟩⟩

/-- the text: what stands ahead, the opening quote, the encoded content, the closing quote, what follows -/
def text (pre con tail : List UInt8) : List UInt8 := pre ++ 34 :: (enc con ++ 34 :: tail)
/-- the places between two encoded bytes -/
def Pl (pre con : List UInt8) (i : Nat) : Prop := ∃ a r, con = a ++ r ∧ i = (pre ++ 34 :: enc a).length

/-- what one turn of stringEnd finds -/
def Turn (l : List UInt8) (E : Nat) (P : Nat → Prop) (i : Nat) : Prop :=
  ∃ u v, l.drop i = u ++ 34 :: v ∧ 34 ∉ u ∧ T (l.take (i + u.length)) < i + u.length ∧
    ((T (l.take (i + u.length)) % 2 = 0 ∧ i + u.length = E) ∨ (T (l.take (i + u.length)) % 2 = 1 ∧ P (i + u.length + 1)))

theorem turn (pre con tail : List UInt8) (i : Nat) (h : Pl pre con i) : Turn (text pre con tail) (pre ++ 34 :: enc con).length (Pl pre con) i := by
  obtain ⟨a, r, rfl, rfl⟩ := h
  have hT0 : T (pre ++ [34]) = 0 := by rw [T_snoc]; rfl
  have hpa : ∀ c, pre ++ 34 :: enc c = (pre ++ [34]) ++ enc c := fun c => by simp
  have hTe : ∀ c, T (pre ++ 34 :: enc c) % 2 = 0 ∧ T (pre ++ 34 :: enc c) ≤ (enc c).length := by
    intro c
    rw [hpa]
    have := T_enc c (pre ++ [34]) (by rw [hT0])
    rw [hT0] at this
    omega
  rcases first_quote r with hr | ⟨u, v, rfl, hu⟩
  · have e1 : text pre (a ++ r) tail = (pre ++ 34 :: enc a) ++ (enc r ++ 34 :: tail) := by simp [text, enc_append]
    have e2 : text pre (a ++ r) tail = (pre ++ 34 :: enc (a ++ r)) ++ (34 :: tail) := by simp [text]
    have hlen : (pre ++ 34 :: enc a).length + (enc r).length = (pre ++ 34 :: enc (a ++ r)).length := by simp [enc_append]; omega
    refine ⟨enc r, tail, ?_, enc_no r hr, ?_⟩
    · rw [e1, List.drop_left]
    · rw [hlen, e2, List.take_left]
      have := hTe (a ++ r)
      refine ⟨by simp; omega, .inl ⟨this.1, rfl⟩⟩
  · have e0 : enc (u ++ 34 :: v) = enc u ++ [92] ++ 34 :: enc v := by
      rw [enc_append]; simp only [enc]
      have : je 34 = [92, 34] := by decide
      rw [this]; simp
    have e1 : text pre (a ++ (u ++ 34 :: v)) tail = (pre ++ 34 :: enc a) ++ ((enc u ++ [92]) ++ 34 :: (enc v ++ 34 :: tail)) := by
      simp only [text]; rw [enc_append, e0]; simp
    have e2 : text pre (a ++ (u ++ 34 :: v)) tail = (pre ++ 34 :: enc (a ++ u) ++ [92]) ++ (34 :: (enc v ++ 34 :: tail)) := by
      rw [e1]; simp [enc_append]
    have hlen : (pre ++ 34 :: enc a).length + (enc u ++ [92]).length = (pre ++ 34 :: enc (a ++ u) ++ [92]).length := by simp [enc_append]; omega
    refine ⟨enc u ++ [92], enc v ++ 34 :: tail, ?_, ?_, ?_⟩
    · rw [e1, List.drop_left]
    · simp only [List.mem_append, not_or]
      exact ⟨enc_no u hu, by decide⟩
    · rw [hlen, e2, List.take_left, T_snoc, if_pos rfl]
      have := hTe (a ++ u)
      refine ⟨by simp; omega, .inr ⟨by omega, a ++ u ++ [34], v, by simp, ?_⟩⟩
      rw [enc_append _ [34], enc_one]
      have : je 34 = [92, 34] := by decide
      rw [this]; simp; omega

theorem start_pl (pre con : List UInt8) : Pl pre con (pre.length + 1) := ⟨[], con, rfl, by simp [enc]⟩

end Se
end Go.Proofs.Qxb6600745a
