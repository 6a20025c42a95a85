/- Seat 405a: the plain law. The allowed bytes; a name is valid; counting them. No Go in sight. -/
namespace Go.Proofs.Qxb6600405a
namespace Nm

def al (c : UInt8) : Bool :=
  decide (97 ≤ (c.toNat : Int) ∧ (c.toNat : Int) ≤ 122) || decide (65 ≤ (c.toNat : Int) ∧ (c.toNat : Int) ≤ 90) || decide (48 ≤ (c.toNat : Int) ∧ (c.toNat : Int) ≤ 57) ||
    ([95, 46, 58, 64, 45] : List UInt8).contains c

def abc : List UInt8 := [97, 98, 99, 100, 101, 102, 103, 104, 105, 106, 107, 108, 109, 110, 111, 112, 113, 114, 115, 116, 117, 118, 119, 120, 121, 122, 65, 66, 67, 68, 69, 70, 71, 72, 73, 74, 75, 76, 77, 78, 79, 80, 81, 82, 83, 84, 85, 86, 87, 88, 89, 90, 48, 49, 50, 51, 52, 53, 54, 55, 56, 57, 95, 46, 58, 64, 45]

theorem abc_al (c : UInt8) : abc.contains c = al c := by
  have key : ∀ n : Fin 256, abc.contains (UInt8.ofNat n.val) = al (UInt8.ofNat n.val) := by decide +kernel
  have h := key ⟨c.toNat, c.toNat_lt⟩
  simpa using h

/-- how many are allowed -/
def cnt (l : List UInt8) : Nat := (l.filter al).length
/-- valid -/
def vl (l : List UInt8) : Bool := decide (1 ≤ l.length ∧ l.length ≤ 128 ∧ ∀ c ∈ l, al c = true)

theorem cnt_le (l : List UInt8) : cnt l ≤ l.length := List.length_filter_le _ _
theorem cnt_snoc (l : List UInt8) (c : UInt8) : cnt (l ++ [c]) = cnt l + if al c = true then 1 else 0 := by
  unfold cnt
  rw [List.filter_append]
  cases h : al c <;> simp [h]
theorem cnt_all (l : List UInt8) : cnt l = l.length ↔ ∀ c ∈ l, al c = true := by
  unfold cnt
  rw [List.length_filter_eq_length_iff]

theorem vl_cnt (l : List UInt8) : vl l = decide (cnt l = l.length ∧ 1 ≤ cnt l ∧ cnt l ≤ 128) := by
  unfold vl
  rw [decide_eq_decide]
  constructor
  · rintro ⟨h1, h2, h3⟩
    have := (cnt_all l).2 h3
    omega
  · rintro ⟨h1, h2, h3⟩
    exact ⟨by omega, by omega, (cnt_all l).1 h1⟩

end Nm
end Go.Proofs.Qxb6600405a
