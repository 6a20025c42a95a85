/- Seat 405a: walks of the small functions. -/
import Derived.Test.Qxb6600405aRows
import Derived.Test.Qxb6600405aShelf
import Derived.Test.Qxb6600405aPlain
import Derived.WalkKit
import Derived.WalkSpells
import Derived.Below
import Derived.Lib.Bytealg
import Derived.Deep.Light
namespace Go.Proofs.Qxb6600405a
open Go.RowKit
namespace Nm

theorem ret_bool {a b : Bool} (h : a = b) : Ending.returned (.bool a) = .returned (.bool b) := by rw [h]

theorem bytes_no (s : ByteArray) (w : World) (_hs : s.size ≤ maxLen) (h : 1048576 < (s.size : Int)) :
    Calls Try.prog 7 #[.string s] w fun e w' => e = .returned (.bool false) ∧ w = w' := by
  go_enter Try.func7, Try.ntmps7
  go_wp2
  go_ret
  exact ⟨rfl, rfl⟩
theorem bytes_yes (s : ByteArray) (w : World) (h : (s.size : Int) ≤ 1048576) :
    Calls Try.prog 7 #[.string s] w fun e w' => e = .returned (.bool true) ∧ w = w' := by
  go_enter Try.func7, Try.ntmps7
  go_wp2
  go_ret
  exact ⟨rfl, rfl⟩

theorem idx_at (c : UInt8) (n : Int) (h : Lib.indexByte [95, 46, 58, 64, 45] c = n) (w : World) :
    Calls Try.prog 19 #[.string ⟨#[95, 46, 58, 64, 45]⟩, .int .u8 c.toNat] w fun e w' => e = .returned (.int .i64 n) ∧ w = w' := by
  subst h
  refine (Try.strings_IndexByte ⟨#[95, 46, 58, 64, 45]⟩ c.toNat w).mono fun e w' h => ⟨?_, h.2.symm⟩
  rw [h.1]; simp

theorem idx_pos (l : List UInt8) (c : UInt8) : (0 ≤ Lib.indexByte l c) ↔ l.contains c = true := by
  induction l with
  | nil => simp [Lib.indexByte]
  | cons b l ih =>
    have hge := Lib.indexByte_ge l c
    unfold Lib.indexByte
    by_cases hb : b = c
    · subst hb; simp
    · have h1 : (b == c) = false := by simpa using hb
      have h2 : (c == b) = false := by simpa using fun h => hb h.symm
      rw [h1]
      simp only [Bool.false_eq_true, if_false, List.contains_cons, h2, Bool.false_or, ← ih]
      split
      · rename_i h; have := beq_iff_eq.1 h; omega
      · rename_i h
        have : Lib.indexByte l c ≠ -1 := fun e => h (by rw [e]; rfl)
        omega

/-- ident.allowed -/
theorem allowed_yes (c : UInt8) (w : World) (h : (97 ≤ (c.toNat : Int) ∧ (c.toNat : Int) ≤ 122) ∨ (65 ≤ (c.toNat : Int) ∧ (c.toNat : Int) ≤ 90) ∨ (48 ≤ (c.toNat : Int) ∧ (c.toNat : Int) ≤ 57)) :
    Calls Try.prog 17 #[.int .u8 c.toNat] w fun e w' => e = .returned (.bool true) ∧ w = w' := by
  rcases h with ⟨h1, h2⟩ | ⟨h1, h2⟩ | ⟨h1, h2⟩
  all_goals
    go_enter Try.func17, Try.ntmps17
    go_wp2
    go_ret
    exact ⟨rfl, rfl⟩
theorem allowed_idx (c : UInt8) (n : Int) (HN : Hid (Lib.indexByte [95, 46, 58, 64, 45] c = n)) (b : Bool) (hb : b = decide (0 ≤ n)) (w : World)
    (h : (c.toNat : Int) ≤ 47 ∨ (58 ≤ (c.toNat : Int) ∧ (c.toNat : Int) ≤ 64) ∨ (91 ≤ (c.toNat : Int) ∧ (c.toNat : Int) ≤ 96) ∨ 123 ≤ (c.toNat : Int)) :
    Calls Try.prog 17 #[.int .u8 c.toNat] w fun e w' => e = .returned (.bool b) ∧ w = w' := by
  subst hb
  rcases h with h | ⟨h1, h2⟩ | ⟨h1, h2⟩ | h
  all_goals
    go_enter Try.func17, Try.ntmps17
    go_wp2_with (go_at_call 19; refine (idx_at _ _ HN.out _).mono ?_; rintro e w' ⟨rfl, rfl⟩)
    go_ret
    exact ⟨rfl, rfl⟩

theorem allowed_any (c : UInt8) (w : World) : Calls Try.prog 17 #[.int .u8 c.toNat] w fun e w' => e = .returned (.bool (al c)) ∧ w = w' := by
  by_cases h : (97 ≤ (c.toNat : Int) ∧ (c.toNat : Int) ≤ 122) ∨ (65 ≤ (c.toNat : Int) ∧ (c.toNat : Int) ≤ 90) ∨ (48 ≤ (c.toNat : Int) ∧ (c.toNat : Int) ≤ 57)
  · have e : al c = true := by
      unfold al
      rcases h with h | h | h <;> simp only [decide_eq_true h, Bool.true_or, Bool.or_true]
    rw [e]
    exact allowed_yes c w h
  · refine allowed_idx c _ rfl (al c) ?_ w (by omega)
    unfold al
    rw [decide_eq_false (by omega), decide_eq_false (by omega), decide_eq_false (by omega), Bool.false_or, Bool.false_or, Bool.false_or]
    rw [Bool.eq_iff_iff, decide_eq_true_eq, idx_pos]

theorem has_mem (l : List UInt8) (k : Nat) (h : k < l.length) (c : UInt8) (e : (((ByteArray.mk l.toArray)[k]'h).toNat : Int) = (c.toNat : Int)) : l.contains c = true := by
  have e' : l[k] = c := UInt8.toNat_inj.1 (by have e2 : (ByteArray.mk l.toArray)[k]'h = l[k] := rfl; rw [e2] at e; omega)
  simp only [List.contains_iff_mem]
  exact e' ▸ List.getElem_mem h
theorem has_not (l : List UInt8) (k : Nat) (h : k < l.length) (c : UInt8) (e : (((((ByteArray.mk l.toArray)[k]'h).toNat : Int) == (c.toNat : Int))) = false) : l[k] ≠ c := by
  intro e'
  rw [beq_eq_false_iff_ne] at e
  apply e
  rw [← e']
  rfl
theorem has_none (l : List UInt8) (c : UInt8) (h : ∀ j (hj : j < l.length), l[j] ≠ c) : l.contains c = false := by
  cases hc : l.contains c
  · rfl
  · have := List.contains_iff_mem.1 hc
    obtain ⟨j, hj, e⟩ := List.getElem_of_mem this
    exact absurd e (h j hj)

set_option maxHeartbeats 400000 in
/-- zzInAllowed -/
theorem in_any (c : UInt8) (x : Bool) (HX : Hid (abc.contains c = x)) (w : World) : Calls Try.prog 18 #[.int .u8 c.toNat] w fun e w' => e = .returned (.bool x) ∧ w = w' := by
  go_enter Try.func18, Try.ntmps18
  go_wp2
  go_loop [3] (fun i => ∃ k : Nat, k ≤ 67 ∧ i = .int .i64 k ∧ ∀ j (hj : j < abc.length), j < k → abc[j] ≠ c) (fun i => 67 - (intOf i).toNat)
  case atStart => exact ⟨0, Nat.zero_le _, rfl, fun j _ h => absurd h (by omega)⟩
  case round =>
    obtain ⟨k, hk, rfl, hn⟩ := hrel
    have HN : Hid (∀ j (hj : j < abc.length), j < k → abc[j] ≠ c) := hn
    clear hn
    by_cases hlt : k < 67
    · go_wp2
      case roundEnd =>
        go_round
        case rel =>
          go_light
          have hne := has_not abc k hlt c (by assumption)
          refine ⟨k + 1, by omega, by go_num, fun j hj h => ?_⟩
          by_cases e : j = k
          · subst e; exact hne
          · exact HN.out j hj (by omega)
        case measure => go_light; simp [intOf]; omega
      · have he := has_mem abc k hlt c (beq_iff_eq.1 (by assumption))
        go_ret
        exact ⟨ret_bool (by rw [← HX.out]; exact he.symm), rfl⟩
    · go_wp2
      go_ret
      exact ⟨ret_bool (by rw [← HX.out]; exact (has_none abc c fun j hj => HN.out j hj (by have : abc.length = 67 := rfl; omega)).symm), rfl⟩
end Nm
end Go.Proofs.Qxb6600405a
