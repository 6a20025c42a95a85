/- Seat 210a: zzE1HasByte, the length bounds, errors.New. -/
import Derived.Test.Qxb6600210aWa
namespace Go.Proofs.Qxb6600210a
open Go.RowKit
namespace Ru

theorem ret_bool {a b : Bool} (h : a = b) : Ending.returned (.bool a) = .returned (.bool b) := by rw [h]

theorem has_mem (l : List UInt8) (k : Nat) (h : k < l.length) (c : UInt8) (e : (((ByteArray.mk l.toArray)[k]'h).toNat : Int) = (c.toNat : Int)) : l.contains c = true := by
  have e' : l[k] = c := UInt8.toNat_inj.1 (by have e2 : (ByteArray.mk l.toArray)[k]'h = l[k] := rfl; rw [e2] at e; omega)
  simp only [List.contains_iff_mem]
  exact e' ▸ List.getElem_mem h
theorem has_not (l : List UInt8) (k : Nat) (h : k < l.length) (c : UInt8) (e : (((((ByteArray.mk l.toArray)[k]'h).toNat : Int) == (c.toNat : Int))) = false) : l[k] ≠ c := by
  intro e'
  rw [beq_eq_false_iff_ne] at e
  apply e
  rw [← e']
  rfl
theorem has_none (l : List UInt8) (c : UInt8) (h : ∀ j (hj : j < l.length), l[j] ≠ c) : l.contains c = false := by
  cases hc : l.contains c
  · rfl
  · have := List.contains_iff_mem.1 hc
    obtain ⟨j, hj, e⟩ := List.getElem_of_mem this
    exact absurd e (h j hj)

set_option maxHeartbeats 400000 in
/-- zzE1HasByte -/
theorem has_any (l : List UInt8) (c : UInt8) (hl : l.length ≤ 1048576) (w : World) :
    Calls Try.prog 10 #[.string ⟨l.toArray⟩, .int .u8 c.toNat] w fun e w' => e = .returned (.bool (l.contains c)) ∧ w = w' := by
  generalize hx : l.contains c = x
  have HX : Hid (l.contains c = x) := hx
  clear hx
  go_enter Try.func10, Try.ntmps10
  go_wp2
  go_loop [5] (fun i => ∃ k : Nat, k ≤ l.length ∧ i = .int .i64 k ∧ ∀ j (hj : j < l.length), j < k → l[j] ≠ c) (fun i => l.length - (intOf i).toNat)
  case atStart => exact ⟨0, Nat.zero_le _, rfl, fun j _ h => absurd h (by omega)⟩
  case round =>
    obtain ⟨k, hk, rfl, hn⟩ := hrel
    have HN : Hid (∀ j (hj : j < l.length), j < k → l[j] ≠ c) := hn
    clear hn
    by_cases hlt : k < l.length
    · go_wp2
      case roundEnd =>
        go_round
        case rel =>
          go_light
          have hne := has_not l k hlt c (by assumption)
          refine ⟨k + 1, by omega, by go_num, fun j hj h => ?_⟩
          by_cases e : j = k
          · subst e; exact hne
          · exact HN.out j hj (by omega)
        case measure => go_light; simp [intOf]; omega
      · have he := has_mem l k hlt c (beq_iff_eq.1 (by assumption))
        go_ret
        exact ⟨ret_bool (by rw [← HX.out]; exact he.symm), rfl⟩
    · go_wp2
      go_ret
      exact ⟨ret_bool (by rw [← HX.out]; exact (has_none l c fun j hj => HN.out j hj (by omega)).symm), rfl⟩

/-- the bounds laid by program: two strings -/
theorem two_no (a b : ByteArray) (w : World) (_ha : a.size ≤ maxLen) (_hb : b.size ≤ maxLen) (h : 1048576 < (a.size : Int) + (b.size : Int)) :
    Calls Try.prog 6 #[.string a, .string b] w fun e w' => e = .returned (.bool false) ∧ w = w' := by
  by_cases h1 : 1048576 < (a.size : Int)
  · go_enter Try.func6, Try.ntmps6
    go_wp2
    go_ret
    exact ⟨rfl, rfl⟩
  · by_cases h2 : 1048576 < (b.size : Int)
    · go_enter Try.func6, Try.ntmps6
      go_wp2
      go_ret
      exact ⟨rfl, rfl⟩
    · go_enter Try.func6, Try.ntmps6
      go_wp2
      go_ret
      exact ⟨rfl, rfl⟩
theorem two_yes (a b : ByteArray) (w : World) (h : (a.size : Int) + (b.size : Int) ≤ 1048576) :
    Calls Try.prog 6 #[.string a, .string b] w fun e w' => e = .returned (.bool true) ∧ w = w' := by
  go_enter Try.func6, Try.ntmps6
  go_wp2
  go_ret
  exact ⟨rfl, rfl⟩
theorem three_yes (a b c : ByteArray) (w : World) (h : (a.size : Int) + (b.size : Int) + (c.size : Int) ≤ 1048576) :
    Calls Try.prog 9 #[.string a, .string b, .string c] w fun e w' => e = .returned (.bool true) ∧ w = w' := by
  go_enter Try.func9, Try.ntmps9
  go_wp2
  go_ret
  exact ⟨rfl, rfl⟩
theorem three_no (a b c : ByteArray) (w : World) (h : 1048576 < (a.size : Int) + (b.size : Int) + (c.size : Int)) :
    Calls Try.prog 9 #[.string a, .string b, .string c] w fun e w' => e = .returned (.bool false) ∧ w = w' := by
  by_cases h1 : 1048576 < (a.size : Int)
  · go_enter Try.func9, Try.ntmps9
    go_wp2
    go_ret
    exact ⟨rfl, rfl⟩
  · by_cases h2 : 1048576 < (b.size : Int)
    · go_enter Try.func9, Try.ntmps9
      go_wp2
      go_ret
      exact ⟨rfl, rfl⟩
    · by_cases h3 : 1048576 < (a.size : Int) + (b.size : Int)
      · go_enter Try.func9, Try.ntmps9
        go_wp2
        go_ret
        exact ⟨rfl, rfl⟩
      · by_cases h4 : 1048576 < (c.size : Int)
        · go_enter Try.func9, Try.ntmps9
          go_wp2
          go_ret
          exact ⟨rfl, rfl⟩
        · go_enter Try.func9, Try.ntmps9
          go_wp2
          go_ret
          exact ⟨rfl, rfl⟩

set_option maxHeartbeats 400000 in
theorem new_any (s : ByteArray) (w : World) :
    Calls Try.prog 14 #[.string s] w fun e w' => e = .returned (.iface 40 (.pointer (some ⟨w.heap.size, 0, none⟩))) ∧ w' = w.alloc (.cells #[.string s] 42) := by
  go_enter Try.func14, Try.ntmps14
  go_wp2
  go_ret
  exact ⟨rfl, rfl⟩
end Ru
end Go.Proofs.Qxb6600210a
