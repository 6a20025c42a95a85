/- Seat 197a: walks of the small functions. -/
import Derived.Test.Qxb6600197aRows
import Derived.Test.Qxb6600197aShelf
import Derived.Test.Qxb6600197aPlain
import Derived.WalkKit
import Derived.WalkSpells
import Derived.Below
import Derived.Lib.Bytealg
namespace Go.Proofs.Qxb6600197a
open Go.RowKit
namespace Ip

theorem ret_int {k : IntKind} {a b : Int} (h : a = b) : Ending.returned (.int k a) = .returned (.int k b) := by rw [h]

/-- digitValueB1 -/
theorem dv_any (c : UInt8) (w : World) :
    Calls Try.prog 12 #[.int .u8 c.toNat] w fun e w' => e = .returned (.int .i64 (dv c)) ∧ w = w' := by
  have hlt : (c.toNat : Int) < 256 := by have := c.toNat_lt; omega
  by_cases h1 : 48 ≤ (c.toNat : Int)
  · by_cases h2 : (c.toNat : Int) ≤ 57
    · have HE : Hid (dv c = (c.toNat : Int) - 48) := by unfold dv; exact if_pos ⟨h1, h2⟩
      go_enter Try.func12, Try.ntmps12
      go_wp2
      go_ret
      exact ⟨ret_int (by rw [HE.out]), rfl⟩
    · by_cases h3 : 97 ≤ (c.toNat : Int)
      · by_cases h4 : (c.toNat : Int) ≤ 102
        · have HE : Hid (dv c = (c.toNat : Int) - 87) := by unfold dv; rw [if_neg (by omega)]; exact if_pos ⟨h3, h4⟩
          go_enter Try.func12, Try.ntmps12
          go_wp2
          go_ret
          exact ⟨ret_int (by rw [HE.out]; omega), rfl⟩
        · have HE : Hid (dv c = -1) := by unfold dv; rw [if_neg (by omega)]; exact if_neg (by omega)
          go_enter Try.func12, Try.ntmps12
          go_wp2
          go_ret
          exact ⟨ret_int (by rw [HE.out]), rfl⟩
      · have HE : Hid (dv c = -1) := by unfold dv; rw [if_neg (by omega)]; exact if_neg (by omega)
        go_enter Try.func12, Try.ntmps12
        go_wp2
        go_ret
        exact ⟨ret_int (by rw [HE.out]), rfl⟩
  · have HE : Hid (dv c = -1) := by unfold dv; rw [if_neg (by omega)]; exact if_neg (by omega)
    have h3 : ¬ 97 ≤ (c.toNat : Int) := by omega
    go_enter Try.func12, Try.ntmps12
    go_wp2
    go_ret
    exact ⟨ret_int (by rw [HE.out]), rfl⟩

/-- zzBytes_FnIpv4NumberMatchesModel -/
theorem bytes_no (s : ByteArray) (w : World) (_hs : s.size ≤ maxLen) (h : 1048576 < (s.size : Int)) :
    Calls Try.prog 6 #[.string s] w fun e w' => e = .returned (.bool false) ∧ w = w' := by
  go_enter Try.func6, Try.ntmps6
  go_wp2
  go_ret
  exact ⟨rfl, rfl⟩
theorem bytes_yes (s : ByteArray) (w : World) (h : (s.size : Int) ≤ 1048576) :
    Calls Try.prog 6 #[.string s] w fun e w' => e = .returned (.bool true) ∧ w = w' := by
  go_enter Try.func6, Try.ntmps6
  go_wp2
  go_ret
  exact ⟨rfl, rfl⟩

/-- strings.IndexByte -/
theorem idx_any (s : ByteArray) (c : Int) (w : World) :
    Calls Try.prog 15 #[.string s, .int .u8 c] w fun e w' => e = .returned (.int .i64 (Lib.indexByte s.data.toList c.toNat.toUInt8)) ∧ w = w' := by
  go_enter Try.func15, Try.ntmps15
  go_wp2_with (go_at_call 17; refine (Try.stringslite_IndexByte _ _ _).mono ?_; rintro e w' ⟨rfl, rfl⟩)
  go_ret
  exact ⟨rfl, rfl⟩

theorem idx_same (s : ByteArray) (c : Int) (w : World) :
    Calls Try.prog 15 #[.string s, .int .u8 c] w fun e w' => e = .returned (.int .i64 (Lib.indexByte s.data.toList c.toNat.toUInt8)) ∧ w' = w :=
  (idx_any s c w).mono fun _ _ h => ⟨h.1, h.2.symm⟩
/-- strings.CutPrefix -/
theorem cut_any (s p : ByteArray) (w : World) :
    Calls Try.prog 14 #[.string s, .string p] w fun e w' => e = .returned (.tuple #[.string ⟨(Lib.trimPrefix s.data.toList p.data.toList).toArray⟩, .bool (Lib.hasPrefix s.data.toList p.data.toList)]) ∧ w = w' :=
  (Try.strings_CutPrefix s p w).mono fun _ _ h => ⟨h.1, h.2.symm⟩

/-- what IndexByte finds among the digits of a base -/
theorem idx_dv (b : Nat) (hb : b = 8 ∨ b = 10 ∨ b = 16) (c : UInt8) :
    Lib.indexByte (([48, 49, 50, 51, 52, 53, 54, 55, 56, 57, 97, 98, 99, 100, 101, 102] : List UInt8).take b) c = if dv c < b then dv c else -1 := by
  have key : ∀ n : Fin 256, ∀ b ∈ [8, 10, 16], Lib.indexByte (([48, 49, 50, 51, 52, 53, 54, 55, 56, 57, 97, 98, 99, 100, 101, 102] : List UInt8).take b) (UInt8.ofNat n.val) = if dv (UInt8.ofNat n.val) < (b : Nat) then dv (UInt8.ofNat n.val) else -1 := by
    decide +kernel
  have h := key ⟨c.toNat, c.toNat_lt⟩ b (by simpa using hb)
  simpa using h

end Ip
end Go.Proofs.Qxb6600197a
