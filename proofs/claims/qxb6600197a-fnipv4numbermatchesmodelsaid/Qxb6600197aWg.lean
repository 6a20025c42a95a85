/- Seat 197a: the two functions side by side; the law's walk. -/
import Derived.Test.Qxb6600197aWc
import Derived.Test.Qxb6600197aWe
import Derived.Test.Qxb6600197aWf
import Derived.RowKit3
namespace Go.Proofs.Qxb6600197a
open Go.RowKit
namespace Ip

/-- both functions answer by one base and one list of digits -/
def Both (l : List UInt8) (b : Int) (t : List UInt8) : Prop :=
  (∀ w, Calls Try.prog 11 #[.string ⟨l.toArray⟩] w fun e w' => Ans b t e ∧ ∃ m, w' = w.drewN m) ∧
  (∀ w, Calls Try.prog 8 #[.string ⟨l.toArray⟩] w fun e w' => Ans b t e ∧ w' = w)

theorem extract_drop (l : List UInt8) (k : Nat) : (ByteArray.mk l.toArray).extract k l.length = ⟨(l.drop k).toArray⟩ := by
  apply ByteArray.ext
  rw [ByteArray.data_extract]
  simp only [List.extract_toArray, List.extract_eq_take_drop]
  rw [List.take_of_length_le (by simp)]

theorem both (l : List UInt8) (hne : l ≠ []) (hl : l.length ≤ 1048576) : ∃ b t, Both l b t := by
  have he : l.isEmpty = false := by cases l <;> simp_all
  have hlen : 0 < l.length := List.length_pos_iff.2 hne
  have h0 : ((l.length : Int) == 0) = false := by simp; exact hne
  by_cases h2 : 2 ≤ l.length
  · obtain ⟨c0, c1, r, rfl⟩ : ∃ c0 c1 r, l = c0 :: c1 :: r := by
      match l, h2 with
      | c0 :: c1 :: r, _ => exact ⟨c0, c1, r, rfl⟩
    have hz : 1 < (ByteArray.mk (c0 :: c1 :: r).toArray).size := by simp [ByteArray.size]
    have e0 : ((ByteArray.mk (c0 :: c1 :: r).toArray)[0]'(by omega)) = c0 := rfl
    have e1 : ((ByteArray.mk (c0 :: c1 :: r).toArray)[1]'hz) = c1 := rfl
    by_cases hc0 : c0 = 48
    · subst hc0
      by_cases hc1 : c1 = 120
      · subst hc1
        refine ⟨16, r, fun w => num_hex _ r w (by simp at hl; omega) he rfl rfl, fun w => mod_hex _ r w (by simp at hl; omega) (by omega) h0 hz (by rw [e0]; rfl) (by rw [e1]; rfl) (extract_drop _ 2)⟩
      · refine ⟨8, c1 :: r, fun w => num_oct _ (c1 :: r) w (by simp at hl; simp; omega) he ?_ (by omega) (by omega) (by rw [e0]; rfl) (extract_drop _ 1), fun w => mod_oct _ (c1 :: r) w (by simp at hl; simp; omega) (by omega) h0 hz (by rw [e0]; rfl) ?_ (extract_drop _ 1)⟩
        · simp [Lib.hasPrefix, List.isPrefixOf]; exact fun h => hc1 h.symm
        · rw [e1, beq_eq_false_iff_ne]
          intro h
          apply hc1
          apply UInt8.toNat_inj.1
          have : (120 : UInt8).toNat = 120 := rfl
          omega
    · have hb : (((c0.toNat : Nat) : Int) == 48) = false := by
        rw [beq_eq_false_iff_ne]
        intro h
        apply hc0
        apply UInt8.toNat_inj.1
        have : (48 : UInt8).toNat = 48 := rfl
        omega
      refine ⟨10, _, fun w => num_dec1 _ w hl he ?_ (by omega) (by omega) (by rw [e0]; exact hb), fun w => mod_dec1 _ w hl (by omega) h0 hz (by rw [e0]; exact hb)⟩
      simp [Lib.hasPrefix, List.isPrefixOf]; exact fun h => absurd h.symm hc0
  · obtain ⟨c0, rfl⟩ : ∃ c0, l = [c0] := by
      match l, hlen, h2 with
      | [c0], _, _ => exact ⟨c0, rfl⟩
      | _ :: _ :: _, _, h => simp at h
    refine ⟨10, _, fun w => num_dec2 _ w he ?_ (by simp), fun w => mod_dec2 _ w (by simp) h0⟩
    simp [Lib.hasPrefix, List.isPrefixOf]

theorem grown_drewN (w : World) (m : Nat) : Grown w (w.drewN m) := by
  induction m generalizing w with
  | zero => exact Grown.refl _
  | succ m ih => exact ⟨(ih w.drew).1, (ih w.drew).2.1, (ih w.drew).2.2⟩

/-- .. and so they answer alike -/
theorem one {l : List UInt8} {b : Int} {t : List UInt8} (h : Both l b t) : ∃ (n : Int) (x : Bool),
    (∀ w, Calls Try.prog 11 #[.string ⟨l.toArray⟩] w fun e w' => e = .returned (.tuple #[.int .u64 n, .bool x]) ∧ ∃ m, w' = w.drewN m) ∧
    (∀ w, Calls Try.prog 8 #[.string ⟨l.toArray⟩] w fun e w' => e = .returned (.tuple #[.int .u64 n, .bool x]) ∧ w = w') := by
  by_cases hg : ∀ c ∈ t, good b c
  · have key : ∀ e, Ans b t e → e = .returned (.tuple #[.int .u64 (fwd b 0 t), .bool true]) := by
      rintro e (⟨_, he⟩ | ⟨⟨c, hc, hn⟩, _⟩)
      · exact he
      · exact absurd (hg c hc) hn
    exact ⟨_, _, fun w => (h.1 w).mono fun e w' hh => ⟨key e hh.1, hh.2⟩, fun w => (h.2 w).mono fun e w' hh => ⟨key e hh.1, hh.2.symm⟩⟩
  · have key : ∀ e, Ans b t e → e = .returned (.tuple #[.int .u64 0, .bool false]) := by
      rintro e (⟨h1, _⟩ | ⟨_, he⟩)
      · exact absurd h1 hg
      · exact he
    exact ⟨_, _, fun w => (h.1 w).mono fun e w' hh => ⟨key e hh.1, hh.2⟩, fun w => (h.2 w).mono fun e w' hh => ⟨key e hh.1, hh.2.symm⟩⟩

set_option maxHeartbeats 400000 in
/-- the law -/
theorem law (a0 : ByteArray) (w0 : a0.size ≤ maxLen) (w : World) :
    Calls Try.prog 3 #[.string a0] w fun e w' => e = .returned (.bool true) ∧ ∃ m, w' = w.drewN m := by
  by_cases hbig : 1048576 < (a0.size : Int)
  · go_enter Try.func3, Try.ntmps3
    go_wp2_with ((go_at_call 6; refine (bytes_no _ _ w0 hbig).mono ?_; rintro e w' ⟨rfl, rfl⟩))
    go_ret
    exact ⟨rfl, 0, rfl⟩
  · have hsm : (a0.size : Int) ≤ 1048576 := by omega
    clear hbig
    obtain ⟨⟨l⟩⟩ := a0
    have hll : (ByteArray.mk ⟨l⟩).size = l.length := rfl
    have hl : l.length ≤ 1048576 := by omega
    by_cases hne : l = []
    · subst hne
      go_enter Try.func3, Try.ntmps3
      go_wp2_with (first | (go_at_call 6; refine (bytes_yes _ _ (by decide)).mono ?_; rintro e w' ⟨rfl, rfl⟩) | (go_at_call 11; refine (num_nil _).mono ?_; rintro e w' ⟨rfl, rfl⟩) | (go_at_call 8; refine (mod_nil _).mono ?_; rintro e w' ⟨rfl, rfl⟩) | go_in)
      go_ret
      exact ⟨rfl, 0, rfl⟩
    · obtain ⟨b, t, hB⟩ := both l hne hl
      obtain ⟨n, x, h11, h8⟩ := one hB
      have H11 : Hid (∀ w, Calls Try.prog 11 #[.string ⟨l.toArray⟩] w fun e w' => e = .returned (.tuple #[.int .u64 n, .bool x]) ∧ ∃ m, w' = w.drewN m) := h11
      have H8 : Hid (∀ w, Calls Try.prog 8 #[.string ⟨l.toArray⟩] w fun e w' => e = .returned (.tuple #[.int .u64 n, .bool x]) ∧ w = w') := h8
      clear h11 h8 hB hne
      go_enter Try.func3, Try.ntmps3
      go_wp2_with (first | (go_at_call 6; refine (bytes_yes _ _ hsm).mono ?_; rintro e w' ⟨rfl, rfl⟩) | (go_at_call 11; refine (H11.out _).mono ?_; rintro e w' ⟨rfl, m, rfl⟩) | (go_at_call 8; refine (H8.out _).mono ?_; rintro e w' ⟨rfl, rfl⟩) | go_in)
      go_ret
      exact ⟨rfl, _, rfl⟩
end Ip
end Go.Proofs.Qxb6600197a
