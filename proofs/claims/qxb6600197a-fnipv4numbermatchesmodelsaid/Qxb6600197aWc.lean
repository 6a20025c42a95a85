/- Seat 197a: webcheck.ipv4Number, the other cases. -/
import Derived.Test.Qxb6600197aWb
namespace Go.Proofs.Qxb6600197a
open Go.RowKit
namespace Ip
set_option maxHeartbeats 400000 in
theorem num_nil (w : World) :
    Calls Try.prog 11 #[.string ⟨#[]⟩] w fun e w' => e = .returned (.tuple #[.int .u64 0, .bool false]) ∧ w = w' := by
  go_enter Try.func11, Try.ntmps11
  go_wp2
  go_ret2
  exact ⟨rfl, rfl⟩

set_option maxHeartbeats 400000 in
theorem num_oct (l t : List UInt8) (w : World) (hl : t.length ≤ 1048576) (h0 : l.isEmpty = false) (h1 : Lib.hasPrefix l [48, 120] = false) (h2 : 1 < (l.length : Int)) (hz : 0 < (ByteArray.mk l.toArray).size) (h4 : ((((ByteArray.mk l.toArray)[0]'hz).toNat : Int) == 48) = true)
    (ht : Hid ((ByteArray.mk l.toArray).extract 1 l.length = ⟨t.toArray⟩)) :
    Calls Try.prog 11 #[.string ⟨l.toArray⟩] w fun e w' => Ans 8 t e ∧ ∃ m, w' = w.drewN m := by
  go_enter Try.func11, Try.ntmps11
  go_wp2_with ((go_at_call 14; refine (cut_any _ _ _).mono ?_; rintro e w' ⟨rfl, rfl⟩))
  go_quiet (fail)
  go_wp2
  rw [ht.out]
  clear h1 h2 h4 ht
  go_loopw [2, 7] (fun n i wr => ∃ k : Nat, k ≤ t.length ∧ i = .int .i64 k ∧ n = .int .u64 (fwd 8 0 (t.take k)) ∧ (∀ c ∈ t.take k, good 8 c) ∧ ∃ m, wr = w.drewN m) (fun _ i _ => t.length - (intOf i).toNat)
  case atStart => exact ⟨0, Nat.zero_le _, rfl, rfl, by simp, nq, rfl⟩
  case round =>
    obtain ⟨k, hk, rfl, rfl, hg, hw⟩ := hrel
    have HW : Hid (∃ m, wr = w.drewN m) := hw
    clear hw
    have HG : Hid (∀ c ∈ t.take k, good 8 c) := hg
    have hbd := fwd_bd 8 (by omega) (t.take k) hg
    unfold cap at hbd
    obtain ⟨hb0, hb1⟩ := hbd
    clear hg
    by_cases hlt : k < t.length
    · go_wp2
      go_quiet ((go_at_call 15; exact Calls.quiet_of_same (idx_same _ _ _)))
      go_wp2
      case roundEnd =>
        go_round
        case rel =>
          go_light
          have hr := round_ok (b := 8) (.inl ⟨rfl, rfl⟩) t k hlt HG.out (by assumption)
          exact ⟨k + 1, by omega, by go_num, congrArg _ hr.1, hr.2, drewN_step HW.out _⟩
        case measure => go_light; simp [intOf]; omega
      · have hr := round_bad (b := 8) (.inl ⟨rfl, rfl⟩) t k hlt (by assumption)
        go_ret2
        exact ⟨.inr ⟨hr, rfl⟩, drewN_step HW.out _⟩
    · go_wp2
      go_ret2
      have e : t.take k = t := List.take_of_length_le (by omega)
      exact ⟨.inl ⟨by rw [← e]; exact HG.out, ret_two (by rw [e])⟩, HW.out⟩

set_option maxHeartbeats 400000 in
theorem num_dec1 (t : List UInt8) (w : World) (hl : t.length ≤ 1048576) (h0 : t.isEmpty = false) (h1 : Lib.hasPrefix t [48, 120] = false) (h2 : 1 < (t.length : Int)) (hz : 0 < (ByteArray.mk t.toArray).size) (h4 : ((((ByteArray.mk t.toArray)[0]'hz).toNat : Int) == 48) = false) :
    Calls Try.prog 11 #[.string ⟨t.toArray⟩] w fun e w' => Ans 10 t e ∧ ∃ m, w' = w.drewN m := by
  go_enter Try.func11, Try.ntmps11
  go_wp2_with ((go_at_call 14; refine (cut_any _ _ _).mono ?_; rintro e w' ⟨rfl, rfl⟩))
  clear h1 h2
  go_loopw [2, 7] (fun n i wr => ∃ k : Nat, k ≤ t.length ∧ i = .int .i64 k ∧ n = .int .u64 (fwd 10 0 (t.take k)) ∧ (∀ c ∈ t.take k, good 10 c) ∧ ∃ m, wr = w.drewN m) (fun _ i _ => t.length - (intOf i).toNat)
  case atStart => exact ⟨0, Nat.zero_le _, rfl, rfl, by simp, 0, rfl⟩
  case round =>
    obtain ⟨k, hk, rfl, rfl, hg, hw⟩ := hrel
    have HW : Hid (∃ m, wr = w.drewN m) := hw
    clear hw
    have HG : Hid (∀ c ∈ t.take k, good 10 c) := hg
    have hbd := fwd_bd 10 (by omega) (t.take k) hg
    unfold cap at hbd
    obtain ⟨hb0, hb1⟩ := hbd
    clear hg
    by_cases hlt : k < t.length
    · go_wp2
      go_quiet ((go_at_call 15; exact Calls.quiet_of_same (idx_same _ _ _)))
      go_wp2
      case roundEnd =>
        go_round
        case rel =>
          go_light
          have hr := round_ok (b := 10) (.inr (.inl ⟨rfl, rfl⟩)) t k hlt HG.out (by assumption)
          exact ⟨k + 1, by omega, by go_num, congrArg _ hr.1, hr.2, drewN_step HW.out _⟩
        case measure => go_light; simp [intOf]; omega
      · have hr := round_bad (b := 10) (.inr (.inl ⟨rfl, rfl⟩)) t k hlt (by assumption)
        go_ret2
        exact ⟨.inr ⟨hr, rfl⟩, drewN_step HW.out _⟩
    · go_wp2
      go_ret2
      have e : t.take k = t := List.take_of_length_le (by omega)
      exact ⟨.inl ⟨by rw [← e]; exact HG.out, ret_two (by rw [e])⟩, HW.out⟩

set_option maxHeartbeats 400000 in
theorem num_dec2 (t : List UInt8) (w : World) (h0 : t.isEmpty = false) (h1 : Lib.hasPrefix t [48, 120] = false) (h2 : (t.length : Int) ≤ 1) :
    Calls Try.prog 11 #[.string ⟨t.toArray⟩] w fun e w' => Ans 10 t e ∧ ∃ m, w' = w.drewN m := by
  have hl : t.length ≤ 1048576 := by omega
  go_enter Try.func11, Try.ntmps11
  go_wp2_with ((go_at_call 14; refine (cut_any _ _ _).mono ?_; rintro e w' ⟨rfl, rfl⟩))
  clear h1
  go_loopw [2, 7] (fun n i wr => ∃ k : Nat, k ≤ t.length ∧ i = .int .i64 k ∧ n = .int .u64 (fwd 10 0 (t.take k)) ∧ (∀ c ∈ t.take k, good 10 c) ∧ ∃ m, wr = w.drewN m) (fun _ i _ => t.length - (intOf i).toNat)
  case atStart => exact ⟨0, Nat.zero_le _, rfl, rfl, by simp, 0, rfl⟩
  case round =>
    obtain ⟨k, hk, rfl, rfl, hg, hw⟩ := hrel
    have HW : Hid (∃ m, wr = w.drewN m) := hw
    clear hw
    have HG : Hid (∀ c ∈ t.take k, good 10 c) := hg
    have hbd := fwd_bd 10 (by omega) (t.take k) hg
    unfold cap at hbd
    obtain ⟨hb0, hb1⟩ := hbd
    clear hg
    by_cases hlt : k < t.length
    · go_wp2
      go_quiet ((go_at_call 15; exact Calls.quiet_of_same (idx_same _ _ _)))
      go_wp2
      case roundEnd =>
        go_round
        case rel =>
          go_light
          have hr := round_ok (b := 10) (.inr (.inl ⟨rfl, rfl⟩)) t k hlt HG.out (by assumption)
          exact ⟨k + 1, by omega, by go_num, congrArg _ hr.1, hr.2, drewN_step HW.out _⟩
        case measure => go_light; simp [intOf]; omega
      · have hr := round_bad (b := 10) (.inr (.inl ⟨rfl, rfl⟩)) t k hlt (by assumption)
        go_ret2
        exact ⟨.inr ⟨hr, rfl⟩, drewN_step HW.out _⟩
    · go_wp2
      go_ret2
      have e : t.take k = t := List.take_of_length_le (by omega)
      exact ⟨.inl ⟨by rw [← e]; exact HG.out, ret_two (by rw [e])⟩, HW.out⟩

end Ip
end Go.Proofs.Qxb6600197a
