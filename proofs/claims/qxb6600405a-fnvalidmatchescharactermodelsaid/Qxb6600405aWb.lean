/- Seat 405a: Valid, the counting model, the law's walk. -/
import Derived.Test.Qxb6600405aWa
namespace Go.Proofs.Qxb6600405a
open Go.RowKit
namespace Nm

theorem take_snoc (l : List UInt8) (k : Nat) (h : k < l.length) : l.take (k + 1) = l.take k ++ [l[k]] := by
  rw [List.take_succ_eq_append_getElem h]

theorem al_at (c : UInt8) (x : Bool) (h : al c = x) (w : World) : Calls Try.prog 17 #[.int .u8 c.toNat] w fun e w' => e = .returned (.bool x) ∧ w = w' := by
  subst h; exact allowed_any c w
theorem in_at (c : UInt8) (x : Bool) (h : al c = x) (w : World) : Calls Try.prog 18 #[.int .u8 c.toNat] w fun e w' => e = .returned (.bool x) ∧ w = w' :=
  in_any c x ((abc_al c).trans h) w

theorem vl_empty : vl [] = false := by decide
theorem vl_long (l : List UInt8) (h : 128 < l.length) : vl l = false := by unfold vl; exact decide_eq_false (by omega)

set_option maxHeartbeats 400000 in
/-- ident.Valid, a name of 1 to 128 bytes -/
theorem valid_mid (l : List UInt8) (h1 : 1 ≤ l.length) (h2 : (l.length : Int) ≤ 128) (w : World) : Calls Try.prog 8 #[.string ⟨l.toArray⟩] w fun e w' => e = .returned (.bool (vl l)) ∧ w = w' := by
  have h0 : ((l.length : Int) == 0) = false := beq_eq_false_iff_ne.2 (by omega)
  obtain ⟨x, hx⟩ : ∃ x, vl l = x := ⟨_, rfl⟩
  have HX : Hid (vl l = x) := hx
  rw [hx]
  clear hx
  go_enter Try.func8, Try.ntmps8
  go_wp2
  go_loop [3] (fun i => ∃ k : Nat, k ≤ l.length ∧ i = .int .i64 k ∧ ∀ c ∈ l.take k, al c = true) (fun i => l.length - (intOf i).toNat)
  case atStart => exact ⟨0, Nat.zero_le _, rfl, by simp⟩
  case round =>
    obtain ⟨k, hk, rfl, hg⟩ := hrel
    have HG : Hid (∀ c ∈ l.take k, al c = true) := hg
    clear hg
    by_cases hlt : k < l.length
    · cases hal : al l[k]
      · have HA : Hid (al l[k] = false) := hal
        clear hal
        go_wp2_with (go_at_call 17; refine (al_at _ _ HA.out _).mono ?_; rintro e w' ⟨rfl, rfl⟩)
        go_ret
        refine ⟨ret_bool ?_, rfl⟩
        rw [← HX.out]
        unfold vl
        refine (decide_eq_false ?_).symm
        rintro ⟨_, _, h⟩
        have := h l[k] (List.getElem_mem hlt)
        rw [HA.out] at this
        cases this
      · have HA : Hid (al l[k] = true) := hal
        clear hal
        go_wp2_with (go_at_call 17; refine (al_at _ _ HA.out _).mono ?_; rintro e w' ⟨rfl, rfl⟩)
        go_round
        case rel =>
          go_light
          refine ⟨k + 1, by omega, by go_num, ?_⟩
          rw [take_snoc l k hlt]
          intro c hc
          rcases List.mem_append.1 hc with h | h
          · exact HG.out c h
          · rw [List.mem_singleton.1 h]; exact HA.out
        case measure => go_light; simp [intOf]; omega
    · go_wp2
      go_ret
      refine ⟨ret_bool ?_, rfl⟩
      rw [← HX.out]
      unfold vl
      refine (decide_eq_true ⟨h1, by omega, ?_⟩).symm
      have e : l.take k = l := List.take_of_length_le (by omega)
      rw [← e]; exact HG.out

set_option maxHeartbeats 400000 in
theorem valid_long (l : List UInt8) (h2 : 128 < (l.length : Int)) (w : World) : Calls Try.prog 8 #[.string ⟨l.toArray⟩] w fun e w' => e = .returned (.bool false) ∧ w = w' := by
  have h0 : ((l.length : Int) == 0) = false := beq_eq_false_iff_ne.2 (by omega)
  go_enter Try.func8, Try.ntmps8
  go_wp2
  go_ret
  exact ⟨rfl, rfl⟩
set_option maxHeartbeats 400000 in
theorem valid_nil (w : World) : Calls Try.prog 8 #[.string ⟨#[]⟩] w fun e w' => e = .returned (.bool false) ∧ w = w' := by
  go_enter Try.func8, Try.ntmps8
  go_wp2
  go_ret
  exact ⟨rfl, rfl⟩
theorem valid_any (l : List UInt8) (w : World) : Calls Try.prog 8 #[.string ⟨l.toArray⟩] w fun e w' => e = .returned (.bool (vl l)) ∧ w = w' := by
  by_cases h : l = []
  · subst h; rw [vl_empty]; exact valid_nil w
  · by_cases h2 : l.length ≤ 128
    · exact valid_mid l (List.length_pos_iff.2 h) (by omega) w
    · rw [vl_long l (by omega)]; exact valid_long l (by omega) w

set_option maxHeartbeats 400000 in
/-- zzValidModel -/
theorem model_any (l : List UInt8) (hl : l.length ≤ 1048576) (w : World) : Calls Try.prog 9 #[.string ⟨l.toArray⟩] w fun e w' => e = .returned (.bool (vl l)) ∧ w = w' := by
  obtain ⟨x, hx⟩ : ∃ x, vl l = x := ⟨_, rfl⟩
  have HX : Hid (vl l = x) := hx
  rw [hx]
  clear hx
  go_enter Try.func9, Try.ntmps9
  go_wp2
  go_loop [3, 4] (fun g i => ∃ k : Nat, k ≤ l.length ∧ i = .int .i64 k ∧ g = .int .i64 (cnt (l.take k))) (fun _ i => l.length - (intOf i).toNat)
  case atStart => exact ⟨0, Nat.zero_le _, rfl, rfl⟩
  case round =>
    obtain ⟨k, hk, rfl, rfl⟩ := hrel
    obtain ⟨n, hn⟩ : ∃ n, cnt (l.take k) = n := ⟨_, rfl⟩
    have hnk : n ≤ k := by
      have h1 := cnt_le (l.take k)
      have h2 : (l.take k).length ≤ k := List.length_take_le _ _
      omega
    rw [hn]
    have HN : Hid (cnt (l.take k) = n) := hn
    clear hn
    by_cases hlt : k < l.length
    · cases hal : al l[k]
      · have HC : Hid (cnt (l.take (k + 1)) = n) := by
          unfold Hid; rw [take_snoc l k hlt, cnt_snoc, hal, HN.out]; rfl
        have HA : Hid (al l[k] = false) := hal
        clear hal
        go_wp2_with (go_at_call 18; refine (in_at _ _ HA.out _).mono ?_; rintro e w' ⟨rfl, rfl⟩)
        go_round
        case rel => go_light; exact ⟨k + 1, by omega, by go_num, by rw [HC.out]⟩
        case measure => go_light; simp [intOf]; omega
      · have HC : Hid (cnt (l.take (k + 1)) = n + 1) := by
          unfold Hid; rw [take_snoc l k hlt, cnt_snoc, hal, HN.out]; rfl
        have HA : Hid (al l[k] = true) := hal
        clear hal
        go_wp2_with (go_at_call 18; refine (in_at _ _ HA.out _).mono ?_; rintro e w' ⟨rfl, rfl⟩)
        go_round
        case rel => go_light; exact ⟨k + 1, by omega, by go_num, by rw [HC.out]; go_num⟩
        case measure => go_light; simp [intOf]; omega
    · have e : l.take k = l := List.take_of_length_le (by omega)
      have HV : Hid (x = decide (n = l.length ∧ 1 ≤ n ∧ n ≤ 128)) := by
        unfold Hid; rw [← HX.out, vl_cnt, ← HN.out, e]
      clear e
      go_wp2
      all_goals
        go_ret
        refine ⟨ret_bool ?_, rfl⟩
        rw [HV.out]
        first | exact decide_eq_decide.2 (by omega) | exact (decide_eq_false (by omega)).symm

set_option maxHeartbeats 400000 in
/-- the law -/
theorem law (a0 : ByteArray) (w0 : a0.size ≤ maxLen) (w : World) :
    Calls Try.prog 3 #[.string a0] w fun e w' => e = .returned (.bool true) ∧ w = w' := by
  by_cases hbig : 1048576 < (a0.size : Int)
  · go_enter Try.func3, Try.ntmps3
    go_wp2_with ((go_at_call 7; refine (bytes_no _ _ w0 hbig).mono ?_; rintro e w' ⟨rfl, rfl⟩))
    go_ret
    exact ⟨rfl, rfl⟩
  · have hsm : (a0.size : Int) ≤ 1048576 := by omega
    clear hbig w0
    obtain ⟨⟨l⟩⟩ := a0
    have hll : (ByteArray.mk ⟨l⟩).size = l.length := rfl
    have hl : l.length ≤ 1048576 := by omega
    go_enter Try.func3, Try.ntmps3
    go_wp2_with (first | (go_at_call 7; refine (bytes_yes _ _ hsm).mono ?_; rintro e w' ⟨rfl, rfl⟩) | (go_at_call 8; refine (valid_any _ _).mono ?_; rintro e w' ⟨rfl, rfl⟩) | (go_at_call 9; refine (model_any _ hl _).mono ?_; rintro e w' ⟨rfl, rfl⟩))
    go_ret
    exact ⟨rfl, rfl⟩
end Nm
end Go.Proofs.Qxb6600405a
