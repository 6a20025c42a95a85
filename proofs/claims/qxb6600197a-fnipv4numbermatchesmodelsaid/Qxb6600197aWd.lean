/- Seat 197a: ipv4ModelB1 at base 16 (by a small program of mine: one text a base). -/
import Derived.Test.Qxb6600197aWb
namespace Go.Proofs.Qxb6600197a
open Go.RowKit
namespace Ip
/-- digitValueB1, the digit named -/
theorem dv_at (c : UInt8) (d : Int) (hd : dv c = d) (w : World) :
    Calls Try.prog 12 #[.int .u8 c.toNat] w fun e w' => e = .returned (.int .i64 d) ∧ w = w' := by
  subst hd; exact dv_any c w

set_option maxHeartbeats 400000 in
theorem mod_nil (w : World) :
    Calls Try.prog 8 #[.string ⟨#[]⟩] w fun e w' => e = .returned (.tuple #[.int .u64 0, .bool false]) ∧ w = w' := by
  go_enter Try.func8, Try.ntmps8
  go_wp2
  go_ret2
  exact ⟨rfl, rfl⟩

set_option maxHeartbeats 1000000 in
theorem mod_hex (l t : List UInt8) (w : World) (hl : t.length ≤ 1048576) (h2 : 2 ≤ (l.length : Int)) (h0 : ((l.length : Int) == 0) = false) (hz : 1 < (ByteArray.mk l.toArray).size) (h3 : ((((ByteArray.mk l.toArray)[0]'(by omega)).toNat : Int) == 48) = true) (h4 : ((((ByteArray.mk l.toArray)[1]'hz).toNat : Int) == 120) = true)
    (ht : Hid ((ByteArray.mk l.toArray).extract 2 l.length = ⟨t.toArray⟩)) :
    Calls Try.prog 8 #[.string ⟨l.toArray⟩] w fun e w' => Ans 16 t e ∧ w' = w := by
  go_enter Try.func8, Try.ntmps8
  go_wp2
  rw [ht.out]
  clear h2 h3 h4 ht
  go_loop [6] (fun i => ∃ k : Nat, k ≤ t.length ∧ i = .int .i64 k ∧ (∀ c ∈ t.take k, good 16 c)) (fun i => t.length - (intOf i).toNat)
  case atStart => exact ⟨0, Nat.zero_le _, rfl, by simp⟩
  case round =>
    obtain ⟨k, hk, rfl, hg⟩ := hrel
    have HG : Hid (∀ c ∈ t.take k, good 16 c) := hg
    clear hg
    by_cases hlt : k < t.length
    · obtain ⟨d, hd⟩ : ∃ d, dv t[k] = d := ⟨_, rfl⟩
      have hd1 := dv_ge t[k]
      have hd2 := dv_le t[k]
      rw [hd] at hd1 hd2
      have HD : Hid (dv t[k] = d) := hd
      clear hd
      go_wp2_with ((go_at_call 12; refine (dv_at _ _ HD.out _).mono ?_; rintro e w' ⟨rfl, rfl⟩))
      case roundEnd =>
        go_round
        case rel =>
          go_light
          refine ⟨k + 1, by omega, by go_num, ?_⟩
          rw [take_snoc t k hlt]
          intro c hc
          rcases List.mem_append.1 hc with h | h
          · exact HG.out c h
          · rw [List.mem_singleton.1 h]; unfold good; rw [HD.out]; omega
        case measure => go_light; simp [intOf]; omega
      all_goals
        go_ret2
        exact ⟨.inr ⟨⟨t[k], List.getElem_mem hlt, by unfold good; rw [HD.out]; omega⟩, rfl⟩, rfl⟩
    · go_wp2
      have e : t.take k = t := List.take_of_length_le (by omega)
      have HGG : Hid (∀ c ∈ t, good 16 c) := by rw [← e]; exact HG.out
      clear e HG
      go_loop [8, 9, 10, 11] (fun s p o i => ∃ k : Nat, k ≤ t.length ∧ i = .int .i64 ((k : Int) - 1) ∧ ∃ (sm pw : Int) (ov : Bool), s = .int .u64 sm ∧ p = .int .u64 pw ∧ o = .bool ov ∧ Back 16 (t.drop k) sm pw ov) (fun _ _ _ i => (intOf i + 1).toNat)
      case atStart => exact ⟨t.length, Nat.le_refl _, rfl, 0, 1, false, rfl, rfl, rfl, by rw [List.drop_length]; exact back_nil 16⟩
      case round =>
        obtain ⟨k, hk, rfl, sm, pw, ov, rfl, rfl, rfl, hB⟩ := hrel
        have HB : Hid (Back 16 (t.drop k) sm pw ov) := hB
        have hbd := back_bd (by omega) (fun c hc => HGG.out c (List.mem_of_mem_drop hc)) hB
        unfold cap at hbd
        obtain ⟨b1, b2, b3, b4, b5⟩ := hbd
        clear hB
        rcases k with _ | j
        · clear b5
          go_wp2
          go_ret2
          exact ⟨.inl ⟨HGG.out, ret_two (back_fwd (by omega) HGG.out HB.out)⟩, rfl⟩
        · have hj : j < t.length := by omega
          have hg := HGG.out t[j] (List.getElem_mem hj)
          obtain ⟨d, hd⟩ : ∃ d, dv t[j] = d := ⟨_, rfl⟩
          have hd1 := hg.1
          have hd2 := hg.2
          rw [hd] at hd1 hd2
          have HD : Hid (dv t[j] = d) := hd
          clear hd hg
          rw [show (((j + 1 : Nat) : Int) - 1) = (j : Int) from by omega]
          have hdp0 : 0 ≤ d * pw := Int.mul_nonneg hd1 (by omega)
          have hstep : t.drop j = t[j] :: t.drop (j + 1) := List.drop_eq_getElem_cons hj
          have HS : Hid (t.drop j = t[j] :: t.drop (j + 1)) := hstep
          clear hstep
          cases ov
          · have b6 := b5 rfl
            clear b5
            have hdp1 : d * pw ≤ 15 * 4294967296 := Int.mul_le_mul (by omega) b6 (by omega) (by omega)
            by_cases hd0 : d = 0
            · subst hd0
              go_wp2_with ((go_at_call 12; refine (dv_at _ _ HD.out _).mono ?_; rintro e w' ⟨rfl, rfl⟩))
              all_goals
                go_round
                case rel =>
                  go_light
                  refine ⟨j, by omega, rfl, _, _, _, rfl, rfl, rfl, ?_⟩
                  rw [HS.out]
                  refine back_round (by omega) (by omega) (HGG.out _ (List.getElem_mem hj)) (fun c hc => HGG.out c (List.mem_of_mem_drop hc)) HD.out HB.out ?_ ?_
                  · first | exact .inl ⟨rfl, rfl⟩ | exact .inr (.inl ⟨hd0, rfl, rfl⟩) | exact .inr (.inr (.inl ⟨hd0, rfl, by assumption, rfl⟩)) | exact .inr (.inr (.inr ⟨hd0, rfl, by assumption, rfl⟩))
                  · first | exact .inl ⟨rfl, rfl, rfl⟩ | exact .inr ⟨rfl, rfl, .inl ⟨by assumption, rfl⟩⟩ | exact .inr ⟨rfl, rfl, .inr ⟨by assumption, rfl⟩⟩
                case measure => go_light; simp [intOf]
            · have hne : (d != 0) = true := by simpa using hd0
              go_wp2_with ((go_at_call 12; refine (dv_at _ _ HD.out _).mono ?_; rintro e w' ⟨rfl, rfl⟩))
              all_goals
                go_round
                case rel =>
                  go_light
                  refine ⟨j, by omega, rfl, _, _, _, rfl, rfl, rfl, ?_⟩
                  rw [HS.out]
                  refine back_round (by omega) (by omega) (HGG.out _ (List.getElem_mem hj)) (fun c hc => HGG.out c (List.mem_of_mem_drop hc)) HD.out HB.out ?_ ?_
                  · first | exact .inl ⟨rfl, rfl⟩ | exact .inr (.inl ⟨hd0, rfl, rfl⟩) | exact .inr (.inr (.inl ⟨hd0, rfl, by assumption, rfl⟩)) | exact .inr (.inr (.inr ⟨hd0, rfl, by assumption, rfl⟩))
                  · first | exact .inl ⟨rfl, rfl, rfl⟩ | exact .inr ⟨rfl, rfl, .inl ⟨by assumption, rfl⟩⟩ | exact .inr ⟨rfl, rfl, .inr ⟨by assumption, rfl⟩⟩
                case measure => go_light; simp [intOf]
          · clear b5
            by_cases hd0 : d = 0
            · subst hd0
              go_wp2_with ((go_at_call 12; refine (dv_at _ _ HD.out _).mono ?_; rintro e w' ⟨rfl, rfl⟩))
              all_goals
                go_round
                case rel =>
                  go_light
                  refine ⟨j, by omega, rfl, _, _, _, rfl, rfl, rfl, ?_⟩
                  rw [HS.out]
                  refine back_round (by omega) (by omega) (HGG.out _ (List.getElem_mem hj)) (fun c hc => HGG.out c (List.mem_of_mem_drop hc)) HD.out HB.out ?_ ?_
                  · first | exact .inl ⟨rfl, rfl⟩ | exact .inr (.inl ⟨hd0, rfl, rfl⟩) | exact .inr (.inr (.inl ⟨hd0, rfl, by assumption, rfl⟩)) | exact .inr (.inr (.inr ⟨hd0, rfl, by assumption, rfl⟩))
                  · first | exact .inl ⟨rfl, rfl, rfl⟩ | exact .inr ⟨rfl, rfl, .inl ⟨by assumption, rfl⟩⟩ | exact .inr ⟨rfl, rfl, .inr ⟨by assumption, rfl⟩⟩
                case measure => go_light; simp [intOf]
            · have hne : (d != 0) = true := by simpa using hd0
              go_wp2_with ((go_at_call 12; refine (dv_at _ _ HD.out _).mono ?_; rintro e w' ⟨rfl, rfl⟩))
              all_goals
                go_round
                case rel =>
                  go_light
                  refine ⟨j, by omega, rfl, _, _, _, rfl, rfl, rfl, ?_⟩
                  rw [HS.out]
                  refine back_round (by omega) (by omega) (HGG.out _ (List.getElem_mem hj)) (fun c hc => HGG.out c (List.mem_of_mem_drop hc)) HD.out HB.out ?_ ?_
                  · first | exact .inl ⟨rfl, rfl⟩ | exact .inr (.inl ⟨hd0, rfl, rfl⟩) | exact .inr (.inr (.inl ⟨hd0, rfl, by assumption, rfl⟩)) | exact .inr (.inr (.inr ⟨hd0, rfl, by assumption, rfl⟩))
                  · first | exact .inl ⟨rfl, rfl, rfl⟩ | exact .inr ⟨rfl, rfl, .inl ⟨by assumption, rfl⟩⟩ | exact .inr ⟨rfl, rfl, .inr ⟨by assumption, rfl⟩⟩
                case measure => go_light; simp [intOf]

end Ip
end Go.Proofs.Qxb6600197a
