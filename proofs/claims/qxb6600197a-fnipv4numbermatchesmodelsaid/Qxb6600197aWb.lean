/- Seat 197a: webcheck.ipv4Number computes 'fwd', case by case of its base. -/
import Derived.Test.Qxb6600197aWa
import Derived.BigQuiet
import Derived.Deep.QuietTactic
import Derived.Lib.Strings
import Derived.Deep.Light
namespace Go.Proofs.Qxb6600197a
open Go.RowKit
namespace Ip
def Ans (b : Int) (l : List UInt8) (e : Ending) : Prop :=
  (∀ c ∈ l, good b c) ∧ e = .returned (.tuple #[.int .u64 (fwd b 0 l), .bool true]) ∨ (∃ c ∈ l, ¬ good b c) ∧ e = .returned (.tuple #[.int .u64 0, .bool false])

def hexs : List UInt8 := [48, 49, 50, 51, 52, 53, 54, 55, 56, 57, 97, 98, 99, 100, 101, 102]
def Base (b : Int) (ds : List UInt8) : Prop := (b = 8 ∧ ds = hexs.take 8) ∨ (b = 10 ∧ ds = hexs.take 10) ∨ (b = 16 ∧ ds = hexs.take 16)

theorem base_idx {b : Int} {ds : List UInt8} (h : Base b ds) (c : UInt8) : Lib.indexByte ds c = if dv c < b then dv c else -1 := by
  rcases h with ⟨rfl, rfl⟩ | ⟨rfl, rfl⟩ | ⟨rfl, rfl⟩
  · exact idx_dv 8 (by omega) c
  · exact idx_dv 10 (by omega) c
  · exact idx_dv 16 (by omega) c
theorem base_bd {b : Int} {ds : List UInt8} (h : Base b ds) : 1 ≤ b ∧ b ≤ 16 := by
  rcases h with ⟨rfl, rfl⟩ | ⟨rfl, rfl⟩ | ⟨rfl, rfl⟩ <;> omega

theorem u64_nonneg {n : Int} (h0 : 0 ≤ n) (h1 : n ≤ 18446744073709551615) : IntKind.u64.wrap n = n := IntWalk.u64_in n ⟨h0, h1⟩

theorem take_snoc (t : List UInt8) (k : Nat) (h : k < t.length) : t.take (k + 1) = t.take k ++ [t[k]] := by
  rw [List.take_succ_eq_append_getElem h]

theorem round_ok {b : Int} {ds : List UInt8} (hb : Base b ds) (t : List UInt8) (k : Nat) (hlt : k < t.length) (hg : ∀ c ∈ t.take k, good b c)
    (hi : 0 ≤ Lib.indexByte ds t[k]) :
    min (IntKind.u64.wrap (fwd b 0 (t.take k) * b + IntKind.u64.wrap (Lib.indexByte ds t[k]))) 4294967296 = fwd b 0 (t.take (k + 1)) ∧ (∀ c ∈ t.take (k + 1), good b c) := by
  have hb' := base_bd hb
  have hx := base_idx hb t[k]
  have hv := dv_le t[k]
  have hgk : good b t[k] := by
    unfold good
    rw [hx] at hi
    split at hi <;> omega
  have e : Lib.indexByte ds t[k] = dv t[k] := by rw [hx, if_pos hgk.2]
  have hbd := fwd_bd b hb'.1 (t.take k) hg
  have hcap : cap = 4294967296 := rfl
  have h0 := hgk.1
  have hm : fwd b 0 (t.take k) * b ≤ 4294967296 * 16 := Int.mul_le_mul (by omega) hb'.2 (by omega) (by omega)
  have hm0 : 0 ≤ fwd b 0 (t.take k) * b := Int.mul_nonneg hbd.1 (by omega)
  constructor
  · rw [e, u64_nonneg (n := dv t[k]) h0 (by omega), u64_nonneg (by omega) (by omega), take_snoc t k hlt, fwd_snoc, hcap]
  · rw [take_snoc t k hlt]
    intro c hc
    rcases List.mem_append.1 hc with h | h
    · exact hg c h
    · rw [List.mem_singleton.1 h]; exact hgk

theorem round_bad {b : Int} {ds : List UInt8} (hb : Base b ds) (t : List UInt8) (k : Nat) (hlt : k < t.length)
    (hi : Lib.indexByte ds t[k] < 0) : ∃ c ∈ t, ¬ good b c := by
  refine ⟨t[k], List.getElem_mem hlt, fun hg => ?_⟩
  rw [base_idx hb t[k], if_pos hg.2] at hi
  have := hg.1
  omega

theorem drewN_step {w wr : World} (h : ∃ m, wr = w.drewN m) (n : Nat) : ∃ m, wr.drewN n = w.drewN m := by
  obtain ⟨m, rfl⟩ := h
  exact ⟨m + n, World.drewN_drewN ..⟩

theorem ret_two {a b : Int} {x : Bool} (h : a = b) : Ending.returned (.tuple #[.int .u64 a, .bool x]) = .returned (.tuple #[.int .u64 b, .bool x]) := by rw [h]

set_option maxHeartbeats 400000 in
theorem num_hex (l t : List UInt8) (w : World) (hl : t.length ≤ 1048576) (h0 : l.isEmpty = false) (h1 : Lib.hasPrefix l [48, 120] = true) (ht : Hid (Lib.trimPrefix l [48, 120] = t)) :
    Calls Try.prog 11 #[.string ⟨l.toArray⟩] w fun e w' => Ans 16 t e ∧ ∃ m, w' = w.drewN m := by
  go_enter Try.func11, Try.ntmps11
  go_wp2_with ((go_at_call 14; refine (cut_any _ _ _).mono ?_; rintro e w' ⟨rfl, rfl⟩))
  rw [ht.out]
  go_loopw [2, 7] (fun n i wr => ∃ k : Nat, k ≤ t.length ∧ i = .int .i64 k ∧ n = .int .u64 (fwd 16 0 (t.take k)) ∧ (∀ c ∈ t.take k, good 16 c) ∧ ∃ m, wr = w.drewN m) (fun _ i _ => t.length - (intOf i).toNat)
  case atStart => exact ⟨0, Nat.zero_le _, rfl, rfl, by simp, 0, rfl⟩
  case round =>
    obtain ⟨k, hk, rfl, rfl, hg, hw⟩ := hrel
    have HW : Hid (∃ m, wr = w.drewN m) := hw
    clear hw
    have HG : Hid (∀ c ∈ t.take k, good 16 c) := hg
    have hbd := fwd_bd 16 (by omega) (t.take k) hg
    unfold cap at hbd
    obtain ⟨hb0, hb1⟩ := hbd
    clear hg
    by_cases hlt : k < t.length
    · go_wp2
      go_quiet ((go_at_call 15; exact Calls.quiet_of_same (idx_same _ _ _)))
      go_wp2
      case roundEnd =>
        go_round
        case rel =>
          go_light
          have hr := round_ok (b := 16) (.inr (.inr ⟨rfl, rfl⟩)) t k hlt HG.out (by assumption)
          exact ⟨k + 1, by omega, by go_num, congrArg _ hr.1, hr.2, drewN_step HW.out _⟩
        case measure => go_light; simp [intOf]; omega
      · have hr := round_bad (b := 16) (.inr (.inr ⟨rfl, rfl⟩)) t k hlt (by assumption)
        go_ret2
        exact ⟨.inr ⟨hr, rfl⟩, drewN_step HW.out _⟩
    · go_wp2
      go_ret2
      have e : t.take k = t := List.take_of_length_le (by omega)
      exact ⟨.inl ⟨by rw [← e]; exact HG.out, ret_two (by rw [e])⟩, HW.out⟩
end Ip
end Go.Proofs.Qxb6600197a
