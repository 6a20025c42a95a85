/- Seat 745a: zzAppendEscaped. -/
import Derived.Test.Qxb6600745aWa
namespace Go.Proofs.Qxb6600745a
open Go.RowKit
namespace Se

/-- what zzAppendEscaped leaves: the row with the new bytes behind -/
def Onto (B : Nat) (w : World) (acc new : List UInt8) (e : Ending) (w' : World) : Prop :=
  ∃ v', e = .returned v' ∧ w'.ownsRow B 5 1 v' (acc ++ new).length (cells (acc ++ new)) ∧ Below B w w' ∧ B ≤ w'.heap.size

theorem onto_mk {B : Nat} {w w1 : World} {v v' : Value} {acc new : List UInt8} {n m : Nat} {news : List Value} {o : Obj} (hB : B ≤ w.heap.size) (hown : w.ownsRow B 5 1 v acc.length (cells acc))
    (hn : n = acc.length) (hm : m = new.length) (hnews : news = cells new)
    (h1 : w1.ownsRow B 5 1 v' (n + m) (cells acc ++ news)) (hg : (w.alloc o).grownBy w1 v.ownBlock) : Onto B w acc new (.returned v') w1 := by
  subst hn hm hnews
  have h := grown_below (Below.refl B w) hB hown hg
  exact ⟨v', rfl, by rw [cells_append, List.length_append]; exact h1, h.1, h.2⟩

set_option maxHeartbeats 1000000 in
theorem app_quote (B : Nat) (v : Value) (acc : List UInt8) (w : World) (hB : B ≤ w.heap.size) (hown : Hid (w.ownsRow B 5 1 v acc.length (cells acc))) (hlen : acc.length ≤ 8388608) :
    Calls Try.prog 10 #[v, .int .u8 34] w fun e w' => Onto B w acc [92, 34] e w' := by
  obtain ⟨i0, hi, hz0, hz1, hz2⟩ := info_parts infoByte
  go_enter Try.func10, Try.ntmps10
  go_wp2_with (at_builtin; refine wpList_append_own _ rfl _ _ 22 rfl B 5 i0 (.int .u8 0) 1 1 Try.underlying22 hi hz0 hz1 hz2 rfl (by decide) _ _ _ rfl (hown.out.alloc _) ⟨w.heap.size, 0, none⟩ 2 2 [.int .u8 92, .int .u8 34] rfl rfl ?c1 ?c2 ?c3 ?c4 ?c5 ?_)
  case c1 => intro j u hj; exact new_at w #[.int .u8 92, .int .u8 34] 5 j u hj
  case c2 => intro u hu; simp at hu; rcases hu with rfl | rfl <;> rfl
  case c3 => unfold maxLen; omega
  case c4 => omega
  case c5 => simp; omega
  intro v' w1 hown' hgrow _
  have HM : Hid (Onto B w acc [92, 34] (.returned v') w1) := onto_mk hB hown.out rfl rfl rfl hown' hgrow
  clear hown' hgrow
  go_wp2
  go_ret
  exact HM.out

set_option maxHeartbeats 1000000 in
theorem app_bs (B : Nat) (v : Value) (acc : List UInt8) (w : World) (hB : B ≤ w.heap.size) (hown : Hid (w.ownsRow B 5 1 v acc.length (cells acc))) (hlen : acc.length ≤ 8388608) :
    Calls Try.prog 10 #[v, .int .u8 92] w fun e w' => Onto B w acc [92, 92] e w' := by
  obtain ⟨i0, hi, hz0, hz1, hz2⟩ := info_parts infoByte
  go_enter Try.func10, Try.ntmps10
  go_wp2_with (at_builtin; refine wpList_append_own _ rfl _ _ 22 rfl B 5 i0 (.int .u8 0) 1 1 Try.underlying22 hi hz0 hz1 hz2 rfl (by decide) _ _ _ rfl (hown.out.alloc _) ⟨w.heap.size, 0, none⟩ 2 2 [.int .u8 92, .int .u8 92] rfl rfl ?c1 ?c2 ?c3 ?c4 ?c5 ?_)
  case c1 => intro j u hj; exact new_at w #[.int .u8 92, .int .u8 92] 5 j u hj
  case c2 => intro u hu; simp at hu; subst hu; rfl
  case c3 => unfold maxLen; omega
  case c4 => omega
  case c5 => simp; omega
  intro v' w1 hown' hgrow _
  have HM : Hid (Onto B w acc [92, 92] (.returned v') w1) := onto_mk hB hown.out rfl rfl rfl hown' hgrow
  clear hown' hgrow
  go_wp2
  go_ret
  exact HM.out

set_option maxHeartbeats 1000000 in
theorem app_slash (B : Nat) (v : Value) (acc : List UInt8) (w : World) (hB : B ≤ w.heap.size) (hown : Hid (w.ownsRow B 5 1 v acc.length (cells acc))) (hlen : acc.length ≤ 8388608) :
    Calls Try.prog 10 #[v, .int .u8 47] w fun e w' => Onto B w acc [92, 47] e w' := by
  obtain ⟨i0, hi, hz0, hz1, hz2⟩ := info_parts infoByte
  go_enter Try.func10, Try.ntmps10
  go_wp2_with (at_builtin; refine wpList_append_own _ rfl _ _ 22 rfl B 5 i0 (.int .u8 0) 1 1 Try.underlying22 hi hz0 hz1 hz2 rfl (by decide) _ _ _ rfl (hown.out.alloc _) ⟨w.heap.size, 0, none⟩ 2 2 [.int .u8 92, .int .u8 47] rfl rfl ?c1 ?c2 ?c3 ?c4 ?c5 ?_)
  case c1 => intro j u hj; exact new_at w #[.int .u8 92, .int .u8 47] 5 j u hj
  case c2 => intro u hu; simp at hu; rcases hu with rfl | rfl <;> rfl
  case c3 => unfold maxLen; omega
  case c4 => omega
  case c5 => simp; omega
  intro v' w1 hown' hgrow _
  have HM : Hid (Onto B w acc [92, 47] (.returned v') w1) := onto_mk hB hown.out rfl rfl rfl hown' hgrow
  clear hown' hgrow
  go_wp2
  go_ret
  exact HM.out

set_option maxHeartbeats 1000000 in
theorem app_nl (B : Nat) (v : Value) (acc : List UInt8) (w : World) (hB : B ≤ w.heap.size) (hown : Hid (w.ownsRow B 5 1 v acc.length (cells acc))) (hlen : acc.length ≤ 8388608) :
    Calls Try.prog 10 #[v, .int .u8 10] w fun e w' => Onto B w acc [92, 110] e w' := by
  obtain ⟨i0, hi, hz0, hz1, hz2⟩ := info_parts infoByte
  go_enter Try.func10, Try.ntmps10
  go_wp2_with (at_builtin; refine wpList_append_own _ rfl _ _ 22 rfl B 5 i0 (.int .u8 0) 1 1 Try.underlying22 hi hz0 hz1 hz2 rfl (by decide) _ _ _ rfl (hown.out.alloc _) ⟨w.heap.size, 0, none⟩ 2 2 [.int .u8 92, .int .u8 110] rfl rfl ?c1 ?c2 ?c3 ?c4 ?c5 ?_)
  case c1 => intro j u hj; exact new_at w #[.int .u8 92, .int .u8 110] 5 j u hj
  case c2 => intro u hu; simp at hu; rcases hu with rfl | rfl <;> rfl
  case c3 => unfold maxLen; omega
  case c4 => omega
  case c5 => simp; omega
  intro v' w1 hown' hgrow _
  have HM : Hid (Onto B w acc [92, 110] (.returned v') w1) := onto_mk hB hown.out rfl rfl rfl hown' hgrow
  clear hown' hgrow
  go_wp2
  go_ret
  exact HM.out

set_option maxHeartbeats 1000000 in
theorem app_other (B : Nat) (v : Value) (acc : List UInt8) (c : UInt8) (w : World) (hB : B ≤ w.heap.size) (hown : Hid (w.ownsRow B 5 1 v acc.length (cells acc))) (hlen : acc.length ≤ 8388608)
    (h0 : 32 ≤ (c.toNat : Int)) (h1 : ((c.toNat : Int) == 34) = false) (h2 : ((c.toNat : Int) == 92) = false) (h3 : ((c.toNat : Int) == 47) = false) (h4 : ((c.toNat : Int) == 10) = false) :
    Calls Try.prog 10 #[v, .int .u8 (c.toNat : Int)] w fun e w' => Onto B w acc [c] e w' := by
  obtain ⟨i0, hi, hz0, hz1, hz2⟩ := info_parts infoByte
  go_enter Try.func10, Try.ntmps10
  go_wp2_with (at_builtin; refine wpList_append_own _ rfl _ _ 22 rfl B 5 i0 (.int .u8 0) 1 1 Try.underlying22 hi hz0 hz1 hz2 rfl (by decide) _ _ _ rfl (hown.out.alloc _) ⟨w.heap.size, 0, none⟩ 1 1 [.int .u8 (c.toNat : Int)] rfl rfl ?c1 ?c2 ?c3 ?c4 ?c5 ?_)
  case c1 => intro j u hj; exact new_at w #[.int .u8 (c.toNat : Int)] 5 j u hj
  case c2 => intro u hu; simp at hu; subst hu; rfl
  case c3 => unfold maxLen; omega
  case c4 => omega
  case c5 => simp; omega
  intro v' w1 hown' hgrow _
  have HM : Hid (Onto B w acc [c] (.returned v') w1) := onto_mk hB hown.out rfl rfl rfl hown' hgrow
  clear hown' hgrow
  go_wp2
  go_ret
  exact HM.out

theorem hex_int (x : Int) (h0 : 0 ≤ x) (h1 : x < 256) (w : World) :
    Calls Try.prog 12 #[.int .u8 x] w fun e w' => e = .returned (.int .u8 ((hexOf x.toNat).toNat : Int)) ∧ w = w' := by
  obtain ⟨n, rfl⟩ := Int.eq_ofNat_of_zero_le h0
  exact hex_any n (by omega) w

set_option maxHeartbeats 1000000 in
theorem app_low (B : Nat) (v : Value) (acc : List UInt8) (c : UInt8) (w : World) (hB : B ≤ w.heap.size) (hown : Hid (w.ownsRow B 5 1 v acc.length (cells acc))) (hlen : acc.length ≤ 8388608)
    (h0 : (c.toNat : Int) < 32) (h1 : ((c.toNat : Int) == 34) = false) (h2 : ((c.toNat : Int) == 92) = false) (h3 : ((c.toNat : Int) == 47) = false) (h4 : ((c.toNat : Int) == 10) = false) :
    Calls Try.prog 10 #[v, .int .u8 (c.toNat : Int)] w fun e w' => Onto B w acc [92, 117, 48, 48, hexOf (c.toNat / 16), hexOf c.toNat] e w' := by
  obtain ⟨i0, hi, hz0, hz1, hz2⟩ := info_parts infoByte
  go_enter Try.func10, Try.ntmps10
  go_wp2_with (first | (go_at_call 12; refine (hex_int _ (by omega) (by omega) _).mono ?_; rintro e w' ⟨rfl, rfl⟩) | (at_builtin; refine wpList_append_own _ rfl _ _ 22 rfl B 5 i0 (.int .u8 0) 1 1 Try.underlying22 hi hz0 hz1 hz2 rfl (by decide) _ _ _ rfl (hown.out.alloc _) ⟨w.heap.size, 0, none⟩ 6 6 [.int .u8 92, .int .u8 117, .int .u8 48, .int .u8 48, .int .u8 ((hexOf (c.toNat / 16)).toNat : Int), .int .u8 ((hexOf c.toNat).toNat : Int)] rfl rfl ?c1 ?c2 ?c3 ?c4 ?c5 ?_))
  case c1 => intro j u hj; exact new_at w #[.int .u8 92, .int .u8 117, .int .u8 48, .int .u8 48, .int .u8 ((hexOf (c.toNat / 16)).toNat : Int), .int .u8 ((hexOf c.toNat).toNat : Int)] 5 j u hj
  case c2 => intro u hu; simp at hu; rcases hu with rfl | rfl | rfl | rfl | rfl <;> rfl
  case c3 => unfold maxLen; omega
  case c4 => omega
  case c5 => simp; omega
  intro v' w1 hown' hgrow _
  have HM : Hid (Onto B w acc [92, 117, 48, 48, hexOf (c.toNat / 16), hexOf c.toNat] (.returned v') w1) := onto_mk hB hown.out rfl rfl rfl hown' hgrow
  clear hown' hgrow
  go_wp2
  go_ret
  exact HM.out

theorem beq_u8 (c d : UInt8) (h : c ≠ d) : (((c.toNat : Nat) : Int) == ((d.toNat : Nat) : Int)) = false := by
  rw [beq_eq_false_iff_ne]
  intro e
  exact h (UInt8.toNat_inj.1 (by omega))

/-- zzAppendEscaped -/
theorem app_any (B : Nat) (v : Value) (acc : List UInt8) (c : UInt8) (w : World) (hB : B ≤ w.heap.size) (hown : Hid (w.ownsRow B 5 1 v acc.length (cells acc))) (hlen : acc.length ≤ 8388608) :
    Calls Try.prog 10 #[v, .int .u8 (c.toNat : Int)] w fun e w' => Onto B w acc (je c) e w' := by
  by_cases h1 : c = 34
  · subst h1; exact app_quote B v acc w hB hown hlen
  · by_cases h2 : c = 92
    · subst h2; exact app_bs B v acc w hB hown hlen
    · by_cases h3 : c = 47
      · subst h3; exact app_slash B v acc w hB hown hlen
      · by_cases h4 : c = 10
        · subst h4; exact app_nl B v acc w hB hown hlen
        · have e1 := beq_u8 c 34 h1
          have e2 := beq_u8 c 92 h2
          have e3 := beq_u8 c 47 h3
          have e4 := beq_u8 c 10 h4
          by_cases h5 : c.toNat < 32
          · have e : je c = [92, 117, 48, 48, hexOf (c.toNat / 16), hexOf c.toNat] := by unfold je; rw [if_neg h1, if_neg h2, if_neg h3, if_neg h4, if_pos h5]
            rw [e]
            exact app_low B v acc c w hB hown hlen (by omega) e1 e2 e3 e4
          · have e : je c = [c] := by unfold je; rw [if_neg h1, if_neg h2, if_neg h3, if_neg h4, if_neg h5]
            rw [e]
            exact app_other B v acc c w hB hown hlen (by omega) e1 e2 e3 e4
end Se
end Go.Proofs.Qxb6600745a
