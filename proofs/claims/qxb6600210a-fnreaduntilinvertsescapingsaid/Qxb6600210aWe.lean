/- Seat 210a: the first law's walk. -/
import Derived.Test.Qxb6600210aWd
namespace Go.Proofs.Qxb6600210a
open Go.RowKit
namespace Ru

theorem ru_none (l st : List UInt8) (hl : l.length ≤ 1048576) (h : rd (st.contains ·) l = none) (w : World) :
    Calls Try.prog 13 #[.string ⟨l.toArray⟩, .string ⟨st.toArray⟩] w fun e w' => (∃ v, e = .returned (.tuple #[.string ⟨#[]⟩, .string ⟨#[]⟩, .iface 40 v])) ∧ Below w.heap.size w w' := by
  refine (ru_any l st hl w).mono ?_
  rintro e w' ⟨⟨_, hv⟩ | ⟨k, t, h', _⟩, hb⟩
  · exact ⟨hv, hb⟩
  · rw [h] at h'; cases h'
theorem ru_some (l st k t : List UInt8) (hl : l.length ≤ 1048576) (h : rd (st.contains ·) l = some (k, t)) (w : World) :
    Calls Try.prog 13 #[.string ⟨l.toArray⟩, .string ⟨st.toArray⟩] w fun e w' => e = .returned (.tuple #[.string ⟨k.toArray⟩, .string ⟨t.toArray⟩, .nilIface]) ∧ Below w.heap.size w w' := by
  refine (ru_any l st hl w).mono ?_
  rintro e w' ⟨⟨h', _⟩ | ⟨k', t', h', he⟩, hb⟩
  · rw [h] at h'; cases h'
  · rw [h] at h'; cases h'; exact ⟨he, hb⟩
theorem zz_none (l st : List UInt8) (hl : l.length ≤ 1048576) (h : Hid (rd (st.contains ·) l = none)) (w : World) :
    Calls Try.prog 7 #[.string ⟨l.toArray⟩, .string ⟨st.toArray⟩] w fun e w' => (∃ v, e = .returned (.tuple #[.string ⟨#[]⟩, .string ⟨#[]⟩, .iface 40 v])) ∧ Below w.heap.size w w' := by
  go_enter Try.func7, Try.ntmps7
  go_wp2_with ((go_at_call 13; refine (ru_none _ _ hl h.out _).mono ?_; rintro e w2 ⟨⟨v, rfl⟩, hb1⟩))
  go_ret3
  exact ⟨⟨_, rfl⟩, hb1⟩
theorem zz_some (l st k t : List UInt8) (hl : l.length ≤ 1048576) (h : Hid (rd (st.contains ·) l = some (k, t))) (w : World) :
    Calls Try.prog 7 #[.string ⟨l.toArray⟩, .string ⟨st.toArray⟩] w fun e w' => e = .returned (.tuple #[.string ⟨k.toArray⟩, .string ⟨t.toArray⟩, .nilIface]) ∧ Below w.heap.size w w' := by
  go_enter Try.func7, Try.ntmps7
  go_wp2_with ((go_at_call 13; refine (ru_some _ _ _ _ hl h.out _).mono ?_; rintro e w2 ⟨rfl, hb1⟩))
  go_ret3
  exact ⟨rfl, hb1⟩
theorem mru_none (l st : List UInt8) (hl : l.length ≤ 1048576) (hst : st.length ≤ 1048576) (h : rd (st.contains ·) l = none) (w : World) :
    Calls Try.prog 8 #[.string ⟨l.toArray⟩, .string ⟨st.toArray⟩] w fun e w' => e = .returned (.tuple #[.string ⟨#[]⟩, .string ⟨#[]⟩, .bool false]) ∧ Below w.heap.size w w' := by
  rw [← (md_rd _ _ l (Nat.le_refl _)).1] at h
  refine (mru_any l st hl hst w).mono ?_
  rintro e w' ⟨⟨_, hv⟩ | ⟨k, t, h', _⟩, hb⟩
  · exact ⟨hv, hb⟩
  · rw [h] at h'; cases h'
theorem mru_some (l st k t : List UInt8) (hl : l.length ≤ 1048576) (hst : st.length ≤ 1048576) (h : rd (st.contains ·) l = some (k, t)) (w : World) :
    Calls Try.prog 8 #[.string ⟨l.toArray⟩, .string ⟨st.toArray⟩] w fun e w' => e = .returned (.tuple #[.string ⟨k.toArray⟩, .string ⟨t.toArray⟩, .bool true]) ∧ Below w.heap.size w w' := by
  rw [← (md_rd _ _ l (Nat.le_refl _)).1] at h
  refine (mru_any l st hl hst w).mono ?_
  rintro e w' ⟨⟨h', _⟩ | ⟨k', t', h', he⟩, hb⟩
  · rw [h] at h'; cases h'
  · rw [h] at h'; cases h'; exact ⟨he, hb⟩

set_option maxHeartbeats 1000000 in
theorem law1 (a b : ByteArray) (w0 : a.size ≤ maxLen) (w1 : b.size ≤ maxLen) (w : World) :
    Calls Try.prog 3 #[.string a, .string b] w fun e w' => e = .returned (.bool true) ∧ Below w.heap.size w w' := by
  by_cases hbig : 1048576 < (a.size : Int) + (b.size : Int)
  · go_enter Try.func3, Try.ntmps3
    go_wp2_with ((go_at_call 6; refine (two_no _ _ _ w0 w1 hbig).mono ?_; rintro e w' ⟨rfl, rfl⟩))
    go_ret
    exact ⟨rfl, Below.refl _ _⟩
  · have hsm : (a.size : Int) + (b.size : Int) ≤ 1048576 := by omega
    clear hbig
    by_cases ha : 524288 < (a.size : Int)
    · go_enter Try.func3, Try.ntmps3
      go_wp2_with ((go_at_call 6; refine (two_yes _ _ _ hsm).mono ?_; rintro e w' ⟨rfl, rfl⟩))
      go_ret
      exact ⟨rfl, Below.refl _ _⟩
    · by_cases hb : 524288 < (b.size : Int)
      · go_enter Try.func3, Try.ntmps3
        go_wp2_with ((go_at_call 6; refine (two_yes _ _ _ hsm).mono ?_; rintro e w' ⟨rfl, rfl⟩))
        go_ret
        exact ⟨rfl, Below.refl _ _⟩
      · obtain ⟨⟨l⟩⟩ := a
        obtain ⟨⟨st⟩⟩ := b
        have e1 : (ByteArray.mk ⟨l⟩).size = l.length := rfl
        have e2 : (ByteArray.mk ⟨st⟩).size = st.length := rfl
        have hl : l.length ≤ 1048576 := by omega
        have hst : st.length ≤ 1048576 := by omega
        rw [e1] at ha
        rw [e2] at hb
        clear e1 e2 w0 w1
        rcases hrd : rd (st.contains ·) l with _ | ⟨k, t⟩
        · have HRD : Hid (rd (st.contains ·) l = none) := hrd
          clear hrd
          go_enter Try.func3, Try.ntmps3
          go_wp2_with (first | (go_at_call 6; refine (two_yes _ _ _ hsm).mono ?_; rintro e w' ⟨rfl, rfl⟩) | (go_at_call 7; refine (zz_none _ _ hl HRD _).mono ?_; rintro e w2 ⟨⟨v, rfl⟩, hb1⟩) | (go_at_call 8; refine (mru_none _ _ hl hst HRD.out _).mono ?_; rintro e w3 ⟨rfl, hb2⟩))
          go_ret
          exact ⟨rfl, hb1.trans (hb2.mono hb1.size)⟩
        · have HRD : Hid (rd (st.contains ·) l = some (k, t)) := hrd
          clear hrd
          go_enter Try.func3, Try.ntmps3
          go_wp2_with (first | (go_at_call 6; refine (two_yes _ _ _ hsm).mono ?_; rintro e w' ⟨rfl, rfl⟩) | (go_at_call 7; refine (zz_some _ _ _ _ hl HRD _).mono ?_; rintro e w2 ⟨rfl, hb1⟩) | (go_at_call 8; refine (mru_some _ _ _ _ hl hst HRD.out _).mono ?_; rintro e w3 ⟨rfl, hb2⟩))
          go_ret
          exact ⟨rfl, hb1.trans (hb2.mono hb1.size)⟩
end Ru
end Go.Proofs.Qxb6600210a
