/- Seat 210a: the second law's walk. -/
import Derived.Test.Qxb6600210aWf
import Derived.Laws.Concat
namespace Go.Proofs.Qxb6600210a
open Go.RowKit
namespace Ru

theorem esc_at (l st x : List UInt8) (hx : Hid (esc (st.contains ·) l = x)) (hl : l.length ≤ 1048576) (hst : st.length ≤ 1048576) (w : World) :
    Calls Try.prog 11 #[.string ⟨l.toArray⟩, .string ⟨st.toArray⟩] w fun e w' => e = .returned (.string ⟨x.toArray⟩) ∧ Below w.heap.size w w' := by
  have h := hx.out
  subst h; exact esc_any l st hl hst w

theorem zz_str (s : ByteArray) (l st k t : List UInt8) (hs : s = ⟨l.toArray⟩) (hl : l.length ≤ 1048576) (h : Hid (rd (st.contains ·) l = some (k, t))) (w : World) :
    Calls Try.prog 7 #[.string s, .string ⟨st.toArray⟩] w fun e w' => e = .returned (.tuple #[.string ⟨k.toArray⟩, .string ⟨t.toArray⟩, .nilIface]) ∧ Below w.heap.size w w' := by
  subst hs; exact zz_some l st k t hl h w

theorem joined (x y : List UInt8) : (ByteArray.mk x.toArray) ++ (ByteArray.mk y.toArray) = ⟨(x ++ y).toArray⟩ := by
  rw [ByteArray.mk_append_mk]

set_option maxHeartbeats 1000000 in
/-- the tail is empty -/
theorem law2_nil (l st : List UInt8) (hl : (l.length : Int) ≤ 262144) (hst : (st.length : Int) ≤ 262144) (w : World) :
    Calls Try.prog 4 #[.string ⟨l.toArray⟩, .string ⟨st.toArray⟩, .string ⟨#[]⟩] w fun e w' => e = .returned (.bool true) ∧ Below w.heap.size w w' := by
  obtain ⟨x, hx⟩ : ∃ x, esc (st.contains ·) l = x := ⟨_, rfl⟩
  have HX : Hid (esc (st.contains ·) l = x) := hx
  have hxl : x.length ≤ 524288 := by have := esc_le (st.contains ·) l; rw [hx] at this; omega
  have HR : Hid (rd (st.contains ·) (x ++ []) = some (l, [])) := by
    have := rd_esc (st.contains ·) [] (fun c l h => by cases h) l
    rw [hx] at this; exact this
  clear hx
  go_enter Try.func4, Try.ntmps4
  go_wp2_with (first | (go_at_call 9; refine (three_yes _ _ _ _ (by simp [ByteArray.size]; omega)).mono ?_; rintro e w' ⟨rfl, rfl⟩) | (go_at_call 11; refine (esc_at _ _ _ HX (by omega) (by omega) _).mono ?_; rintro e w2 ⟨rfl, hb1⟩) | (go_at_call 7; refine (zz_str _ (x ++ []) _ _ _ (joined x []) (by simp; omega) HR _).mono ?_; rintro e w3 ⟨rfl, hb2⟩))
  go_ret
  exact ⟨rfl, hb1.trans (hb2.mono hb1.size)⟩

set_option maxHeartbeats 1000000 in
/-- the tail opens with a stop -/
theorem law2_cons (l st tl : List UInt8) (hl : (l.length : Int) ≤ 262144) (hst : (st.length : Int) ≤ 262144) (hr : (tl.length : Int) ≤ 262144) (he : tl.isEmpty = false) (hz : 0 < (ByteArray.mk tl.toArray).size)
    (hcb : ((((ByteArray.mk tl.toArray)[0]'hz).toNat : Int) == 92) = false) (hs : Hid (st.contains ((ByteArray.mk tl.toArray)[0]'hz) = true)) (ht : Hid (∀ c l, tl = c :: l → c ≠ 92 ∧ st.contains c = true)) (w : World) :
    Calls Try.prog 4 #[.string ⟨l.toArray⟩, .string ⟨st.toArray⟩, .string ⟨tl.toArray⟩] w fun e w' => e = .returned (.bool true) ∧ Below w.heap.size w w' := by
  obtain ⟨x, hx⟩ : ∃ x, esc (st.contains ·) l = x := ⟨_, rfl⟩
  have HX : Hid (esc (st.contains ·) l = x) := hx
  have hxl : x.length ≤ 524288 := by have := esc_le (st.contains ·) l; rw [hx] at this; omega
  have HR : Hid (rd (st.contains ·) (x ++ tl) = some (l, tl)) := by
    have := rd_esc (st.contains ·) tl ht.out l
    rw [hx] at this; exact this
  clear hx
  go_enter Try.func4, Try.ntmps4
  go_wp2_with (first | (go_at_call 9; refine (three_yes _ _ _ _ (by simp [ByteArray.size]; omega)).mono ?_; rintro e w' ⟨rfl, rfl⟩) | (go_at_call 10; refine (has_same _ _ _ hs.out (by omega) _).mono ?_; rintro e w' ⟨rfl, rfl⟩) | (go_at_call 11; refine (esc_at _ _ _ HX (by omega) (by omega) _).mono ?_; rintro e w2 ⟨rfl, hb1⟩) | (go_at_call 7; refine (zz_str _ (x ++ tl) _ _ _ (joined x tl) (by simp; omega) HR _).mono ?_; rintro e w3 ⟨rfl, hb2⟩))
  go_ret
  exact ⟨rfl, hb1.trans (hb2.mono hb1.size)⟩

set_option maxHeartbeats 1000000 in
/-- the tail opens with a backslash -/
theorem law2_bs (l st tl : List UInt8) (hl : (l.length : Int) ≤ 262144) (hst : (st.length : Int) ≤ 262144) (hr : (tl.length : Int) ≤ 262144) (he : tl.isEmpty = false) (hz : 0 < (ByteArray.mk tl.toArray).size)
    (hcb : ((((ByteArray.mk tl.toArray)[0]'hz).toNat : Int) == 92) = true) (w : World) :
    Calls Try.prog 4 #[.string ⟨l.toArray⟩, .string ⟨st.toArray⟩, .string ⟨tl.toArray⟩] w fun e w' => e = .returned (.bool true) ∧ Below w.heap.size w w' := by
  go_enter Try.func4, Try.ntmps4
  go_wp2_with (first | (go_at_call 9; refine (three_yes _ _ _ _ (by simp [ByteArray.size]; omega)).mono ?_; rintro e w' ⟨rfl, rfl⟩))
  go_ret
  exact ⟨rfl, Below.refl _ _⟩

set_option maxHeartbeats 1000000 in
/-- the tail opens with a byte that is no stop -/
theorem law2_other (l st tl : List UInt8) (hl : (l.length : Int) ≤ 262144) (hst : (st.length : Int) ≤ 262144) (hr : (tl.length : Int) ≤ 262144) (he : tl.isEmpty = false) (hz : 0 < (ByteArray.mk tl.toArray).size)
    (hcb : ((((ByteArray.mk tl.toArray)[0]'hz).toNat : Int) == 92) = false) (hs : Hid (st.contains ((ByteArray.mk tl.toArray)[0]'hz) = false)) (w : World) :
    Calls Try.prog 4 #[.string ⟨l.toArray⟩, .string ⟨st.toArray⟩, .string ⟨tl.toArray⟩] w fun e w' => e = .returned (.bool true) ∧ Below w.heap.size w w' := by
  go_enter Try.func4, Try.ntmps4
  go_wp2_with (first | (go_at_call 9; refine (three_yes _ _ _ _ (by simp [ByteArray.size]; omega)).mono ?_; rintro e w' ⟨rfl, rfl⟩) | (go_at_call 10; refine (has_same _ _ _ hs.out (by omega) _).mono ?_; rintro e w' ⟨rfl, rfl⟩))
  go_ret
  exact ⟨rfl, Below.refl _ _⟩

set_option maxHeartbeats 1000000 in
theorem law2 (a b c : ByteArray) (_w0 : a.size ≤ maxLen) (_w1 : b.size ≤ maxLen) (_w2 : c.size ≤ maxLen) (w : World) :
    Calls Try.prog 4 #[.string a, .string b, .string c] w fun e w' => e = .returned (.bool true) ∧ Below w.heap.size w w' := by
  by_cases hbig : 1048576 < (a.size : Int) + (b.size : Int) + (c.size : Int)
  · go_enter Try.func4, Try.ntmps4
    go_wp2_with ((go_at_call 9; refine (three_no _ _ _ _ hbig).mono ?_; rintro e w' ⟨rfl, rfl⟩))
    go_ret
    exact ⟨rfl, Below.refl _ _⟩
  · have hsm : (a.size : Int) + (b.size : Int) + (c.size : Int) ≤ 1048576 := by omega
    clear hbig
    by_cases ha : 262144 < (a.size : Int)
    · go_enter Try.func4, Try.ntmps4
      go_wp2_with ((go_at_call 9; refine (three_yes _ _ _ _ hsm).mono ?_; rintro e w' ⟨rfl, rfl⟩))
      go_ret
      exact ⟨rfl, Below.refl _ _⟩
    · by_cases hb : 262144 < (b.size : Int)
      · go_enter Try.func4, Try.ntmps4
        go_wp2_with ((go_at_call 9; refine (three_yes _ _ _ _ hsm).mono ?_; rintro e w' ⟨rfl, rfl⟩))
        go_ret
        exact ⟨rfl, Below.refl _ _⟩
      · by_cases hc : 262144 < (c.size : Int)
        · go_enter Try.func4, Try.ntmps4
          go_wp2_with ((go_at_call 9; refine (three_yes _ _ _ _ hsm).mono ?_; rintro e w' ⟨rfl, rfl⟩))
          go_ret
          exact ⟨rfl, Below.refl _ _⟩
        · obtain ⟨⟨l⟩⟩ := a
          obtain ⟨⟨st⟩⟩ := b
          obtain ⟨⟨tl⟩⟩ := c
          have e1 : (ByteArray.mk ⟨l⟩).size = l.length := rfl
          have e2 : (ByteArray.mk ⟨st⟩).size = st.length := rfl
          have e3 : (ByteArray.mk ⟨tl⟩).size = tl.length := rfl
          rw [e1] at ha
          rw [e2] at hb
          rw [e3] at hc
          clear e1 e2 e3 hsm
          cases tl with
          | nil => exact law2_nil l st (by omega) (by omega) w
          | cons t r =>
            have hz : 0 < (ByteArray.mk (t :: r).toArray).size := by simp [ByteArray.size]
            have e0 : (ByteArray.mk (t :: r).toArray)[0]'hz = t := rfl
            by_cases h92 : t = 92
            · exact law2_bs l st (t :: r) (by omega) (by omega) (by omega) rfl hz (by rw [e0, h92]; rfl) w
            · have hn : (((t).toNat : Int) == 92) = false := by
                rw [beq_eq_false_iff_ne]
                intro e
                exact h92 (UInt8.toNat_inj.1 (by have : (92 : UInt8).toNat = 92 := rfl; omega))
              by_cases hs : st.contains t = true
              · exact law2_cons l st (t :: r) (by omega) (by omega) (by omega) rfl hz (by rw [e0]; exact hn) (by rw [e0]; exact hs) (fun c l h => by cases h; exact ⟨h92, hs⟩) w
              · exact law2_other l st (t :: r) (by omega) (by omega) (by omega) rfl hz (by rw [e0]; exact hn) (by rw [e0]; exact (by simpa using hs : st.contains t = false)) w
end Ru
end Go.Proofs.Qxb6600210a
