/- Seat 210a: values.readUntil computes 'rd'. -/
import Derived.Test.Qxb6600210aWb
import Derived.Deep.RegionWith
namespace Go.Proofs.Qxb6600210a
open Go.RowKit
namespace Ru

/-- what readUntil hands back -/
def Out (r : Option (List UInt8 × List UInt8)) (e : Ending) : Prop :=
  (r = none ∧ ∃ v, e = .returned (.tuple #[.string ⟨#[]⟩, .string ⟨#[]⟩, .iface 40 v])) ∨
  ∃ k t : List UInt8, r = some (k, t) ∧ e = .returned (.tuple #[.string ⟨k.toArray⟩, .string ⟨t.toArray⟩, .nilIface])

theorem idx_pos (l : List UInt8) (c : UInt8) : (0 ≤ Lib.indexByte l c) ↔ l.contains c = true := by
  induction l with
  | nil => simp [Lib.indexByte]
  | cons b l ih =>
    have hge := Lib.indexByte_ge l c
    unfold Lib.indexByte
    by_cases hb : b = c
    · subst hb; simp
    · have h1 : (b == c) = false := by simpa using hb
      have h2 : (c == b) = false := by simpa using fun h => hb h.symm
      rw [h1]
      simp only [Bool.false_eq_true, if_false, List.contains_cons, h2, Bool.false_or, ← ih]
      split
      · rename_i h; have := beq_iff_eq.1 h; omega
      · rename_i h
        have : Lib.indexByte l c ≠ -1 := fun e => h (by rw [e]; rfl)
        omega

def Rel (l st : List UInt8) (B : Nat) (w : World) (k : Nat) (acc : List UInt8) (wr : World) : Prop :=
  Lib.IsBuilder 35 5 B B (Lib.byteCells acc) wr ∧ acc.length ≤ k ∧ rd (st.contains ·) l = put acc (rd (st.contains ·) (l.drop k)) ∧ Below B w wr ∧ B < wr.heap.size

theorem drop_cons (l : List UInt8) (k : Nat) (h : k < l.length) : l.drop k = l[k] :: l.drop (k + 1) := List.drop_eq_getElem_cons h

theorem cells_snoc (acc : List UInt8) (c : UInt8) : Lib.byteCells acc ++ [.int .u8 c.toNat] = Lib.byteCells (acc ++ [c]) := by simp [Lib.byteCells]

theorem rel_bs {l st : List UInt8} {B : Nat} {w wr w1 : World} {k : Nat} {acc : List UInt8} (h : Rel l st B w k acc wr) (hk : k < l.length) (hk1 : k + 1 < l.length) (hc : l[k] = 92)
    (h1 : Lib.IsBuilder 35 5 B B (Lib.byteCells acc ++ [.int .u8 (l[k + 1].toNat : Int)]) w1) (hb : Below B wr w1) : Rel l st B w (k + 2) (acc ++ [l[k + 1]]) w1 := by
  obtain ⟨_, h2, h3, h4, h5⟩ := h
  refine ⟨by rw [← cells_snoc]; exact h1, by simp; omega, ?_, h4.trans hb, by have := hb.size; omega⟩
  rw [h3, drop_cons l k hk, drop_cons l (k + 1) hk1, hc, rd_bs, put_put]
theorem rel_ch {l st : List UInt8} {B : Nat} {w wr w1 : World} {k : Nat} {acc : List UInt8} (h : Rel l st B w k acc wr) (hk : k < l.length) (hc : l[k] ≠ 92) (hs : st.contains l[k] = false)
    (h1 : Lib.IsBuilder 35 5 B B (Lib.byteCells acc ++ [.int .u8 (l[k].toNat : Int)]) w1) (hb : Below B wr w1) : Rel l st B w (k + 1) (acc ++ [l[k]]) w1 := by
  obtain ⟨_, h2, h3, h4, h5⟩ := h
  refine ⟨by rw [← cells_snoc]; exact h1, by simp; omega, ?_, h4.trans hb, by have := hb.size; omega⟩
  rw [h3, drop_cons l k hk, rd_other _ _ _ hc hs, put_put]
theorem out_bad {l st : List UInt8} {B : Nat} {w wr : World} {k : Nat} {acc : List UInt8} (h : Rel l st B w k acc wr) (hk : k < l.length) (hk1 : k + 1 = l.length) (hc : l[k] = 92) : rd (st.contains ·) l = none := by
  rw [h.2.2.1, drop_cons l k hk, hc, hk1, List.drop_length, rd_bs_end, put_none]
theorem out_stop {l st : List UInt8} {B : Nat} {w wr : World} {k : Nat} {acc : List UInt8} (h : Rel l st B w k acc wr) (hk : k < l.length) (hc : l[k] ≠ 92) (hs : st.contains l[k] = true) : rd (st.contains ·) l = some (acc, l.drop k) := by
  rw [h.2.2.1, drop_cons l k hk, rd_stop _ _ _ hc hs, put_some, List.append_nil]
theorem out_end {l st : List UInt8} {B : Nat} {w wr : World} {k : Nat} {acc : List UInt8} (h : Rel l st B w k acc wr) (hk : l.length ≤ k) : rd (st.contains ·) l = some (acc, []) := by
  rw [h.2.2.1, List.drop_of_length_le hk, rd_nil, put_some, List.append_nil]

theorem extract_drop (l : List UInt8) (k : Nat) : (ByteArray.mk l.toArray).extract k l.length = ⟨(l.drop k).toArray⟩ := by
  apply ByteArray.ext
  rw [ByteArray.data_extract]
  simp only [List.extract_toArray, List.extract_eq_take_drop]
  rw [List.take_of_length_le (by simp)]

/-- strings.IndexByte, the byte a byte -/
theorem idx_any (l : List UInt8) (c : UInt8) (w : World) :
    Calls Try.prog 16 #[.string ⟨l.toArray⟩, .int .u8 c.toNat] w fun e w' => e = .returned (.int .i64 (Lib.indexByte l c)) ∧ w = w' :=
  (Try.strings_IndexByte ⟨l.toArray⟩ c.toNat w).mono fun e w' h => ⟨by rw [h.1]; simp, h.2.symm⟩

theorem ret_three {x a b : ByteArray} {v : Value} (h : a = b) : Ending.returned (.tuple #[.string x, .string a, v]) = .returned (.tuple #[.string x, .string b, v]) := by rw [h]

theorem idx_at (l : List UInt8) (c : UInt8) (n : Int) (h : Lib.indexByte l c = n) (w : World) :
    Calls Try.prog 16 #[.string ⟨l.toArray⟩, .int .u8 c.toNat] w fun e w' => e = .returned (.int .i64 n) ∧ w = w' := by
  subst h; exact idx_any l c w

set_option maxHeartbeats 2000000 in
theorem ru_any (l st : List UInt8) (hl : l.length ≤ 1048576) (w : World) :
    Calls Try.prog 13 #[.string ⟨l.toArray⟩, .string ⟨st.toArray⟩] w fun e w' => Out (rd (st.contains ·) l) e ∧ Below w.heap.size w w' := by
  go_enter Try.func13, Try.ntmps13
  go_wp2
  go_loopw [8] (fun i wr => ∃ (k : Nat) (acc : List UInt8), k ≤ l.length ∧ i = .int .i64 k ∧ Rel l st w.heap.size w k acc wr) (fun i _ => l.length - (intOf i).toNat)
  case atStart => exact ⟨0, [], Nat.zero_le _, rfl, Lib.fresh_isBuilder 35 5 w, Nat.le_refl _, by rw [List.drop_zero, put_nil], (Below.refl _ _).alloc (Nat.le_refl _) _, by simp⟩
  case round =>
    obtain ⟨k, acc, hk, rfl, hR⟩ := hrel
    have HR : Hid (Rel l st w.heap.size w k acc wr) := hR
    have hacc := hR.2.1
    have hsz := hR.2.2.2.2
    clear hR
    have hlen : (Lib.byteCells acc).length + 1 ≤ 140737488355328 := by rw [Lib.byteCells_length]; omega
    have HL : Hid ((Lib.byteCells acc).length + 1 ≤ 140737488355328) := hlen
    clear hlen
    by_cases hlt : k < l.length
    · by_cases hc : l[k] = 92
      · have HC : Hid (l[k] = 92) := hc
        have hcb : ((((ByteArray.mk l.toArray)[k]'hlt).toNat : Int) == 92) = true := by
          have : (ByteArray.mk l.toArray)[k]'hlt = l[k] := rfl
          rw [this, hc]; rfl
        clear hc
        by_cases hend : k + 1 = l.length
        · have HE : Hid (k + 1 = l.length) := hend
          have hnone := out_bad HR.out hlt HE.out HC.out
          have HNN : Hid (rd (st.contains ·) l = none) := hnone
          clear hnone
          have heb : ((k : Int) + 1 == (l.length : Int)) = true := beq_iff_eq.2 (by omega)
          clear hend
          go_wp2_with ((go_at_call 14; refine (new_any _ _).mono ?_; rintro e w' ⟨rfl, rfl⟩))
          go_ret3
          exact ⟨.inl ⟨HNN.out, _, rfl⟩, HR.out.2.2.2.1.alloc (by omega) _⟩
        · have heb : ((k : Int) + 1 == (l.length : Int)) = false := beq_eq_false_iff_ne.2 (by omega)
          have hlt1 : k + 1 < l.length := by omega
          have hlt2 : (k : Int) + 1 < (l.length : Int) := by omega
          go_wp2_with ((go_at_call 15; refine (writeByte w.heap.size w.heap.size (Lib.byteCells acc) _ _ HR.out.1 HL.out (by omega)).mono ?_; rintro e w1 ⟨rfl, h1, hb⟩))
          go_roundw
          case rel =>
            go_light
            exact ⟨k + 2, acc ++ [l[k + 1]], by omega, by go_num, rel_bs HR.out hlt hlt1 HC.out (by assumption) (by assumption)⟩
          case measure => go_light; simp [intOf]; omega
      · have HC : Hid (l[k] ≠ 92) := hc
        have hcb : ((((ByteArray.mk l.toArray)[k]'hlt).toNat : Int) == 92) = false := by
          have : (ByteArray.mk l.toArray)[k]'hlt = l[k] := rfl
          rw [this, beq_eq_false_iff_ne]
          intro e
          exact hc (UInt8.toNat_inj.1 (by have : (92 : UInt8).toNat = 92 := rfl; omega))
        clear hc
        by_cases hs : st.contains l[k] = true
        · have HS : Hid (st.contains l[k] = true) := hs
          obtain ⟨n, hn, hi⟩ : ∃ n, Lib.indexByte st l[k] = n ∧ 0 ≤ n := ⟨_, rfl, (idx_pos _ _).2 hs⟩
          have HI : Hid (Lib.indexByte st l[k] = n) := hn
          clear hs hn
          go_wp2_with ((go_at_call 16; refine (idx_at _ _ _ HI.out _).mono ?_; rintro e w' ⟨rfl, rfl⟩))
          go_region_with ((go_at_call 17; refine (Try.Builder_String_any w.heap.size w.heap.size acc _ (by exact HR.out.1) (by simp; omega)).mono ?_; rintro e w1 ⟨rfl, hb⟩))
          all_goals
            go_wp2
            go_ret3
            exact ⟨.inr ⟨acc, l.drop k, out_stop HR.out hlt HC.out HS.out, ret_three (extract_drop l k)⟩, HR.out.2.2.2.1.drew.trans hb⟩
        · have hs' : st.contains l[k] = false := by simpa using hs
          have HS : Hid (st.contains l[k] = false) := hs'
          obtain ⟨n, hn, hi⟩ : ∃ n, Lib.indexByte st l[k] = n ∧ n < 0 := ⟨_, rfl, by have := mt (idx_pos st l[k]).1 hs; omega⟩
          have HI : Hid (Lib.indexByte st l[k] = n) := hn
          clear hs hs' hn
          go_wp2_with (first | (go_at_call 16; refine (idx_at _ _ _ HI.out _).mono ?_; rintro e w' ⟨rfl, rfl⟩) | (go_at_call 15; refine (writeByte w.heap.size w.heap.size (Lib.byteCells acc) _ _ HR.out.1 HL.out (by omega)).mono ?_; rintro e w1 ⟨rfl, h1, hb⟩))
          go_roundw
          case rel =>
            go_light
            exact ⟨k + 1, acc ++ [l[k]], by omega, by go_num, rel_ch HR.out hlt HC.out HS.out (by assumption) (by assumption)⟩
          case measure => go_light; simp [intOf]; omega
    · go_wp2_with ((go_at_call 17; refine (Try.Builder_String_any w.heap.size w.heap.size acc _ HR.out.1 (by omega)).mono ?_; rintro e w1 ⟨rfl, hb⟩))
      go_ret3
      exact ⟨.inr ⟨acc, [], out_end HR.out (by omega), rfl⟩, HR.out.2.2.2.1.trans (by assumption)⟩
end Ru
end Go.Proofs.Qxb6600210a
