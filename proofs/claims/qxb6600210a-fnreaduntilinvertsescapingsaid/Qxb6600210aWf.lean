/- Seat 210a: zzE1Escape computes 'esc'. -/
import Derived.Test.Qxb6600210aWe
namespace Go.Proofs.Qxb6600210a
open Go.RowKit
namespace Ru

def Erel (l st : List UInt8) (B : Nat) (w : World) (k : Nat) (acc : List UInt8) (v : Value) (wr : World) : Prop :=
  wr.ownsRow B 5 1 v acc.length (Lib.byteCells acc) ∧ acc = esc (st.contains ·) (l.take k) ∧ Below B w wr ∧ B ≤ wr.heap.size

theorem take_snoc (l : List UInt8) (k : Nat) (h : k < l.length) : l.take (k + 1) = l.take k ++ [l[k]] := by
  rw [List.take_succ_eq_append_getElem h]

theorem erel_len {l st : List UInt8} {B : Nat} {w wr : World} {k : Nat} {acc : List UInt8} {v : Value} (h : Erel l st B w k acc v wr) : acc.length ≤ 2 * k := by
  rw [h.2.1]
  have h1 := esc_le (st.contains ·) (l.take k)
  have h2 : (l.take k).length ≤ k := List.length_take_le _ _
  omega

theorem erel_one {l st : List UInt8} {B : Nat} {w wr w2 : World} {k : Nat} {acc : List UInt8} {v v2 : Value} {o : Obj} (h : Erel l st B w k acc v wr) (hk : k < l.length) (he : ¬ (l[k] = 92 ∨ st.contains l[k] = true))
    (h1 : w2.ownsRow B 5 1 v2 (acc.length + 1) (Lib.byteCells acc ++ [.int .u8 (l[k].toNat : Int)])) (hg : (wr.alloc o).grownBy w2 v.ownBlock) : Erel l st B w (k + 1) (acc ++ [l[k]]) v2 w2 := by
  have hB := grown_below h.2.2.1 h.2.2.2 h.1 hg
  refine ⟨own_bytes h1 rfl, ?_, hB.1, hB.2⟩
  rw [take_snoc l k hk, esc_snoc, if_neg he, h.2.1]

theorem erel_two {l st : List UInt8} {B : Nat} {w wr w1 w2 : World} {k : Nat} {acc acc1 : List UInt8} {v v1 v2 : Value} {o : Obj} (h : Erel l st B w k acc v wr) (hk : k < l.length) (he : l[k] = 92 ∨ st.contains l[k] = true)
    (ha : acc ++ [92] = acc1) (ho : w1.ownsRow B 5 1 v1 acc1.length (Lib.byteCells acc1)) (hb : Below B w w1) (hs : B ≤ w1.heap.size)
    (h1 : w2.ownsRow B 5 1 v2 (acc1.length + 1) (Lib.byteCells acc1 ++ [.int .u8 (l[k].toNat : Int)])) (hg : (w1.alloc o).grownBy w2 v1.ownBlock) : Erel l st B w (k + 1) (acc1 ++ [l[k]]) v2 w2 := by
  have hB := grown_below hb hs ho hg
  refine ⟨own_bytes h1 rfl, ?_, hB.1, hB.2⟩
  rw [take_snoc l k hk, esc_snoc, if_pos he, ← h.2.1, ← ha, List.append_assoc]
  rfl

theorem ret_str {a b : List UInt8} (h : a = b) : Ending.returned (.string ⟨a.toArray⟩) = .returned (.string ⟨b.toArray⟩) := by rw [h]

set_option maxHeartbeats 4000000 in
theorem esc_any (l st : List UInt8) (hl : l.length ≤ 1048576) (hst : st.length ≤ 1048576) (w : World) :
    Calls Try.prog 11 #[.string ⟨l.toArray⟩, .string ⟨st.toArray⟩] w fun e w' => e = .returned (.string ⟨(esc (st.contains ·) l).toArray⟩) ∧ Below w.heap.size w w' := by
  obtain ⟨i0, hi, hz0, hz1, hz2⟩ := info_parts infoByte
  go_enter Try.func11, Try.ntmps11
  go_wp2_with (at_make; refine wpList_make_own _ rfl _ _ 32 rfl w.heap.size 5 i0 (.int .u8 0) 1 Try.underlying32 hi hz0 hz1 .i64 .i64 _ (2 * l.length) rfl rfl (by simp) (by rw [hz2]; omega) (by unfold maxLen; omega) (Nat.le_refl _) ?_; intro w0 hown0 hgrow0)
  have hB0 : Below w.heap.size w w0 := (Below.refl _ _).grown hgrow0 (Nat.le_refl _) (fun k hk => by cases hk)
  have hs0 : w.heap.size ≤ w0.heap.size := hgrow0.size
  go_loopw [5, 6] (fun v i wr => ∃ (k : Nat) (acc : List UInt8), k ≤ l.length ∧ i = .int .i64 k ∧ Erel l st w.heap.size w k acc v wr) (fun _ i _ => l.length - (intOf i).toNat)
  case atStart => exact ⟨0, [], Nat.zero_le _, rfl, hown0, by simp [esc], hB0, hs0⟩
  case round =>
    obtain ⟨k, acc, hk, rfl, hR⟩ := hrel
    clear hown0 hgrow0 hB0 hs0
    have HR : Hid (Erel l st w.heap.size w k acc u5 wr) := hR
    have hacc := erel_len hR
    have hsz := hR.2.2.2
    have HO : Hid (wr.ownsRow w.heap.size 5 1 u5 acc.length (Lib.byteCells acc)) := hR.1
    clear hR
    by_cases hlt : k < l.length
    · by_cases hc : l[k] = 92
      · have HE : Hid (l[k] = 92 ∨ st.contains l[k] = true) := .inl hc
        have hcb : ((((ByteArray.mk l.toArray)[k]'hlt).toNat : Int) == 92) = true := by
          have : (ByteArray.mk l.toArray)[k]'hlt = l[k] := rfl
          rw [this, hc]; rfl
        clear hc
        go_wp2_with (at_builtin; refine wpList_append_own _ rfl _ _ 32 rfl w.heap.size 5 i0 (.int .u8 0) 1 1 Try.underlying32 hi hz0 hz1 hz2 rfl (by decide) _ _ _ rfl (HO.out.alloc _) ⟨wr.heap.size, 0, none⟩ 1 1 [.int .u8 92] rfl rfl ?pa1 ?pa2 ?pa3 ?pa4 ?pa5 ?_)
        case pa1 =>
          intro j u hj
          match j, hj with
          | 0, hj => simp at hj; subst hj; simp [Addr.add]
        case pa2 => intro u hu; simp at hu; subst hu; rfl
        case pa3 => unfold maxLen; omega
        case pa4 => omega
        case pa5 => simp; omega
        intro v1 w1 hown1 hgrow1 _
        have hB1 := grown_below HR.out.2.2.1 HR.out.2.2.2 HO.out hgrow1
        have hsz1 := hB1.2
        have HO1 : Hid (w1.ownsRow w.heap.size 5 1 v1 (acc ++ [92]).length (Lib.byteCells (acc ++ [92]))) := own_bytes (c := 92) hown1 rfl
        have HB1 : Hid (Below w.heap.size w w1) := hB1.1
        have hl1 : (acc ++ [92]).length = acc.length + 1 := by simp
        have hl2 : (acc ++ [92]).length ≤ 2 * k + 1 := by omega
        clear hown1 hgrow1 hB1 hl1
        generalize hacc1 : acc ++ [92] = acc1 at HO1 hl2
        have HA1 : Hid (acc ++ [92] = acc1) := hacc1
        clear hacc1
        go_wp2_with (at_builtin; refine wpList_append_own _ rfl _ _ 32 rfl w.heap.size 5 i0 (.int .u8 0) 1 1 Try.underlying32 hi hz0 hz1 hz2 rfl (by decide) _ _ _ rfl (HO1.out.alloc _) ⟨w1.heap.size, 0, none⟩ 1 1 [.int .u8 (((ByteArray.mk l.toArray)[k]'hlt).toNat : Int)] rfl rfl ?pb1 ?pb2 ?pb3 ?pb4 ?pb5 ?_)
        case pb1 =>
          intro j u hj
          match j, hj with
          | 0, hj => simp at hj; subst hj; simp [Addr.add]
        case pb2 => intro u hu; simp at hu; subst hu; rfl
        case pb3 => unfold maxLen; omega
        case pb4 => omega
        case pb5 => simp; omega
        intro v2 w2 hown2 hgrow2 _
        have HM : Hid (Erel l st w.heap.size w (k + 1) (acc1 ++ [l[k]]) v2 w2) := erel_two HR.out hlt HE.out HA1.out HO1.out HB1.out hsz1 hown2 hgrow2
        clear hown2 hgrow2
        go_wp2
        go_roundw
        case rel =>
          go_light
          exact ⟨k + 1, acc1 ++ [l[k]], by omega, by go_num, HM.out⟩
        case measure => go_light; simp [intOf]; omega
      · have hcb : ((((ByteArray.mk l.toArray)[k]'hlt).toNat : Int) == 92) = false := by
          have : (ByteArray.mk l.toArray)[k]'hlt = l[k] := rfl
          rw [this, beq_eq_false_iff_ne]
          intro e
          exact hc (UInt8.toNat_inj.1 (by have : (92 : UInt8).toNat = 92 := rfl; omega))
        by_cases hs : st.contains l[k] = true
        · have HE : Hid (l[k] = 92 ∨ st.contains l[k] = true) := .inr hs
          have HS : Hid (st.contains l[k] = true) := hs
          clear hc hs
          go_wp2_with (first | (go_at_call 10; refine (has_same _ _ _ HS.out hst _).mono ?_; rintro e w' ⟨rfl, rfl⟩) | (at_builtin; refine wpList_append_own _ rfl _ _ 32 rfl w.heap.size 5 i0 (.int .u8 0) 1 1 Try.underlying32 hi hz0 hz1 hz2 rfl (by decide) _ _ _ rfl (HO.out.alloc _) ⟨wr.heap.size, 0, none⟩ 1 1 [.int .u8 92] rfl rfl ?qa1 ?qa2 ?qa3 ?qa4 ?qa5 ?_))
          case qa1 =>
            intro j u hj
            match j, hj with
            | 0, hj => simp at hj; subst hj; simp [Addr.add]
          case qa2 => intro u hu; simp at hu; subst hu; rfl
          case qa3 => unfold maxLen; omega
          case qa4 => omega
          case qa5 => simp; omega
          intro v1 w1 hown1 hgrow1 _
          have hB1 := grown_below HR.out.2.2.1 HR.out.2.2.2 HO.out hgrow1
          have hsz1 := hB1.2
          have HO1 : Hid (w1.ownsRow w.heap.size 5 1 v1 (acc ++ [92]).length (Lib.byteCells (acc ++ [92]))) := own_bytes (c := 92) hown1 rfl
          have HB1 : Hid (Below w.heap.size w w1) := hB1.1
          have hl1 : (acc ++ [92]).length = acc.length + 1 := by simp
          have hl2 : (acc ++ [92]).length ≤ 2 * k + 1 := by omega
          clear hown1 hgrow1 hB1 hl1
          generalize hacc1 : acc ++ [92] = acc1 at HO1 hl2
          have HA1 : Hid (acc ++ [92] = acc1) := hacc1
          clear hacc1
          go_wp2_with (at_builtin; refine wpList_append_own _ rfl _ _ 32 rfl w.heap.size 5 i0 (.int .u8 0) 1 1 Try.underlying32 hi hz0 hz1 hz2 rfl (by decide) _ _ _ rfl (HO1.out.alloc _) ⟨w1.heap.size, 0, none⟩ 1 1 [.int .u8 (((ByteArray.mk l.toArray)[k]'hlt).toNat : Int)] rfl rfl ?qb1 ?qb2 ?qb3 ?qb4 ?qb5 ?_)
          case qb1 =>
            intro j u hj
            match j, hj with
            | 0, hj => simp at hj; subst hj; simp [Addr.add]
          case qb2 => intro u hu; simp at hu; subst hu; rfl
          case qb3 => unfold maxLen; omega
          case qb4 => omega
          case qb5 => simp; omega
          intro v2 w2 hown2 hgrow2 _
          have HM : Hid (Erel l st w.heap.size w (k + 1) (acc1 ++ [l[k]]) v2 w2) := erel_two HR.out hlt HE.out HA1.out HO1.out HB1.out hsz1 hown2 hgrow2
          clear hown2 hgrow2
          go_wp2
          go_roundw
          case rel =>
            go_light
            exact ⟨k + 1, acc1 ++ [l[k]], by omega, by go_num, HM.out⟩
          case measure => go_light; simp [intOf]; omega
        · have HE : Hid (¬ (l[k] = 92 ∨ st.contains l[k] = true)) := by
            rintro (h | h)
            · exact hc h
            · exact hs h
          have hs' : st.contains l[k] = false := by simpa using hs
          have HS : Hid (st.contains l[k] = false) := hs'
          clear hc hs hs'
          go_wp2_with (first | (go_at_call 10; refine (has_same _ _ _ HS.out hst _).mono ?_; rintro e w' ⟨rfl, rfl⟩) | (at_builtin; refine wpList_append_own _ rfl _ _ 32 rfl w.heap.size 5 i0 (.int .u8 0) 1 1 Try.underlying32 hi hz0 hz1 hz2 rfl (by decide) _ _ _ rfl (HO.out.alloc _) ⟨wr.heap.size, 0, none⟩ 1 1 [.int .u8 (((ByteArray.mk l.toArray)[k]'hlt).toNat : Int)] rfl rfl ?ra1 ?ra2 ?ra3 ?ra4 ?ra5 ?_))
          case ra1 =>
            intro j u hj
            match j, hj with
            | 0, hj => simp at hj; subst hj; simp [Addr.add]
          case ra2 => intro u hu; simp at hu; subst hu; rfl
          case ra3 => unfold maxLen; omega
          case ra4 => omega
          case ra5 => simp; omega
          intro v2 w2 hown2 hgrow2 _
          have HM : Hid (Erel l st w.heap.size w (k + 1) (acc ++ [l[k]]) v2 w2) := erel_one HR.out hlt HE.out hown2 hgrow2
          clear hown2 hgrow2
          go_wp2
          go_roundw
          case rel =>
            go_light
            exact ⟨k + 1, acc ++ [l[k]], by omega, by go_num, HM.out⟩
          case measure => go_light; simp [intOf]; omega
    · have hcv : (convert 32 9 u5).run Try.prog wr = .ok (.string ⟨acc.toArray⟩) wr := conv_own (by exact HO.out)
      go_wp2
      go_ret
      have e : l.take k = l := List.take_of_length_le (by omega)
      have ea : acc = esc (st.contains ·) l := by have := HR.out.2.1; rw [e] at this; exact this
      exact ⟨ret_str ea, HR.out.2.2.1⟩
end Ru
end Go.Proofs.Qxb6600210a
