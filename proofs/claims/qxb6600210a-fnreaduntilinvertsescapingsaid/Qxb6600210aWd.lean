/- Seat 210a: zzE1ModelReadUntil computes 'md'. -/
import Derived.Test.Qxb6600210aWc
import Derived.BigQuiet
import Derived.Deep.QuietTactic
import Derived.Laws.OwnMore
import Derived.Laws.BytesArg
import Derived.Laws.IdiomStrings
namespace Go.Proofs.Qxb6600210a
open Go.RowKit
namespace Ru

/-- 'string(out)', out a row of the call's own -/
theorem conv_own {wr : World} {B : Nat} {v : Value} {acc : List UInt8} (h : wr.ownsRow B 5 1 v acc.length (Lib.byteCells acc)) :
    (convert 32 9 v).run Try.prog wr = .ok (.string ⟨acc.toArray⟩) wr := by
  rcases h.2 with ⟨rfl, h0⟩ | ⟨g, cap, cur, rfl, r⟩
  · rw [run_convert_bytes_nil wr 32 5 Try.underlying32 Try.underlying5 0 0 9 Try.underlying9]
    have : acc = [] := List.length_eq_zero_iff.1 h0
    subst this
    rfl
  · refine run_convert_bytes_back wr 32 9 5 ⟨g, 0, none⟩ cap acc Try.underlying32 Try.underlying5 Try.underlying9 ?_
    intro j hj
    have hp : (⟨g, 0, none⟩ : Addr).add j = ⟨g, j, none⟩ := by unfold Addr.add; split <;> simp_all
    rw [hp, h.cellAt j (by omega)]
    simp [Lib.byteCells, List.getElem?_map, List.getElem?_eq_getElem hj]

/-- what the model hands back -/
def Mout (r : Option (List UInt8 × List UInt8)) (e : Ending) : Prop :=
  (r = none ∧ e = .returned (.tuple #[.string ⟨#[]⟩, .string ⟨#[]⟩, .bool false])) ∨
  ∃ k t : List UInt8, r = some (k, t) ∧ e = .returned (.tuple #[.string ⟨k.toArray⟩, .string ⟨t.toArray⟩, .bool true])

def Mrel (l st : List UInt8) (B : Nat) (w : World) (k r : Nat) (acc : List UInt8) (v : Value) (wr : World) : Prop :=
  wr.ownsRow B 5 1 v acc.length (Lib.byteCells acc) ∧ acc.length ≤ k ∧ r ≤ k ∧ md (st.contains ·) false l = put acc (md (st.contains ·) (decide (r % 2 = 1)) (l.drop k)) ∧ Below B w wr ∧ B ≤ wr.heap.size

theorem own_bytes {wr : World} {B : Nat} {v : Value} {acc : List UInt8} {c : UInt8} {n : Nat} (h : wr.ownsRow B 5 1 v (acc.length + n) (Lib.byteCells acc ++ [.int .u8 (c.toNat : Int)])) (hn : n = 1) :
    wr.ownsRow B 5 1 v (acc ++ [c]).length (Lib.byteCells (acc ++ [c])) := by
  subst hn
  rw [← cells_snoc, List.length_append]
  exact h

theorem below_draws {B : Nat} {a w : World} (h : Below B a w) (n : Nat) : Below B a (w.drewN n) := h.trans ⟨rfl, rfl, rfl, Nat.le_refl _, fun _ _ => rfl⟩

theorem grown_below {B : Nat} {w wr w1 : World} {v : Value} {acc : List UInt8} {o : Obj} (hb : Below B w wr) (hB : B ≤ wr.heap.size) (hown : wr.ownsRow B 5 1 v acc.length (Lib.byteCells acc)) (hg : (wr.alloc o).grownBy w1 v.ownBlock) :
    Below B w w1 ∧ B ≤ w1.heap.size := by
  have h := (hb.alloc hB o).grown hg (by simp; omega) (fun k hk => (hown.lt k hk).1)
  refine ⟨h, ?_⟩
  have := hg.size
  simp at this
  omega

theorem mrel_odd {l st : List UInt8} {B : Nat} {w wr w1 : World} {k r : Nat} {acc : List UInt8} {v v' : Value} {o : Obj} (h : Mrel l st B w k r acc v wr) (hk : k < l.length) (hc : l[k] = 92) (hr : r % 2 = 1)
    (h1 : w1.ownsRow B 5 1 v' (acc.length + 1) (Lib.byteCells acc ++ [.int .u8 92])) (hg : (wr.alloc o).grownBy w1 v.ownBlock) : Mrel l st B w (k + 1) (r + 1) (acc ++ [92]) v' w1 := by
  obtain ⟨g1, g2, g3, g4, g5, g6⟩ := h
  have hB := grown_below g5 g6 g1 hg
  refine ⟨own_bytes (c := 92) h1 rfl, by simp; omega, by omega, ?_, hB.1, hB.2⟩
  rw [g4, drop_cons l k hk, hc, decide_eq_true hr, decide_eq_false (by omega)]
  simp only [md, if_true, put_put]
theorem mrel_even {l st : List UInt8} {B : Nat} {w wr : World} {k r : Nat} {acc : List UInt8} {v : Value} (h : Mrel l st B w k r acc v wr) (hk : k < l.length) (hc : l[k] = 92) (hr : r % 2 = 0) :
    Mrel l st B w (k + 1) (r + 1) acc v wr := by
  obtain ⟨g1, g2, g3, g4, g5, g6⟩ := h
  refine ⟨g1, by omega, by omega, ?_, g5, g6⟩
  rw [g4, drop_cons l k hk, hc, decide_eq_false (by omega), decide_eq_true (by omega)]
  simp only [md, if_true, Bool.false_eq_true, if_false]
theorem mrel_ch {l st : List UInt8} {B : Nat} {w wr w1 : World} {k r : Nat} {acc : List UInt8} {v v' : Value} {o : Obj} (h : Mrel l st B w k r acc v wr) (hk : k < l.length) (hc : l[k] ≠ 92) (hr : r % 2 = 1 ∨ st.contains l[k] = false)
    (h1 : w1.ownsRow B 5 1 v' (acc.length + 1) (Lib.byteCells acc ++ [.int .u8 (l[k].toNat : Int)])) (hg : (wr.alloc o).grownBy w1 v.ownBlock) : Mrel l st B w (k + 1) 0 (acc ++ [l[k]]) v' w1 := by
  obtain ⟨g1, g2, g3, g4, g5, g6⟩ := h
  have hB := grown_below g5 g6 g1 hg
  refine ⟨own_bytes h1 rfl, by simp; omega, by omega, ?_, hB.1, hB.2⟩
  have hn : ¬ (decide (r % 2 = 1) = false ∧ st.contains l[k] = true) := by
    rintro ⟨e1, e2⟩
    rcases hr with hr | hr
    · rw [decide_eq_true hr] at e1; cases e1
    · rw [hr] at e2; cases e2
  rw [g4, drop_cons l k hk]
  simp only [md]
  rw [if_neg hc, if_neg hn, put_put]
  rfl
theorem mout_stop {l st : List UInt8} {B : Nat} {w wr : World} {k r : Nat} {acc : List UInt8} {v : Value} (h : Mrel l st B w k r acc v wr) (hk : k < l.length) (hc : l[k] ≠ 92) (hr : r % 2 = 0) (hs : st.contains l[k] = true) :
    md (st.contains ·) false l = some (acc, l.drop k) := by
  rw [h.2.2.2.1, drop_cons l k hk]
  simp only [md]
  rw [if_neg hc, if_pos ⟨decide_eq_false (by omega), hs⟩, put_some, List.append_nil]
theorem mout_odd {l st : List UInt8} {B : Nat} {w wr : World} {k r : Nat} {acc : List UInt8} {v : Value} (h : Mrel l st B w k r acc v wr) (hk : l.length ≤ k) (hr : r % 2 = 1) : md (st.contains ·) false l = none := by
  rw [h.2.2.2.1, List.drop_of_length_le hk, decide_eq_true hr]; simp [md, put]
theorem mout_even {l st : List UInt8} {B : Nat} {w wr : World} {k r : Nat} {acc : List UInt8} {v : Value} (h : Mrel l st B w k r acc v wr) (hk : l.length ≤ k) (hr : r % 2 = 0) : md (st.contains ·) false l = some (acc, []) := by
  rw [h.2.2.2.1, List.drop_of_length_le hk, decide_eq_false (by omega)]; simp [md, put]

theorem has_same (l : List UInt8) (c : UInt8) (x : Bool) (hx : l.contains c = x) (hl : l.length ≤ 1048576) (w : World) :
    Calls Try.prog 10 #[.string ⟨l.toArray⟩, .int .u8 c.toNat] w fun e w' => e = .returned (.bool x) ∧ w = w' := by
  subst hx; exact has_any l c hl w

set_option maxHeartbeats 4000000 in
theorem mru_any (l st : List UInt8) (hl : l.length ≤ 1048576) (hst : st.length ≤ 1048576) (w : World) :
    Calls Try.prog 8 #[.string ⟨l.toArray⟩, .string ⟨st.toArray⟩] w fun e w' => Mout (md (st.contains ·) false l) e ∧ Below w.heap.size w w' := by
  obtain ⟨i0, hi, hz0, hz1, hz2⟩ := info_parts infoByte
  go_enter Try.func8, Try.ntmps8
  go_wp2
  go_loopw [7, 8, 9] (fun v ru i wr => ∃ (k r : Nat) (acc : List UInt8), k ≤ l.length ∧ i = .int .i64 k ∧ ru = .int .i64 r ∧ Mrel l st w.heap.size w k r acc v wr) (fun _ _ i _ => l.length - (intOf i).toNat)
  case atStart => exact ⟨0, 0, [], Nat.zero_le _, rfl, rfl, World.ownsRow_nil _ _ _ _, Nat.le_refl _, Nat.le_refl _, by rw [List.drop_zero, put_nil]; rfl, Below.refl _ _, Nat.le_refl _⟩
  case round =>
    obtain ⟨k, r, acc, hk, rfl, rfl, hR⟩ := hrel
    have HR : Hid (Mrel l st w.heap.size w k r acc u7 wr) := hR
    have hacc := hR.2.1
    have hrk := hR.2.2.1
    have hsz := hR.2.2.2.2.2
    have hown := hR.1
    have HO : Hid (wr.ownsRow w.heap.size 5 1 u7 acc.length (Lib.byteCells acc)) := hown
    clear hR hown
    by_cases hlt : k < l.length
    · by_cases hc : l[k] = 92
      · have HC : Hid (l[k] = 92) := hc
        have hcb : ((((ByteArray.mk l.toArray)[k]'hlt).toNat : Int) == 92) = true := by
          have : (ByteArray.mk l.toArray)[k]'hlt = l[k] := rfl
          rw [this, hc]; rfl
        clear hc
        by_cases hr : r % 2 = 1
        · have HRR : Hid (r % 2 = 1) := hr
          have hrb : (((r : Int) + 1) % 2 == 0) = true := beq_iff_eq.2 (by omega)
          clear hr
          go_wp2_with (at_builtin; refine wpList_append_own _ rfl _ _ 32 rfl w.heap.size 5 i0 (.int .u8 0) 1 1 Try.underlying32 hi hz0 hz1 hz2 rfl (by decide) _ _ _ rfl (HO.out.alloc _) ⟨wr.heap.size, 0, none⟩ 1 1 [.int .u8 92] rfl rfl ?c1 ?c2 ?c3 ?c4 ?c5 ?_)
          case c1 =>
            intro j u hj
            match j, hj with
            | 0, hj => simp at hj; subst hj; simp [Addr.add]
          case c2 => intro u hu; simp at hu; subst hu; rfl
          case c3 => unfold maxLen; omega
          case c4 => omega
          case c5 => simp; omega
          intro v' w1 hown' hgrow _
          have HM : Hid (Mrel l st w.heap.size w (k + 1) (r + 1) (acc ++ [92]) v' w1) := mrel_odd HR.out hlt HC.out HRR.out hown' hgrow
          clear hown' hgrow
          go_wp2
          go_roundw
          case rel =>
            go_light
            exact ⟨k + 1, r + 1, acc ++ [92], by omega, by go_num, by go_num, HM.out⟩
          case measure => go_light; simp [intOf]; omega
        · have HRR : Hid (r % 2 = 0) := by unfold Hid; omega
          have hrb : (((r : Int) + 1) % 2 == 0) = false := beq_eq_false_iff_ne.2 (by omega)
          clear hr
          go_wp2
          go_roundw
          case rel =>
            go_light
            exact ⟨k + 1, r + 1, acc, by omega, by go_num, by go_num, mrel_even HR.out hlt HC.out HRR.out⟩
          case measure => go_light; simp [intOf]; omega
      · have HC : Hid (l[k] ≠ 92) := hc
        have hcb : ((((ByteArray.mk l.toArray)[k]'hlt).toNat : Int) == 92) = false := by
          have : (ByteArray.mk l.toArray)[k]'hlt = l[k] := rfl
          rw [this, beq_eq_false_iff_ne]
          intro e
          exact hc (UInt8.toNat_inj.1 (by have : (92 : UInt8).toNat = 92 := rfl; omega))
        clear hc
        by_cases hr : r % 2 = 1
        · have HRR : Hid (r % 2 = 1) := hr
          have hrb : ((r : Int) % 2 == 1) = true := beq_iff_eq.2 (by omega)
          clear hr
          go_wp2_with (at_builtin; refine wpList_append_own _ rfl _ _ 32 rfl w.heap.size 5 i0 (.int .u8 0) 1 1 Try.underlying32 hi hz0 hz1 hz2 rfl (by decide) _ _ _ rfl (HO.out.alloc _) ⟨wr.heap.size, 0, none⟩ 1 1 [.int .u8 (((ByteArray.mk l.toArray)[k]'hlt).toNat : Int)] rfl rfl ?d1 ?d2 ?d3 ?d4 ?d5 ?_)
          case d1 =>
            intro j u hj
            match j, hj with
            | 0, hj => simp at hj; subst hj; simp [Addr.add]
          case d2 => intro u hu; simp at hu; subst hu; rfl
          case d3 => unfold maxLen; omega
          case d4 => omega
          case d5 => simp; omega
          intro v' w1 hown' hgrow _
          have HM : Hid (Mrel l st w.heap.size w (k + 1) 0 (acc ++ [l[k]]) v' w1) := mrel_ch HR.out hlt HC.out (.inl HRR.out) hown' hgrow
          clear hown' hgrow
          go_wp2
          go_roundw
          case rel =>
            go_light
            exact ⟨k + 1, 0, acc ++ [l[k]], by omega, by go_num, by go_num, HM.out⟩
          case measure => go_light; simp [intOf]; omega
        · have HRR : Hid (r % 2 = 0) := by unfold Hid; omega
          have hrb : ((r : Int) % 2 == 1) = false := beq_eq_false_iff_ne.2 (by omega)
          clear hr
          by_cases hs : st.contains l[k] = true
          · have HS : Hid (st.contains l[k] = true) := hs
            clear hs
            have hcv : ∀ m, (convert 32 9 u7).run Try.prog (wr.drewN m) = .ok (.string ⟨acc.toArray⟩) (wr.drewN m) := fun m => conv_own (by exact HO.out)
            go_wp2_with ((go_at_call 10; refine (has_same _ _ _ HS.out hst _).mono ?_; rintro e w' ⟨rfl, rfl⟩))
            go_quiet (fail)
            go_wp2
            go_ret3
            exact ⟨.inr ⟨acc, l.drop k, mout_stop HR.out hlt HC.out HRR.out HS.out, ret_three (extract_drop l k)⟩, below_draws HR.out.2.2.2.2.1 _⟩
          · have hs' : st.contains l[k] = false := by simpa using hs
            have HS : Hid (st.contains l[k] = false) := hs'
            clear hs hs'
            go_wp2_with (first | (go_at_call 10; refine (has_same _ _ _ HS.out hst _).mono ?_; rintro e w' ⟨rfl, rfl⟩) | (at_builtin; refine wpList_append_own _ rfl _ _ 32 rfl w.heap.size 5 i0 (.int .u8 0) 1 1 Try.underlying32 hi hz0 hz1 hz2 rfl (by decide) _ _ _ rfl (HO.out.alloc _) ⟨wr.heap.size, 0, none⟩ 1 1 [.int .u8 (((ByteArray.mk l.toArray)[k]'hlt).toNat : Int)] rfl rfl ?e1 ?e2 ?e3 ?e4 ?e5 ?_))
            case e1 =>
              intro j u hj
              match j, hj with
              | 0, hj => simp at hj; subst hj; simp [Addr.add]
            case e2 => intro u hu; simp at hu; subst hu; rfl
            case e3 => unfold maxLen; omega
            case e4 => omega
            case e5 => simp; omega
            intro v' w1 hown' hgrow _
            have HM : Hid (Mrel l st w.heap.size w (k + 1) 0 (acc ++ [l[k]]) v' w1) := mrel_ch HR.out hlt HC.out (.inr HS.out) hown' hgrow
            clear hown' hgrow
            go_wp2
            go_roundw
            case rel =>
              go_light
              exact ⟨k + 1, 0, acc ++ [l[k]], by omega, by go_num, by go_num, HM.out⟩
            case measure => go_light; simp [intOf]; omega
    · by_cases hr : r % 2 = 1
      · have HRR : Hid (r % 2 = 1) := hr
        have hrb : ((r : Int) % 2 == 1) = true := beq_iff_eq.2 (by omega)
        clear hr
        go_wp2
        go_ret3
        exact ⟨.inl ⟨mout_odd HR.out (by omega) HRR.out, rfl⟩, HR.out.2.2.2.2.1⟩
      · have HRR : Hid (r % 2 = 0) := by unfold Hid; omega
        have hrb : ((r : Int) % 2 == 1) = false := beq_eq_false_iff_ne.2 (by omega)
        clear hr
        have hcv : (convert 32 9 u7).run Try.prog wr = .ok (.string ⟨acc.toArray⟩) wr := conv_own (by exact HO.out)
        go_wp2
        go_ret3
        exact ⟨.inr ⟨acc, [], mout_even HR.out (by omega) HRR.out, rfl⟩, HR.out.2.2.2.2.1⟩
end Ru
end Go.Proofs.Qxb6600210a
