/- Seat 745a: the law's walk. -/
import Derived.Test.Qxb6600745aWe
namespace Go.Proofs.Qxb6600745a
open Go.RowKit
namespace Se

theorem own_nil {w : World} {B n : Nat} (h : w.ownsRow B 5 1 (.slice (some ⟨B, 0, none⟩) 0 n) 0 []) : w.ownsRow B 5 1 (.slice (some ⟨B, 0, none⟩) 0 n) ([] : List UInt8).length (cells []) := h
theorem made_below {w w1 : World} (h : w.grownBy w1 none) : Below w.heap.size w w1 := (Below.refl _ _).grown h (Nat.le_refl _) (fun k hk => by cases hk)

/-- the buffer holds acc; nothing below has turned -/
def Lrel (B : Nat) (w : World) (acc : List UInt8) (v : Value) (wr : World) : Prop :=
  wr.ownsRow B 5 1 v acc.length (cells acc) ∧ Below B w wr ∧ B ≤ wr.heap.size

theorem lrel_mk {B : Nat} {w3 w4 w5 w6 : World} {acc : List UInt8} {v5 v6 : Value} {o : Obj} (hown5 : w5.ownsRow B 5 1 v5 acc.length (cells acc)) (hb4 : Below B w3 w4) (hb5 : Below B w4 w5) (hs5 : B ≤ w5.heap.size)
    (hown6 : w6.ownsRow B 5 1 v6 (acc.length + 1) (cells acc ++ [.int .u8 34])) (hg : (w5.alloc o).grownBy w6 v5.ownBlock) : Lrel B w3 (acc ++ [34]) v6 w6 := by
  have h := grown_below (hb4.trans hb5) hs5 hown5 hg
  refine ⟨?_, h.1, h.2⟩
  rw [cells_append, List.length_append]
  exact hown6

theorem has_at {w wr : World} {x : Option Addr} {l : List UInt8} {k : Nat} (h : Has w x l) (hb : Below w.heap.size w wr) (hk : k < l.length) :
    ∃ g, x = some ⟨g, 0, none⟩ ∧ wr.cell? ⟨g, k, none⟩ = some (.int .u8 (l[k].toNat : Int)) := by
  cases x with
  | none => have := h.1 rfl; subst this; simp at hk
  | some a =>
    obtain ⟨g, rfl, hg, hc⟩ := h.2 a rfl
    exact ⟨g, rfl, by rw [hb.cell (p := ⟨g, k, none⟩) hg]; exact hc k hk⟩
theorem acc_len (pre con : List UInt8) (k : Nat) (p0 : pre.length ≤ 262144) (p1 : con.length ≤ 262144) (hk : k ≤ con.length) : (pre ++ 34 :: enc (con.take k)).length ≤ 8388608 := by
  have h1 := enc_len (con.take k)
  have h2 : (con.take k).length ≤ k := List.length_take_le _ _
  simp only [List.length_append, List.length_cons]
  omega

theorem lrel_step {B : Nat} {w wr w7 : World} {pre con : List UInt8} {k : Nat} {v v7 : Value} (h : Lrel B w (pre ++ 34 :: enc (con.take k)) v wr) (hk : k < con.length)
    (h7 : w7.ownsRow B 5 1 v7 ((pre ++ 34 :: enc (con.take k)) ++ je con[k]).length (cells ((pre ++ 34 :: enc (con.take k)) ++ je con[k])) ∧ Below B wr w7 ∧ B ≤ w7.heap.size) :
    Lrel B w (pre ++ 34 :: enc (con.take (k + 1))) v7 w7 := by
  have e : pre ++ 34 :: enc (con.take (k + 1)) = (pre ++ 34 :: enc (con.take k)) ++ je con[k] := by
    rw [List.take_succ_eq_append_getElem hk, enc_append, enc_one]; simp
  rw [e]
  exact ⟨h7.1, h.2.1.trans h7.2.1, h7.2.2⟩
theorem own_form {B n : Nat} {w : World} {v : Value} {l : List UInt8} (hn : l.length = n) (h : w.ownsRow B 5 1 v l.length (cells l)) : ∃ ao cp, v = .slice ao n cp := by
  subst hn
  rcases h.2 with ⟨hv, h0⟩ | ⟨g, cap, cur, hv, _⟩
  · exact ⟨none, 0, by rw [hv, h0]⟩
  · exact ⟨_, _, hv⟩

/-- ZZStringEnd of a row of the call's own -/
theorem zz_end (l : List UInt8) (E : Nat) (P : Nat → Prop) (HT : Hid (∀ i, P i → Turn l E P i)) (B : Nat) (v : Value) (w : World) (hown : Hid (w.ownsRow B 5 1 v l.length (cells l)))
    (start : Nat) (hs : Hid (P (start + 1))) (hsl : start < l.length) :
    Calls Try.prog 8 #[v, .int .i64 start] w fun e w' => e = .returned (.int .i64 E) ∧ w = w' := by
  rcases hown.out.2 with ⟨hv, h0⟩ | ⟨g, cap, cur, rfl, h1, h2, h3, h4, _⟩
  · omega
  · have hc : Hid (∀ j (hj : j < l.length), w.cell? ⟨g, j, none⟩ = some (.int .u8 (l[j].toNat : Int))) := by
      intro j hj
      rw [hown.out.cellAt j (by omega)]
      simp [cells, List.getElem?_eq_getElem hj]
    have hcm : cap ≤ 9223372036854775807 := h4
    clear h2
    go_enter Try.func8, Try.ntmps8
    go_wp2_with (go_at_call 11; refine (end_any l E P HT g cap h3 hcm _ hc start hs hsl).mono ?_; rintro e w' ⟨rfl, rfl⟩)
    go_ret
    exact ⟨rfl, rfl⟩

set_option maxHeartbeats 4000000 in
theorem law_main (a0 a1 a2 : Option Addr) (len0 cap0 len1 cap1 len2 cap2 : Nat) (pre con tail : List UInt8) (w : World)
    (h0 : Hid (In w a0 len0 cap0 pre)) (h1 : Hid (In w a1 len1 cap1 con)) (h2 : Hid (In w a2 len2 cap2 tail))
    (b0 : (len0 : Int) ≤ 262144) (b1 : (len1 : Int) ≤ 262144) (b2 : (len2 : Int) ≤ 262144) :
    Calls Try.prog 4 #[.slice a0 len0 cap0, .slice a1 len1 cap1, .slice a2 len2 cap2] w fun e w' => e = .returned (.bool true) ∧ Below w.heap.size w w' := by
  have l0 := h0.out.1
  have l1 := h1.out.1
  have l2 := h2.out.1
  have p0 : pre.length ≤ 262144 := by omega
  have p1 : con.length ≤ 262144 := by omega
  have p2 : tail.length ≤ 262144 := by omega
  clear l0 l1 l2
  have d0 : decide ((262144 : Int) < (len0 : Int)) = false := decide_eq_false (by omega)
  have d1 : decide ((262144 : Int) < (len1 : Int)) = false := decide_eq_false (by omega)
  have d2 : decide ((262144 : Int) < (len2 : Int)) = false := decide_eq_false (by omega)
  obtain ⟨i0, hi, hz0, hz1, hz2⟩ := info_parts infoByte
  go_enter Try.func4, Try.ntmps4
  go_wp2_with (go_at_call 9; refine (three_yes _ _ _ _ _ _ _ _ _ _ (by omega)).mono ?_; rintro e w' ⟨rfl, rfl⟩)
  refine (clone_any _ _ _ pre _ h0.out (by omega)).mono ?_
  rintro e w1 ⟨x0, rfl, g0, hb1⟩
  have G0 : Hid (Has w1 x0 pre) := g0
  have H1 : Hid (In w1 a1 len1 cap1 con) := h1.out.kept hb1
  have H2 : Hid (In w1 a2 len2 cap2 tail) := h2.out.kept hb1
  have HB1 : Hid (Below w.heap.size w w1) := hb1
  clear g0 hb1 h0 h1 h2
  go_wp2_with fail
  refine (clone_any _ _ _ con _ H1.out (by omega)).mono ?_
  rintro e w2 ⟨x1, rfl, g1, hb2⟩
  have G0' : Hid (Has w2 x0 pre) := G0.out.kept (Nat.le_refl _) hb2
  have G1 : Hid (Has w2 x1 con) := g1
  have H2' : Hid (In w2 a2 len2 cap2 tail) := H2.out.kept hb2
  have HB2 : Hid (Below w.heap.size w w2) := HB1.out.trans (hb2.mono HB1.out.size)
  clear g1 hb2 G0 H1 H2 HB1
  go_wp2_with fail
  refine (clone_any _ _ _ tail _ H2'.out (by omega)).mono ?_
  rintro e w3 ⟨x2, rfl, g2, hb3⟩
  have K0 : Hid (Has w3 x0 pre) := G0'.out.kept (Nat.le_refl _) hb3
  have K1 : Hid (Has w3 x1 con) := G1.out.kept (Nat.le_refl _) hb3
  have K2 : Hid (Has w3 x2 tail) := g2
  have HB3 : Hid (Below w.heap.size w w3) := HB2.out.trans (hb3.mono HB2.out.size)
  clear g2 hb3 G0' G1 H2' HB2
  go_wp2_with (first | (at_make; refine wpList_make_own _ rfl _ _ 22 rfl w3.heap.size 5 i0 (.int .u8 0) 1 Try.underlying22 hi hz0 hz1 .i64 .i64 _ (pre.length + 6 * con.length + tail.length + 2) rfl rfl (by simp) (by rw [hz2]; omega) (by unfold maxLen; omega) (Nat.le_refl _) ?_; intro w4 hown4 hgrow4) | (at_builtin; refine append_src rfl (.tmp 45) (.tmp 46) rfl w3.heap.size _ [] pre x0 rfl rfl (own_nil hown4) (K0.out.kept (Nat.le_refl _) (made_below hgrow4)) (by simp; omega) hgrow4.size ?_; intro v5 w5 hown5 hb5 hs5) | (at_builtin; refine wpList_append_own _ rfl (.tmp 48) (.tmp 49) 22 rfl w3.heap.size 5 i0 (.int .u8 0) 1 1 Try.underlying22 hi hz0 hz1 hz2 rfl (by decide) _ _ _ rfl (hown5.alloc _) ⟨w5.heap.size, 0, none⟩ 1 1 [.int .u8 34] rfl rfl ?c1 ?c2 ?c3 ?c4 ?c5 ?_))
  case c1 => intro j u hj; exact new_at w5 #[.int .u8 34] 5 j u hj
  case c2 => intro u hu; simp at hu; subst hu; rfl
  case c3 => simp; unfold maxLen; omega
  case c4 => simp; omega
  case c5 => simp; omega
  intro v6 w6 hown6 hgrow6 _
  have hb6 := grown_below (hb5.mono (Nat.le_refl _)) hs5 hown5 hgrow6
  have O6 : Hid (Lrel w3.heap.size w3 (pre ++ [34]) v6 w6) := lrel_mk hown5 (made_below hgrow4) hb5 hs5 hown6 hgrow6
  clear hown4 hgrow4 hown5 hb5 hs5 hown6 hgrow6 hb6
  go_wp2
  clear b0 b1 b2 d0 d1 d2
  go_loopw [7, 8] (fun v i wr => ∃ k : Nat, k ≤ con.length ∧ i = .int .i64 k ∧ Lrel w3.heap.size w3 (pre ++ 34 :: enc (con.take k)) v wr) (fun _ i _ => con.length - (intOf i).toNat)
  case atStart => exact ⟨0, Nat.zero_le _, rfl, O6.out⟩
  case round =>
    obtain ⟨k, hk, rfl, hR⟩ := hrel
    clear O6
    have HR : Hid (Lrel w3.heap.size w3 (pre ++ 34 :: enc (con.take k)) u7 wr) := hR
    have hsz := hR.2.2
    clear hR
    by_cases hlt : k < con.length
    · obtain ⟨g, hx1, hcell⟩ : ∃ g, x1 = some ⟨g, 0, none⟩ ∧ wr.cell? ⟨g, k, none⟩ = some (.int .u8 (con[k].toNat : Int)) := has_at K1.out HR.out.2.1 hlt
      rw [hx1]
      have HX : Hid (x1 = some ⟨g, 0, none⟩) := hx1
      clear hx1
      have hln := acc_len pre con k p0 p1 hk
      go_wp2_with (go_at_call 10; refine (app_any w3.heap.size u7 (pre ++ 34 :: enc (con.take k)) con[k] _ hsz HR.out.1 hln).mono ?_; rintro e w7 ⟨v7, rfl, h7⟩)
      go_roundw
      case rel =>
        go_light
        exact ⟨k + 1, by omega, by go_num, lrel_step HR.out hlt h7⟩
      case measure => go_light; simp [intOf]; omega
    · have HF : Hid (Lrel w3.heap.size w3 (pre ++ 34 :: enc con) u7 wr) := by
        have e : con.take k = con := List.take_of_length_le (by omega)
        have := HR.out; rw [e] at this; exact this
      clear HR
      obtain ⟨acc, hA⟩ : ∃ acc, pre ++ 34 :: enc con = acc := ⟨_, rfl⟩
      have HA : Hid (pre ++ 34 :: enc con = acc) := hA
      have hNl : acc.length ≤ 2097152 := by have := enc_len con; rw [← hA]; simp; omega
      clear hA
      have HF1 : Hid (Lrel w3.heap.size w3 acc u7 wr) := by have := HF.out; rw [HA.out] at this; exact this
      clear HF
      obtain ⟨ao, cp, hv⟩ : ∃ ao cp, u7 = .slice ao acc.length cp := own_form rfl HF1.out.1
      rw [hv]
      have HF' : Hid (Lrel w3.heap.size w3 acc (.slice ao acc.length cp) wr) := by have := HF1.out; rw [hv] at this; exact this
      clear HF1 hv
      go_wp2_with (at_builtin; refine wpList_append_own _ rfl (.tmp 65) (.tmp 66) 22 rfl w3.heap.size 5 i0 (.int .u8 0) 1 1 Try.underlying22 hi hz0 hz1 hz2 rfl (by decide) _ _ _ rfl (HF'.out.1.alloc _) ⟨wr.heap.size, 0, none⟩ 1 1 [.int .u8 34] rfl rfl ?e1 ?e2 ?e3 ?e4 ?e5 ?_)
      case e1 => intro j u hj; exact new_at wr #[.int .u8 34] 5 j u hj
      case e2 => intro u hu; simp at hu; subst hu; rfl
      case e3 => unfold maxLen; omega
      case e4 => omega
      case e5 => simp; omega
      intro v8 w8 hown8' hgrow8 _
      have hL8 := lrel_mk HF'.out.1 (Below.refl _ _) HF'.out.2.1 HF'.out.2.2 hown8' hgrow8
      clear hown8' hgrow8
      obtain ⟨hown8, hb8, hs8⟩ := hL8
      obtain ⟨acc8, hA8⟩ : ∃ acc8, acc ++ [34] = acc8 := ⟨_, rfl⟩
      rw [hA8] at hown8
      have HA8 : Hid (acc ++ [34] = acc8) := hA8
      have hl8 : acc8.length ≤ 2097153 := by rw [← hA8]; simp; omega
      have O8 : Hid (w8.ownsRow w3.heap.size 5 1 v8 acc8.length (cells acc8)) := hown8
      have B8 : Hid (Below w3.heap.size w3 w8) := hb8
      clear hown8 hA8 hb8
      go_wp2_with (at_builtin; refine append_src rfl (.tmp 68) (.tmp 69) rfl w3.heap.size _ acc8 tail x2 rfl rfl O8.out (K2.out.kept (Nat.le_refl _) B8.out) (by omega) hs8 ?_)
      intro v9 w9 hown9 hb9 hs9
      have HT : Hid (acc8 ++ tail = text pre con tail) := by
        unfold Hid; rw [← HA8.out, ← HA.out]; simp [text]
      have O9 : Hid (w9.ownsRow w3.heap.size 5 1 v9 (text pre con tail).length (cells (text pre con tail))) := by
        have := hown9; rw [← List.length_append, HT.out] at this; exact this
      have B9 : Hid (Below w.heap.size w w9) := HB3.out.trans ((B8.out.trans hb9).mono HB3.out.size)
      have hE : (pre ++ 34 :: enc con).length = acc.length := by rw [HA.out]
      have HTT : Hid (∀ i, Pl pre con i → Turn (text pre con tail) acc.length (Pl pre con) i) := by
        intro i h; have := turn pre con tail i h; rw [hE] at this; exact this
      have hst : pre.length < (text pre con tail).length := by simp [text]
      clear hown9 hb9 hE
      generalize text pre con tail = tx at *
      go_wp2_with (go_at_call 8; refine (zz_end tx acc.length (Pl pre con) HTT w3.heap.size v9 _ O9 pre.length (start_pl pre con) hst).mono ?_; rintro e w' ⟨rfl, rfl⟩)
      go_ret
      exact ⟨rfl, B9.out⟩

set_option maxHeartbeats 1000000 in
theorem law (a0 a1 a2 : Option Addr) (len0 cap0 len1 cap1 len2 cap2 : Nat) (pre con tail : List UInt8) (w : World)
    (h0 : In w a0 len0 cap0 pre) (h1 : In w a1 len1 cap1 con) (h2 : In w a2 len2 cap2 tail) :
    Calls Try.prog 4 #[.slice a0 len0 cap0, .slice a1 len1 cap1, .slice a2 len2 cap2] w fun e w' => e = .returned (.bool true) ∧ Below w.heap.size w w' := by
  by_cases hbig : 1048576 < (len0 : Int) + (len1 : Int) + (len2 : Int)
  · clear h0 h1 h2
    go_enter Try.func4, Try.ntmps4
    go_wp2_with (go_at_call 9; refine (three_no _ _ _ _ _ _ _ _ _ _ hbig).mono ?_; rintro e w' ⟨rfl, rfl⟩)
    go_ret
    exact ⟨rfl, Below.refl _ _⟩
  · have hsm : (len0 : Int) + (len1 : Int) + (len2 : Int) ≤ 1048576 := by omega
    clear hbig
    by_cases b0 : 262144 < (len0 : Int)
    · clear h0 h1 h2
      go_enter Try.func4, Try.ntmps4
      go_wp2_with (go_at_call 9; refine (three_yes _ _ _ _ _ _ _ _ _ _ hsm).mono ?_; rintro e w' ⟨rfl, rfl⟩)
      go_ret
      exact ⟨rfl, Below.refl _ _⟩
    · by_cases b1 : 262144 < (len1 : Int)
      · clear h0 h1 h2
        go_enter Try.func4, Try.ntmps4
        go_wp2_with (go_at_call 9; refine (three_yes _ _ _ _ _ _ _ _ _ _ hsm).mono ?_; rintro e w' ⟨rfl, rfl⟩)
        go_ret
        exact ⟨rfl, Below.refl _ _⟩
      · by_cases b2 : 262144 < (len2 : Int)
        · clear h0 h1 h2
          go_enter Try.func4, Try.ntmps4
          go_wp2_with (go_at_call 9; refine (three_yes _ _ _ _ _ _ _ _ _ _ hsm).mono ?_; rintro e w' ⟨rfl, rfl⟩)
          go_ret
          exact ⟨rfl, Below.refl _ _⟩
        · exact law_main a0 a1 a2 len0 cap0 len1 cap1 len2 cap2 pre con tail w h0 h1 h2 (by omega) (by omega) (by omega)
end Se
end Go.Proofs.Qxb6600745a
