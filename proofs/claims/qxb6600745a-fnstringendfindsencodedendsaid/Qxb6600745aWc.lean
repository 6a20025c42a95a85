/- Seat 745a: ruleset.stringEnd, over an abstract set of places. -/
import Derived.Test.Qxb6600745aWb
namespace Go.Proofs.Qxb6600745a
open Go.RowKit
namespace Se

theorem index_first (u v : List UInt8) (h : 34 ∉ u) : Lib.indexByte (u ++ 34 :: v) 34 = (u.length : Int) := by
  induction u with
  | nil => simp [Lib.indexByte]
  | cons c u ih =>
    simp only [List.mem_cons, not_or] at h
    have h1 : (c == 34) = false := by simpa using fun e => h.1 e.symm
    have h2 := ih h.2
    simp only [List.cons_append, Lib.indexByte, h1, Bool.false_eq_true, if_false, h2]
    rw [if_neg (by rw [beq_iff_eq]; omega)]
    simp

/-- bytes.IndexByte of a quote, in what is left of a row -/
theorem idx_drop (l : List UInt8) (g c k : Nat) (u v : List UInt8) (hd : l.drop k = u ++ 34 :: v) (hu : 34 ∉ u) (w : World)
    (hc : ∀ j (hj : j < l.length), w.cell? ⟨g, j, none⟩ = some (.int .u8 (l[j].toNat : Int))) :
    Calls Try.prog 13 #[.slice (some ⟨g, k, none⟩) (l.length - k) c, .int .u8 34] w fun e w' => e = .returned (.int .i64 (u.length : Int)) ∧ w = w' := by
  have hx : ((l.drop k).map fun b => (b.toNat : Int)).length = l.length - k := by simp
  refine (Try.bytes_IndexByte g k (l.length - k) c ((l.drop k).map fun b => (b.toNat : Int)) 34 w hx ?_).mono ?_
  · intro i hi
    rw [hc (k + i) (by omega)]
    simp [List.getD, List.getElem?_eq_getElem (show k + i < l.length by omega)]
  · intro e w' h
    refine ⟨?_, h.2.symm⟩
    have hb : Lib.bytesOf ((l.drop k).map fun b => (b.toNat : Int)) = l.drop k := by
      unfold Lib.bytesOf
      have hf : ((fun n : Int => UInt8.ofNat n.toNat) ∘ fun b : UInt8 => (b.toNat : Int)) = id := by funext b; simp
      rw [List.map_map, hf, List.map_id]
    rw [h.1, hb, hd]
    exact ret_int (index_first u v hu)

set_option maxHeartbeats 1000000 in
theorem end_any (l : List UInt8) (E : Nat) (P : Nat → Prop) (HT : Hid (∀ i, P i → Turn l E P i)) (g cap : Nat) (hcap : l.length ≤ cap) (hcm : cap ≤ 9223372036854775807) (w : World)
    (hc : Hid (∀ j (hj : j < l.length), w.cell? ⟨g, j, none⟩ = some (.int .u8 (l[j].toNat : Int)))) (start : Nat) (hs : Hid (P (start + 1))) (hsl : start < l.length) :
    Calls Try.prog 11 #[.slice (some ⟨g, 0, none⟩) l.length cap, .int .i64 start] w fun e w' => e = .returned (.int .i64 E) ∧ w = w' := by
  go_enter Try.func11, Try.ntmps11
  go_wp2
  go_loop [5] (fun i => ∃ k : Nat, i = .int .i64 k ∧ k ≤ l.length ∧ Hid (P k)) (fun i => l.length - (intOf i).toNat)
  case atStart => exact ⟨start + 1, by go_num, by omega, hs⟩
  case round =>
    obtain ⟨k, rfl, hk, hP⟩ := hrel
    obtain ⟨u, v, hd, hu, hT, hor⟩ := HT.out k hP.out
    have hlen : k + u.length < l.length := by
      have h1 := congrArg List.length hd
      simp at h1
      omega
    have HD : Hid (l.drop k = u ++ 34 :: v) := hd
    have HU : Hid (34 ∉ u) := hu
    obtain ⟨q, hq⟩ : ∃ q, k + u.length = q := ⟨_, rfl⟩
    have hqi : (k : Int) + (u.length : Int) = (q : Int) := by omega
    rw [hq] at hT hor hlen
    obtain ⟨t, ht⟩ : ∃ t, T (l.take q) = t := ⟨_, rfl⟩
    have HL : Hid (∀ b, b < t → w.cell? ⟨g, q - 1 - b, none⟩ = some (.int .u8 92)) := by
      intro b hb
      have h1 := T_lt l q b (by omega) (by omega)
      obtain ⟨hj, he⟩ := List.getElem?_eq_some_iff.1 h1
      rw [hc.out _ hj, he]; rfl
    obtain ⟨c, HC, hne⟩ : ∃ c : UInt8, Hid (w.cell? ⟨g, q - 1 - t, none⟩ = some (.int .u8 (c.toNat : Int))) ∧ ((c.toNat : Int) == 92) = false := by
      have hj : q - 1 - t < l.length := by omega
      refine ⟨l[q - 1 - t], hc.out _ hj, ?_⟩
      have h1 := T_at l q (by omega) (by omega)
      rw [ht, List.getElem?_eq_getElem hj] at h1
      exact beq_u8 _ 92 (fun e => h1 (by rw [e]))
    rw [ht] at hT hor
    have HOR : Hid (t % 2 = 0 ∧ q = E ∨ t % 2 = 1 ∧ P (q + 1)) := hor
    have HQ : Hid (k + u.length = q) := hq
    clear hd hu hor ht hq
    go_wp2_with (go_at_call 13; refine (idx_drop _ _ _ _ u v HD.out HU.out _ hc.out).mono ?_; rintro e w' ⟨rfl, rfl⟩)
    clear hqi
    go_loop [6] (fun s => ∃ b : Nat, b ≤ t ∧ s = .int .i64 b) (fun s => t - (intOf s).toNat)
    case atStart => exact ⟨0, Nat.zero_le _, rfl⟩
    case round =>
      obtain ⟨b, hb, rfl⟩ := hrel
      by_cases hbt : b < t
      · have hcell := HL.out b hbt
        go_wp2
        go_round
        case rel => go_light; exact ⟨b + 1, by omega, by go_num⟩
        case measure => go_light; simp [intOf]; omega
      · obtain rfl : b = t := by omega
        have hcell := HC.out
        rcases HOR.out with ⟨h2, hE⟩ | ⟨h2, hN⟩
        · have hb2 : ((b : Int) % 2 == 0) = true := beq_iff_eq.2 (by omega)
          have HE : Hid (q = E) := hE
          clear h2 hE
          go_wp2
          go_ret
          exact ⟨ret_int (by rw [HE.out]), rfl⟩
        · have hb2 : ((b : Int) % 2 == 0) = false := beq_eq_false_iff_ne.2 (by omega)
          have HN : Hid (P (q + 1)) := hN
          have hkq : k ≤ q := by have := HQ.out; omega
          clear h2 hN
          go_wp2
          go_round
          case rel => go_light; exact ⟨q + 1, by go_num, by omega, HN⟩
          case measure => go_light; simp [intOf]; omega
end Se
end Go.Proofs.Qxb6600745a
