/- Seat 745a: zzCloneBytes. -/
import Derived.Test.Qxb6600745aWc
import Derived.Lib.SliceRun
namespace Go.Proofs.Qxb6600745a
open Go.RowKit
namespace Se

set_option maxHeartbeats 400000 in
theorem clone_nil (w : World) : Calls Try.prog 6 #[.slice none 0 0] w fun e w' => e = .returned (.slice none 0 0) ∧ w = w' := by
  have hq := fun (w : World) (a : Option Addr) (n c : Nat) => Lib.run_eql_slice_nil (P := Try.prog) w 22 5 a n c 0 0 Try.underlying22
  go_enter Try.func6, Try.ntmps6
  go_wp2
  go_ret
  exact ⟨rfl, rfl⟩

def Crel (l : List UInt8) (B : Nat) (w : World) (k : Nat) (wr : World) : Prop :=
  ∃ xs, wr.ownsRow B 5 1 (.slice (some ⟨B, 0, none⟩) l.length l.length) l.length xs ∧ (∀ j (hj : j < l.length), j < k → xs[j]? = some (.int .u8 (l[j].toNat : Int))) ∧ Below B w wr

theorem crel_cells {l : List UInt8} {B : Nat} {w wr : World} {k : Nat} (h : Crel l B w k wr) (hk : k < l.length) : ∃ v, wr.cell? ⟨B, k, none⟩ = some v ∧ wr.frozen? ⟨B, k, none⟩ = false := by
  obtain ⟨xs, h1, _, _⟩ := h
  have hx : k < xs.length := by rw [h1.1]; omega
  exact ⟨xs[k], by rw [h1.cellAt k (by omega), List.getElem?_eq_getElem hx], h1.frozenAt k⟩

theorem crel_step {l : List UInt8} {B : Nat} {w wr : World} {k : Nat} (h : Crel l B w k wr) (hk : k < l.length) : Crel l B w (k + 1) (wr.setCell ⟨B, k, none⟩ (.int .u8 (l[k].toNat : Int))) := by
  obtain ⟨xs, h1, h2, h3⟩ := h
  have hx : k < xs.length := by rw [h1.1]; omega
  refine ⟨_, (h1.stored k _).1, ?_, h3.setCell (p := ⟨B, k, none⟩) (Nat.le_refl _) _⟩
  intro j hj hjk
  by_cases e : j = k
  · subst e; rw [List.getElem?_set_self hx]
  · rw [List.getElem?_set_ne (fun h => e h.symm)]; exact h2 j hj (by omega)

theorem crel_end {l : List UInt8} {B : Nat} {w wr : World} {k : Nat} (h : Crel l B w k wr) (hk : l.length ≤ k) : wr.ownsRow B 5 1 (.slice (some ⟨B, 0, none⟩) l.length l.length) l.length (cells l) ∧ Below B w wr := by
  obtain ⟨xs, h1, h2, h3⟩ := h
  have e : xs = cells l := by
    apply List.ext_getElem?
    intro j
    by_cases hj : j < l.length
    · rw [h2 j hj (by omega)]; simp [cells, List.getElem?_eq_getElem hj]
    · rw [List.getElem?_eq_none (by rw [h1.1]; omega), List.getElem?_eq_none (by rw [cells_length]; omega)]
  rw [← e]
  exact ⟨h1, h3⟩

set_option maxHeartbeats 1000000 in
theorem clone_row (b off cap : Nat) (l : List UInt8) (hl : l.length ≤ 1048576) (w : World) (hb : b < w.heap.size)
    (hc : Hid (∀ j (hj : j < l.length), w.cell? ⟨b, off + j, none⟩ = some (.int .u8 (l[j].toNat : Int)))) :
    Calls Try.prog 6 #[.slice (some ⟨b, off, none⟩) l.length cap] w fun e w' => e = .returned (.slice (some ⟨w.heap.size, 0, none⟩) l.length l.length) ∧
      w'.ownsRow w.heap.size 5 1 (.slice (some ⟨w.heap.size, 0, none⟩) l.length l.length) l.length (cells l) ∧ Below w.heap.size w w' := by
  have hq := fun (w : World) (a : Option Addr) (n c : Nat) => Lib.run_eql_slice_nil (P := Try.prog) w 22 5 a n c 0 0 Try.underlying22
  obtain ⟨i0, hi, hz0, hz1, hz2⟩ := info_parts infoByte
  go_enter Try.func6, Try.ntmps6
  go_wp2_with (at_make; refine wpList_make_full _ rfl _ _ 22 rfl w.heap.size 5 i0 (.int .u8 0) 1 Try.underlying22 hi hz0 hz1 .i64 .i64 _ _ l.length rfl rfl rfl rfl (by rw [hz2]; omega) (by unfold maxLen; omega) (Nat.le_refl _) ?_; intro w0 hown0 hgrow0)
  have hC0 : Crel l w.heap.size w 0 w0 := ⟨_, hown0, fun j _ h => absurd h (by omega), (Below.refl _ _).grown hgrow0 (Nat.le_refl _) (fun k hk => by cases hk)⟩
  clear hown0 hgrow0
  go_loopw [4] (fun i wr => ∃ k : Nat, k ≤ l.length ∧ i = .int .i64 k ∧ Crel l w.heap.size w k wr) (fun i _ => l.length - (intOf i).toNat)
  case atStart => exact ⟨0, Nat.zero_le _, rfl, hC0⟩
  case round =>
    obtain ⟨k, hk, rfl, hR⟩ := hrel
    clear hC0
    have HR : Hid (Crel l w.heap.size w k wr) := hR
    by_cases hlt : k < l.length
    · obtain ⟨v0, hv0, hf0⟩ := crel_cells hR hlt
      have hsrc : wr.cell? ⟨b, off + k, none⟩ = some (.int .u8 (l[k].toNat : Int)) := by
        obtain ⟨_, _, _, h3⟩ := hR
        rw [h3.cell (p := ⟨b, off + k, none⟩) hb]
        exact hc.out k hlt
      clear hR
      go_wp2
      go_roundw
      case rel =>
        go_light
        exact ⟨k + 1, by omega, by go_num, crel_step HR.out hlt⟩
      case measure => go_light; simp [intOf]; omega
    · clear hR
      go_wp2
      go_ret
      have h := crel_end HR.out (by omega)
      exact ⟨rfl, h.1, h.2⟩
end Se
end Go.Proofs.Qxb6600745a
