/- Seat 745a: what comes in, cloned; appending a source that may be nil. -/
import Derived.Test.Qxb6600745aWd
import Derived.Laws.AppendOwnNone
namespace Go.Proofs.Qxb6600745a
open Go.RowKit
namespace Se

/-- a slice that came in reads as the bytes l -/
def In (w : World) (a : Option Addr) (len cap : Nat) (l : List UInt8) : Prop :=
  l.length = len ∧ (a = none → len = 0 ∧ cap = 0) ∧ (0 < len → ∃ b off, a = some ⟨b, off, none⟩ ∧ b < w.heap.size ∧ ∀ j (hj : j < l.length), w.cell? ⟨b, off + j, none⟩ = some (.int .u8 (l[j].toNat : Int)))

/-- a clone holds the bytes l -/
def Has (w : World) (a : Option Addr) (l : List UInt8) : Prop :=
  (a = none → l = []) ∧ (∀ x, a = some x → ∃ g, x = ⟨g, 0, none⟩ ∧ g < w.heap.size ∧ ∀ j (hj : j < l.length), w.cell? ⟨g, j, none⟩ = some (.int .u8 (l[j].toNat : Int)))

theorem In.kept {w w1 : World} {a : Option Addr} {len cap : Nat} {l : List UInt8} (h : In w a len cap l) (hb : Below w.heap.size w w1) : In w1 a len cap l := by
  refine ⟨h.1, h.2.1, fun h0 => ?_⟩
  obtain ⟨b, off, rfl, h3, h4⟩ := h.2.2 h0
  have := hb.size
  exact ⟨b, off, rfl, by omega, fun j hj => by rw [hb.cell (p := ⟨b, off + j, none⟩) h3]; exact h4 j hj⟩
theorem Has.kept {B : Nat} {w w1 : World} {a : Option Addr} {l : List UInt8} (h : Has w a l) (hB : w.heap.size ≤ B) (hb : Below B w w1) : Has w1 a l := by
  refine ⟨h.1, fun x hx => ?_⟩
  obtain ⟨g, rfl, h3, h4⟩ := h.2 x hx
  have := hb.size
  exact ⟨g, rfl, by omega, fun j hj => by rw [hb.cell (p := ⟨g, j, none⟩) (by show g < B; omega)]; exact h4 j hj⟩

set_option maxHeartbeats 1000000 in
theorem clone_empty (x : Addr) (cap : Nat) (w : World) :
    Calls Try.prog 6 #[.slice (some x) 0 cap] w fun e w' => e = .returned (.slice (some ⟨w.heap.size, 0, none⟩) 0 0) ∧ w.heap.size < w'.heap.size ∧ Below w.heap.size w w' := by
  have hq := fun (w : World) (a : Option Addr) (n c : Nat) => Lib.run_eql_slice_nil (P := Try.prog) w 22 5 a n c 0 0 Try.underlying22
  obtain ⟨i0, hi, hz0, hz1, hz2⟩ := info_parts infoByte
  go_enter Try.func6, Try.ntmps6
  go_wp2_with (at_make; refine wpList_make_full _ rfl _ _ 22 rfl w.heap.size 5 i0 (.int .u8 0) 1 Try.underlying22 hi hz0 hz1 .i64 .i64 _ _ 0 rfl rfl rfl rfl (by omega) (by unfold maxLen; omega) (Nat.le_refl _) ?_; intro w0 hown0 hgrow0)
  have hB : Below w.heap.size w w0 := (Below.refl _ _).grown hgrow0 (Nat.le_refl _) (fun k hk => by cases hk)
  have hlt : w.heap.size < w0.heap.size := (hown0.lt w.heap.size rfl).2
  clear hown0 hgrow0
  refine wp_loop_rounds 1 ?_
  rw [rounds_succ]
  go_wp2
  go_ret
  exact ⟨rfl, hlt, hB⟩

/-- zzCloneBytes -/
theorem clone_any (a : Option Addr) (len cap : Nat) (l : List UInt8) (w : World) (h : In w a len cap l) (hl : l.length ≤ 1048576) :
    Calls Try.prog 6 #[.slice a len cap] w fun e w' => ∃ a', e = .returned (.slice a' l.length l.length) ∧ Has w' a' l ∧ Below w.heap.size w w' := by
  by_cases h0 : 0 < len
  · obtain ⟨b, off, rfl, hb, hc⟩ := h.2.2 h0
    obtain rfl := h.1
    refine (clone_row b off cap l hl w hb hc).mono ?_
    rintro e w' ⟨rfl, h1, h2⟩
    refine ⟨_, rfl, ⟨fun h => (by cases h), ?_⟩, h2⟩
    rintro x hx
    obtain rfl : (⟨w.heap.size, 0, none⟩ : Addr) = x := by injection hx
    refine ⟨_, rfl, (h1.lt w.heap.size rfl).2, fun j hj => ?_⟩
    rw [h1.cellAt j (by omega)]
    simp [cells, List.getElem?_eq_getElem hj]
  · have hle : l = [] := List.length_eq_zero_iff.1 (by have := h.1; omega)
    have hz : len = 0 := by omega
    subst hle hz
    cases a with
    | none =>
      obtain ⟨_, rfl⟩ := h.2.1 rfl
      refine (clone_nil w).mono ?_
      rintro e w' ⟨rfl, rfl⟩
      exact ⟨none, rfl, ⟨fun _ => rfl, fun x hx => by cases hx⟩, Below.refl _ _⟩
    | some x =>
      refine (clone_empty x cap w).mono ?_
      rintro e w' ⟨rfl, h1, h2⟩
      refine ⟨_, rfl, ⟨fun _ => rfl, ?_⟩, h2⟩
      rintro y hy
      obtain rfl : (⟨w.heap.size, 0, none⟩ : Addr) = y := by injection hy
      exact ⟨_, rfl, h1, fun j hj => absurd hj (by simp)⟩

/-- 'append(buf, src...)', buf the call's own, src a clone, nil or not -/
theorem append_src {w : World} {ops : Array Oper} {rest : List Oper} {o : Oper} {a : Act} {Q : Exit → Act → World → Prop} (hgd : o.guard = none) (s x : Operand)
    (ho : o.op = .call { callee := .builtin .append, args := #[s, x], argTypes := #[22, 22] })
    (B : Nat) (v : Value) (acc l : List UInt8) (src : Option Addr) (hs : a.eval s = v) (hx : a.eval x = .slice src l.length l.length) (hown : w.ownsRow B 5 1 v acc.length (cells acc)) (hsrc : Has w src l)
    (hlen : acc.length + l.length ≤ 8388608) (hB : B ≤ w.heap.size)
    (h : ∀ v' w', w'.ownsRow B 5 1 v' (acc ++ l).length (cells (acc ++ l)) → Below B w w' → B ≤ w'.heap.size → wpList Try.prog ops Q rest (a.put o.dst v') w') : wpList Try.prog ops Q (o :: rest) a w := by
  obtain ⟨i0, hi, hz0, hz1, hz2⟩ := info_parts infoByte
  cases src with
  | none =>
    have hl := hsrc.1 rfl
    subst hl
    refine wpList_append_own_none hgd s x 22 ho B 5 i0 1 Try.underlying22 hi v acc.length (cells acc) hs hown hx ?_
    refine h v w ?_ (Below.refl _ _) hB
    rw [List.append_nil]; exact hown
  | some ad =>
    obtain ⟨g, rfl, hg, hc⟩ := hsrc.2 _ rfl
    refine wpList_append_own w hgd s x 22 ho B 5 i0 (.int .u8 0) 1 1 Try.underlying22 hi hz0 hz1 hz2 rfl (by decide) v acc.length (cells acc) hs hown ⟨g, 0, none⟩ l.length l.length (cells l) hx (by rw [cells_length]; omega) ?_ ?_ (by unfold maxLen; omega) (by omega) hB ?_
    · intro j u hj
      have hjl : j < l.length := by have := (List.getElem?_eq_some_iff.1 hj).1; rwa [cells_length] at this
      have hp : (⟨g, 0, none⟩ : Addr).add j = ⟨g, j, none⟩ := by unfold Addr.add; split <;> simp_all
      rw [hp, hc j hjl, ← hj]
      simp [cells, List.getElem?_eq_getElem hjl]
    · intro u hu
      simp only [cells, List.mem_map] at hu
      obtain ⟨c, _, rfl⟩ := hu
      rfl
    · intro v' w' hown' hgrow _
      refine h v' w' ?_ ((Below.refl B w).grown hgrow hB (fun k hk => (hown.lt k hk).1)) ?_
      · rw [cells_append, List.length_append]; exact hown'
      · have := hgrow.size; omega
end Se
end Go.Proofs.Qxb6600745a
