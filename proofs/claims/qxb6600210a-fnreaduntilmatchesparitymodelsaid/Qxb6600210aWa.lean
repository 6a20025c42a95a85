/- Seat 210a: walks of the small functions; the Builder's WriteByte at this dump (the shelf's walk turned to this program: its copyCheck is another body). -/
import Derived.Test.Qxb6600210aRows
import Derived.Test.Qxb6600210aShelf
import Derived.Test.Qxb6600210aPlain
import Derived.WalkKit
import Derived.WalkSpells
import Derived.Below
import Derived.Lib.Builder
import Derived.Lib.Bytealg
import Derived.Deep.Light
namespace Go.Proofs.Qxb6600210a
open Go.RowKit
namespace Ru

theorem sizeBuilder : (Try.prog.info? 35).map (·.size) = some 2 := by kernel_rfl
theorem infoByte : (Try.prog.info? 5).map (fun i => (i.zero, i.size, i.bytes)) = some (some (.int .u8 0), 1, 1) := by kernel_rfl

/-- an operation that asks for the program and for the shape of one block, fed with the answers -/
def feed (P : Program) (o : Option (TypeId × Nat)) : Nat → Sem Value → Sem Value
  | n + 1, .program k => feed P o n (k P)
  | n + 1, .shape _ k => feed P o n (k o)
  | _, t => t
def asks (P : Program) (o : Option (TypeId × Nat)) (b : Nat) : Nat → Sem Value → Prop
  | n + 1, .program k => asks P o b n (k P)
  | n + 1, .shape r k => r = b ∧ asks P o b n (k o)
  | _, _ => True
theorem feed_run (P : Program) (o : Option (TypeId × Nat)) (b : Nat) (w : World) (h : w.shape? b = o) : ∀ (n : Nat) (t : Sem Value), asks P o b n t → t.run P w = (feed P o n t).run P w := by
  intro n
  induction n with
  | zero => intro t _; cases t <;> rfl
  | succ n ih =>
    intro t ha
    cases t with
    | program k => exact ih (k P) ha
    | shape r k =>
      obtain ⟨rfl, ha⟩ := ha
      show (k (w.shape? r)).run P w = _
      rw [h]
      exact ih (k o) ha
    | _ => rfl

theorem to_fed (b : Nat) : feed Try.prog (some (35, 2)) 12 (convert 33 44 (.pointer (some ⟨b, 0, none⟩))) = .pure (.pointer (some ⟨b, 0, none⟩)) := by kernel_rfl
theorem from_fed (b : Nat) : feed Try.prog (some (35, 2)) 12 (convert 44 33 (.pointer (some ⟨b, 0, none⟩))) = .pure (.pointer (some ⟨b, 0, none⟩)) := by kernel_rfl
theorem to_asks (b : Nat) : asks Try.prog (some (35, 2)) b 12 (convert 33 44 (.pointer (some ⟨b, 0, none⟩))) = (b = b ∧ b = b ∧ True) := by kernel_rfl
theorem from_asks (b : Nat) : asks Try.prog (some (35, 2)) b 12 (convert 44 33 (.pointer (some ⟨b, 0, none⟩))) = (b = b ∧ b = b ∧ True) := by kernel_rfl
theorem run_to (b : Nat) (w : World) (h : w.shape? b = some (35, 2)) : (convert 33 44 (.pointer (some ⟨b, 0, none⟩))).run Try.prog w = .ok (.pointer (some ⟨b, 0, none⟩)) w := by
  rw [feed_run Try.prog _ b w h 12 _ (by rw [to_asks]; exact ⟨rfl, rfl, trivial⟩), to_fed]; rfl
theorem run_from (b : Nat) (w : World) (h : w.shape? b = some (35, 2)) : (convert 44 33 (.pointer (some ⟨b, 0, none⟩))).run Try.prog w = .ok (.pointer (some ⟨b, 0, none⟩)) w := by
  rw [feed_run Try.prog _ b w h 12 _ (by rw [from_asks]; exact ⟨rfl, rfl, trivial⟩), from_fed]; rfl

set_option maxHeartbeats 1000000 in
set_option maxRecDepth 100000 in
theorem copy_used (b : Nat) (w : World) (h0 : w.cell? ⟨b, 0, none⟩ = some (.pointer (some ⟨b, 0, none⟩))) :
    Calls Try.prog 18 #[.pointer (some ⟨b, 0, none⟩)] w fun e w' => e = .returned (.tuple #[]) ∧ w' = w := by
  obtain ⟨j, hj, _⟩ := Option.map_eq_some_iff.1 sizeBuilder
  go_enter Try.func18, Try.ntmps18
  go_wp2
  rw [Lib.run_neq_ptr_same w _ Try.underlying33 hj]
  go_wp2
  go_end0
  exact ⟨rfl, rfl⟩

set_option maxHeartbeats 1000000 in
set_option maxRecDepth 100000 in
theorem copy_fresh (b : Nat) (w : World) (h0 : w.cell? ⟨b, 0, none⟩ = some (.pointer none)) (hsh : w.shape? b = some (35, 2)) (hfz : w.frozen? ⟨b, 0, none⟩ = false) :
    Calls Try.prog 18 #[.pointer (some ⟨b, 0, none⟩)] w fun e w' => e = .returned (.tuple #[]) ∧ w' = w.setCell ⟨b, 0, none⟩ (.pointer (some ⟨b, 0, none⟩)) := by
  go_enter Try.func18, Try.ntmps18
  go_wp2
  rw [run_to b w hsh]
  simp only [Result.andThen]
  rw [Oper.upon_value]
  go_wp2
  rw [run_callFunc_extern Try.func20 (by kernel_rfl) (by kernel_rfl) (by kernel_rfl) (e := Extern.AbiNoEscape.same) (by kernel_rfl)]
  rw [Lib.run_noEscape]
  simp only [Result.andThen]
  rw [Oper.upon_value]
  go_wp2
  rw [run_from b w hsh]
  simp only [Result.andThen]
  rw [Oper.upon_value]
  go_wp2
  go_end0
  exact ⟨rfl, rfl⟩

theorem copyCheck (B b : Nat) (bs : List Value) (w : World) (h : Lib.IsBuilder 35 5 B b bs w) :
    Calls Try.prog 18 #[.pointer (some ⟨b, 0, none⟩)] w fun e w' => e = .returned (.tuple #[]) ∧ (Lib.BuilderAt 35 5 B b (.pointer (some ⟨b, 0, none⟩)) bs w' ∧ Below B w w') := by
  rcases h with h | h
  · refine (copy_fresh b w h.cell0 h.shape h.frozen0).mono ?_
    rintro e w' ⟨rfl, rfl⟩
    exact ⟨rfl, h.used _, (Below.refl B w).setCell (p := ⟨b, 0, none⟩) h.1 _⟩
  · refine (copy_used b w h.cell0).mono ?_
    rintro e w' ⟨rfl, rfl⟩
    exact ⟨rfl, h, Below.refl B _⟩

set_option maxHeartbeats 2000000 in
set_option maxRecDepth 100000 in
theorem writeByte (B b : Nat) (bs : List Value) (c : Int) (w : World) (h : Lib.IsBuilder 35 5 B b bs w) (hlen : bs.length + 1 ≤ 140737488355328) (hBw : B ≤ w.heap.size) :
    Calls Try.prog 15 #[.pointer (some ⟨b, 0, none⟩), .int .u8 c] w fun e w' => e = .returned .nilIface ∧ (Lib.IsBuilder 35 5 B b (bs ++ [.int .u8 c]) w' ∧ Below B w w') := by
  obtain ⟨i0, hi, hz0, hz1, hz2⟩ := info_parts infoByte
  go_enter Try.func15, Try.ntmps15
  go_wp2_with (go_at_call 18; refine (copyCheck B b bs _ h).mono ?_)
  rintro e w1 ⟨rfl, h1, hb1⟩
  obtain ⟨hB, v, hbk, hown, hne⟩ := h1
  have c0 : w1.cell? ⟨b, 0, none⟩ = some (.pointer (some ⟨b, 0, none⟩)) := by rw [Lib.cell_of_heap hbk]; rfl
  have c1 : w1.cell? ⟨b, 1, none⟩ = some v := by rw [Lib.cell_of_heap hbk]; rfl
  go_wp2_with (at_builtin; refine wpList_append_own _ rfl _ _ 32 rfl B 5 i0 (.int .u8 0) 1 1 Try.underlying32 hi hz0 hz1 hz2 rfl (by decide) _ _ _ rfl (hown.alloc _) ⟨w1.heap.size, 0, none⟩ 1 1 [.int .u8 c] rfl rfl ?c1 ?c2 ?c3 ?c4 ?c5 ?_)
  case c1 =>
    intro j u hj
    match j, hj with
    | 0, hj => simp at hj; subst hj; simp [Addr.add]
  case c2 => intro u hu; simp at hu; subst hu; rfl
  case c3 => unfold maxLen; omega
  case c4 => omega
  case c5 => have := hb1.size; simp; omega
  intro v' w2 hown' hgrow _
  have hlt : b < w1.heap.size := by
    rcases Nat.lt_or_ge b w1.heap.size with h' | h'
    · exact h'
    · simp [Array.getElem?_eq_none h'] at hbk
  have hb2 : w2.heap[b]? = some (.cells #[.pointer (some ⟨b, 0, none⟩), v] 35 (0, 0)) := by
    rw [hgrow.block b (by simp; omega) (fun e => hne e.symm), Lib.alloc_old w1 _ b hlt]
    exact hbk
  have d0 : w2.cell? ⟨b, 0, none⟩ = some (.pointer (some ⟨b, 0, none⟩)) := by rw [Lib.cell_of_heap hb2]; rfl
  have d1 : w2.cell? ⟨b, 1, none⟩ = some v := by rw [Lib.cell_of_heap hb2]; rfl
  have f1 : w2.frozen? ⟨b, 1, none⟩ = false := Lib.frozen_of_heap hb2 1
  obtain ⟨g, cap, rfl⟩ : ∃ g cap, v' = .slice (some ⟨g, 0, none⟩) (bs.length + 1) cap := by
    rcases hown'.2 with ⟨_, h0⟩ | ⟨g, cap, cur, hv, _⟩
    · omega
    · exact ⟨g, cap, hv⟩
  go_wp2
  go_ret
  refine ⟨rfl, .inr ?_, ?_⟩
  · exact Lib.BuilderAt.put (T := 35) (e := 5) hB hb2 (bs' := bs ++ [.int .u8 c]) (by simpa using hown') (by decide)
  · exact ((hb1.alloc (by have := hb1.size; omega) _).grown hgrow (by have := hb1.size; simp; omega) (fun k hk => (hown.lt k hk).1)).setCell (p := ⟨b, 1, none⟩) hB _
end Ru
end Go.Proofs.Qxb6600210a
