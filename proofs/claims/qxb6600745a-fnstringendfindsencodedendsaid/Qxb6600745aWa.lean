/- Seat 745a: walks of the small functions. -/
import Derived.Test.Qxb6600745aRows
import Derived.Test.Qxb6600745aShelf
import Derived.Test.Qxb6600745aPlain
import Derived.WalkKit
import Derived.WalkSpells
import Derived.Below
import Derived.Lib.Bytealg
import Derived.Deep.Light
import Derived.Laws.OwnMore
import Derived.Laws.BitsLemmas
namespace Go.Proofs.Qxb6600745a
open Go.RowKit
namespace Se

theorem infoByte : (Try.prog.info? 5).map (fun i => (i.zero, i.size, i.bytes)) = some (some (.int .u8 0), 1, 1) := by kernel_rfl
def cells (l : List UInt8) : List Value := l.map fun c => .int .u8 (c.toNat : Int)
theorem cells_append (a b : List UInt8) : cells (a ++ b) = cells a ++ cells b := by simp [cells]
theorem cells_length (a : List UInt8) : (cells a).length = a.length := by simp [cells]

theorem ret_int {k : IntKind} {a b : Int} (h : a = b) : Ending.returned (.int k a) = .returned (.int k b) := by rw [h]

theorem three_yes (a b c : Option Addr) (la ca lb cb lc cc : Nat) (w : World) (h : (la : Int) + (lb : Int) + (lc : Int) ≤ 1048576) :
    Calls Try.prog 9 #[.slice a la ca, .slice b lb cb, .slice c lc cc] w fun e w' => e = .returned (.bool true) ∧ w = w' := by
  go_enter Try.func9, Try.ntmps9
  go_wp2
  go_ret
  exact ⟨rfl, rfl⟩
theorem three_no (a b c : Option Addr) (la ca lb cb lc cc : Nat) (w : World) (h : 1048576 < (la : Int) + (lb : Int) + (lc : Int)) :
    Calls Try.prog 9 #[.slice a la ca, .slice b lb cb, .slice c lc cc] w fun e w' => e = .returned (.bool false) ∧ w = w' := by
  by_cases h1 : 1048576 < (la : Int)
  · go_enter Try.func9, Try.ntmps9
    go_wp2
    go_ret
    exact ⟨rfl, rfl⟩
  · by_cases h2 : 1048576 < (lb : Int)
    · go_enter Try.func9, Try.ntmps9
      go_wp2
      go_ret
      exact ⟨rfl, rfl⟩
    · by_cases h3 : 1048576 < (la : Int) + (lb : Int)
      · go_enter Try.func9, Try.ntmps9
        go_wp2
        go_ret
        exact ⟨rfl, rfl⟩
      · by_cases h4 : 1048576 < (lc : Int)
        · go_enter Try.func9, Try.ntmps9
          go_wp2
          go_ret
          exact ⟨rfl, rfl⟩
        · go_enter Try.func9, Try.ntmps9
          go_wp2
          go_ret
          exact ⟨rfl, rfl⟩

set_option maxHeartbeats 400000 in
/-- zzHex -/
theorem hex_any (n : Nat) (hn : n < 256) (w : World) :
    Calls Try.prog 12 #[.int .u8 (n : Int)] w fun e w' => e = .returned (.int .u8 ((hexOf n).toNat : Int)) ∧ w = w' := by
  go_enter Try.func12, Try.ntmps12
  go_wp2
  go_ret
  have h16 : n % 16 < hexs.length := Nat.mod_lt _ (by decide)
  have e : hexOf n = hexs[n % 16] := by unfold hexOf; simp [List.getD, List.getElem?_eq_getElem h16]
  exact ⟨ret_int (by rw [e]; rfl), rfl⟩

/-- the cells of a new block -/
theorem new_at (w : World) (vs : Array Value) (t : TypeId) (j : Nat) (u : Value) (h : vs.toList[j]? = some u) : (w.alloc (.cells vs t)).cell? ((⟨w.heap.size, 0, none⟩ : Addr).add j) = some u := by
  have hp : (⟨w.heap.size, 0, none⟩ : Addr).add j = ⟨w.heap.size, j, none⟩ := by unfold Addr.add; split <;> simp_all
  have hb : (w.alloc (.cells vs t)).heap[w.heap.size]? = some (.cells vs t (0, 0)) := heap_alloc_new w _
  rw [hp]
  simp only [World.cell?, hb]
  simpa using h

theorem grown_below {B n : Nat} {w wr w1 : World} {v : Value} {xs : List Value} {o : Obj} (hb : Below B w wr) (hB : B ≤ wr.heap.size) (hown : wr.ownsRow B 5 1 v n xs) (hg : (wr.alloc o).grownBy w1 v.ownBlock) :
    Below B w w1 ∧ B ≤ w1.heap.size := by
  have h := (hb.alloc hB o).grown hg (by simp; omega) (fun k hk => (hown.lt k hk).1)
  refine ⟨h, ?_⟩
  have := hg.size
  simp at this
  omega

end Se
end Go.Proofs.Qxb6600745a
