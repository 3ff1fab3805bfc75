/-
  WALK of seat b6601484aD: cloneBytes: a copy in a new row.
-/
import Derived.Test.Qxb6601484aDoorSmall
import Derived.Test.Qxb6601484aDoorPlain
import Derived.Laws.CopyRow
namespace Go.Proofs.Qxb6601484aDoor
open Go.RowKit Go.Deep
open Plain

theorem Tryd.info5 : (Tryd.prog.info? 5).map (fun i => (i.zero, i.size, i.bytes)) = some (some (.int .u8 0), 1, 1) := by kernel_rfl
theorem Tryd.one5 : (Tryd.prog.info? 5).map (·.size) = some 1 := by kernel_rfl

def bv (c : UInt8) : Value := .int .u8 (c.toNat : Int)
def bcells (l : List UInt8) : List Value := l.map bv
theorem bcells_len (l : List UInt8) : (bcells l).length = l.length := by simp [bcells]
theorem bcells_one (l : List UInt8) : ∀ u ∈ bcells l, u.oneCell' = true := by
  intro u hu
  simp only [bcells, List.mem_map] at hu
  obtain ⟨c, _, rfl⟩ := hu
  rfl
theorem bcells_at (l : List UInt8) (i : Nat) (h : i < l.length) : (bcells l)[i]? = some (.int .u8 ((l.getD i 0).toNat : Int)) := by
  simp [bcells, List.getD, h, bv]
/-- block g holds just these bytes. -/
def Row (w : World) (g : Nat) (l : List UInt8) : Prop := w.heap[g]? = some (.cells (bcells l).toArray 5 (0, 0))

set_option maxHeartbeats 2000000 in
theorem clone_some (a : Addr) (c : Nat) (l : List UInt8) (w : World) (hb : ∀ i, i < l.length → w.cell? (a.add i) = some (.int .u8 ((l.getD i 0).toNat : Int))) (hl : l.length ≤ 1048576) :
    Calls Tryd.prog 6 #[.slice (some a) l.length c] w fun e w' => e = .returned (.slice (some ⟨w.heap.size, 0, none⟩) l.length l.length) ∧ Row w' w.heap.size l ∧ Below w.heap.size w w' := by
  have hmk := run_make_row' (P := Tryd.prog) 22 5 (.int .u8 0) 1 Tryd.underlying22 Tryd.info5 rfl .i64 .i64 l.length (by omega) (by omega)
  have hnil := Lib.run_eql_slice_nil (P := Tryd.prog) w 22 5 (some a) l.length c 0 0 Tryd.underlying22
  obtain ⟨W2, hcp, hrow, hbe⟩ : ∃ W2, (Builtin.copy_ #[22, 22] 3 #[.slice (some ⟨w.heap.size, 0, none⟩) l.length l.length, .slice (some a) l.length c]).run Tryd.prog (w.alloc (.cells (madeCells #[.int .u8 0] l.length) 5)) = .ok (goInt l.length) W2 ∧ Row W2 w.heap.size l ∧ Below w.heap.size w W2 := by
    have hc := run_copy_row (P := Tryd.prog) (w.alloc (.cells (madeCells #[.int .u8 0] l.length) 5)) 22 22 3 5 w.heap.size 0 l.length l.length a l.length c (madeCells #[.int .u8 0] l.length) 5 (bcells l) Tryd.underlying22 Tryd.one5
      (heap_alloc_new w _) (by rw [bcells_len]; simp) (fun j u hj => by
        have hlt : j < l.length := by have := (List.getElem?_eq_some_iff.1 hj).1; rwa [bcells_len] at this
        rw [bcells_at l j hlt] at hj
        cases hj
        have hc0 := hb j hlt
        have hblk : (a.add j).block < w.heap.size := World.block_lt_of_cell? _ _ hc0
        rw [World.cell?_alloc_old _ _ _ (Nat.ne_of_lt hblk)]
        exact hc0) (by rw [bcells_len, size_madeCells]; omega) (bcells_one l)
    rw [bcells_len] at hc
    refine ⟨_, hc, ?_, ?_⟩
    · unfold Row
      rw [setRow_heap _ w.heap.size (madeCells #[.int .u8 0] l.length) _ 5 _ (heap_alloc_new w _)]
      congr 2
      simp [size_madeCells]
    · exact ((Below.refl _ _).alloc (Nat.le_refl _) _).trans ⟨rfl, rfl, rfl, by simp, fun k hk => setRow_other _ _ _ _ (by omega)⟩
  have HR := hide hrow
  have HB := hide hbe
  clear hrow hbe hb
  go_enter Tryd.func6, Tryd.ntmps6
  go_wp2
  go_ret
  exact ⟨rfl, unhide HR, unhide HB⟩

set_option maxHeartbeats 1000000 in
theorem clone_nil (w : World) (n c : Nat) :
    Calls Tryd.prog 6 #[.slice none n c] w fun e w' => e = .returned (.slice none 0 0) ∧ w' = w := by
  have hnil := Lib.run_eql_slice_nil (P := Tryd.prog) w 22 5 none n c 0 0 Tryd.underlying22
  go_enter Tryd.func6, Tryd.ntmps6
  go_wp2
  go_ret
  exact ⟨rfl, rfl⟩
end Go.Proofs.Qxb6601484aDoor
