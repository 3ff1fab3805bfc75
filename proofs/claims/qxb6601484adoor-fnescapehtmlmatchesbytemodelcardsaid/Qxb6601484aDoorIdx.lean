/-
  WALK of seat b6601484aD: bytes.IndexAny at an ASCII text of two or more bytes, whole: the road by a set of 256 marks (more than 8 bytes), and the roads under one statement.
-/
import Derived.Test.Qxb6601484aDoorAny
import Derived.Deep.WholeRow
namespace Go.Proofs.Qxb6601484aDoor
open Go.RowKit Go.Deep

theorem Tryd.zero33 : ∀ w, (zeroValue 33).run Tryd.prog w = .ok (.agg (Array.replicate 256 (.bool false))) w := (zero_of_info (P := Tryd.prog) (t := 33) (show (Tryd.prog.info? 33).map (fun i => (i.zero, i.size)) = some (some (.agg (Array.replicate 256 (.bool false))), 256) by kernel_rfl)).1
theorem Tryd.size33 : (Tryd.prog.info? 33).map (·.size) = some 256 := by kernel_rfl

theorem mkSet (cs : ByteArray) (w : World) (hc9 : cs.size < 4294967281) (ha : Asc cs) :
    Calls Tryd.prog 17 #[.string cs] w fun e w' => e = .returned (.tuple #[.agg (Lib.setCells cs.data.toList), .bool true]) ∧ w' = w.alloc (.cells (Lib.setCells cs.data.toList) 33) :=
  Any.bytes_makeASCIISet Tryd.laysV11 Tryd.zero33 Tryd.size33 cs w hc9 (fun _ b h => ha.mem b (List.mem_of_getElem? h))
theorem inSet (b : Nat) (x : UInt8) (v : Bool) (w : World) (hc : w.cell? ⟨b, x.toNat, none⟩ = some (.bool v)) :
    Calls Tryd.prog 18 #[.pointer (some ⟨b, 0, none⟩), .int .u8 x.toNat] w fun e w' => e = .returned (.bool v) ∧ w' = w :=
  Any.bytes_asciiSet_contains Tryd.laysV16 b x v w hc

set_option maxRecDepth 1000000 in
set_option maxHeartbeats 8000000 in
theorem ia_long (b o c : Nat) (l : List UInt8) (cs : ByteArray) (w : World) (hb : ∀ i, i < l.length → w.cell? ⟨b, o + i, none⟩ = some (.int .u8 ((l.getD i 0).toNat : Int))) (h8 : 8 < l.length) (hl : l.length ≤ 1048576)
    (h2 : 2 ≤ cs.size) (hc9 : cs.size < 4294967281) (ha : Asc cs) :
    Calls Tryd.prog 12 #[.slice (some ⟨b, o, none⟩) l.length c, .string cs] w fun e w' => e = .returned (.int .i64 (Lib.indexAny l cs.data.toList)) ∧ Below w.heap.size w w' := by
  have hM := mkSet cs w hc9 ha
  have hz33 := Tryd.zero33
  have hemp := isEmpty_of cs (by omega)
  have hn1 : ((l.length : Int) == 1) = false := beq_eq_false_iff_ne.2 (by omega)
  have hcs1 : ((cs.size : Int) == 1) = false := beq_eq_false_iff_ne.2 (by omega)
  have h8z : decide ((8 : Int) < (l.length : Int)) = true := decide_eq_true (by omega)
  have hsc : (storeCells ⟨w.heap.size + 1, 0, none⟩ (Lib.setCells cs.data.toList).toList 0).run Tryd.prog ((w.alloc (.cells (Lib.setCells cs.data.toList) 33)).alloc (.cells (Array.replicate 256 (.bool false)) 33)) = .ok () ((w.alloc (.cells (Lib.setCells cs.data.toList) 33)).alloc (.cells (Lib.setCells cs.data.toList) 33)) := by
    have := run_storeCells_new (P := Tryd.prog) (w.alloc (.cells (Lib.setCells cs.data.toList) 33)) 33 (Array.replicate 256 (.bool false)) (Lib.setCells cs.data.toList) (by rw [Lib.setCells_size]; exact Tryd.size33) (by rw [Lib.setCells_size, Array.size_replicate]) (Lib.setCells_one _)
    simpa using this
  have hsz := Lib.setCells_size cs.data.toList
  have hcellAt : ∀ x : UInt8, ((w.alloc (.cells (Lib.setCells cs.data.toList) 33)).alloc (.cells (Lib.setCells cs.data.toList) 33)).cell? ⟨w.heap.size + 1, x.toNat, none⟩ = some (.bool (cs.data.toList.contains x)) := fun x => by
    rw [World.cell?_alloc_at _ _ _ _ (by simp), Lib.setCells_at]
  have hB2 : Below w.heap.size w ((w.alloc (.cells (Lib.setCells cs.data.toList) 33)).alloc (.cells (Lib.setCells cs.data.toList) 33)) := ((Below.refl _ _).alloc (Nat.le_refl _) _).alloc (by simp) _
  have HC := hide hcellAt
  have HB := hide hb
  have HW := hide hB2
  clear hcellAt hb hB2 ha
  go_enter Tryd.func12, Tryd.ntmps12
  go_wp2_with (first
    | (go_at_call 16; go_in)
    | (go_at_call 17; refine hM.mono ?_; rintro e w' ⟨rfl, hw⟩; rw [hw]))
  clear hM hsc hz33 hsz hw
  generalize (w.alloc (.cells (Lib.setCells cs.data.toList) 33)).alloc (.cells (Lib.setCells cs.data.toList) 33) = W2 at HC HW ⊢
  go_loopg [62] l.length (fun g s62 wx => ∃ i : Nat, i + g = l.length ∧ s62 = .int .i64 i ∧ wx = W2 ∧ Lib.NoAny l cs.data.toList i)
  case atStart => exact ⟨0, by omega, rfl, rfl, Lib.NoAny.zero _ _⟩
  case round =>
    obtain ⟨i, hig, rfl, rfl, hno⟩ := hrel
    have HN := hide hno
    clear hno
    cases gk with
    | zero =>
      obtain rfl : i = l.length := by omega
      go_wp2
      go_ret
      exact ⟨by rw [Lib.indexAny_none (unhide HN)]; rfl, unhide HW⟩
    | succ g =>
      have hi : i < l.length := by omega
      have hblk : b < w.heap.size := World.block_lt_of_cell? _ _ ((unhide HB) i hi)
      have hck : wr.cell? ⟨b, o + i, none⟩ = some (.int .u8 ((l.getD i 0).toNat : Int)) := ((unhide HW).cell (p := ⟨b, o + i, none⟩) hblk).trans ((unhide HB) i hi)
      generalize hxe : l.getD i 0 = x at hck
      have HX := hide hxe
      clear hxe
      have hcx := (unhide HC) x
      cases hin : cs.data.toList.contains x
      · rw [hin] at hcx
        have HI := hide hin
        clear hin
        go_wp2_with (go_at_call 18; refine (inSet _ x _ _ hcx).mono ?_; rintro e w' ⟨rfl, hw⟩; rw [hw])
        go_roundg g
        case measure => omega
        case rel => exact ⟨i + 1, by omega, by first | rfl | go_num, rfl, ia_next (unhide HN) hi (unhide HX) (unhide HI)⟩
      · rw [hin] at hcx
        have HI := hide hin
        clear hin
        go_wp2_with (go_at_call 18; refine (inSet _ x _ _ hcx).mono ?_; rintro e w' ⟨rfl, hw⟩; rw [hw])
        go_ret
        exact ⟨by rw [ia_hit (unhide HN) hi (unhide HX) (unhide HI)]; rfl, unhide HW⟩

theorem ia_any (p : Option Addr) (c : Nat) (l : List UInt8) (cs : ByteArray) (w : World) (m : Int) (hb : Bts w p l) (hl : l.length ≤ 1048576) (hlc : l.length ≤ c) (hcb : c ≤ 9223372036854775807)
    (hT : Lib.Utf8Tabs 1 2 w) (hm : w.cell? ⟨0, 0, none⟩ = some (.int .i64 m)) (h2 : 2 ≤ cs.size) (hc9 : cs.size < 4294967281) (ha : Asc cs) :
    Calls Tryd.prog 12 #[.slice p l.length c, .string cs] w fun e w' => e = .returned (.int .i64 (Lib.indexAny l cs.data.toList)) ∧ Below w.heap.size w w' := by
  by_cases h1 : l.length = 1
  · obtain ⟨b, o, rfl, hc⟩ := hb (by omega)
    obtain ⟨x, rfl⟩ := List.length_eq_one_iff.1 h1
    have hc0 := hc 0 (by simp)
    by_cases hx : x.toNat < 128
    · refine (ia_one_ascii b o c x cs w hc0 hx h2).mono ?_
      rintro e w' ⟨rfl, rfl⟩
      exact ⟨rfl, Below.refl _ _⟩
    · exact ia_one_hi b o c x cs w hc0 (by omega) h2 ha
  by_cases h8 : l.length ≤ 8
  · exact ia_short p c l cs w m hb h8 h1 hlc hcb hT hm h2 hc9 ha
  · obtain ⟨b, o, rfl, hc⟩ := hb (by omega)
    exact ia_long b o c l cs w hc (by omega) hl h2 hc9 ha

/-- what the search gives, in words. -/
theorem idx_cases (cs : List UInt8) : ∀ t : List UInt8, (Lib.indexAny t cs = -1 ∧ ∀ x ∈ t, cs.contains x = false) ∨
    ∃ a x b, t = a ++ x :: b ∧ Lib.indexAny t cs = (a.length : Int) ∧ (∀ y ∈ a, cs.contains y = false) ∧ cs.contains x = true
  | [] => .inl ⟨rfl, fun x h => by cases h⟩
  | c :: t => by
    cases hc : cs.contains c with
    | true => exact .inr ⟨[], c, t, rfl, by rw [Lib.indexAny, if_pos hc]; rfl, fun y h => (by cases h), hc⟩
    | false =>
      rcases idx_cases cs t with ⟨h1, h2⟩ | ⟨a, x, b, h1, h2, h3, h4⟩
      · refine .inl ⟨by rw [Lib.indexAny, hc, h1]; rfl, fun x hx => ?_⟩
        rcases List.mem_cons.1 hx with rfl | hx
        · exact hc
        · exact h2 x hx
      · refine .inr ⟨c :: a, x, b, by rw [h1]; rfl, ?_, fun y hy => ?_, h4⟩
        · rw [Lib.indexAny, hc, h2, if_neg (by simp), if_neg (by rw [beq_iff_eq]; omega)]
          simp
        · rcases List.mem_cons.1 hy with rfl | hy
          · exact hc
          · exact h3 y hy
end Go.Proofs.Qxb6601484aDoor
