/-
  THE LAWS of seat b6601113aD: the walks.
-/
import Derived.Test.Qxb6601113aDoorTag
import Derived.Test.Qxb6601113aDoorGram
namespace Go.Proofs.Qxb6601113aDoor
open Go.RowKit
open Plain

theorem cell0_below {w w' : World} {m : Int} (hm : w.cell? ⟨0, 0, none⟩ = some (.int .i64 m)) (hb : Below w.heap.size w w') : w'.cell? ⟨0, 0, none⟩ = some (.int .i64 m) :=
  (hb.cell (p := ⟨0, 0, none⟩) (World.block_lt_of_cell? _ _ hm)).trans hm

set_option maxHeartbeats 4000000 in
theorem law3_long (s : ByteArray) (w : World) (h : 1048576 < s.size) (hn : s.size ≤ 9223372036854775807) :
    Calls Tryd.prog 3 #[.string s] w fun x w' => x = .returned (.bool true) ∧ w' = w := by
  have h' : (1048576 : Int) < (s.size : Int) := by omega
  go_enter Tryd.func3, Tryd.ntmps3
  go_wp2
  go_ret
  exact ⟨rfl, rfl⟩

set_option maxRecDepth 100000 in
set_option maxHeartbeats 4000000 in
theorem law3_main (s : ByteArray) (w : World) (m : Int) (hm : w.cell? ⟨0, 0, none⟩ = some (.int .i64 m)) (hs : s.size ≤ 1048576) :
    Calls Tryd.prog 3 #[.string s] w fun x w' => x = .returned (.bool true) ∧ Below w.heap.size w w' := by
  have C1 := hide (tag_any s w m hm hs)
  have C2 := hide (fun w' => gram_any s w' hs)
  have h' : ¬ ((1048576 : Int) < (s.size : Int)) := by omega
  clear hm
  generalize isTag s.data.toList = T at C1 C2
  go_enter Tryd.func3, Tryd.ntmps3
  go_wp2_with (first | (go_at_call 6; go_in) | (go_at_call 7; refine (unhide C1).mono ?_; rintro e w1 ⟨rfl, hb1⟩) | (go_at_call 8; refine ((unhide C2) _).mono ?_; rintro e w2 ⟨rfl, rfl⟩))
  go_ret
  exact ⟨rfl, hb1⟩

set_option maxHeartbeats 4000000 in
theorem law4_long (s : ByteArray) (w : World) (h : 1048576 < s.size) (hn : s.size ≤ 9223372036854775807) :
    Calls Tryd.prog 4 #[.string s] w fun x w' => x = .returned (.bool true) ∧ w' = w := by
  have h' : (1048576 : Int) < (s.size : Int) := by omega
  go_enter Tryd.func4, Tryd.ntmps4
  go_wp2
  go_ret
  exact ⟨rfl, rfl⟩

/-- from place j on there is no hyphen. -/
def noneFrom (s : ByteArray) (j : Nat) : Prop := ∀ x ∈ s.data.toList.drop j, x ≠ 45
theorem noneFrom_end (s : ByteArray) : noneFrom s s.size := fun x hx => by
  rw [List.drop_of_length_le (by rw [← Lib.size_eq]; exact Nat.le_refl _)] at hx
  cases hx
theorem noneFrom_step (s : ByteArray) (j : Nat) (hj : j < s.size) (h : noneFrom s (j + 1)) (hc : s[j] ≠ 45) : noneFrom s j := fun x hx => by
  rw [at_byte s j hj] at hx
  rcases List.mem_cons.1 hx with rfl | hx
  · exact hc
  · exact h x hx

set_option maxRecDepth 100000 in
set_option maxHeartbeats 8000000 in
theorem law4_main (s : ByteArray) (w : World) (m : Int) (hm : w.cell? ⟨0, 0, none⟩ = some (.int .i64 m)) (hs : s.size ≤ 1048576) :
    Calls Tryd.prog 4 #[.string s] w fun x w' => x = .returned (.bool true) ∧ Below w.heap.size w w' := by
  have C1 := hide (tag_any s w m hm hs)
  have h' : ¬ ((1048576 : Int) < (s.size : Int)) := by omega
  have HM := hide hm
  clear hm
  go_enter Tryd.func4, Tryd.ntmps4
  go_wp2_with (go_at_call 9; go_in)
  go_loop [3, 4] (fun a b => ∃ j : Nat, j ≤ s.size ∧ a = .int .i64 (-1) ∧ b = .int .i64 ((j : Int) - 1) ∧ noneFrom s j) (fun _ b => (intOf b + 1).toNat)
  case atStart => exact ⟨s.size, Nat.le_refl _, rfl, rfl, noneFrom_end s⟩
  case round =>
    obtain ⟨j, hj, rfl, rfl, hno⟩ := hrel
    have HN := hide hno
    clear hno
    cases j with
    | zero =>
      have hT := tag_one s.data.toList (fun x hx => (unhide HN) x (by rw [List.drop_zero]; exact hx))
      rw [← Lib.size_eq] at hT
      have CA := hide (fun w' => allAlpha_any s w' hs)
      rw [hT] at C1
      clear hT
      generalize s.data.toList.all alpha = A at C1 CA
      by_cases h2 : (2 : Int) ≤ (s.size : Int)
      · by_cases h3 : (s.size : Int) ≤ 3
        · rw [decide_eq_true (show 2 ≤ s.size by omega), decide_eq_true (show s.size ≤ 3 by omega)] at C1
          have t2 : decide ((2 : Int) ≤ (s.size : Int)) = true := decide_eq_true h2
          have t3 : decide ((s.size : Int) ≤ 3) = true := decide_eq_true h3
          simp only [Bool.true_and] at C1
          go_wp2_with (first | (go_at_call 7; refine (unhide C1).mono ?_; rintro e w1 ⟨rfl, hb1⟩) | (go_at_call 10; refine ((unhide CA) _).mono ?_; rintro e w2 ⟨rfl, rfl⟩))
          go_ret
          exact ⟨rfl, hb1⟩
        · rw [decide_eq_false (show ¬ s.size ≤ 3 by omega)] at C1
          have t2 : decide ((2 : Int) ≤ (s.size : Int)) = true := decide_eq_true h2
          have t3 : decide ((s.size : Int) ≤ 3) = false := decide_eq_false h3
          simp only [Bool.and_false, Bool.false_and] at C1
          go_wp2_with (go_at_call 7; refine (unhide C1).mono ?_; rintro e w1 ⟨rfl, hb1⟩)
          go_ret
          exact ⟨rfl, hb1⟩
      · rw [decide_eq_false (show ¬ 2 ≤ s.size by omega)] at C1
        have t2 : decide ((2 : Int) ≤ (s.size : Int)) = false := decide_eq_false h2
        simp only [Bool.false_and] at C1
        go_wp2_with (go_at_call 7; refine (unhide C1).mono ?_; rintro e w1 ⟨rfl, hb1⟩)
        go_ret
        exact ⟨rfl, hb1⟩
    | succ j =>
      have hlt : j < s.size := by omega
      have ej : ((j + 1 : Nat) : Int) - 1 = (j : Int) := by omega
      rw [ej]
      by_cases hc : s[j] = 45
      · have t1 : (((s[j]).toNat : Int) == 45) = true := by rw [hc]; rfl
        have hsp : s.data.toList = s.data.toList.take j ++ 45 :: s.data.toList.drop (j + 1) := by
          rw [← hc, ← at_byte s j hlt, List.take_append_drop]
        have hT := tag_last (s.data.toList.take j) (s.data.toList.drop (j + 1)) (unhide HN)
        rw [← hsp, okP_sub] at hT
        have hA1 : (s.extract 0 j).data.toList = s.data.toList.take j := Lib.extract_from_zero s j
        have hA2 : (s.extract (j + 1) s.size).data.toList = s.data.toList.drop (j + 1) := Lib.extract_to_end s (j + 1)
        have hz1 : (s.extract 0 j).size ≤ 1048576 := by rw [Lib.size_eq, hA1, List.length_take, ← Lib.size_eq]; omega
        have hz2 : (s.extract (j + 1) s.size).size ≤ 1048576 := by rw [Lib.size_eq, hA2, List.length_drop, ← Lib.size_eq]; omega
        have C2 := hide (fun w' (h : Below w.heap.size w w') => tag_any (s.extract 0 j) w' m (cell0_below (unhide HM) h) hz1)
        have C3 := hide (fun w' => allAlnum_any (s.extract (j + 1) s.size) w' hz2)
        rw [hA1] at C2
        rw [hA2] at C3
        rw [hT, List.length_drop, ← Lib.size_eq] at C1
        clear hT hsp hA1 hA2 hz1 hz2 hc
        generalize isTag (s.data.toList.take j) = T2 at C1 C2
        generalize (s.data.toList.drop (j + 1)).all alnum = A at C1 C3
        go_wp2_with fail
        refine (unhide C1).mono ?_
        rintro e w1 ⟨rfl, hb1⟩
        have C2' := hide ((unhide C2) w1 hb1)
        have HB1 := hide hb1
        clear C1 C2 hb1
        go_wp2_with fail
        refine (unhide C2').mono ?_
        rintro e w2 ⟨rfl, hb2⟩
        have HB2 : Hid (Below w.heap.size w w2) := (unhide HB1).trans (hb2.mono (unhide HB1).size)
        clear C2' hb2
        cases T2
        · go_wp2
          go_ret
          exact ⟨rfl, unhide HB2⟩
        go_wp2_with (go_at_call 11; refine ((unhide C3) _).mono ?_; rintro e w3 ⟨rfl, rfl⟩)
        · go_ret
          refine ⟨ret_bool ?_, unhide HB2⟩
          rw [decide_eq_true (show 1 ≤ s.size - (j + 1) by omega), decide_eq_true (show s.size ≤ 8 + (j + 1) by omega)]
          cases A <;> rfl
        · go_ret
          refine ⟨ret_bool ?_, unhide HB2⟩
          rw [decide_eq_false (show ¬ s.size ≤ 8 + (j + 1) by omega)]
          simp
        · go_ret
          refine ⟨ret_bool ?_, unhide HB2⟩
          rw [decide_eq_false (show ¬ 1 ≤ s.size - (j + 1) by omega)]
          rfl
      · have t1 : (((s[j]).toNat : Int) == 45) = false := by
          rw [beq_eq_false_iff_ne]
          intro e
          apply hc
          apply UInt8.toNat.inj
          show (s[j]).toNat = 45
          omega
        have HN2 := hide (noneFrom_step s j hlt (unhide HN) hc)
        clear hc
        go_wp2
        go_round
        case measure => simp [intOf]
        case rel => exact ⟨j, by omega, rfl, by go_num, unhide HN2⟩
end Go.Proofs.Qxb6601113aDoor
