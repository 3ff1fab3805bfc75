/-
  WALKS of seat b6601621aD: zzTwoDigits, zzItoa.
-/
import Derived.Test.Qxb6601621aDoorLead
import Derived.Laws.IdiomStrings
namespace Go.Proofs.Qxb6601621aDoor
open Go.RowKit
open Plain

set_option maxHeartbeats 1000000 in
theorem two_any (v : Nat) (w : World) (hv : v < 100) :
    Calls Tryd.prog 11 #[.int .i64 (v : Int)] w fun e w' => e = .returned (.string (str (two v))) ∧ Below w.heap.size w w' := by
  have hcv := run_convert_bytes_back (P := Tryd.prog) (w.alloc (.cells #[.int .u8 (48 + (v : Int) / 10), .int .u8 (48 + (v : Int) % 10)] 5)) 37 9 5 ⟨w.heap.size, 0, none⟩ 2 (two v) Tryd.underlying37 Tryd.underlying5 Tryd.underlying9 (fun j hj => by
    have e1 : (⟨w.heap.size, 0, none⟩ : Addr).add j = ⟨w.heap.size, j, none⟩ := by simp [Addr.add]; omega
    rw [e1, World.cell?_alloc_mark]
    have d1 := dig_nat (v / 10) (by omega)
    have d2 := dig_nat (v % 10) (by omega)
    match j, hj with
    | 0, _ => simp [two, d1]
    | 1, _ => simp [two, d2])
  have hcv' : (convert 37 9 (.slice (some ⟨w.heap.size, 0, none⟩) 2 2)).run Tryd.prog (w.alloc (.cells #[.int .u8 (48 + (v : Int) / 10), .int .u8 (48 + (v : Int) % 10)] 5)) = .ok (.string (str (two v))) (w.alloc (.cells #[.int .u8 (48 + (v : Int) / 10), .int .u8 (48 + (v : Int) % 10)] 5)) := hcv
  clear hcv
  go_enter Tryd.func11, Tryd.ntmps11
  go_wp2
  go_ret
  exact ⟨rfl, (Below.refl _ _).alloc (Nat.le_refl _) _⟩

set_option maxHeartbeats 1000000 in
theorem itoa_zero (w : World) : Calls Tryd.prog 10 #[.int .i64 0] w fun e w' => e = .returned (.string (str (itoa 0))) ∧ w' = w := by
  go_enter Tryd.func10, Tryd.ntmps10
  go_wp2
  go_ret
  exact ⟨rfl, rfl⟩


theorem alloc_cell (w : World) (C : Array Value) (t : TypeId) (j : Nat) : (w.alloc (.cells C t)).cell? ⟨w.heap.size, j, none⟩ = C[j]? := World.cell?_alloc_mark w C t (0, 0) j
theorem alloc_free (w : World) (C : Array Value) (t : TypeId) (j : Nat) : (w.alloc (.cells C t)).frozen? ⟨w.heap.size, j, none⟩ = false := by
  rw [World.frozen?_alloc_mark w C t 0 0 j]
  simp
theorem Tryd.alen38 : Tryd.prog.arrayLen 38 = 20 := by kernel_rfl
theorem Tryd.elem38 : Tryd.prog.elem 38 = 5 := by kernel_rfl
theorem slice_arr (w : World) (N k : Nat) (hk : k < 20) : (Instr.sliceAt 38 (.pointer (some ⟨N, 0, none⟩)) (some (.int .i64 (k : Int))) none none).run Tryd.prog w = .ok (.slice (some ⟨N, k, none⟩) (20 - k) (20 - k)) w := by
  rw [run_sliceAt_array_l w 38 ⟨N, 0, none⟩ (by kernel_rfl) .i64 (k : Int) (by omega) (by rw [Tryd.alen38]; omega), Tryd.alen38, Tryd.elem38, Tryd.sizeOf5]
  have hne : ¬ (20 = k) := by omega
  simp [slicedAt, hne, Addr.add]
  intro h
  exact h.symm

set_option maxHeartbeats 1000000 in
theorem itoa_some (v : Nat) (w : World) (hv : v < 100000000000000000) (h0 : v ≠ 0) : Calls Tryd.prog 10 #[.int .i64 (v : Int)] w fun e w' => e = .returned (.string (str (itoa v))) ∧ Below w.heap.size w w' := by
  go_enter Tryd.func10, Tryd.ntmps10
  go_wp2_with fail
  go_loopw [0, 4] (fun x i wr => ∃ (u k : Nat) (C : Array Value) (t : List UInt8), x = .int .i64 (u : Int) ∧ i = .int .i64 (k : Int) ∧ wr = w.alloc (.cells C 38) ∧ C.size = 20 ∧ k + t.length = 20 ∧ u < 100000000000000000 ∧ u < 10 ^ k ∧ dec u ++ t = dec v ∧ (∀ j (hj : j < t.length), C[k + j]? = some (.int .u8 (t[j].toNat : Int)))) (fun x _ _ => (intOf x).toNat)
  case atStart =>
    refine ⟨v, 20, _, [], rfl, rfl, rfl, ?_, rfl, hv, Nat.lt_of_lt_of_le hv (by decide), by simp, fun j hj => by simp at hj⟩
    rfl
  case round =>
    obtain ⟨u, k, C, t, rfl, rfl, rfl, hC, hk, hu, hp, hd, hc⟩ := hrel
    have HP := hide hp
    have HD := hide hd
    have HC := hide hc
    clear hp hd hc
    by_cases hu0 : u = 0
    · subst hu0
      have ht : t = itoa v := by
        have h1 := unhide HD
        rw [dec_zero, List.nil_append] at h1
        unfold itoa
        rw [if_neg h0, h1]
      have hk20 : k < 20 := by
        obtain ⟨c, r, e, _⟩ := itoa_head v
        rw [ht, e] at hk
        simp at hk
        omega
      have hlen : t.length = 20 - k := by omega
      have hsl := slice_arr (w.alloc (.cells C 38)) w.heap.size k hk20
      have hcv := run_convert_bytes_back (P := Tryd.prog) (w.alloc (.cells C 38)) 37 9 5 ⟨w.heap.size, k, none⟩ (20 - k) t Tryd.underlying37 Tryd.underlying5 Tryd.underlying9 (fun j hj => by
        have e1 : (⟨w.heap.size, k, none⟩ : Addr).add j = ⟨w.heap.size, k + j, none⟩ := by simp [Addr.add]
        rw [e1, alloc_cell]
        exact (unhide HC) j hj)
      rw [hlen] at hcv
      have hcv' : (convert 37 9 (.slice (some ⟨w.heap.size, k, none⟩) (20 - k) (20 - k))).run Tryd.prog (w.alloc (.cells C 38)) = .ok (.string (str t)) (w.alloc (.cells C 38)) := hcv
      have HT := hide ht
      clear hcv ht hlen
      go_wp2
      go_ret
      exact ⟨ret_str (by rw [unhide HT]), (Below.refl _ _).alloc (Nat.le_refl _) _⟩
    · obtain ⟨k, rfl⟩ : ∃ k', k = k' + 1 := ⟨k - 1, by have := unhide HP; rcases k with _ | k; (simp at this; omega); simp⟩
      have hpos : (0 : Int) < (u : Int) := by omega
      have hci : ∃ z, C[k]? = some z := ⟨_, Array.getElem?_eq_getElem (by omega)⟩
      obtain ⟨z, hz⟩ := hci
      have hcell := (alloc_cell w C 38 k).trans hz
      have hfr := alloc_free w C 38 k
      go_wp2_with fail
      refine ⟨⟨u / 10, k, _, dig (u % 10) :: t, by simp, rfl, rfl, by rw [Array.size_setIfInBounds]; exact hC, by rw [List.length_cons]; omega, by omega, ?_, ?_, ?_⟩, by simp [intOf]; omega⟩
      · have := unhide HP
        rw [Nat.pow_succ] at this
        omega
      · have := unhide HD
        rw [dec_step u hu0, List.append_assoc] at this
        exact this
      · intro j hj
        have hd := dig_nat (u % 10) (by omega)
        cases j with
        | zero =>
          rw [Nat.add_zero, Array.getElem?_setIfInBounds_self_of_lt (by omega)]
          show some (Value.int .u8 (48 + (u : Int) % 10)) = some (Value.int .u8 ((dig (u % 10)).toNat : Int))
          rw [hd]
          simp
        | succ j =>
          rw [Array.getElem?_setIfInBounds_ne (by omega)]
          have := (unhide HC) j (by simpa using hj)
          rw [show k + (j + 1) = k + 1 + j by omega, this]
          rfl
end Go.Proofs.Qxb6601621aDoor
