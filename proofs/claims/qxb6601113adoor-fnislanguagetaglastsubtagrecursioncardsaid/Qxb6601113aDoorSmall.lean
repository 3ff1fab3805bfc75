/-
  WALKS of seat b6601113aD: the laws' own helpers.
-/
import Derived.Test.Qxb6601113aDoorChecked
import Derived.Test.Qxb6601113aDoorPlain
import Derived.WalkKit
import Derived.WalkSpells
import Derived.Handy
namespace Go.Proofs.Qxb6601113aDoor
open Go.RowKit
open Plain

theorem hide {p : Prop} (h : p) : Hid p := h
theorem unhide {p : Prop} (h : Hid p) : p := h

theorem ret_bool {a b : Bool} (h : a = b) : Ending.returned (.bool a) = .returned (.bool b) := by rw [h]

theorem alpha_z (c : UInt8) : alpha c = ((decide ((97 : Int) ≤ (c.toNat : Int)) && decide ((c.toNat : Int) ≤ 122)) || (decide ((65 : Int) ≤ (c.toNat : Int)) && decide ((c.toNat : Int) ≤ 90))) := by
  unfold alpha
  rw [Bool.eq_iff_iff]
  simp
  omega
theorem digit_z (c : UInt8) : digit c = (decide ((48 : Int) ≤ (c.toNat : Int)) && decide ((c.toNat : Int) ≤ 57)) := by
  unfold digit
  rw [Bool.eq_iff_iff]
  simp
  omega

set_option maxHeartbeats 1000000 in
theorem isAlpha_any (c : UInt8) (w : World) :
    Calls Tryd.prog 17 #[.int .u8 (c.toNat : Int)] w fun e w' => e = .returned (.bool (alpha c)) ∧ w' = w := by
  rw [alpha_z]
  generalize (c.toNat : Int) = n
  go_enter Tryd.func17, Tryd.ntmps17
  go_wp2
  all_goals (go_ret; first | exact ⟨rfl, rfl⟩ | exact ⟨ret_bool (by rw [Bool.eq_iff_iff]; simp; omega), rfl⟩)

set_option maxHeartbeats 1000000 in
theorem isAlnum_any (c : UInt8) (w : World) :
    Calls Tryd.prog 16 #[.int .u8 (c.toNat : Int)] w fun e w' => e = .returned (.bool (alnum c)) ∧ w' = w := by
  have cA := hide (isAlpha_any c)
  unfold alnum
  rw [digit_z]
  generalize alpha c = a at cA
  generalize (c.toNat : Int) = n at cA
  cases a
  all_goals
    go_enter Tryd.func16, Tryd.ntmps16
    go_wp2_with (go_at_call 17; refine ((unhide cA) _).mono ?_; rintro e w' ⟨rfl, rfl⟩)
    all_goals (go_ret; first | exact ⟨rfl, rfl⟩ | exact ⟨ret_bool (by rw [Bool.eq_iff_iff]; simp; omega), rfl⟩)

/-- the byte at a place. -/
theorem at_byte (s : ByteArray) (k : Nat) (h : k < s.size) : s.data.toList.drop k = s[k] :: s.data.toList.drop (k + 1) := by
  rw [List.drop_eq_getElem_cons (by rw [← Lib.size_eq]; exact h)]
  rfl
def allFrom (f : UInt8 → Bool) (s : ByteArray) (k : Nat) : Bool := (s.data.toList.drop k).all f
theorem allFrom_zero (f : UInt8 → Bool) (s : ByteArray) : allFrom f s 0 = s.data.toList.all f := by unfold allFrom; rw [List.drop_zero]
theorem allFrom_step (f : UInt8 → Bool) (s : ByteArray) (k : Nat) (h : k < s.size) : allFrom f s k = (f s[k] && allFrom f s (k + 1)) := by
  unfold allFrom
  rw [at_byte s k h, List.all_cons]
theorem allFrom_end (f : UInt8 → Bool) (s : ByteArray) (k : Nat) (h : s.size ≤ k) : allFrom f s k = true := by
  unfold allFrom
  rw [List.drop_of_length_le (by rw [← Lib.size_eq]; exact h)]
  rfl

set_option maxHeartbeats 1000000 in
theorem allAlpha_any (s : ByteArray) (w : World) (hs : s.size ≤ 1048576) :
    Calls Tryd.prog 10 #[.string s] w fun e w' => e = .returned (.bool (s.data.toList.all alpha)) ∧ w' = w := by
  rw [← allFrom_zero]
  generalize hA : allFrom alpha s 0 = A
  go_enter Tryd.func10, Tryd.ntmps10
  go_wp2
  go_loop [3] (fun i => ∃ k : Nat, k ≤ s.size ∧ i = .int .i64 k ∧ A = allFrom alpha s k) (fun i => s.size - (intOf i).toNat)
  case atStart => exact ⟨0, Nat.zero_le _, rfl, hA.symm⟩
  case round =>
    clear hA
    obtain ⟨k, hk, rfl, hr⟩ := hrel
    have HR := hide hr
    clear hr
    by_cases hlt : k < s.size
    · have hst := allFrom_step alpha s k hlt
      have cA := hide (isAlpha_any (s[k]) w)
      cases ha : alpha s[k]
      · rw [ha] at cA hst
        have HS := hide hst
        clear ha hst
        go_wp2_with (go_at_call 17; refine (unhide cA).mono ?_; rintro e w' ⟨rfl, rfl⟩)
        go_ret
        exact ⟨ret_bool (by rw [unhide HR, unhide HS]; rfl), rfl⟩
      · rw [ha] at cA hst
        have HS := hide hst
        clear ha hst
        go_wp2_with (go_at_call 17; refine (unhide cA).mono ?_; rintro e w' ⟨rfl, rfl⟩)
        go_round
        case rel => exact ⟨k + 1, by omega, by go_num, by rw [unhide HR, unhide HS, Bool.true_and]⟩
        case measure => simp [intOf]; omega
    · go_wp2
      go_ret
      exact ⟨ret_bool (by rw [unhide HR, allFrom_end alpha s k (by omega)]), rfl⟩

set_option maxHeartbeats 1000000 in
theorem allAlnum_any (s : ByteArray) (w : World) (hs : s.size ≤ 1048576) :
    Calls Tryd.prog 11 #[.string s] w fun e w' => e = .returned (.bool (s.data.toList.all alnum)) ∧ w' = w := by
  rw [← allFrom_zero]
  generalize hA : allFrom alnum s 0 = A
  go_enter Tryd.func11, Tryd.ntmps11
  go_wp2
  go_loop [3] (fun i => ∃ k : Nat, k ≤ s.size ∧ i = .int .i64 k ∧ A = allFrom alnum s k) (fun i => s.size - (intOf i).toNat)
  case atStart => exact ⟨0, Nat.zero_le _, rfl, hA.symm⟩
  case round =>
    clear hA
    obtain ⟨k, hk, rfl, hr⟩ := hrel
    have HR := hide hr
    clear hr
    by_cases hlt : k < s.size
    · have hst := allFrom_step alnum s k hlt
      have cA := hide (isAlnum_any (s[k]) w)
      cases ha : alnum s[k]
      · rw [ha] at cA hst
        have HS := hide hst
        clear ha hst
        go_wp2_with (go_at_call 16; refine (unhide cA).mono ?_; rintro e w' ⟨rfl, rfl⟩)
        go_ret
        exact ⟨ret_bool (by rw [unhide HR, unhide HS]; rfl), rfl⟩
      · rw [ha] at cA hst
        have HS := hide hst
        clear ha hst
        go_wp2_with (go_at_call 16; refine (unhide cA).mono ?_; rintro e w' ⟨rfl, rfl⟩)
        go_round
        case rel => exact ⟨k + 1, by omega, by go_num, by rw [unhide HR, unhide HS, Bool.true_and]⟩
        case measure => simp [intOf]; omega
    · go_wp2
      go_ret
      exact ⟨ret_bool (by rw [unhide HR, allFrom_end alnum s k (by omega)]), rfl⟩

end Go.Proofs.Qxb6601113aDoor
