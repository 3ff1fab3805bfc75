/-
  WALKS of seat b6601621aD: leadingDigits, zzTwoDigits.
-/
import Derived.Test.Qxb6601621aDoorChecked
import Derived.Test.Qxb6601621aDoorPlain
import Derived.Test.Qxb6601621aDoorShelf
import Derived.WalkKit
import Derived.WalkSpells
import Derived.Handy
import Derived.Below
namespace Go.Proofs.Qxb6601621aDoor
open Go.RowKit
open Plain

theorem hide {p : Prop} (h : p) : Hid p := h
theorem unhide {p : Prop} (h : Hid p) : p := h
theorem ret_str {a b : ByteArray} (h : a = b) : Ending.returned (.string a) = .returned (.string b) := by rw [h]

/-- the string of these bytes. -/
def str (l : List UInt8) : ByteArray := ⟨l.toArray⟩
theorem str_size (l : List UInt8) : (str l).size = l.length := Lib.size_mk l
theorem str_data (l : List UInt8) : (str l).data.toList = l := by simp [str]
theorem str_at (l : List UInt8) (i : Nat) (h : i < (str l).size) (h' : i < l.length) : (str l)[i]'h = l[i] := by
  have := Lib.getElem_mk l i h
  rw [List.getElem?_eq_getElem h'] at this
  exact (Option.some.inj this).symm
theorem str_upto (l : List UInt8) (k : Nat) : (str l).extract 0 k = str (l.take k) := by
  rw [Lib.extract_upto, str_data]; rfl
theorem str_from (l : List UInt8) (k : Nat) : (str l).extract k (str l).size = str (l.drop k) := by
  rw [Lib.extract_from, str_data]; rfl
theorem str_add (a b : List UInt8) : str a ++ str b = str (a ++ b) := ByteArray.mk_append_mk a b

set_option maxHeartbeats 1000000 in
theorem lead_bytes (s : ByteArray) (n : Nat) (w : World) (hn : n ≤ s.size) (hs : s.size ≤ 1048576) (h1 : ∀ j (h : j < s.size), j < n → 48 ≤ (s[j]).toNat ∧ (s[j]).toNat ≤ 57) (h2 : ∀ (h : n < s.size), ¬ (48 ≤ (s[n]).toNat ∧ (s[n]).toNat ≤ 57)) :
    Calls Tryd.prog 18 #[.string s] w fun e w' => e = .returned (.string (s.extract 0 n)) ∧ w' = w := by
  have H1 := hide h1
  have H2 := hide h2
  clear h1 h2
  go_enter Tryd.func18, Tryd.ntmps18
  go_wp2
  go_loop [3] (fun i => ∃ k : Nat, k ≤ n ∧ i = .int .i64 k) (fun i => n - (intOf i).toNat)
  case atStart => exact ⟨0, Nat.zero_le _, rfl⟩
  case round =>
    obtain ⟨k, hk, rfl⟩ := hrel
    by_cases hlt : k < n
    · have hks : k < s.size := by omega
      have hd := (unhide H1) k hks hlt
      have t1 : decide ((48 : Int) ≤ ((s[k]).toNat : Int)) = true := decide_eq_true (by omega)
      have t2 : decide (((s[k]).toNat : Int) ≤ 57) = true := decide_eq_true (by omega)
      clear hd
      go_wp2
      go_round
      case rel => exact ⟨k + 1, by omega, by go_num⟩
      case measure => simp [intOf]; omega
    · have e : k = n := by omega
      subst e
      by_cases hks : k < s.size
      · have hd := (unhide H2) hks
        by_cases h48 : 48 ≤ (s[k]).toNat
        · have t1 : decide ((48 : Int) ≤ ((s[k]).toNat : Int)) = true := decide_eq_true (by omega)
          have t2 : decide (((s[k]).toNat : Int) ≤ 57) = false := decide_eq_false (by omega)
          clear hd h48
          go_wp2
          go_ret
          exact ⟨by simp, rfl⟩
        · have t1 : decide ((48 : Int) ≤ ((s[k]).toNat : Int)) = false := decide_eq_false (by omega)
          clear hd h48
          go_wp2
          go_ret
          exact ⟨by simp, rfl⟩
      · go_wp2
        go_ret
        exact ⟨by simp, rfl⟩

/-- leadingDigits at a string whose digits a are followed by no digit. -/
theorem lead_any (a b : List UInt8) (w : World) (hl : (a ++ b).length ≤ 1048576) (ha : ∀ c ∈ a, isDig c) (hb : ∀ c t, b = c :: t → ¬ isDig c) :
    Calls Tryd.prog 18 #[.string (str (a ++ b))] w fun e w' => e = .returned (.string (str a)) ∧ w' = w := by
  have hsz : (str (a ++ b)).size = a.length + b.length := by rw [str_size, List.length_append]
  rw [List.length_append] at hl
  have h := lead_bytes (str (a ++ b)) a.length w (by omega) (by omega) (fun j h hj => by
      rw [str_at (a ++ b) j h (by rw [List.length_append]; omega), List.getElem_append_left hj]
      exact ha _ (List.getElem_mem _)) (fun h => by
      have hb' : 0 < b.length := by omega
      rw [str_at (a ++ b) a.length h (by rw [List.length_append]; omega), List.getElem_append_right (Nat.le_refl _)]
      cases b with
      | nil => simp at hb'
      | cons c t =>
        have := hb c t rfl
        unfold isDig at this
        simpa using this)
  rw [str_upto, List.take_left' rfl] at h
  exact h
end Go.Proofs.Qxb6601621aDoor
