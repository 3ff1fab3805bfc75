/-
  WALKS of seat b6601621aD: decimal.scaled, ZZdecimalScaled.
-/
import Derived.Test.Qxb6601621aDoorTwo
import Derived.Laws.RangeString
import Derived.Deep.LoopGhost
namespace Go.Proofs.Qxb6601621aDoor
open Go.RowKit
open Plain

set_option maxHeartbeats 1000000 in
theorem scaled_long (neg : Bool) (T : List UInt8) (ex : Int) (z : Nat) (w : World) (h : 5 < T.length + z) (hb : T.length + z ≤ 1000) :
    Calls Tryd.prog 16 #[.agg #[.bool neg, .string (str T), .int .i64 ex], .int .i64 (z : Int)] w fun e w' => e = .returned (.tuple #[.int .i64 0, .bool false]) ∧ Below w.heap.size w w' := by
  have hsz := str_size T
  have t1 : decide ((5 : Int) < (T.length : Int) + (z : Int)) = true := decide_eq_true (by omega)
  go_enter Tryd.func16, Tryd.ntmps16
  go_wp2
  go_ret2
  exact ⟨rfl, (Below.refl _ _).alloc (Nat.le_refl _) _⟩

theorem val_take (T : List UInt8) (k : Nat) (h : k < T.length) : val (T.take (k + 1)) = val (T.take k) * 10 + ((T[k]).toNat - 48) := by
  rw [List.take_succ_eq_append_getElem h, val_snoc]
theorem take_digs {T : List UInt8} (h : ∀ c ∈ T, isDig c) (k : Nat) : ∀ c ∈ T.take k, isDig c := fun c hc => h c (List.mem_of_mem_take hc)
theorem val_small {T : List UInt8} (h : ∀ c ∈ T, isDig c) (n : Nat) (hl : T.length ≤ n) : val T < 10 ^ n := Nat.lt_of_lt_of_le (val_lt T h) (Nat.pow_le_pow_right (by decide) hl)

/-- the digits' value, with k zeros behind. -/
def sc (T : List UInt8) (k : Nat) : Nat := val T * 10 ^ k
theorem sc_zero (T : List UInt8) : sc T 0 = val T := by simp [sc]
theorem sc_succ (T : List UInt8) (k : Nat) : sc T (k + 1) = sc T k * 10 := by unfold sc; rw [Nat.pow_succ, Nat.mul_assoc]
theorem sc_small (T : List UInt8) (k : Nat) (hd : val T < 10 ^ T.length) (h : T.length + k ≤ 5) : sc T k < 100000 := by
  have h1 : val T * 10 ^ k < 10 ^ T.length * 10 ^ k := Nat.mul_lt_mul_of_pos_right hd (Nat.pow_pos (by decide))
  rw [← Nat.pow_add] at h1
  exact Nat.lt_of_lt_of_le h1 (Nat.le_trans (Nat.pow_le_pow_right (by decide) h) (by decide))

set_option maxHeartbeats 2000000 in
theorem scaled_short (neg : Bool) (T : List UInt8) (ex : Int) (z : Nat) (w : World) (h : T.length + z ≤ 5) (hd : ∀ c ∈ T, isDig c) :
    Calls Tryd.prog 16 #[.agg #[.bool neg, .string (str T), .int .i64 ex], .int .i64 (z : Int)] w fun e w' => e = .returned (.tuple #[.int .i64 (sc T z : Int), .bool (decide (sc T z ≤ 10000))]) ∧ Below w.heap.size w w' := by
  have hsz := str_size T
  have t1 : decide ((5 : Int) < (T.length : Int) + (z : Int)) = false := decide_eq_false (by omega)
  have HD := hide hd
  clear hd
  go_enter Tryd.func16, Tryd.ntmps16
  go_wp2_with fail
  have HB : Hid (Below w.heap.size w (w.alloc (.cells #[.bool neg, .string (str T), .int .i64 ex] 31))) := (Below.refl _ _).alloc (Nat.le_refl _) _
  have hW : (w.alloc (.cells #[.bool neg, .string (str T), .int .i64 ex] 31)).heap.size = w.heap.size + 1 := by simp
  generalize w.alloc (.cells #[.bool neg, .string (str T), .int .i64 ex] 31) = W at HB hW ⊢
  have HW := hide hW
  clear hW
  go_loopg [6] T.length (fun g x wr => ∃ k : Nat, k + g = T.length ∧ x = .int .i64 (val (T.take k) : Int) ∧ wr = W.iter (str T) k)
  case atStart => exact ⟨0, by omega, rfl, rfl⟩
  case round =>
    obtain ⟨k, hkg, rfl, rfl⟩ := hrel
    cases gk with
    | succ g =>
      have hk : k < T.length := by omega
      have hks : k < (str T).size := by omega
      have hdk : isDig T[k] := (unhide HD) _ (List.getElem_mem hk)
      have hat := str_at T k hks hk
      unfold isDig at hdk
      have hnx := fun ty => run_next_ascii (P := Tryd.prog) W (str T) k ty hks (by rw [hat]; omega)
      rw [hat, unhide HW] at hnx
      have hv := val_take T k hk
      have hs0 : val (T.take k) < 10 ^ 5 := val_small (take_digs (unhide HD) k) 5 (by rw [List.length_take]; omega)
      generalize val (T.take k) = a at hv hs0 ⊢
      generalize T[k] = c at hnx hdk hv
      obtain ⟨d, hcd⟩ : ∃ d : Nat, c.toNat = d + 48 := ⟨c.toNat - 48, by omega⟩
      rw [hcd] at hnx hdk hv
      have hd9 : d ≤ 9 := by omega
      have HV := hide hv
      clear hv hcd hdk hat
      go_wp2_with fail
      go_roundg g
      case measure => omega
      case rel => exact ⟨k + 1, by omega, by rw [unhide HV]; simp, rfl⟩
    | zero =>
      obtain rfl : k = T.length := by omega
      have hnx := fun ty => run_next_end (P := Tryd.prog) W (str T) T.length ty (by omega)
      rw [unhide HW] at hnx
      have hs0 : val (T.take T.length) < 10 ^ T.length := by rw [List.take_length]; exact val_lt T (unhide HD)
      rw [List.take_length] at hs0 ⊢
      have HS := hide hs0
      clear hs0
      go_wp2_with fail
      go_loop [6, 28] (fun x i => ∃ k : Nat, k ≤ z ∧ x = .int .i64 (sc T k : Int) ∧ i = .int .i64 (k : Int)) (fun _ i => z - (intOf i).toNat)
      case atStart => exact ⟨0, Nat.zero_le _, by rw [sc_zero], rfl⟩
      case round =>
        obtain ⟨k, hk, rfl, rfl⟩ := hrel
        have hs1 := sc_small T k (unhide HS) (by omega)
        have hst := sc_succ T k
        have HST := hide hst
        clear hst
        by_cases hlt : k < z
        · generalize sc T k = a at hs1 HST ⊢
          go_wp2_with fail
          go_round
          case rel => exact ⟨k + 1, by omega, by rw [unhide HST]; simp, by go_num⟩
          case measure => simp [intOf]; omega
        · obtain rfl : k = z := by omega
          clear HST
          go_wp2_with fail
          go_ret2
          refine ⟨?_, (unhide HB).trans (((Below.refl _ _).alloc (Nat.le_refl _) _).mono (unhide HB).size)⟩
          first | (congr 5; simp; omega) | (congr 6; simp; omega)

set_option maxHeartbeats 1000000 in
/-- the shim hands the call on. -/
theorem zscaled_on (neg : Bool) (s : ByteArray) (ex pw : Int) (w : World) (p : Int) (ok : Bool)
    (h : Calls Tryd.prog 16 #[.agg #[.bool neg, .string s, .int .i64 ex], .int .i64 pw] w fun e w' => e = .returned (.tuple #[.int .i64 p, .bool ok]) ∧ Below w.heap.size w w') :
    Calls Tryd.prog 12 #[.bool neg, .string s, .int .i64 ex, .int .i64 pw] w fun e w' => e = .returned (.tuple #[.int .i64 p, .bool ok]) ∧ Below w.heap.size w w' := by
  have H := hide h
  clear h
  go_enter Tryd.func12, Tryd.ntmps12
  go_wp2_with fail
  refine (unhide H).mono ?_
  rintro e w1 ⟨rfl, hb⟩
  have HB := hide hb
  clear hb H
  go_wp2
  go_ret2
  exact ⟨rfl, unhide HB⟩

/-- ZZdecimalScaled, at digits T and z zeros. -/
theorem zscaled_any (neg : Bool) (T : List UInt8) (ex : Int) (z : Nat) (w : World) (hb : T.length + z ≤ 1000) (hd : ∀ c ∈ T, isDig c) :
    Calls Tryd.prog 12 #[.bool neg, .string (str T), .int .i64 ex, .int .i64 (z : Int)] w fun e w' => e = .returned (.tuple #[.int .i64 (if 5 < T.length + z then 0 else (sc T z : Int)), .bool (if 5 < T.length + z then false else decide (sc T z ≤ 10000))]) ∧ Below w.heap.size w w' := by
  by_cases h : 5 < T.length + z
  · rw [if_pos h, if_pos h]
    exact zscaled_on neg _ ex _ w 0 false (scaled_long neg T ex z w h hb)
  · rw [if_neg h, if_neg h]
    exact zscaled_on neg _ ex _ w _ _ (scaled_short neg T ex z w (by omega) hd)
end Go.Proofs.Qxb6601621aDoor
