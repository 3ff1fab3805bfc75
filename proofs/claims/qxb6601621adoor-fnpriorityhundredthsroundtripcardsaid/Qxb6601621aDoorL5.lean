/-
  THE LAW FnPriorityHundredthsRoundTrip of seat b6601621aD: the walk.
-/
import Derived.Test.Qxb6601621aDoorParse
namespace Go.Proofs.Qxb6601621aDoor
open Go.RowKit
open Plain

/-- ZZparseDecimal at the text of k hundredths. -/
theorem zparse_any (neg : Bool) (I F : List UInt8) (w : World) (hI : ∀ c ∈ I, isDig c) (hF : ∀ c ∈ F, isDig c) (hi : ∃ c t, I = c :: t ∧ (c = 48 → t = [])) (hf : F.length = 2) (hl : I.length + F.length ≤ 100) :
    Calls Tryd.prog 7 #[.string (str (text neg I F))] w fun x w' => x = .returned (.tuple #[.bool neg, .string (str (dT (I ++ F))), .int .i64 ((((dD (I ++ F)).length - (dT (I ++ F)).length : Nat) : Int) - 2), .bool true]) ∧ Below w.heap.size w w' := by
  have h := parse_any neg I F w hI hF hi (by omega) hl
  have e : ((dD (I ++ F)).length : Int) - ((dT (I ++ F)).length : Int) - (F.length : Int) = (((dD (I ++ F)).length - (dT (I ++ F)).length : Nat) : Int) - 2 := by
    have := dT_le (I ++ F)
    omega
  rw [e] at h
  exact zparse_on _ _ neg _ w h

theorem itoa_any (v : Nat) (w : World) (hv : v < 100000000000000000) : Calls Tryd.prog 10 #[.int .i64 (v : Int)] w fun e w' => e = .returned (.string (str (itoa v))) ∧ Below w.heap.size w w' := by
  by_cases h : v = 0
  · subst h
    exact (itoa_zero w).mono fun e w' hh => ⟨hh.1, by rw [hh.2]; exact Below.refl _ _⟩
  · exact itoa_some v w hv h

set_option maxHeartbeats 1000000 in
theorem law5_neg (k : Int) (neg : Bool) (w : World) (h : k < 0) :
    Calls Tryd.prog 5 #[.int .i64 k, .bool neg] w fun x w' => x = .returned (.bool true) ∧ w' = w := by
  have h1 : decide (k < 0) = true := decide_eq_true h
  go_enter Tryd.func5, Tryd.ntmps5
  go_wp2
  go_ret
  exact ⟨rfl, rfl⟩

/-- the two answers that the law holds against each other. -/
theorem plain_law (k : Nat) (T : List UInt8) (z n : Nat) (hn : T.length + z = n) (hv : sc T z = k) (hbig : 5 < n → 10000 < k) :
    (if 5 < T.length + z then false else decide (sc T z ≤ 10000)) = decide (k ≤ 10000) ∧ (k ≤ 10000 → (if 5 < T.length + z then (0 : Int) else (sc T z : Int)) = (k : Int)) := by
  rw [hn, hv]
  by_cases h : 5 < n
  · rw [if_pos h, if_pos h]
    have := hbig h
    exact ⟨(decide_eq_false (by omega)).symm, fun h => by omega⟩
  · rw [if_neg h, if_neg h]
    exact ⟨rfl, fun _ => rfl⟩

def full (neg : Bool) (it tw : ByteArray) : ByteArray := if neg then ⟨#[45]⟩ ++ (it ++ ⟨#[46]⟩ ++ tw) else it ++ ⟨#[46]⟩ ++ tw

set_option maxHeartbeats 1000000 in
theorem law5_core (k : Nat) (neg : Bool) (it tw tr : ByteArray) (z : Nat) (pv : Int) (pok : Bool) (w : World) (hk : k ≤ 9223372036854775807)
    (c1 : ∀ w, Calls Tryd.prog 10 #[.int .i64 ((k : Int) / 100)] w fun e w' => e = .returned (.string it) ∧ Below w.heap.size w w')
    (c2 : ∀ w, Calls Tryd.prog 11 #[.int .i64 ((k : Int) % 100)] w fun e w' => e = .returned (.string tw) ∧ Below w.heap.size w w')
    (c3 : ∀ w, Calls Tryd.prog 7 #[.string (full neg it tw)] w fun e w' => e = .returned (.tuple #[.bool neg, .string tr, .int .i64 ((z : Int) - 2), .bool true]) ∧ Below w.heap.size w w')
    (c4 : ∀ w, Calls Tryd.prog 12 #[.bool neg, .string tr, .int .i64 ((z : Int) - 2), .int .i64 (z : Int)] w fun e w' => e = .returned (.tuple #[.int .i64 pv, .bool pok]) ∧ Below w.heap.size w w')
    (hit : it.size ≤ 100) (htw : tw.size ≤ 100) (hz : z ≤ 1000) (hpok : pok = decide (k ≤ 10000)) (hpv : k ≤ 10000 → pv = (k : Int)) :
    Calls Tryd.prog 5 #[.int .i64 (k : Int), .bool neg] w fun x w' => x = .returned (.bool true) ∧ Below w.heap.size w w' := by
  have h1 : decide ((k : Int) < 0) = false := decide_eq_false (by omega)
  have h2 : decide ((z : Int) < 0) = false := decide_eq_false (by omega)
  have C1 := hide c1
  have C2 := hide c2
  have C4 := hide c4
  cases neg
  · have C3 : Hid (∀ w, Calls Tryd.prog 7 #[.string (it ++ ⟨#[46]⟩ ++ tw)] w fun e w' => e = .returned (.tuple #[.bool false, .string tr, .int .i64 ((z : Int) - 2), .bool true]) ∧ Below w.heap.size w w') := c3
    clear c1 c2 c3 c4
    go_enter Tryd.func5, Tryd.ntmps5
    go_wp2_with fail
    refine ((unhide C1) _).mono ?_
    rintro e w1 ⟨rfl, hb⟩
    have B1 := hide hb
    clear hb
    go_wp2_with fail
    refine ((unhide C2) _).mono ?_
    rintro e w2 ⟨rfl, hb⟩
    have B2 : Hid (Below w.heap.size w w2) := (unhide B1).trans (hb.mono (unhide B1).size)
    clear hb B1
    go_wp2_with fail
    refine ((unhide C3) _).mono ?_
    rintro e w3 ⟨rfl, hb⟩
    have B3 : Hid (Below w.heap.size w w3) := (unhide B2).trans (hb.mono (unhide B2).size)
    clear hb B2
    go_wp2_with fail
    refine ((unhide C4) _).mono ?_
    rintro e w4 ⟨rfl, hb⟩
    have B4 : Hid (Below w.heap.size w w4) := (unhide B3).trans (hb.mono (unhide B3).size)
    clear hb B3
    by_cases hle : k ≤ 10000
    · have e1 := hpv hle
      subst e1
      have e2 : pok = true := hpok.trans (decide_eq_true hle)
      subst e2
      have h3 : decide ((k : Int) ≤ 10000) = true := decide_eq_true (by omega)
      clear hpok hpv
      go_wp2
      go_ret
      exact ⟨rfl, unhide B4⟩
    · have e2 : pok = false := hpok.trans (decide_eq_false hle)
      subst e2
      have h3 : decide ((k : Int) ≤ 10000) = false := decide_eq_false (by omega)
      clear hpok hpv
      go_wp2
      go_ret
      exact ⟨rfl, unhide B4⟩
  · have C3 : Hid (∀ w, Calls Tryd.prog 7 #[.string (⟨#[45]⟩ ++ (it ++ ⟨#[46]⟩ ++ tw))] w fun e w' => e = .returned (.tuple #[.bool true, .string tr, .int .i64 ((z : Int) - 2), .bool true]) ∧ Below w.heap.size w w') := c3
    clear c1 c2 c3 c4
    go_enter Tryd.func5, Tryd.ntmps5
    go_wp2_with fail
    refine ((unhide C1) _).mono ?_
    rintro e w1 ⟨rfl, hb⟩
    have B1 := hide hb
    clear hb
    go_wp2_with fail
    refine ((unhide C2) _).mono ?_
    rintro e w2 ⟨rfl, hb⟩
    have B2 : Hid (Below w.heap.size w w2) := (unhide B1).trans (hb.mono (unhide B1).size)
    clear hb B1
    go_wp2_with fail
    refine ((unhide C3) _).mono ?_
    rintro e w3 ⟨rfl, hb⟩
    have B3 : Hid (Below w.heap.size w w3) := (unhide B2).trans (hb.mono (unhide B2).size)
    clear hb B2
    go_wp2_with fail
    refine ((unhide C4) _).mono ?_
    rintro e w4 ⟨rfl, hb⟩
    have B4 : Hid (Below w.heap.size w w4) := (unhide B3).trans (hb.mono (unhide B3).size)
    clear hb B3
    by_cases hle : k ≤ 10000
    · have e1 := hpv hle
      subst e1
      have e2 : pok = true := hpok.trans (decide_eq_true hle)
      subst e2
      have h3 : decide ((k : Int) ≤ 10000) = true := decide_eq_true (by omega)
      clear hpok hpv
      go_wp2
      go_ret
      exact ⟨rfl, unhide B4⟩
    · have e2 : pok = false := hpok.trans (decide_eq_false hle)
      subst e2
      have h3 : decide ((k : Int) ≤ 10000) = false := decide_eq_false (by omega)
      clear hpok hpv
      go_wp2
      go_ret
      exact ⟨rfl, unhide B4⟩

theorem full_text (neg : Bool) (I F : List UInt8) : full neg (str I) (str F) = str (text neg I F) := by
  have e46 : (⟨#[46]⟩ : ByteArray) = str [46] := rfl
  have e45 : (⟨#[45]⟩ : ByteArray) = str [45] := rfl
  unfold full text sgn
  rw [e46, e45, str_add, str_add, str_add, List.append_assoc]
  cases neg <;> rfl

theorem law5_pos (k : Nat) (neg : Bool) (w : World) (hk : k ≤ 9223372036854775807) :
    Calls Tryd.prog 5 #[.int .i64 (k : Int), .bool neg] w fun x w' => x = .returned (.bool true) ∧ Below w.heap.size w w' := by
  have hI := itoa_digs (k / 100)
  have hF := two_digs (k % 100) (by omega)
  have hil : (itoa (k / 100)).length ≤ 18 := itoa_len _ (by omega)
  have hfl : (two (k % 100)).length = 2 := rfl
  have hv := val_num k
  have hd : ∀ c ∈ itoa (k / 100) ++ two (k % 100), isDig c := fun c hc => (List.mem_append.1 hc).elim (hI c) (hF c)
  have hle := dT_le (itoa (k / 100) ++ two (k % 100))
  have hle2 := dD_le (itoa (k / 100) ++ two (k % 100))
  rw [List.length_append] at hle2
  have hp := plain_law k (dT (itoa (k / 100) ++ two (k % 100))) ((dD (itoa (k / 100) ++ two (k % 100))).length - (dT (itoa (k / 100) ++ two (k % 100))).length) (dD (itoa (k / 100) ++ two (k % 100))).length (by omega) ((val_dT _).trans hv) (fun h => by rw [← hv]; exact long_big _ hd h)
  exact law5_core k neg (str (itoa (k / 100))) (str (two (k % 100))) (str (dT (itoa (k / 100) ++ two (k % 100)))) _ _ _ w hk
    (fun w => by have := itoa_any (k / 100) w (by omega); simpa using this)
    (fun w => by have := two_any (k % 100) w (by omega); simpa using this)
    (fun w => by rw [full_text]; exact zparse_any neg _ _ w hI hF (itoa_head _) hfl (by omega))
    (fun w => zscaled_any neg _ _ _ w (by omega) (dT_digs _ hd))
    (by rw [str_size]; omega) (by rw [str_size]; omega) (by omega) hp.1 hp.2
end Go.Proofs.Qxb6601621aDoor
