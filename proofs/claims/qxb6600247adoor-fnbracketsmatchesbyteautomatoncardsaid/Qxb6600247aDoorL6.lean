/-
  THE LAW FnBracketsMatchesByteAutomaton of seat b6600247aD: the walk.
-/
import Derived.Test.Qxb6600247aDoorL5
import Derived.Test.Qxb6600247aDoorBr
namespace Go.Proofs.Qxb6600247aDoor
open Go.RowKit Go.Deep
open Plain

set_option maxHeartbeats 4000000 in
theorem law6_long (q e : Bool) (d : Int) (p : Option Addr) (n c : Nat) (w : World) (h : 1048576 < n) (hn : n ≤ 9223372036854775807) :
    Calls Tryd.prog 6 #[.bool q, .bool e, .int .i64 d, .slice p n c] w fun x w' => x = .returned (.bool true) ∧ w' = w := by
  have h' : (1048576 : Int) < (n : Int) := by omega
  go_enter Tryd.func6, Tryd.ntmps6
  go_wp2
  go_ret
  exact ⟨rfl, rfl⟩
set_option maxHeartbeats 4000000 in
theorem law6_deep (q e : Bool) (d : Int) (p : Option Addr) (n c : Nat) (w : World) (hn : n ≤ 1048576) (hd : d < 1 ∨ 1073741824 < d) :
    Calls Tryd.prog 6 #[.bool q, .bool e, .int .i64 d, .slice p n c] w fun x w' => x = .returned (.bool true) ∧ w' = w := by
  have h' : ¬ ((1048576 : Int) < (n : Int)) := by omega
  rcases hd with hd | hd
  · have h1 : decide (d < 1) = true := decide_eq_true hd
    go_enter Tryd.func6, Tryd.ntmps6
    go_wp2
    go_ret
    exact ⟨rfl, rfl⟩
  · have h1 : decide (d < 1) = false := decide_eq_false (by omega)
    have h2 : decide ((1073741824 : Int) < d) = true := decide_eq_true hd
    go_enter Tryd.func6, Tryd.ntmps6
    go_wp2
    go_ret
    exact ⟨rfl, rfl⟩

set_option maxRecDepth 100000 in
set_option maxHeartbeats 4000000 in
theorem law6_main (q e : Bool) (d : Int) (p : Option Addr) (c : Nat) (l : List UInt8) (w : World) (m : Int) (hg : Gl w m) (hb : Bts w p l) (hd1 : 1 ≤ d) (hd2 : d ≤ 1073741824) (hl : l.length ≤ 1048576) :
    Calls Tryd.prog 6 #[.bool q, .bool e, .int .i64 d, .slice p l.length c] w fun x w' => x = .returned (.bool true) ∧ Below w.heap.size w w' := by
  have CC := hide (clone_any p c l w hb hl)
  have HG := hide hg
  have h' : ¬ ((1048576 : Int) < (l.length : Int)) := by omega
  clear hb hg
  have fin : ∀ (p1 : Option Addr) (c1 : Nat) (w1 : World), Below w.heap.size w w1 → Bts w1 p1 l → l.length ≤ c1 → c1 ≤ 1048576 →
      ∃ (n : Int) (cl qa ea : Bool) (da : Int), (Calls Tryd.prog 11 #[.bool q, .bool e, .int .i64 d, .slice p1 l.length c1] w1 fun x w' => x = .returned (.tuple #[.int .i64 n, .bool cl, .bool qa, .bool ea, .int .i64 da]) ∧ Below w1.heap.size w1 w') ∧
        ∀ w2, Below w1.heap.size w1 w2 → Calls Tryd.prog 19 #[.bool q, .bool e, .int .i64 d, .slice p1 l.length c1] w2 fun x w' => x = .returned (.tuple #[.int .i64 n, .bool cl, .bool qa, .bool ea, .int .i64 da]) ∧ w' = w2 := fun p1 c1 w1 hb1 hb2 h1 h2 =>
    ⟨_, _, _, _, _, zzBrackets_any q e d p1 c1 l w1 m ((unhide HG).below hb1).T ((unhide HG).below hb1).m hb2 hl h1 h2 hd1 (by omega), fun w2 hb3 => brModel_any q e d p1 c1 l w2 hl hd1 hd2 (hb2.below hb3)⟩
  have HF := hide fin
  have t1 : decide (d < 1) = false := decide_eq_false (by omega)
  have t2 : decide ((1073741824 : Int) < d) = false := decide_eq_false (by omega)
  clear fin
  go_enter Tryd.func6, Tryd.ntmps6
  go_wp2_with (first | (go_at_call 18; go_in) | (go_at_call 9; refine (unhide CC).mono ?_; rintro x w1 ⟨p1, c1, rfl, hb1, hlc1, hc1b, hbe1⟩))
  obtain ⟨n, cl, qa, ea, da, k1, k2⟩ := (unhide HF) p1 c1 w1 hbe1 hb1 hlc1 hc1b
  have K2 := hide k2
  have HE1 := hide hbe1
  clear k2 hb1 hbe1 HF CC
  refine k1.mono ?_
  rintro x w2 ⟨rfl, hbe2⟩
  have C2 := hide ((unhide K2) w2 hbe2)
  have HE2 : Hid (Below w.heap.size w w2) := (unhide HE1).trans (hbe2.mono (unhide HE1).size)
  clear hbe2 k1 K2
  go_wp2_with fail
  refine (unhide C2).mono ?_
  rintro x w3 ⟨rfl, rfl⟩
  clear C2
  go_wp2
  go_ret
  exact ⟨rfl, unhide HE2⟩
end Go.Proofs.Qxb6600247aDoor
