/-
  THE LAW FnStringMatchesByteAutomaton of seat b6600247aD: the walk.
-/
import Derived.Test.Qxb6600247aDoorL5
namespace Go.Proofs.Qxb6600247aDoor
open Go.RowKit Go.Deep
open Plain

set_option maxHeartbeats 4000000 in
theorem law4_long (e : Bool) (p : Option Addr) (n c : Nat) (w : World) (h : 1048576 < n) (hn : n ≤ 9223372036854775807) :
    Calls Tryd.prog 4 #[.bool e, .slice p n c] w fun x w' => x = .returned (.bool true) ∧ w' = w := by
  have h' : (1048576 : Int) < (n : Int) := by omega
  go_enter Tryd.func4, Tryd.ntmps4
  go_wp2
  go_ret
  exact ⟨rfl, rfl⟩
set_option maxHeartbeats 4000000 in
theorem law4_empty (p : Option Addr) (c : Nat) (w : World) :
    Calls Tryd.prog 4 #[.bool true, .slice p 0 c] w fun x w' => x = .returned (.bool true) ∧ w' = w := by
  go_enter Tryd.func4, Tryd.ntmps4
  go_wp2
  go_ret
  exact ⟨rfl, rfl⟩

set_option maxRecDepth 100000 in
set_option maxHeartbeats 4000000 in
theorem law4_main (e : Bool) (p : Option Addr) (c : Nat) (l : List UInt8) (w : World) (m : Int) (hg : Gl w m) (hb : Bts w p l) (hne : e = true → 0 < l.length) (hl : l.length ≤ 1048576) :
    Calls Tryd.prog 4 #[.bool e, .slice p l.length c] w fun x w' => x = .returned (.bool true) ∧ Below w.heap.size w w' := by
  have CC := hide (clone_any p c l w hb hl)
  have HG := hide hg
  have HN := hide hne
  have h' : ¬ ((1048576 : Int) < (l.length : Int)) := by omega
  clear hb hg hne
  have fin : ∀ (p1 : Option Addr) (c1 : Nat) (w1 : World), Below w.heap.size w w1 → Bts w1 p1 l → l.length ≤ c1 → c1 ≤ 1048576 →
      ∃ (n : Int) (cl af : Bool), (Calls Tryd.prog 15 #[.bool e, .slice p1 l.length c1] w1 fun x w' => x = .returned (.tuple #[.int .i64 n, .bool cl, .bool af]) ∧ Below w1.heap.size w1 w') ∧
        ∀ w2, Below w1.heap.size w1 w2 → Calls Tryd.prog 16 #[.bool e, .slice p1 l.length c1] w2 fun x w' => x = .returned (.tuple #[.int .i64 n, .bool cl, .bool af]) ∧ w' = w2 := fun p1 c1 w1 hb1 hb2 h1 h2 =>
    ⟨_, _, _, zzString_any e p1 c1 l w1 m ((unhide HG).below hb1).T ((unhide HG).below hb1).m hb2 hl h1 h2 (unhide HN), fun w2 hb3 => strModel_any e p1 c1 l w2 hl (hb2.below hb3)⟩
  have HF := hide fin
  have hz : e = true → ((l.length : Int) == 0) = false := fun he => beq_eq_false_iff_ne.2 (by have := (unhide HN) he; omega)
  clear fin
  cases e
  · clear hz
    go_enter Tryd.func4, Tryd.ntmps4
    go_wp2_with (first | (go_at_call 14; go_in) | (go_at_call 9; refine (unhide CC).mono ?_; rintro x w1 ⟨p1, c1, rfl, hb1, hlc1, hc1b, hbe1⟩))
    obtain ⟨n, cl, af, k1, k2⟩ := (unhide HF) p1 c1 w1 hbe1 hb1 hlc1 hc1b
    have K2 := hide k2
    have HE1 := hide hbe1
    clear k2 hb1 hbe1 HF CC
    refine k1.mono ?_
    rintro x w2 ⟨rfl, hbe2⟩
    have C2 := hide ((unhide K2) w2 hbe2)
    have HE2 : Hid (Below w.heap.size w w2) := (unhide HE1).trans (hbe2.mono (unhide HE1).size)
    clear hbe2 k1 K2
    go_wp2_with fail
    refine (unhide C2).mono ?_
    rintro x w3 ⟨rfl, rfl⟩
    clear C2
    go_wp2
    go_ret
    exact ⟨rfl, unhide HE2⟩
  · have hz' := hz rfl
    clear hz
    go_enter Tryd.func4, Tryd.ntmps4
    go_wp2_with (first | (go_at_call 14; go_in) | (go_at_call 9; refine (unhide CC).mono ?_; rintro x w1 ⟨p1, c1, rfl, hb1, hlc1, hc1b, hbe1⟩))
    obtain ⟨n, cl, af, k1, k2⟩ := (unhide HF) p1 c1 w1 hbe1 hb1 hlc1 hc1b
    have K2 := hide k2
    have HE1 := hide hbe1
    clear k2 hb1 hbe1 HF CC
    refine k1.mono ?_
    rintro x w2 ⟨rfl, hbe2⟩
    have C2 := hide ((unhide K2) w2 hbe2)
    have HE2 : Hid (Below w.heap.size w w2) := (unhide HE1).trans (hbe2.mono (unhide HE1).size)
    clear hbe2 k1 K2
    go_wp2_with fail
    refine (unhide C2).mono ?_
    rintro x w3 ⟨rfl, rfl⟩
    clear C2
    go_wp2
    go_ret
    exact ⟨rfl, unhide HE2⟩
end Go.Proofs.Qxb6600247aDoor
