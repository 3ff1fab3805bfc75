/-
  THE LAW FnEscapeHTMLMatchesByteModel of seat b6601484aD: the walk.
-/
import Derived.Test.Qxb6601484aDoorEsc2
namespace Go.Proofs.Qxb6601484aDoor
open Go.RowKit Go.Deep
open Plain

set_option maxRecDepth 100000 in
set_option maxHeartbeats 1000000 in
/-- nothing stands behind 'from'. -/
theorem esc_end (N : Nat) (l : List UInt8) (w : World) (m : Int) (hg : Gl w m) (_hl : l.length ≤ 1048576) :
    Calls Tryd.prog 11 #[.slice (some ⟨N, 0, none⟩) l.length l.length, .int .i64 (l.length : Int)] w fun e w' => e = .returned (.slice (some ⟨N, 0, none⟩) l.length l.length) ∧ Below w.heap.size w w' := by
  have C1 := hide (fun p => ia_html p 0 [] w m hg (fun h => by simp at h) (by simp) (by simp) (by omega) 0 rfl (-1) rfl)
  clear hg
  go_enter Tryd.func11, Tryd.ntmps11
  go_wp2_with fail
  refine ((unhide C1) _).mono ?_
  rintro e w1 ⟨rfl, hb1⟩
  go_wp2
  go_ret
  exact ⟨rfl, hb1⟩
set_option maxRecDepth 100000 in
set_option maxHeartbeats 1000000 in
theorem esc_nil (w : World) (m : Int) (hg : Gl w m) :
    Calls Tryd.prog 11 #[.slice none 0 0, .int .i64 0] w fun e w' => e = .returned (.slice none 0 0) ∧ Below w.heap.size w w' := by
  have C1 := hide (fun p => ia_html p 0 [] w m hg (fun h => by simp at h) (by simp) (by simp) (by omega) 0 rfl (-1) rfl)
  clear hg
  go_enter Tryd.func11, Tryd.ntmps11
  go_wp2_with fail
  refine ((unhide C1) _).mono ?_
  rintro e w1 ⟨rfl, hb1⟩
  go_wp2
  go_ret
  exact ⟨rfl, hb1⟩

set_option maxHeartbeats 1000000 in
/-- the shim hands the call on. -/
theorem zz_on (b fr : Value) (w : World) (Q : Ending → World → Prop) (h : Calls Tryd.prog 11 #[b, fr] w fun e w' => ∃ p n c, e = .returned (.slice p n c) ∧ Q e w') : Calls Tryd.prog 8 #[b, fr] w fun e w' => Q e w' := by
  have H := hide h
  clear h
  go_enter Tryd.func8, Tryd.ntmps8
  go_wp2_with fail
  refine (unhide H).mono ?_
  rintro e w1 ⟨p, n, c, rfl, hq⟩
  go_wp2
  exact hq

/-- ZZEscapeHTML at a slice of the call's own row N. -/
theorem zz_some (N : Nat) (l : List UInt8) (f : Nat) (w : World) (m : Int) (hg : Gl w m) (hrow : Row w N l) (hN : 2 < N) (hf : f ≤ l.length) (hl : l.length ≤ 1048576) :
    Calls Tryd.prog 8 #[.slice (some ⟨N, 0, none⟩) l.length l.length, .int .i64 (f : Int)] w fun e w' => ∃ p c, e = .returned (.slice p (l.take f ++ esc (l.drop f)).length c) ∧ Bts w' p (l.take f ++ esc (l.drop f)) ∧ w.grownBy w' (some N) := by
  refine zz_on _ _ w _ ?_
  by_cases h : f < l.length
  · refine (esc_some N l f w m hg hrow hN h hl).mono ?_
    rintro e w' ⟨p, c, rfl, hb, hgr⟩
    exact ⟨_, _, _, rfl, p, c, rfl, hb, hgr⟩
  · have e : f = l.length := by omega
    subst e
    refine (esc_end N l w m hg hl).mono ?_
    rintro e w' ⟨rfl, hb⟩
    have hr : l.take l.length ++ esc (l.drop l.length) = l := by simp [esc]
    rw [hr]
    have hNw : N < w.heap.size := (Array.getElem?_eq_some_iff.1 hrow).1
    refine ⟨_, _, _, rfl, _, _, rfl, fun _ => ⟨N, 0, rfl, fun i hi => ?_⟩, ⟨hb.os, hb.tape, hb.output, hb.size, fun k hk _ => hb.block k hk⟩⟩
    rw [hb.cell (p := ⟨N, 0 + i, none⟩) hNw, Nat.zero_add, cell_of_row w N i _ 5 (0, 0) hrow]
    simpa using bcells_at l i hi

theorem Bts.below {w w' : World} {p : Option Addr} {l : List UInt8} (h : Bts w p l) (hb : Below w.heap.size w w') : Bts w' p l := fun h0 => by
  obtain ⟨b, o, hp, hc⟩ := h h0
  have hlt : b < w.heap.size := World.block_lt_of_cell? _ _ (hc 0 h0)
  exact ⟨b, o, hp, fun i hi => (hb.cell (p := ⟨b, o + i, none⟩) hlt).trans (hc i hi)⟩

set_option maxHeartbeats 1000000 in
theorem law3_long (p : Option Addr) (n c : Nat) (fr : Int) (w : World) (h : 1048576 < n) (hn : n ≤ 9223372036854775807) :
    Calls Tryd.prog 3 #[.slice p n c, .int .i64 fr] w fun x w' => x = .returned (.bool true) ∧ w' = w := by
  have h' : (1048576 : Int) < (n : Int) := by omega
  go_enter Tryd.func3, Tryd.ntmps3
  go_wp2
  go_ret
  exact ⟨rfl, rfl⟩
set_option maxHeartbeats 1000000 in
theorem law3_out (p : Option Addr) (n c : Nat) (fr : Int) (w : World) (hn : n ≤ 1048576) (hd : fr < 0 ∨ (n : Int) < fr) :
    Calls Tryd.prog 3 #[.slice p n c, .int .i64 fr] w fun x w' => x = .returned (.bool true) ∧ w' = w := by
  have h' : ¬ ((1048576 : Int) < (n : Int)) := by omega
  rcases hd with hd | hd
  · have h1 : decide (fr < 0) = true := decide_eq_true hd
    go_enter Tryd.func3, Tryd.ntmps3
    go_wp2
    go_ret
    exact ⟨rfl, rfl⟩
  · have h1 : decide (fr < 0) = false := decide_eq_false (by omega)
    have h2 : decide ((n : Int) < fr) = true := decide_eq_true hd
    go_enter Tryd.func3, Tryd.ntmps3
    go_wp2
    go_ret
    exact ⟨rfl, rfl⟩

set_option maxRecDepth 100000 in
set_option maxHeartbeats 2000000 in
theorem law3_some (a : Addr) (c : Nat) (l : List UInt8) (f : Nat) (w : World) (m : Int) (hg : Gl w m) (hb : ∀ i, i < l.length → w.cell? (a.add i) = some (.int .u8 ((l.getD i 0).toNat : Int))) (hf : f ≤ l.length) (hl : l.length ≤ 1048576) :
    Calls Tryd.prog 3 #[.slice (some a) l.length c, .int .i64 (f : Int)] w fun x w' => x = .returned (.bool true) ∧ Below w.heap.size w w' := by
  have C1 := hide (clone_some a c l w hb hl)
  have HG := hide hg
  have h' : ¬ ((1048576 : Int) < (l.length : Int)) := by omega
  have h1 : decide ((f : Int) < 0) = false := decide_eq_false (by omega)
  have h2 : decide ((l.length : Int) < (f : Int)) = false := decide_eq_false (by omega)
  have hN : 2 < w.heap.size := World.block_lt_of_cell? _ _ (hg.T.2 0 (by omega)).1
  clear hb hg
  go_enter Tryd.func3, Tryd.ntmps3
  go_wp2_with (first | (go_at_call 5; go_in) | (go_at_call 6; refine (unhide C1).mono ?_; rintro x w1 ⟨rfl, hrow, hb1⟩))
  have HRW := hide hrow
  have HB1 := hide hb1
  clear hrow hb1 C1
  have hbt : Bts w1 (some ⟨w.heap.size, 0, none⟩) l := fun _ => ⟨w.heap.size, 0, rfl, fun i hi => by
    rw [Nat.zero_add, cell_of_row w1 w.heap.size i _ 5 (0, 0) (unhide HRW)]
    simpa using bcells_at l i hi⟩
  have C2 := hide (model_any (some ⟨w.heap.size, 0, none⟩) l.length l f w1 hbt hf hl)
  clear hbt
  refine (unhide C2).mono ?_
  rintro x w2 ⟨vw, rfl, hown, hb2⟩
  have hNw : w.heap.size < w1.heap.size := (Array.getElem?_eq_some_iff.1 (unhide HRW)).1
  have hrow2 : Row w2 w.heap.size l := by unfold Row; rw [hb2.block w.heap.size hNw]; exact unhide HRW
  have HB2 : Hid (Below w.heap.size w w2) := (unhide HB1).trans (hb2.mono (unhide HB1).size)
  have C3 := hide (zz_some w.heap.size l f w2 m ((unhide HG).below (unhide HB2)) hrow2 hN hf hl)
  have hlenR : (l.take f ++ esc (l.drop f)).length ≤ 100000000 := by
    have := (esc_len (l.drop f)).2
    rw [List.length_drop] at this
    rw [List.length_append, List.length_take]
    omega
  generalize l.take f ++ esc (l.drop f) = R at hown C3 hlenR
  obtain ⟨pw, cw, hv, hbw⟩ := owned_bts hown
  subst hv
  have HOW := hide hown
  clear hbw hown hb2 hrow2 C2
  go_wp2_with fail
  refine (unhide C3).mono ?_
  rintro x w3 ⟨pg, cg, rfl, hbg, hgr⟩
  have hown3 : w3.ownsRow w1.heap.size 5 1 (.slice pw R.length cw) R.length (bcells R) := (unhide HOW).kept hgr (by
    cases pw with
    | none => exact .inl rfl
    | some ad =>
      right
      intro e
      have h3 := (unhide HOW).lt ad.block rfl
      have := Option.some.inj e
      omega)
  obtain ⟨pw', cw', hv', hbw3⟩ := owned_bts hown3
  cases hv'
  have HB3 : Hid (Below w.heap.size w w3) := ((unhide HB2)).trans ⟨hgr.os, hgr.tape, hgr.output, hgr.size, fun k hk => hgr.block k (by have := (unhide HB2).size; omega) (fun e => by have := Option.some.inj e; omega)⟩
  have C4 := hide (equal_any pg pw cg cw R w3 hbg hbw3 hlenR)
  clear hown3 hbg hbw3 hgr C3 HOW
  go_wp2_with fail
  refine (unhide C4).mono ?_
  rintro x w4 ⟨rfl, hb4⟩
  have HB4 : Hid (Below w.heap.size w w4) := (unhide HB3).trans (hb4.mono (unhide HB3).size)
  clear hb4
  go_wp2
  go_ret
  exact ⟨rfl, unhide HB4⟩

theorem zz_nil (w : World) (m : Int) (hg : Gl w m) :
    Calls Tryd.prog 8 #[.slice none 0 0, .int .i64 0] w fun e w' => e = .returned (.slice none 0 0) ∧ Below w.heap.size w w' := by
  refine zz_on _ _ w _ ?_
  refine (esc_nil w m hg).mono ?_
  rintro e w' ⟨rfl, hb⟩
  exact ⟨_, _, _, rfl, rfl, hb⟩

set_option maxRecDepth 100000 in
set_option maxHeartbeats 2000000 in
theorem law3_nil (w : World) (m : Int) (hg : Gl w m) (c : Nat) :
    Calls Tryd.prog 3 #[.slice none 0 c, .int .i64 0] w fun x w' => x = .returned (.bool true) ∧ Below w.heap.size w w' := by
  have C1 := hide (clone_nil w 0 c)
  have C2 := hide (model_any none 0 [] 0 w (fun h => by simp at h) (Nat.zero_le _) (by simp))
  have HG := hide hg
  clear hg
  go_enter Tryd.func3, Tryd.ntmps3
  go_wp2_with (first | (go_at_call 5; go_in) | (go_at_call 6; refine (unhide C1).mono ?_; rintro x w1 ⟨rfl, hw⟩; rw [hw]))
  clear C1 hw
  refine (unhide C2).mono ?_
  rintro x w2 ⟨vw, rfl, hown, hb2⟩
  have C3 := hide (zz_nil w2 m ((unhide HG).below hb2))
  obtain ⟨pw, cw, hv, hbw⟩ := owned_bts (l := []) hown
  subst hv
  have HB2 := hide hb2
  clear hown hb2 hbw C2
  go_wp2_with fail
  refine (unhide C3).mono ?_
  rintro x w3 ⟨rfl, hb3⟩
  have HB3 : Hid (Below w.heap.size w w3) := (unhide HB2).trans (hb3.mono (unhide HB2).size)
  have C4 := hide (equal_any none pw 0 cw [] w3 (fun h => by simp at h) (fun h => by simp at h) (by simp))
  clear hb3 C3
  go_wp2_with fail
  refine (unhide C4).mono ?_
  rintro x w4 ⟨rfl, hb4⟩
  have HB4 : Hid (Below w.heap.size w w4) := (unhide HB3).trans (hb4.mono (unhide HB3).size)
  clear hb4
  go_wp2
  go_ret
  exact ⟨rfl, unhide HB4⟩
end Go.Proofs.Qxb6601484aDoor
