/-
  THE LAW FnStringPieceByPiece of seat b6600247aD: the walk.
-/
import Derived.Test.Qxb6600247aDoorString
namespace Go.Proofs.Qxb6600247aDoor
open Go.RowKit Go.Deep
open Plain

/-- what the library's text reads: two tables that are laid, and one open variable. -/
structure Gl (w : World) (m : Int) : Prop where
  T : Lib.Utf8Tabs 1 2 w
  m : w.cell? ⟨0, 0, none⟩ = some (.int .i64 m)
theorem Gl.below {w w' : World} {m : Int} (h : Gl w m) (hb : Below w.heap.size w w') : Gl w' m :=
  ⟨tabs_below h.T hb, (hb.cell (p := ⟨0, 0, none⟩) (World.block_lt_of_cell? _ _ h.m)).trans h.m⟩
theorem Bts.below {w w' : World} {p : Option Addr} {l : List UInt8} (h : Bts w p l) (hb : Below w.heap.size w w') : Bts w' p l := fun h0 => by
  obtain ⟨b, o, hp, hc⟩ := h h0
  have hlt : b < w.heap.size := World.block_lt_of_cell? _ _ (hc 0 h0)
  exact ⟨b, o, hp, fun i hi => (hb.cell (p := ⟨b, o + i, none⟩) hlt).trans (hc i hi)⟩
theorem Bts.take {w : World} {p : Option Addr} {l : List UInt8} (h : Bts w p l) (k : Nat) : Bts w p (l.take k) := fun h0 => by
  rw [List.length_take] at h0
  obtain ⟨b, o, hp, hc⟩ := h (by omega)
  refine ⟨b, o, hp, fun i hi => ?_⟩
  rw [List.length_take] at hi
  rw [hc i (by omega)]
  simp [List.getD, show i < k by omega]
theorem Bts.drop {w : World} {b o : Nat} {l : List UInt8} (h : Bts w (some ⟨b, o, none⟩) l) (k : Nat) : Bts w (some ⟨b, o + k, none⟩) (l.drop k) := fun h0 => by
  rw [List.length_drop] at h0
  obtain ⟨b', o', hp, hc⟩ := h (by omega)
  cases hp
  refine ⟨b, o + k, rfl, fun i hi => ?_⟩
  rw [List.length_drop] at hi
  rw [Nat.add_assoc, hc (k + i) (by omega)]
  simp [List.getD]

set_option maxHeartbeats 4000000 in
theorem law5_long (e : Bool) (p : Option Addr) (n c : Nat) (cut : Int) (w : World) (h : 1048576 < n) (hn : n ≤ 9223372036854775807) :
    Calls Tryd.prog 5 #[.bool e, .slice p n c, .int .u32 cut] w fun x w' => x = .returned (.bool true) ∧ w' = w := by
  have h' : (1048576 : Int) < (n : Int) := by omega
  go_enter Tryd.func5, Tryd.ntmps5
  go_wp2
  go_ret
  exact ⟨rfl, rfl⟩
set_option maxHeartbeats 4000000 in
theorem law5_short (e : Bool) (p : Option Addr) (n c : Nat) (cut : Int) (w : World) (h : n < 2) :
    Calls Tryd.prog 5 #[.bool e, .slice p n c, .int .u32 cut] w fun x w' => x = .returned (.bool true) ∧ w' = w := by
  have h' : (n : Int) < 2 := by omega
  go_enter Tryd.func5, Tryd.ntmps5
  go_wp2
  go_ret
  exact ⟨rfl, rfl⟩

theorem cut_at (cut : Int) (n : Nat) (h2 : 2 ≤ n) (hl : n ≤ 1048576) : ∃ k : Nat, 1 ≤ k ∧ k < n ∧ wrap64 (1 + wrap64 (cut % ((n : Int) - 1))) = (k : Int) := by
  have h1 := Int.emod_nonneg cut (b := (n : Int) - 1) (by omega)
  have h3 := Int.emod_lt_of_pos cut (b := (n : Int) - 1) (by omega)
  refine ⟨(1 + cut % ((n : Int) - 1)).toNat, by omega, by omega, ?_⟩
  generalize cut % ((n : Int) - 1) = z at h1 h3
  have e1 : wrap64 z = z := by unfold wrap64; omega
  rw [e1]
  unfold wrap64
  omega

set_option maxRecDepth 100000 in
set_option maxHeartbeats 4000000 in
theorem law5_main (e : Bool) (p : Option Addr) (c : Nat) (l : List UInt8) (cut : Int) (w : World) (m : Int) (hg : Gl w m) (hb : Bts w p l) (h2 : 2 ≤ l.length) (hl : l.length ≤ 1048576) (hc0 : 0 ≤ cut) (hc1 : cut < 4294967296) :
    Calls Tryd.prog 5 #[.bool e, .slice p l.length c, .int .u32 cut] w fun x w' => x = .returned (.bool true) ∧ Below w.heap.size w w' := by
  have CC := hide (clone_any p c l w hb hl)
  have HG := hide hg
  clear hb hg
  obtain ⟨k, hk1, hk2, hke⟩ := cut_at cut l.length h2 hl
  have h' : ¬ ((1048576 : Int) < (l.length : Int)) := by omega
  have h'' : ¬ ((l.length : Int) < 2) := by omega
  go_enter Tryd.func5, Tryd.ntmps5
  go_wp2_with (first | (go_at_call 17; go_in) | (go_at_call 9; refine (unhide CC).mono ?_; rintro x w1 ⟨p1, c1, rfl, hb1, hlc1, hc1b, hbe1⟩))
  rw [hke]
  clear hke CC
  obtain ⟨b, o, rfl, hcc⟩ := hb1 (by omega)
  clear hcc
  have HG1 := hide ((unhide HG).below hbe1)
  have HB1 := hide hb1
  have HE1 := hide hbe1
  clear hb1 hbe1
  have C1 := hide (zzString_any e (some ⟨b, o, none⟩) c1 l w1 m (unhide HG1).T (unhide HG1).m (unhide HB1) hl hlc1 hc1b (fun _ => by omega))
  have lenT : (l.take k).length = k := by rw [List.length_take]; omega
  have lenD : (l.drop k).length = l.length - k := List.length_drop
  -- the first piece, in whatever world comes
  have C2 : Hid (∀ w2, Gl w2 m → Bts w2 (some ⟨b, o, none⟩) l → Calls Tryd.prog 15 #[.bool e, .slice (some ⟨b, o, none⟩) k c1] w2 fun x w' => x = .returned (.tuple #[.int .i64 ((strM e (l.take k)).1 : Int), .bool (strM e (l.take k)).2.1, .bool (strM e (l.take k)).2.2]) ∧ Below w2.heap.size w2 w') := fun w2 g b2 => by
    have := zzString_any e (some ⟨b, o, none⟩) c1 (l.take k) w2 m g.T g.m (b2.take k) (by omega) (by omega) hc1b (fun _ => by omega)
    rwa [lenT] at this
  have C3 : Hid (∀ w2 e2, Gl w2 m → Bts w2 (some ⟨b, o, none⟩) l → Calls Tryd.prog 15 #[.bool e2, .slice (some ⟨b, o + k, none⟩) (l.length - k) (c1 - k)] w2 fun x w' => x = .returned (.tuple #[.int .i64 ((strM e2 (l.drop k)).1 : Int), .bool (strM e2 (l.drop k)).2.1, .bool (strM e2 (l.drop k)).2.2]) ∧ Below w2.heap.size w2 w') := fun w2 e2 g b2 => by
    have := zzString_any e2 (some ⟨b, o + k, none⟩) (c1 - k) (l.drop k) w2 m g.T g.m (b2.drop k) (by omega) (by omega) (by omega) (fun _ => by omega)
    rwa [lenD] at this
  have hta : l = l.take k ++ l.drop k := (List.take_append_drop k l).symm
  have hcl := strM_app_closed e (l.take k) (l.drop k)
  have hop := strM_app_open e (l.take k) (l.drop k)
  have hon := strM_open e (l.take k)
  rw [← hta] at hcl hop
  rw [lenT] at hop hon
  have HCL := hide hcl
  have HOP := hide hop
  have HON := hide hon
  clear hta hcl hop hon lenT lenD
  generalize strM e (l.take k) = R1 at C2 HCL HOP HON
  obtain ⟨n1, cl1, a1⟩ := R1
  cases cl1
  · have e1 : n1 = k := (unhide HON) rfl
    subst e1
    have e2 := (unhide HOP) rfl
    rw [e2] at C1
    clear e2
    have C3' := hide ((fun w2 => (unhide C3) w2 a1))
    have hle := strM_le a1 (l.drop n1)
    rw [List.length_drop] at hle
    generalize strM a1 (l.drop n1) = R2 at C1 C3' hle
    obtain ⟨n2, cl2, a2⟩ := R2
    clear HCL HOP HON C3
    dsimp only [up] at C1 C2 C3' hle
    simp only [Int.natCast_add] at C1
    refine (unhide C1).mono ?_
    rintro x w2 ⟨rfl, hbe2⟩
    have HG2 := hide ((unhide HG1).below hbe2)
    have HB2 := hide ((unhide HB1).below hbe2)
    have HE2 : Hid (Below w.heap.size w w2) := (unhide HE1).trans (hbe2.mono (unhide HE1).size)
    clear hbe2
    go_wp2_with fail
    refine ((unhide C2) w2 (unhide HG2) (unhide HB2)).mono ?_
    rintro x w3 ⟨rfl, hbe3⟩
    have HG3 := hide ((unhide HG2).below hbe3)
    have HB3 := hide ((unhide HB2).below hbe3)
    have HE3 : Hid (Below w.heap.size w w3) := (unhide HE2).trans (hbe3.mono (unhide HE2).size)
    clear hbe3
    go_wp2_with fail
    refine ((unhide C3') w3 (unhide HG3) (unhide HB3)).mono ?_
    rintro x w4 ⟨rfl, hbe4⟩
    have HE4 : Hid (Below w.heap.size w w4) := (unhide HE3).trans (hbe4.mono (unhide HE3).size)
    clear hbe4
    go_wp2
    go_ret
    exact ⟨rfl, unhide HE4⟩
  · have e2 := (unhide HCL) rfl
    rw [e2] at C1
    clear e2 HCL HOP HON C3
    dsimp only at C1 C2
    refine (unhide C1).mono ?_
    rintro x w2 ⟨rfl, hbe2⟩
    have HG2 := hide ((unhide HG1).below hbe2)
    have HB2 := hide ((unhide HB1).below hbe2)
    have HE2 : Hid (Below w.heap.size w w2) := (unhide HE1).trans (hbe2.mono (unhide HE1).size)
    clear hbe2
    go_wp2_with fail
    refine ((unhide C2) w2 (unhide HG2) (unhide HB2)).mono ?_
    rintro x w3 ⟨rfl, hbe3⟩
    have HE3 : Hid (Below w.heap.size w w3) := (unhide HE2).trans (hbe3.mono (unhide HE2).size)
    clear hbe3
    go_wp2
    go_ret
    exact ⟨rfl, unhide HE3⟩
end Go.Proofs.Qxb6600247aDoor
