/-
  THE LAW FnBracketsPieceByPiece of seat b6600247aD: the walk.
-/
import Derived.Test.Qxb6600247aDoorL5
import Derived.Test.Qxb6600247aDoorBr
namespace Go.Proofs.Qxb6600247aDoor
open Go.RowKit Go.Deep
open Plain

set_option maxHeartbeats 4000000 in
theorem law7_long (q e : Bool) (d : Int) (p : Option Addr) (n c : Nat) (cut : Int) (w : World) (h : 1048576 < n) (hn : n ≤ 9223372036854775807) :
    Calls Tryd.prog 7 #[.bool q, .bool e, .int .i64 d, .slice p n c, .int .u32 cut] w fun x w' => x = .returned (.bool true) ∧ w' = w := by
  have h' : (1048576 : Int) < (n : Int) := by omega
  go_enter Tryd.func7, Tryd.ntmps7
  go_wp2
  go_ret
  exact ⟨rfl, rfl⟩
set_option maxHeartbeats 4000000 in
theorem law7_deep (q e : Bool) (d : Int) (p : Option Addr) (n c : Nat) (cut : Int) (w : World) (hn : n ≤ 1048576) (hd : d < 1 ∨ 1073741824 < d) :
    Calls Tryd.prog 7 #[.bool q, .bool e, .int .i64 d, .slice p n c, .int .u32 cut] w fun x w' => x = .returned (.bool true) ∧ w' = w := by
  have h' : ¬ ((1048576 : Int) < (n : Int)) := by omega
  rcases hd with hd | hd
  · have h1 : decide (d < 1) = true := decide_eq_true hd
    go_enter Tryd.func7, Tryd.ntmps7
    go_wp2
    go_ret
    exact ⟨rfl, rfl⟩
  · have h1 : decide (d < 1) = false := decide_eq_false (by omega)
    have h2 : decide ((1073741824 : Int) < d) = true := decide_eq_true hd
    go_enter Tryd.func7, Tryd.ntmps7
    go_wp2
    go_ret
    exact ⟨rfl, rfl⟩

theorem cut_at7 (cut : Int) (n : Nat) (hl : n ≤ 1048576) : ∃ k : Nat, k ≤ n ∧ wrap64 (cut % ((n : Int) + 1)) = (k : Int) := by
  have h1 := Int.emod_nonneg cut (b := (n : Int) + 1) (by omega)
  have h3 := Int.emod_lt_of_pos cut (b := (n : Int) + 1) (by omega)
  refine ⟨(cut % ((n : Int) + 1)).toNat, by omega, ?_⟩
  generalize cut % ((n : Int) + 1) = z at h1 h3
  unfold wrap64
  omega

theorem Bts.past {w : World} {l : List UInt8} {k : Nat} (p : Option Addr) (h : l.length ≤ k) : Bts w p (l.drop k) := fun h0 => by
  rw [List.length_drop] at h0
  omega
theorem Bts.from {w : World} {p : Option Addr} {l : List UInt8} (h : Bts w p l) (k : Nat) : Bts w (Option.map (fun x => x.add k) p) (l.drop k) := fun h0 => by
  have h1 := h0
  rw [List.length_drop] at h1
  obtain ⟨b, o, rfl, hc⟩ := h (by omega)
  have e : Option.map (fun x : Addr => x.add k) (some ⟨b, o, none⟩) = some ⟨b, o + k, none⟩ := by simp [Addr.add]
  rw [e]
  exact Bts.drop h k h0

set_option maxRecDepth 100000 in
set_option maxHeartbeats 4000000 in
theorem law7_main (q e : Bool) (d : Int) (p : Option Addr) (c : Nat) (l : List UInt8) (cut : Int) (w : World) (m : Int) (hg : Gl w m) (hb : Bts w p l) (hd1 : 1 ≤ d) (hd2 : d ≤ 1073741824) (hl : l.length ≤ 1048576) (hc0 : 0 ≤ cut) (hc1 : cut < 4294967296) :
    Calls Tryd.prog 7 #[.bool q, .bool e, .int .i64 d, .slice p l.length c, .int .u32 cut] w fun x w' => x = .returned (.bool true) ∧ Below w.heap.size w w' := by
  have CC := hide (clone_any p c l w hb hl)
  have HG := hide hg
  have h' : ¬ ((1048576 : Int) < (l.length : Int)) := by omega
  clear hb hg
  obtain ⟨k, hk2, hke⟩ := cut_at7 cut l.length hl
  have t1 : decide (d < 1) = false := decide_eq_false (by omega)
  have t2 : decide ((1073741824 : Int) < d) = false := decide_eq_false (by omega)
  go_enter Tryd.func7, Tryd.ntmps7
  go_wp2_with (first | (go_at_call 20; go_in) | (go_at_call 9; refine (unhide CC).mono ?_; rintro x w1 ⟨p1, c1, rfl, hb1, hlc1, hc1b, hbe1⟩))
  rw [hke]
  clear hke CC
  have HG1 := hide ((unhide HG).below hbe1)
  have HB1 := hide hb1
  have HE1 := hide hbe1
  clear hb1 hbe1
  have lenT : (l.take k).length = k := by rw [List.length_take]; omega
  have lenD : (l.drop k).length = l.length - k := List.length_drop
  have C1 := hide (zzBrackets_any q e d p1 c1 l w1 m (unhide HG1).T (unhide HG1).m (unhide HB1) hl hlc1 hc1b hd1 (by omega))
  -- the first piece and the second, in whatever world comes, wherever they lie
  have C2 : Hid (∀ w2 p2 c2, Gl w2 m → Bts w2 p2 (l.take k) → k ≤ c2 → c2 ≤ 1048576 → Calls Tryd.prog 11 #[.bool q, .bool e, .int .i64 d, .slice p2 k c2] w2 fun x w' => x = .returned (brV (brM ⟨q, e, d⟩ (l.take k))) ∧ Below w2.heap.size w2 w') := fun w2 p2 c2 g b2 x1 x2 => by
    have := zzBrackets_any q e d p2 c2 (l.take k) w2 m g.T g.m b2 (by omega) (by omega) x2 hd1 (by omega)
    rwa [lenT] at this
  have C3 : Hid (∀ w2 p2 c2 q2 e2 d2, Gl w2 m → Bts w2 p2 (l.drop k) → l.length - k ≤ c2 → c2 ≤ 1048576 → 1 ≤ d2 → d2 ≤ 1074790400 → Calls Tryd.prog 11 #[.bool q2, .bool e2, .int .i64 d2, .slice p2 (l.length - k) c2] w2 fun x w' => x = .returned (brV (brM ⟨q2, e2, d2⟩ (l.drop k))) ∧ Below w2.heap.size w2 w') := fun w2 p2 c2 q2 e2 d2 g b2 x1 x2 x3 x4 => by
    have := zzBrackets_any q2 e2 d2 p2 c2 (l.drop k) w2 m g.T g.m b2 (by omega) (by omega) x2 x3 x4
    rwa [lenD] at this
  have hta : l = l.take k ++ l.drop k := (List.take_append_drop k l).symm
  have hcl := brM_app_closed ⟨q, e, d⟩ (l.take k) (l.drop k)
  have hop := brM_app_open ⟨q, e, d⟩ (l.take k) (l.drop k)
  have hon := brM_open ⟨q, e, d⟩ (l.take k)
  have hdp := brM_depth ⟨q, e, d⟩ (l.take k) hd1
  rw [← hta] at hcl hop
  rw [lenT] at hop hon hdp
  have HCL := hide hcl
  have HOP := hide hop
  have HON := hide hon
  have HDP := hide hdp
  clear hta hcl hop hon hdp lenT lenD
  generalize brM ⟨q, e, d⟩ (l.take k) = R1 at C2 HCL HOP HON HDP
  obtain ⟨n1, cl1, q1, e1, d1⟩ := R1
  cases cl1
  · have en : n1 = k := (unhide HON) rfl
    subst en
    have e2 := (unhide HOP) rfl
    obtain ⟨hd1a, hd1b⟩ := (unhide HDP) rfl
    dsimp only at hd1a hd1b
    rw [e2] at C1
    clear e2
    have C3' := hide (fun w2 p2 c2 => (unhide C3) w2 p2 c2 q1 e1 d1)
    have hle := brM_le ⟨q1, e1, d1⟩ (l.drop n1)
    rw [List.length_drop] at hle
    generalize brM ⟨q1, e1, d1⟩ (l.drop n1) = R2 at C1 C3' hle
    obtain ⟨n2, cl2, q2, ea2, d2⟩ := R2
    clear HCL HOP HON HDP C3
    dsimp only [bup, brV] at C1 C2 C3' hle
    simp only [Int.natCast_add] at C1
    refine (unhide C1).mono ?_
    rintro x w2 ⟨rfl, hbe2⟩
    have HG2 := hide ((unhide HG1).below hbe2)
    have HB2 := hide ((unhide HB1).below hbe2)
    have HE2 : Hid (Below w.heap.size w w2) := (unhide HE1).trans (hbe2.mono (unhide HE1).size)
    clear hbe2
    go_wp2_with fail
    refine ((unhide C2) w2 p1 c1 (unhide HG2) ((unhide HB2).take n1) (by omega) hc1b).mono ?_
    rintro x w3 ⟨rfl, hbe3⟩
    have HG3 := hide ((unhide HG2).below hbe3)
    have HB3 := hide ((unhide HB2).below hbe3)
    have HE3 : Hid (Below w.heap.size w w3) := (unhide HE2).trans (hbe3.mono (unhide HE2).size)
    clear hbe3
    go_wp2_with fail
    · refine ((unhide C3') w3 p1 0 (unhide HG3) (Bts.past p1 (by omega)) (by omega) (by omega) hd1a (by omega)).mono ?_
      rintro x w4 ⟨rfl, hbe4⟩
      have HE4 : Hid (Below w.heap.size w w4) := (unhide HE3).trans (hbe4.mono (unhide HE3).size)
      clear hbe4
      go_wp2
      go_ret
      exact ⟨rfl, unhide HE4⟩
    · refine ((unhide C3') w3 _ (c1 - n1) (unhide HG3) ((unhide HB3).from n1) (by omega) (by omega) hd1a (by omega)).mono ?_
      rintro x w4 ⟨rfl, hbe4⟩
      have HE4 : Hid (Below w.heap.size w w4) := (unhide HE3).trans (hbe4.mono (unhide HE3).size)
      clear hbe4
      go_wp2
      go_ret
      exact ⟨rfl, unhide HE4⟩
  · have e2 := (unhide HCL) rfl
    rw [e2] at C1
    clear e2 HCL HOP HON C3
    dsimp only [brV] at C1 C2
    refine (unhide C1).mono ?_
    rintro x w2 ⟨rfl, hbe2⟩
    have HG2 := hide ((unhide HG1).below hbe2)
    have HB2 := hide ((unhide HB1).below hbe2)
    have HE2 : Hid (Below w.heap.size w w2) := (unhide HE1).trans (hbe2.mono (unhide HE1).size)
    clear hbe2
    go_wp2_with fail
    refine ((unhide C2) w2 p1 c1 (unhide HG2) ((unhide HB2).take k) (by omega) hc1b).mono ?_
    rintro x w3 ⟨rfl, hbe3⟩
    have HE3 : Hid (Below w.heap.size w w3) := (unhide HE2).trans (hbe3.mono (unhide HE2).size)
    clear hbe3
    go_wp2
    go_ret
    exact ⟨rfl, unhide HE3⟩
end Go.Proofs.Qxb6600247aDoor
