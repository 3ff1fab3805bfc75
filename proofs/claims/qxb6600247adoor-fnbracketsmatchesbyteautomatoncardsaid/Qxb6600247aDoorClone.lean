/-
  WALK of seat b6600247aD: zzCloneBytes: a copy in a new row.
-/
import Derived.Test.Qxb6600247aDoorStr
namespace Go.Proofs.Qxb6600247aDoor
open Go.RowKit Go.Deep
open Plain

theorem Tryd.info5 : (Tryd.prog.info? 5).map (fun i => (i.zero, i.size, i.bytes)) = some (some (.int .u8 0), 1, 1) := by kernel_rfl

def cellB (l : List UInt8) (k : Nat) (j : Nat) : Value := if j < k then .int .u8 ((l.getD j 0).toNat : Int) else .int .u8 0

theorem cellB_step (l : List UInt8) (k j : Nat) : (if j = k then Value.int .u8 ((l.getD k 0).toNat : Int) else cellB l k j) = cellB l (k + 1) j := by
  unfold cellB
  by_cases e : j = k
  · subst e; simp
  · by_cases h : j < k
    · rw [if_neg e, if_pos h, if_pos (by omega)]
    · rw [if_neg e, if_neg h, if_neg (by omega)]

set_option maxHeartbeats 2000000 in
theorem clone_some (a : Addr) (c : Nat) (l : List UInt8) (w : World) (hb : Bts w (some a) l) (hl : l.length ≤ 1048576) :
    Calls Tryd.prog 9 #[.slice (some a) l.length c] w fun e w' => e = .returned (.slice (some ⟨w.heap.size, 0, none⟩) l.length l.length) ∧ w'.rowIs w.heap.size 5 l.length (cellB l l.length) ∧ Below w.heap.size w w' := by
  have hmk := run_make_row' (P := Tryd.prog) 22 5 (.int .u8 0) 1 Tryd.underlying22 Tryd.info5 rfl .i64 .i64 l.length (by omega) (by omega)
  have hnil := Lib.run_eql_slice_nil (P := Tryd.prog) w 22 5 (some a) l.length c 0 0 Tryd.underlying22
  have HB := hide hb
  clear hb
  go_enter Tryd.func9, Tryd.ntmps9
  go_wp2
  clear hmk hnil
  go_loopw [4] (fun i wr => ∃ k : Nat, k ≤ l.length ∧ i = .int .i64 k ∧ wr.rowIs w.heap.size 5 l.length (cellB l k) ∧ Below w.heap.size w wr) (fun i _ => l.length - (intOf i).toNat)
  case atStart => exact ⟨0, Nat.zero_le _, rfl, (World.rowIs_made w (.int .u8 0) l.length 5).congr (fun i _ => by simp [cellB]), (Below.refl _ _).alloc (Nat.le_refl _) _⟩
  case round =>
    obtain ⟨k, hk, rfl, hrow, hbe⟩ := hrel
    by_cases hlt : k < l.length
    · obtain ⟨b, o, hp, hc⟩ := unhide HB (by omega)
      cases hp
      have hblk : b < w.heap.size := World.block_lt_of_cell? _ _ (hc k hlt)
      have hck : wr.cell? ⟨b, o + k, none⟩ = some (.int .u8 ((l.getD k 0).toNat : Int)) := (hbe.cell (p := ⟨b, o + k, none⟩) hblk).trans (hc k hlt)
      have hs1 := hrow.cell hlt
      have hs2 := hrow.frozen k
      have HR := hide hrow
      have HE := hide hbe
      clear hc hrow hbe
      have hst := cellB_step l k
      have HS := hide hst
      clear hst
      generalize l.getD k 0 = x at hck HS
      go_wp2
      go_roundw
      case measure => simp [intOf]; omega
      case rel => exact ⟨k + 1, by omega, by go_num, ((unhide HR).set k _).congr (fun j _ => (unhide HS) j), (unhide HE).setCell (Nat.le_refl _) _⟩
    · have hk' : k = l.length := by omega
      subst hk'
      go_wp2
      go_ret
      exact ⟨rfl, hrow, hbe⟩

set_option maxHeartbeats 1000000 in
theorem clone_nil (w : World) (n c : Nat) :
    Calls Tryd.prog 9 #[.slice none n c] w fun e w' => e = .returned (.slice none 0 0) ∧ w' = w := by
  have hnil := Lib.run_eql_slice_nil (P := Tryd.prog) w 22 5 none n c 0 0 Tryd.underlying22
  go_enter Tryd.func9, Tryd.ntmps9
  go_wp2
  go_ret
  exact ⟨rfl, rfl⟩

/-- a copy: the same bytes; nothing that was there has turned. -/
theorem clone_any (p : Option Addr) (c : Nat) (l : List UInt8) (w : World) (hb : Bts w p l) (hl : l.length ≤ 1048576) :
    Calls Tryd.prog 9 #[.slice p l.length c] w fun e w' => ∃ p' c', e = .returned (.slice p' l.length c') ∧ Bts w' p' l ∧ l.length ≤ c' ∧ c' ≤ 1048576 ∧ Below w.heap.size w w' := by
  cases p with
  | none =>
    have h0 : l.length = 0 := by
      cases h : l.length with
      | zero => rfl
      | succ n =>
        obtain ⟨b, o, hp, _⟩ := hb (by omega)
        cases hp
    refine (clone_nil w l.length c).mono ?_
    rintro e w' ⟨rfl, rfl⟩
    exact ⟨none, 0, by rw [h0], fun h => by omega, by omega, by omega, Below.refl _ _⟩
  | some a =>
    refine (clone_some a c l w hb hl).mono ?_
    rintro e w' ⟨rfl, hrow, hbe⟩
    refine ⟨_, _, rfl, fun _ => ⟨_, _, rfl, fun i hi => ?_⟩, Nat.le_refl _, hl, hbe⟩
    have := hrow.cell hi
    rw [Nat.zero_add, this]
    simp [cellB, hi]

end Go.Proofs.Qxb6600247aDoor
