/-
  WALK of seat b6601484aD: equalBytes at two slices of the same bytes.
-/
import Derived.Test.Qxb6601484aDoorClone
import Derived.Deep.QuietTactic
import Derived.BigQuiet
namespace Go.Proofs.Qxb6601484aDoor
open Go.RowKit Go.Deep
open Plain

theorem below_dn {B : Nat} {a w : World} (h : Below B a w) (n : Nat) : Below B a (w.drewN n) := h.trans ⟨rfl, rfl, rfl, Nat.le_refl _, fun _ _ => rfl⟩

set_option maxHeartbeats 4000000 in
theorem equal_any (p1 p2 : Option Addr) (c1 c2 : Nat) (l : List UInt8) (w : World) (h1 : Bts w p1 l) (h2 : Bts w p2 l) (hl : l.length ≤ 100000000) :
    Calls Tryd.prog 9 #[.slice p1 l.length c1, .slice p2 l.length c2] w fun e w' => e = .returned (.bool true) ∧ Below w.heap.size w w' := by
  have H1 := hide h1
  have H2 := hide h2
  clear h1 h2
  go_enter Tryd.func9, Tryd.ntmps9
  go_wp2
  go_loopw [5] (fun i wr => ∃ k : Nat, k ≤ l.length ∧ i = .int .i64 k ∧ Below w.heap.size w wr) (fun i _ => l.length - (intOf i).toNat)
  case atStart => exact ⟨0, Nat.zero_le _, rfl, Below.refl _ _⟩
  case round =>
    obtain ⟨k, hk, rfl, hbe⟩ := hrel
    have HE := hide hbe
    clear hbe
    by_cases hlt : k < l.length
    · obtain ⟨b, o, rfl, hc⟩ := unhide H1 (by omega)
      obtain ⟨b', o', rfl, hc'⟩ := unhide H2 (by omega)
      have g1 : wr.cell? ⟨b, o + k, none⟩ = some (.int .u8 ((l.getD k 0).toNat : Int)) := ((unhide HE).cell (p := ⟨b, o + k, none⟩) (World.block_lt_of_cell? _ _ (hc k hlt))).trans (hc k hlt)
      have g2 : wr.cell? ⟨b', o' + k, none⟩ = some (.int .u8 ((l.getD k 0).toNat : Int)) := ((unhide HE).cell (p := ⟨b', o' + k, none⟩) (World.block_lt_of_cell? _ _ (hc' k hlt))).trans (hc' k hlt)
      have hz : (k : Int) < (l.length : Int) := by omega
      clear hc hc'
      generalize l.getD k 0 = x at g1 g2
      go_wp2_with fail
      go_quiet (fail)
      go_wp2
      go_roundw
      case measure => simp [intOf]; omega
      case rel => first
        | exact ⟨k + 1, by omega, by go_num, below_dn (unhide HE) _⟩
        | ((repeat apply Exists.intro); exact ⟨⟨k + 1, by omega, by go_num, below_dn (unhide HE) _⟩, rfl⟩)
    · go_wp2
      go_ret
      exact ⟨rfl, unhide HE⟩
end Go.Proofs.Qxb6601484aDoor
