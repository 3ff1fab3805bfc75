/-
  SMALL THINGS of seat b6601484aD: a slice of bytes as it lies.
-/
import Derived.Test.Qxb6601484aDoorChecked
import Derived.WalkKit
import Derived.WalkSpells
import Derived.Handy
import Derived.Deep.OwnRows
import Derived.Deep.LoopGhost
namespace Go.Proofs.Qxb6601484aDoor
open Go.RowKit Go.Deep

theorem hide {p : Prop} (h : p) : Hid p := h
theorem unhide {p : Prop} (h : Hid p) : p := h

/-- a slice of bytes as it lies: where there is a byte, an address with its cells. -/
def Bts (w : World) (p : Option Addr) (l : List UInt8) : Prop :=
  0 < l.length → ∃ b o, p = some ⟨b, o, none⟩ ∧ ∀ i, i < l.length → w.cell? ⟨b, o + i, none⟩ = some (.int .u8 ((l.getD i 0).toNat : Int))

theorem drop_getD (l : List UInt8) (k : Nat) (h : k < l.length) : l.drop k = l.getD k 0 :: l.drop (k + 1) := by
  rw [List.drop_eq_getElem_cons h]
  simp [List.getD, h]

theorem u8_eq (c : UInt8) (k : Nat) (hk : k < 256) : (((c.toNat : Int)) == (k : Int)) = decide (c = UInt8.ofNat k) := by
  rw [Bool.eq_iff_iff]
  simp only [beq_iff_eq, decide_eq_true_eq]
  constructor
  · intro h
    apply UInt8.toNat.inj
    simp [UInt8.toNat_ofNat']
    omega
  · intro h
    rw [h]
    simp [UInt8.toNat_ofNat']
    omega

end Go.Proofs.Qxb6601484aDoor
