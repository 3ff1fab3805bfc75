/-
  WALKS of seat b6600247aD: the laws' own helpers: zzCloneBytes, zzStringModel, zzBracketsModel, the length guards.
-/
import Derived.Test.Qxb6600247aDoorChecked
import Derived.Test.Qxb6600247aDoorPlain
import Derived.WalkKit
import Derived.WalkSpells
import Derived.Handy
import Derived.Deep.OwnRows
import Derived.Deep.LoopGhost
namespace Go.Proofs.Qxb6600247aDoor
open Go.RowKit Go.Deep Go.Lib
open Plain

theorem hide {p : Prop} (h : p) : Hid p := h
theorem unhide {p : Prop} (h : Hid p) : p := h

/-- a slice of bytes as it lies: where there is a byte, an address with its cells. -/
def Bts (w : World) (p : Option Addr) (l : List UInt8) : Prop :=
  0 < l.length → ∃ b o, p = some ⟨b, o, none⟩ ∧ ∀ i, i < l.length → w.cell? ⟨b, o + i, none⟩ = some (.int .u8 ((l.getD i 0).toNat : Int))

theorem drop_getD (l : List UInt8) (k : Nat) (h : k < l.length) : l.drop k = l.getD k 0 :: l.drop (k + 1) := by
  rw [List.drop_eq_getElem_cons h]
  simp [List.getD, h]

theorem u8_eq (c : UInt8) (k : Nat) (hk : k < 256) : (((c.toNat : Int)) == (k : Int)) = decide (c = UInt8.ofNat k) := by
  rw [Bool.eq_iff_iff]
  simp only [beq_iff_eq, decide_eq_true_eq]
  constructor
  · intro h
    apply UInt8.toNat.inj
    simp [UInt8.toNat_ofNat']
    omega
  · intro h
    rw [h]
    simp [UInt8.toNat_ofNat']
    omega

theorem st_esc {e : Bool} {l : List UInt8} {k : Nat} {x : UInt8} (hs : strM e l = up k (strM true (l.drop k))) (hd : l.drop k = x :: l.drop (k + 1)) : strM e l = up (k + 1) (strM false (l.drop (k + 1))) := by
  rw [hs, hd, strM, up_up]
theorem st_slash {e : Bool} {l : List UInt8} {k : Nat} {x : UInt8} (hs : strM e l = up k (strM false (l.drop k))) (hd : l.drop k = x :: l.drop (k + 1)) (h : ((x.toNat : Int) == 92) = true) : strM e l = up (k + 1) (strM true (l.drop (k + 1))) := by
  have hx : x = 92 := by have := u8_eq x 92 (by omega); rw [show ((92 : Nat) : Int) = 92 from rfl, h] at this; simpa using this
  rw [hs, hd, strM, if_pos hx, up_up]
theorem st_quote {e : Bool} {l : List UInt8} {k : Nat} {x : UInt8} (hs : strM e l = up k (strM false (l.drop k))) (hd : l.drop k = x :: l.drop (k + 1)) (h : ((x.toNat : Int) == 34) = true) : strM e l = (k + 1, true, false) := by
  have hx : x = 34 := by have := u8_eq x 34 (by omega); rw [show ((34 : Nat) : Int) = 34 from rfl, h] at this; simpa using this
  rw [hs, hd, strM, if_neg (by rw [hx]; decide), if_pos hx]; rfl
theorem st_other {e : Bool} {l : List UInt8} {k : Nat} {x : UInt8} (hs : strM e l = up k (strM false (l.drop k))) (hd : l.drop k = x :: l.drop (k + 1)) (h : ((x.toNat : Int) == 92) = false) (h' : ((x.toNat : Int) == 34) = false) : strM e l = up (k + 1) (strM false (l.drop (k + 1))) := by
  have hx : x ≠ 92 := by have := u8_eq x 92 (by omega); rw [show ((92 : Nat) : Int) = 92 from rfl, h] at this; simpa using this
  have hx' : x ≠ 34 := by have := u8_eq x 34 (by omega); rw [show ((34 : Nat) : Int) = 34 from rfl, h'] at this; simpa using this
  rw [hs, hd, strM, if_neg hx, if_neg hx', up_up]
theorem st_end {e ek : Bool} {l : List UInt8} {k : Nat} (hs : strM e l = up k (strM ek (l.drop k))) (hk : k = l.length) : strM e l = (l.length, false, ek) := by
  subst hk
  rw [hs, List.drop_length, strM]; rfl
theorem ret3 {r : Nat × Bool × Bool} {n : Int} {c a : Bool} {m : Nat} (h : r = (m, c, a)) (hn : n = m) : Ending.returned (.tuple #[.int .i64 n, .bool c, .bool a]) = .returned (.tuple #[.int .i64 (r.1 : Int), .bool r.2.1, .bool r.2.2]) := by
  rw [h, hn]

set_option maxHeartbeats 1000000 in
theorem strModel_any (e : Bool) (p : Option Addr) (c : Nat) (l : List UInt8) (w : World) (hl : l.length ≤ 1048576) (hb : Bts w p l) :
    Calls Tryd.prog 16 #[.bool e, .slice p l.length c] w fun x w' => x = .returned (.tuple #[.int .i64 ((strM e l).1 : Int), .bool (strM e l).2.1, .bool (strM e l).2.2]) ∧ w' = w := by
  have HB := hide hb
  clear hb
  go_enter Tryd.func16, Tryd.ntmps16
  go_wp2
  go_loop [0, 7] (fun t i => ∃ (k : Nat) (ek : Bool), k ≤ l.length ∧ i = .int .i64 k ∧ t = .bool ek ∧ strM e l = up k (strM ek (l.drop k))) (fun _ i => l.length - (intOf i).toNat)
  case atStart => exact ⟨0, e, Nat.zero_le _, rfl, rfl, by simp [up_zero]⟩
  case round =>
    obtain ⟨k, ek, hk, rfl, rfl, hs⟩ := hrel
    have HS := hide hs
    clear hs
    by_cases hlt : k < l.length
    · obtain ⟨b, o, rfl, hc⟩ := unhide HB (by omega)
      have hck := hc k hlt
      clear hc
      have hd := drop_getD l k hlt
      generalize l.getD k 0 = x at hck hd
      have HD := hide hd
      clear hd
      go_wp2
      · go_round
        case rel => exact ⟨k + 1, false, by omega, by go_num, rfl, st_esc (by have he : ek = true := by assumption
                                                                              rw [← he]; exact unhide HS) (unhide HD)⟩
        case measure => simp [intOf]; omega
      · go_round
        case rel => exact ⟨k + 1, true, by omega, by go_num, rfl, st_slash (by have he : ek = false := by assumption
                                                                               rw [← he]; exact unhide HS) (unhide HD) (by assumption)⟩
        case measure => simp [intOf]; omega
      · go_ret3
        exact ⟨ret3 (st_quote (by have he : ek = false := by assumption
                                  rw [← he]; exact unhide HS) (unhide HD) (by assumption)) (by omega), rfl⟩
      · go_round
        case rel => exact ⟨k + 1, false, by omega, by go_num, by have he : ek = false := by assumption
                                                                 rw [he], st_other (by have he : ek = false := by assumption
                                                                                       rw [← he]; exact unhide HS) (unhide HD) (by assumption) (by assumption)⟩
        case measure => simp [intOf]; omega
    · go_wp2
      go_ret3
      exact ⟨ret3 (st_end (unhide HS) (by omega)) rfl, rfl⟩
end Go.Proofs.Qxb6600247aDoor
