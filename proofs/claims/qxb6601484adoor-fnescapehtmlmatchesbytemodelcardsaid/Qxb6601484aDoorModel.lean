/-
  WALK of seat b6601484aD: escapeModel.
-/
import Derived.Test.Qxb6601484aDoorEq
import Derived.Maps.AppendAt
namespace Go.Proofs.Qxb6601484aDoor
open Go.RowKit Go.Deep
open Plain

theorem take_snoc (l : List UInt8) (k : Nat) (h : k < l.length) : l.take (k + 1) = l.take k ++ [l.getD k 0] := by
  rw [List.take_succ_eq_append_getElem h]
  simp [List.getD, h]
theorem bcells_app (a b : List UInt8) : bcells (a ++ b) = bcells a ++ bcells b := by simp [bcells]

theorem u8_ne {x : UInt8} {k : Nat} (h : x ≠ UInt8.ofNat k) (hk : k < 256) : ((x.toNat : Int) == (k : Int)) = false := by
  rw [u8_eq x k hk]
  exact decide_eq_false h
theorem cell_six_new (w : World) (a b c d e f : Value) (t : TypeId) : ∀ j u, [a, b, c, d, e, f][j]? = some u → (w.alloc (.cells #[a, b, c, d, e, f] t)).cell? ((⟨w.heap.size, 0, none⟩ : Addr).add j) = some u := by
  intro j u hj
  have hadd : (⟨w.heap.size, 0, none⟩ : Addr).add j = ⟨w.heap.size, j, none⟩ := by unfold Addr.add; split <;> simp_all
  rw [hadd, World.cell?_alloc_at _ _ _ _ rfl]
  simpa using hj

/-- what the model has gathered behind k bytes of the second stretch. -/
def accM (l : List UInt8) (f k : Nat) : List UInt8 := l.take f ++ esc ((l.drop f).take (k - f))
theorem accM_start (l : List UInt8) (f : Nat) : accM l f f = l.take f := by simp [accM, esc]
theorem accM_step (l : List UInt8) (f k : Nat) (hf : f ≤ k) (hk : k < l.length) : accM l f (k + 1) = accM l f k ++ escB (l.getD k 0) := by
  unfold accM
  have h2 : k - f < (l.drop f).length := by rw [List.length_drop]; omega
  rw [show k + 1 - f = (k - f) + 1 by omega, take_snoc _ _ h2, esc_append]
  have e : (l.drop f).getD (k - f) 0 = l.getD k 0 := by
    simp only [List.getD, List.getElem?_drop]
    rw [show f + (k - f) = k by omega]
  rw [e]
  simp [esc]
theorem accM_end (l : List UInt8) (f : Nat) (_hf : f ≤ l.length) : accM l f l.length = l.take f ++ esc (l.drop f) := by
  unfold accM
  congr 2
  exact List.take_of_length_le (by rw [List.length_drop]; omega)
theorem accM_len (l : List UInt8) (f k : Nat) (hf : f ≤ l.length) : (accM l f k).length ≤ 7 * l.length := by
  unfold accM
  have h1 := (esc_len ((l.drop f).take (k - f))).2
  rw [List.length_append, List.length_take]
  rw [List.length_take, List.length_drop] at h1
  omega

set_option maxRecDepth 100000 in
set_option maxHeartbeats 8000000 in
theorem model_any (p : Option Addr) (c : Nat) (l : List UInt8) (f : Nat) (w : World) (hb : Bts w p l) (hf : f ≤ l.length) (hl : l.length ≤ 1048576) :
    Calls Tryd.prog 7 #[.slice p l.length c, .int .i64 (f : Int)] w fun e w' => ∃ v, e = .returned v ∧ w'.ownsRow w.heap.size 5 1 v (l.take f ++ esc (l.drop f)).length (bcells (l.take f ++ esc (l.drop f))) ∧ Below w.heap.size w w' := by
  obtain ⟨i0, hi, hz0, hz1, hz2⟩ := info_parts Tryd.info5
  have hmk : (Instr.makeSlice 22 (.int .i64 0) (.int .i64 ((l.length : Int) + 8))).run Tryd.prog w = .ok (.slice (some ⟨w.heap.size, 0, none⟩) 0 (l.length + 8)) (w.alloc (.cells (madeCells #[.int .u8 0] (l.length + 8)) 5)) := by
    have h := run_make (P := Tryd.prog) w 22 5 i0 (.int .u8 0) Tryd.underlying22 hi hz0 .i64 .i64 0 ((l.length : Int) + 8) (by omega) (by omega) (by rw [hz2]; omega) (by omega)
    rw [hz1, show ((l.length : Int) + 8).toNat = l.length + 8 by omega, Nat.mul_one] at h
    exact h
  have HB := hide hb
  clear hb
  go_enter Tryd.func7, Tryd.ntmps7
  go_wp2
  clear hmk
  have hown0 : (w.alloc (.cells (madeCells #[.int .u8 0] (l.length + 8)) 5)).ownsRow w.heap.size 5 1 (.slice (some ⟨w.heap.size, 0, none⟩) 0 (l.length + 8)) 0 [] := World.ownsRow_made w _ _ (Nat.le_refl _) (by unfold maxLen; omega) (by rw [size_madeCells]; omega)
  go_loopw [5, 6] (fun v i wr => ∃ k : Nat, k ≤ f ∧ i = .int .i64 k ∧ wr.ownsRow w.heap.size 5 1 v k (bcells (l.take k)) ∧ Below w.heap.size w wr) (fun _ i _ => f - (intOf i).toNat)
  case atStart => exact ⟨0, Nat.zero_le _, rfl, hown0, (Below.refl _ _).alloc (Nat.le_refl _) _⟩
  case round =>
    clear hown0
    obtain ⟨k, hk, rfl, hown, hbe⟩ := hrel
    by_cases hlt : k < f
    · obtain ⟨b, o, rfl, hc⟩ := unhide HB (by omega)
      have hck : wr.cell? ⟨b, o + k, none⟩ = some (.int .u8 ((l.getD k 0).toNat : Int)) := (hbe.cell (p := ⟨b, o + k, none⟩) (World.block_lt_of_cell? _ _ (hc k (by omega)))).trans (hc k (by omega))
      have hsn := take_snoc l k (by omega)
      have HS := hide hsn
      have HE := hide hbe
      clear hc hsn hbe
      generalize l.getD k 0 = x at hck HS
      go_wp2_with (at_builtin; refine wpList_append_own _ rfl _ _ 22 rfl w.heap.size 5 i0 (.int .u8 0) 1 1 Tryd.underlying22 hi hz0 hz1 hz2 rfl (by decide) _ _ _ rfl (hown.alloc _) ⟨wr.heap.size, 0, none⟩ 1 1 [.int .u8 (x.toNat : Int)] rfl rfl ?c1 ?c2 ?c3 ?c4 ?c5 ?_)
      case c1 => exact cell_one_new _ _ _
      case c2 => intro u hu; simp at hu; subst hu; rfl
      case c3 => unfold maxLen; omega
      case c4 => omega
      case c5 => have := (unhide HE).size; simp; omega
      intro v' w1 hown' hgrow _
      have HB2 : Hid (Below w.heap.size w w1) := ((unhide HE).alloc (unhide HE).size _).grown hgrow (by have := (unhide HE).size; simp; omega) (fun k hk => (hown.lt k hk).1)
      have hown2 : w1.ownsRow w.heap.size 5 1 v' (k + 1) (bcells (l.take (k + 1))) := by rw [unhide HS, bcells_app]; exact hown'
      clear hown' hgrow hown
      go_wp2
      go_roundw
      case measure => simp [intOf]; omega
      case rel => first
        | exact ⟨k + 1, by omega, by go_num, hown2, unhide HB2⟩
        | ((repeat apply Exists.intro); exact ⟨⟨k + 1, by omega, by go_num, hown2, unhide HB2⟩, rfl⟩)
    · have hkf : k = f := by omega
      subst hkf
      go_wp2_with fail
      go_loopw [5, 7] (fun v i wr => ∃ j : Nat, k ≤ j ∧ j ≤ l.length ∧ i = .int .i64 j ∧ wr.ownsRow w.heap.size 5 1 v (accM l k j).length (bcells (accM l k j)) ∧ Below w.heap.size w wr) (fun _ i _ => l.length - (intOf i).toNat)
      case atStart => exact ⟨k, Nat.le_refl _, hf, rfl, by rw [accM_start, List.length_take, Nat.min_eq_left hf]; exact hown, hbe⟩
      case round =>
        clear hown hbe
        obtain ⟨j, hj1, hj, rfl, hown, hbe⟩ := hrel
        by_cases hjt : j < l.length
        · obtain ⟨b, o, rfl, hc⟩ := unhide HB (by omega)
          have hck : wr.cell? ⟨b, o + j, none⟩ = some (.int .u8 ((l.getD j 0).toNat : Int)) := (hbe.cell (p := ⟨b, o + j, none⟩) (World.block_lt_of_cell? _ _ (hc j hjt))).trans (hc j hjt)
          have hlen := accM_len l k j hf
          have HS := hide (accM_step l k j hj1 hjt)
          have HE := hide hbe
          clear hc hbe
          generalize l.getD j 0 = x at hck HS
          generalize hacc : accM l k j = acc at hown hlen HS
          clear hacc
          by_cases x1 : x = 60
          · have t60 : ((x.toNat : Int) == 60) = true := by rw [x1]; rfl
            have hes : escB x = [92, 117, 48, 48, 51, 99] := by rw [x1]; rfl
            have HES := hide hes
            clear hes
            go_wp2_with (at_builtin; refine wpList_append_own _ rfl _ _ 22 rfl w.heap.size 5 i0 (.int .u8 0) 1 1 Tryd.underlying22 hi hz0 hz1 hz2 rfl (by decide) _ _ _ rfl (hown.alloc _) ⟨wr.heap.size, 0, none⟩ 6 6 [.int .u8 92, .int .u8 117, .int .u8 48, .int .u8 48, .int .u8 51, .int .u8 99] rfl rfl ?c1 ?c2 ?c3 ?c4 ?c5 ?_)
            case c1 => exact cell_six_new _ _ _ _ _ _ _ _
            case c2 => intro u hu; simp at hu; rcases hu with rfl | rfl | rfl | rfl | rfl | rfl <;> rfl
            case c3 => unfold maxLen; omega
            case c4 => omega
            case c5 => have := (unhide HE).size; simp; omega
            intro v' w1 hown' hgrow _
            have HB2 : Hid (Below w.heap.size w w1) := ((unhide HE).alloc (unhide HE).size _).grown hgrow (by have := (unhide HE).size; simp; omega) (fun g hg => (hown.lt g hg).1)
            have hown2 : w1.ownsRow w.heap.size 5 1 v' (accM l k (j + 1)).length (bcells (accM l k (j + 1))) := by rw [unhide HS, unhide HES, bcells_app, List.length_append]; exact hown'
            clear hown' hgrow hown
            go_wp2
            go_roundw
            case measure => simp [intOf]; omega
            case rel => first
              | exact ⟨j + 1, by omega, by omega, by go_num, hown2, unhide HB2⟩
              | ((repeat apply Exists.intro); exact ⟨⟨j + 1, by omega, by omega, by go_num, hown2, unhide HB2⟩, rfl⟩)
          by_cases x2 : x = 62
          · have t60 : ((x.toNat : Int) == 60) = false := u8_ne x1 (by decide)
            have t62 : ((x.toNat : Int) == 62) = true := by rw [x2]; rfl
            have hes : escB x = [92, 117, 48, 48, 51, 101] := by rw [x2]; rfl
            have HES := hide hes
            clear hes
            go_wp2_with (at_builtin; refine wpList_append_own _ rfl _ _ 22 rfl w.heap.size 5 i0 (.int .u8 0) 1 1 Tryd.underlying22 hi hz0 hz1 hz2 rfl (by decide) _ _ _ rfl (hown.alloc _) ⟨wr.heap.size, 0, none⟩ 6 6 [.int .u8 92, .int .u8 117, .int .u8 48, .int .u8 48, .int .u8 51, .int .u8 101] rfl rfl ?c1 ?c2 ?c3 ?c4 ?c5 ?_)
            case c1 => exact cell_six_new _ _ _ _ _ _ _ _
            case c2 => intro u hu; simp at hu; rcases hu with rfl | rfl | rfl | rfl | rfl | rfl <;> rfl
            case c3 => unfold maxLen; omega
            case c4 => omega
            case c5 => have := (unhide HE).size; simp; omega
            intro v' w1 hown' hgrow _
            have HB2 : Hid (Below w.heap.size w w1) := ((unhide HE).alloc (unhide HE).size _).grown hgrow (by have := (unhide HE).size; simp; omega) (fun g hg => (hown.lt g hg).1)
            have hown2 : w1.ownsRow w.heap.size 5 1 v' (accM l k (j + 1)).length (bcells (accM l k (j + 1))) := by rw [unhide HS, unhide HES, bcells_app, List.length_append]; exact hown'
            clear hown' hgrow hown
            go_wp2
            go_roundw
            case measure => simp [intOf]; omega
            case rel => first
              | exact ⟨j + 1, by omega, by omega, by go_num, hown2, unhide HB2⟩
              | ((repeat apply Exists.intro); exact ⟨⟨j + 1, by omega, by omega, by go_num, hown2, unhide HB2⟩, rfl⟩)
          by_cases x3 : x = 38
          · have t60 : ((x.toNat : Int) == 60) = false := u8_ne x1 (by decide)
            have t62 : ((x.toNat : Int) == 62) = false := u8_ne x2 (by decide)
            have t38 : ((x.toNat : Int) == 38) = true := by rw [x3]; rfl
            have hes : escB x = [92, 117, 48, 48, 50, 54] := by rw [x3]; rfl
            have HES := hide hes
            clear hes
            go_wp2_with (at_builtin; refine wpList_append_own _ rfl _ _ 22 rfl w.heap.size 5 i0 (.int .u8 0) 1 1 Tryd.underlying22 hi hz0 hz1 hz2 rfl (by decide) _ _ _ rfl (hown.alloc _) ⟨wr.heap.size, 0, none⟩ 6 6 [.int .u8 92, .int .u8 117, .int .u8 48, .int .u8 48, .int .u8 50, .int .u8 54] rfl rfl ?c1 ?c2 ?c3 ?c4 ?c5 ?_)
            case c1 => exact cell_six_new _ _ _ _ _ _ _ _
            case c2 => intro u hu; simp at hu; rcases hu with rfl | rfl | rfl | rfl | rfl | rfl <;> rfl
            case c3 => unfold maxLen; omega
            case c4 => omega
            case c5 => have := (unhide HE).size; simp; omega
            intro v' w1 hown' hgrow _
            have HB2 : Hid (Below w.heap.size w w1) := ((unhide HE).alloc (unhide HE).size _).grown hgrow (by have := (unhide HE).size; simp; omega) (fun g hg => (hown.lt g hg).1)
            have hown2 : w1.ownsRow w.heap.size 5 1 v' (accM l k (j + 1)).length (bcells (accM l k (j + 1))) := by rw [unhide HS, unhide HES, bcells_app, List.length_append]; exact hown'
            clear hown' hgrow hown
            go_wp2
            go_roundw
            case measure => simp [intOf]; omega
            case rel => first
              | exact ⟨j + 1, by omega, by omega, by go_num, hown2, unhide HB2⟩
              | ((repeat apply Exists.intro); exact ⟨⟨j + 1, by omega, by omega, by go_num, hown2, unhide HB2⟩, rfl⟩)
          · have t60 : ((x.toNat : Int) == 60) = false := u8_ne x1 (by decide)
            have t62 : ((x.toNat : Int) == 62) = false := u8_ne x2 (by decide)
            have t38 : ((x.toNat : Int) == 38) = false := u8_ne x3 (by decide)
            have hes : escB x = [x] := by unfold escB; rw [if_neg x1, if_neg x2, if_neg x3]
            have HES := hide hes
            clear hes
            go_wp2_with (at_builtin; refine wpList_append_own _ rfl _ _ 22 rfl w.heap.size 5 i0 (.int .u8 0) 1 1 Tryd.underlying22 hi hz0 hz1 hz2 rfl (by decide) _ _ _ rfl (hown.alloc _) ⟨wr.heap.size, 0, none⟩ 1 1 [.int .u8 (x.toNat : Int)] rfl rfl ?c1 ?c2 ?c3 ?c4 ?c5 ?_)
            case c1 => exact cell_one_new _ _ _
            case c2 => intro u hu; simp at hu; subst hu; rfl
            case c3 => unfold maxLen; omega
            case c4 => omega
            case c5 => have := (unhide HE).size; simp; omega
            intro v' w1 hown' hgrow _
            have HB2 : Hid (Below w.heap.size w w1) := ((unhide HE).alloc (unhide HE).size _).grown hgrow (by have := (unhide HE).size; simp; omega) (fun g hg => (hown.lt g hg).1)
            have hown2 : w1.ownsRow w.heap.size 5 1 v' (accM l k (j + 1)).length (bcells (accM l k (j + 1))) := by rw [unhide HS, unhide HES, bcells_app, List.length_append]; exact hown'
            clear hown' hgrow hown
            go_wp2
            go_roundw
            case measure => simp [intOf]; omega
            case rel => first
              | exact ⟨j + 1, by omega, by omega, by go_num, hown2, unhide HB2⟩
              | ((repeat apply Exists.intro); exact ⟨⟨j + 1, by omega, by omega, by go_num, hown2, unhide HB2⟩, rfl⟩)
        · have hje : j = l.length := by omega
          rw [hje, accM_end l k hf] at hown
          have HO := hide hown
          have HE := hide hbe
          clear hown hbe hje
          go_wp2
          go_ret
          exact ⟨_, rfl, unhide HO, unhide HE⟩
end Go.Proofs.Qxb6601484aDoor
