/-
  WALK of seat b6601113aD: explain.IsLanguageTag.
-/
import Derived.Test.Qxb6601113aDoorSmall
import Derived.Test.Qxb6601113aDoorShelf
import Derived.Lib.ConvBytes
import Derived.Deep.LoopGhost
namespace Go.Proofs.Qxb6601113aDoor
open Go.RowKit
open Plain

def hyphen : ByteArray := ⟨#[45]⟩
/-- the pieces as strings. -/
theorem split_any (s : ByteArray) (w : World) (m : Int) (hm : w.cell? ⟨0, 0, none⟩ = some (.int .i64 m)) (hs : s.size ≤ 1048576) :
    ∃ bs : List ByteArray, bs.map (·.data.toList) = pieces s.data.toList ∧ bs.length ≤ 1048577 ∧
      Calls Tryd.prog 15 #[.string s, .string hyphen] w fun e w' => e = .returned (.slice (some ⟨w.heap.size, 0, none⟩) bs.length bs.length) ∧ w' = w.alloc (.cells (bs.map Value.string).toArray 9) := by
  have c := Any.strings_Split Tryd.lays146 (by kernel_rfl) s hyphen m w (by omega) hm (by decide)
  have hlen := Lib.splitB_all hyphen (by decide) 0 _ s rfl
  have hle := Lib.countB_le hyphen (by decide) s.size s (Nat.le_refl _)
  refine ⟨Lib.splitB hyphen 0 (Lib.countB s hyphen) s, ?_, by omega, ?_⟩
  · rw [Lib.splitB_data]
    exact split_pieces s.data.toList
  · rw [hlen]
    exact c

def upto (f : UInt8 → Bool) (t : ByteArray) (j : Nat) : Bool := (t.data.toList.take j).all f
theorem upto_zero (f : UInt8 → Bool) (t : ByteArray) : upto f t 0 = true := by unfold upto; rw [List.take_zero]; rfl
theorem upto_succ (f : UInt8 → Bool) (t : ByteArray) (j : Nat) (h : j < t.size) : upto f t (j + 1) = (upto f t j && f t[j]) := by
  unfold upto
  rw [List.take_succ_eq_append_getElem (by rw [← Lib.size_eq]; exact h), List.all_append]
  simp only [List.all_cons, List.all_nil, Bool.and_true]
  rfl
theorem upto_end (f : UInt8 → Bool) (t : ByteArray) : upto f t t.size = t.data.toList.all f := by
  unfold upto
  rw [List.take_of_length_le (by rw [← Lib.size_eq]; exact Nat.le_refl _)]
theorem all_bad (f : UInt8 → Bool) (t : ByteArray) (j : Nat) (h : j < t.size) (hf : f t[j] = false) : t.data.toList.all f = false := by
  rw [← List.take_append_drop j t.data.toList, at_byte t j h, List.all_append, List.all_cons, hf]
  simp

theorem alpha_yes {c : UInt8} (h : ((97 : Int) ≤ (c.toNat : Int) ∧ (c.toNat : Int) ≤ 122) ∨ ((65 : Int) ≤ (c.toNat : Int) ∧ (c.toNat : Int) ≤ 90)) : alpha c = true := by
  rw [alpha_z]; simp; omega
theorem alpha_no {c : UInt8} (h : ¬ (((97 : Int) ≤ (c.toNat : Int) ∧ (c.toNat : Int) ≤ 122) ∨ ((65 : Int) ≤ (c.toNat : Int) ∧ (c.toNat : Int) ≤ 90))) : alpha c = false := by
  rw [alpha_z, Bool.eq_false_iff]; simp; omega
theorem digit_yes {c : UInt8} (h : (48 : Int) ≤ (c.toNat : Int) ∧ (c.toNat : Int) ≤ 57) : digit c = true := by
  rw [digit_z]; simp; omega
theorem digit_no {c : UInt8} (h : ¬ ((48 : Int) ≤ (c.toNat : Int) ∧ (c.toNat : Int) ≤ 57)) : digit c = false := by
  rw [digit_z, Bool.eq_false_iff]; simp; omega

theorem alnum_a {c : UInt8} (h : ((97 : Int) ≤ (c.toNat : Int) ∧ (c.toNat : Int) ≤ 122) ∨ ((65 : Int) ≤ (c.toNat : Int) ∧ (c.toNat : Int) ≤ 90)) : alnum c = true := by
  unfold alnum; rw [alpha_yes h]; rfl
theorem alnum_d {c : UInt8} (h : (48 : Int) ≤ (c.toNat : Int) ∧ (c.toNat : Int) ≤ 57) : alnum c = true := by
  unfold alnum; rw [digit_yes h, Bool.or_true]
theorem alnum_no {c : UInt8} (h : ¬ (((97 : Int) ≤ (c.toNat : Int) ∧ (c.toNat : Int) ≤ 122) ∨ ((65 : Int) ≤ (c.toNat : Int) ∧ (c.toNat : Int) ≤ 90))) (h' : ¬ ((48 : Int) ≤ (c.toNat : Int) ∧ (c.toNat : Int) ≤ 57)) : alnum c = false := by
  unfold alnum; rw [alpha_no h, digit_no h']; rfl

/-- the pieces that are left. -/
def left (f : Bool) (bs : List ByteArray) : Bool := allOk f (bs.map (·.data.toList))
theorem left_nil (f : Bool) : left f [] = true := rfl
theorem left_cons (f : Bool) (t : ByteArray) (bs : List ByteArray) : left f (t :: bs) = (okP f t.data.toList && left false bs) := rfl

theorem ok_len {f : Bool} {t : ByteArray} (h : ((t.size : Int) < 1) ∨ (8 < (t.size : Int))) : okP f t.data.toList = false := by
  unfold okP
  rw [← Lib.size_eq]
  rcases h with h | h
  · rw [decide_eq_false (show ¬ 1 ≤ t.size by omega)]; rfl
  · rw [decide_eq_false (show ¬ t.size ≤ 8 by omega), Bool.and_false]; rfl
theorem ok_bad {f : Bool} {t : ByteArray} (h : t.data.toList.all alnum = false) : okP f t.data.toList = false := okP_bad f _ h
theorem ok_next {t : ByteArray} (h1 : 1 ≤ t.size) (h2 : t.size ≤ 8) (h : t.data.toList.all alnum = true) : okP false t.data.toList = true := by
  unfold okP
  rw [← Lib.size_eq, decide_eq_true h1, decide_eq_true h2, h]
  rfl
theorem ok_first {t : ByteArray} (h1 : 1 ≤ t.size) (h2 : t.size ≤ 8) (h : t.data.toList.all alnum = true) : okP true t.data.toList = (t.data.toList.all alpha && decide (2 ≤ t.size) && decide (t.size ≤ 3)) := by
  unfold okP
  rw [← Lib.size_eq, decide_eq_true h1, decide_eq_true h2, h]
  simp

theorem below_bytes (w : World) (e : TypeId) (s : ByteArray) : Below w.heap.size w (Lib.bytesWorld w e s) :=
  ⟨rfl, rfl, rfl, by rw [Lib.bytesWorld_size]; omega, fun k hk => Lib.bytesWorld_at_old w e s k hk⟩

set_option maxRecDepth 100000 in
set_option maxHeartbeats 8000000 in
theorem tag_any (s : ByteArray) (w : World) (m : Int) (hm : w.cell? ⟨0, 0, none⟩ = some (.int .i64 m)) (hs : s.size ≤ 1048576) :
    Calls Tryd.prog 7 #[.string s] w fun e w' => e = .returned (.bool (isTag s.data.toList)) ∧ Below w.heap.size w w' := by
  obtain ⟨bs, hbs, hbl, cS⟩ := split_any s w m hm hs
  have hG : isTag s.data.toList = left true bs := by unfold isTag left; rw [hbs]
  rw [hG]
  generalize hG2 : left true bs = G
  have HG := hide hG2
  have CS := hide cS
  clear hm hbs cS hG hG2
  go_enter Tryd.func7, Tryd.ntmps7
  go_wp2_with (go_at_call 15; refine (unhide CS).mono ?_; rintro e w' ⟨rfl, hw⟩; rw [hw])
  clear CS hw
  have HB : Hid (Below w.heap.size w (w.alloc (.cells (bs.map Value.string).toArray 9))) := (Below.refl _ _).alloc (Nat.le_refl _) _
  have HC : Hid (∀ k (h : k < bs.length), (w.alloc (.cells (bs.map Value.string).toArray 9)).cell? ⟨w.heap.size, k, none⟩ = some (.string bs[k])) := fun k h => by
    rw [World.cell?_alloc_at _ _ _ _ rfl]
    simp [h]
  have HZ : Hid ((w.alloc (.cells (bs.map Value.string).toArray 9)).heap.size = w.heap.size + 1) := hide (by simp)
  generalize w.alloc (.cells (bs.map Value.string).toArray 9) = W1 at HB HC HZ ⊢
  go_loopw [11] (fun i wr => ∃ k : Nat, k ≤ bs.length ∧ i = .int .i64 k ∧ G = left (decide (k = 0)) (bs.drop k) ∧ Below W1.heap.size W1 wr) (fun i _ => bs.length - (intOf i).toNat)
  case atStart => exact ⟨0, Nat.zero_le _, rfl, (unhide HG).symm, Below.refl _ _⟩
  case round =>
    obtain ⟨k, hk, rfl, hr, hbe⟩ := hrel
    have HR := hide hr
    have HE := hide hbe
    clear hr hbe
    by_cases hlt : k < bs.length
    · have hck : wr.cell? ⟨w.heap.size, k, none⟩ = some (.string bs[k]) := ((unhide HE).cell (p := ⟨w.heap.size, k, none⟩) (by have := unhide HZ; show w.heap.size < _; omega)).trans ((unhide HC) k hlt)
      have hst : G = (okP (decide (k = 0)) (bs[k]).data.toList && left false (bs.drop (k + 1))) := by
        rw [unhide HR, List.drop_eq_getElem_cons hlt, left_cons]
      have HS := hide hst
      clear hst
      generalize bs[k] = t at hck HS
      by_cases hl1 : (t.size : Int) < 1
      · have t1 : decide ((t.size : Int) < 1) = true := decide_eq_true hl1
        go_wp2
        go_ret
        exact ⟨ret_bool (by rw [unhide HS, ok_len (.inl hl1)]; rfl), (unhide HB).trans ((unhide HE).mono (unhide HB).size)⟩
      by_cases hl8 : 8 < (t.size : Int)
      · have t1 : decide ((t.size : Int) < 1) = false := decide_eq_false hl1
        have t2 : decide ((8 : Int) < (t.size : Int)) = true := decide_eq_true hl8
        go_wp2
        go_ret
        exact ⟨ret_bool (by rw [unhide HS, ok_len (.inr hl8)]; rfl), (unhide HB).trans ((unhide HE).mono (unhide HB).size)⟩
      have t1 : decide ((t.size : Int) < 1) = false := decide_eq_false hl1
      have t2 : decide ((8 : Int) < (t.size : Int)) = false := decide_eq_false hl8
      have hcv := Lib.run_convert_string_bytes (P := Tryd.prog) wr 9 26 5 t Tryd.underlying9 Tryd.underlying26 Tryd.underlying5
      go_wp2_with fail
      clear hcv hck
      have HB2 : Hid (Below w.heap.size w (Lib.bytesWorld wr 5 t)) := ((unhide HB).trans ((unhide HE).mono (unhide HB).size)).trans ((below_bytes wr 5 t).mono (Nat.le_trans (unhide HB).size (unhide HE).size))
      have HE2 : Hid (Below W1.heap.size W1 (Lib.bytesWorld wr 5 t)) := (unhide HE).trans ((below_bytes wr 5 t).mono (unhide HE).size)
      have HT : Hid (∀ j, j < t.size → (Lib.bytesWorld wr 5 t).cell? ⟨wr.heap.size, j, none⟩ = some (.int .u8 ((t.data.toList.getD j 0).toNat : Int))) := fun j hj => Lib.bytesWorld_cell wr 5 t j hj
      generalize Lib.bytesWorld wr 5 t = W2 at HB2 HE2 HT ⊢
      go_loop [5, 27] (fun a i => ∃ (j : Nat) (la : Bool), j ≤ t.size ∧ i = .int .i64 j ∧ a = .bool la ∧ la = upto alpha t j ∧ upto alnum t j = true) (fun _ i => t.size - (intOf i).toNat)
      case atStart => exact ⟨0, true, Nat.zero_le _, rfl, rfl, (upto_zero alpha t).symm, upto_zero alnum t⟩
      case round =>
        obtain ⟨j, la, hj, rfl, rfl, hla, hnu⟩ := hrel
        have HLA := hide hla
        have HNU := hide hnu
        clear hla hnu
        by_cases hjt : j < t.size
        · have hcj := (unhide HT) j hjt
          have e1 : t.data.toList.getD j 0 = t[j] := by
            rw [List.getD, Lib.data_getElem? t j hjt]; rfl
          rw [e1] at hcj
          clear e1
          have HU := hide (upto_succ alpha t j hjt)
          have HV := hide (upto_succ alnum t j hjt)
          have HX := hide (fun (h : alnum t[j] = false) => ok_bad (f := decide (k = 0)) (all_bad alnum t j hjt h))
          generalize t[j] = x at hcj HU HV HX
          go_wp2
          all_goals first
            | (go_round
               case measure => simp [intOf]; omega
               case rel => first
                 | exact ⟨j + 1, la, by omega, by go_num, rfl, by rw [unhide HU, alpha_yes (by omega), Bool.and_true]; exact unhide HLA, by rw [unhide HV, unhide HNU, alnum_a (by omega)]; rfl⟩
                 | exact ⟨j + 1, false, by omega, by go_num, rfl, by rw [unhide HU, alpha_no (by omega), Bool.and_false], by rw [unhide HV, unhide HNU, alnum_d (by omega)]; rfl⟩)
            | (go_ret
               exact ⟨ret_bool (by rw [unhide HS, (unhide HX) (alnum_no (by omega) (by omega))]; rfl), unhide HB2⟩)
        · have hje : j = t.size := by omega
          subst hje
          have hA := unhide HLA
          have hN := unhide HNU
          rw [upto_end] at hA hN
          have HN2 := hide hN
          have HA2 := hide hA
          clear hA hN HLA HNU
          by_cases hk0 : k = 0
          · have tk : ((k : Int) == 0) = true := by rw [hk0]; rfl
            have hof : G = (la && decide (2 ≤ t.size) && decide (t.size ≤ 3) && left false (bs.drop (k + 1))) := by
              rw [unhide HS, decide_eq_true hk0, ok_first (by omega) (by omega) (unhide HN2), ← unhide HA2]
            have HOF := hide hof
            clear hk0 hof
            cases la
            · go_wp2
              go_ret
              exact ⟨ret_bool (by rw [unhide HOF]; rfl), unhide HB2⟩
            by_cases h3 : 3 < (t.size : Int)
            · have t3 : decide ((3 : Int) < (t.size : Int)) = true := decide_eq_true h3
              go_wp2
              go_ret
              exact ⟨ret_bool (by rw [unhide HOF, decide_eq_false (show ¬ t.size ≤ 3 by omega), Bool.and_false]; rfl), unhide HB2⟩
            have t3 : decide ((3 : Int) < (t.size : Int)) = false := decide_eq_false h3
            by_cases h2 : (t.size : Int) < 2
            · have t4 : decide ((t.size : Int) < 2) = true := decide_eq_true h2
              go_wp2
              go_ret
              exact ⟨ret_bool (by rw [unhide HOF, decide_eq_false (show ¬ 2 ≤ t.size by omega)]; rfl), unhide HB2⟩
            have t4 : decide ((t.size : Int) < 2) = false := decide_eq_false h2
            go_wp2
            go_roundw
            case measure => simp [intOf]; omega
            case rel => first
              | exact ⟨k + 1, by omega, by go_num, by rw [unhide HOF, decide_eq_true (show 2 ≤ t.size by omega), decide_eq_true (show t.size ≤ 3 by omega), decide_eq_false (show ¬ k + 1 = 0 by omega)]; rfl, unhide HE2⟩
              | ((repeat apply Exists.intro); exact ⟨⟨k + 1, by omega, by go_num, by rw [unhide HOF, decide_eq_true (show 2 ≤ t.size by omega), decide_eq_true (show t.size ≤ 3 by omega), decide_eq_false (show ¬ k + 1 = 0 by omega)]; rfl, unhide HE2⟩, rfl⟩)
          · have tk : ((k : Int) == 0) = false := beq_eq_false_iff_ne.2 (by omega)
            have hof : G = left false (bs.drop (k + 1)) := by
              rw [unhide HS, decide_eq_false hk0, ok_next (by omega) (by omega) (unhide HN2), Bool.true_and]
            have HOF := hide hof
            clear hk0 hof
            go_wp2
            go_roundw
            case measure => simp [intOf]; omega
            case rel => first
              | exact ⟨k + 1, by omega, by go_num, by rw [unhide HOF, decide_eq_false (show ¬ k + 1 = 0 by omega)], unhide HE2⟩
              | ((repeat apply Exists.intro); exact ⟨⟨k + 1, by omega, by go_num, by rw [unhide HOF, decide_eq_false (show ¬ k + 1 = 0 by omega)], unhide HE2⟩, rfl⟩)
    · have hke : k = bs.length := by omega
      have hfin : G = true := by rw [unhide HR, hke, List.drop_length, left_nil]
      have HF := hide hfin
      clear hke hfin
      go_wp2
      go_ret
      exact ⟨ret_bool (unhide HF).symm, (unhide HB).trans ((unhide HE).mono (unhide HB).size)⟩
end Go.Proofs.Qxb6601113aDoor
