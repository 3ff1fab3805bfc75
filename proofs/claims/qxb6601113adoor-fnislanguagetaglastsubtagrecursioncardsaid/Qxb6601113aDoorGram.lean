/-
  WALK of seat b6601113aD: zzTagGrammar.
-/
import Derived.Test.Qxb6601113aDoorSmall
namespace Go.Proofs.Qxb6601113aDoor
open Go.RowKit
open Plain

def seg (s : ByteArray) (st k : Nat) : List UInt8 := (s.data.toList.drop st).take (k - st)
def scanAt (s : ByteArray) (f : Bool) (st k : Nat) : Bool := scan f (seg s st k) (s.data.toList.drop k)

theorem seg_len (s : ByteArray) (st k : Nat) (hk : k ≤ s.size) : (seg s st k).length = k - st := by
  unfold seg
  rw [List.length_take, List.length_drop, ← Lib.size_eq]
  omega
theorem seg_self (s : ByteArray) (k : Nat) : seg s k k = [] := by unfold seg; simp
theorem seg_snoc (s : ByteArray) (st k : Nat) (h : st ≤ k) (hk : k < s.size) : seg s st k ++ [s[k]] = seg s st (k + 1) := by
  unfold seg
  have h2 : k - st < (s.data.toList.drop st).length := by rw [List.length_drop, ← Lib.size_eq]; omega
  rw [show k + 1 - st = (k - st) + 1 by omega, List.take_succ_eq_append_getElem h2]
  congr 2
  rw [List.getElem_drop]
  have e : st + (k - st) = k := by omega
  simp only [e]
  rfl
theorem scanAt_start (s : ByteArray) : scanAt s true 0 0 = isTag s.data.toList := by
  unfold scanAt
  rw [seg_self, List.drop_zero, scan_tag]
theorem scanAt_char (s : ByteArray) (f : Bool) (st k : Nat) (h : st ≤ k) (hk : k < s.size) (hc : s[k] ≠ 45) : scanAt s f st k = (alnum s[k] && scanAt s f st (k + 1)) := by
  unfold scanAt
  rw [at_byte s k hk, scan, if_neg hc, seg_snoc s st k h hk]
theorem scanAt_hyphen (s : ByteArray) (f : Bool) (st k : Nat) (hk : k < s.size) (hc : s[k] = 45) : scanAt s f st k = (chk f (seg s st k) && scanAt s false (k + 1) (k + 1)) := by
  unfold scanAt
  rw [at_byte s k hk, scan, if_pos hc, seg_self]
theorem scanAt_end (s : ByteArray) (f : Bool) (st : Nat) : scanAt s f st s.size = chk f (seg s st s.size) := by
  unfold scanAt
  rw [List.drop_of_length_le (by rw [← Lib.size_eq]; exact Nat.le_refl _), scan]
theorem extract_seg (s : ByteArray) (st k : Nat) : (s.extract st k).data.toList = seg s st k := by
  rw [Lib.extract_data]
  rfl

theorem chk_len (s : ByteArray) (f : Bool) (st k : Nat) (hk : k ≤ s.size) (hst : st ≤ k) (h : ((k : Int) - (st : Int) < 1) ∨ (8 < (k : Int) - (st : Int))) : chk f (seg s st k) = false := by
  unfold chk
  rw [seg_len s st k hk]
  rcases h with h | h
  · rw [decide_eq_false (show ¬ 1 ≤ k - st by omega)]; rfl
  · rw [decide_eq_false (show ¬ k - st ≤ 8 by omega), Bool.and_false]; rfl
theorem chk_next (s : ByteArray) (st k : Nat) (hk : k ≤ s.size) (_hst : st ≤ k) (h1 : 1 ≤ (k : Int) - (st : Int)) (h2 : (k : Int) - (st : Int) ≤ 8) : chk false (seg s st k) = true := by
  unfold chk
  rw [seg_len s st k hk, decide_eq_true (show 1 ≤ k - st by omega), decide_eq_true (show k - st ≤ 8 by omega)]
  rfl
theorem chk_short (s : ByteArray) (st k : Nat) (hk : k ≤ s.size) (hst : st ≤ k) (h : ((k : Int) - (st : Int) < 2) ∨ (3 < (k : Int) - (st : Int))) : chk true (seg s st k) = false := by
  unfold chk
  rw [seg_len s st k hk]
  rcases h with h | h
  · rw [decide_eq_false (show ¬ 2 ≤ k - st by omega)]; simp
  · rw [decide_eq_false (show ¬ k - st ≤ 3 by omega)]; simp
theorem chk_first (s : ByteArray) (st k : Nat) (hk : k ≤ s.size) (_hst : st ≤ k) (h1 : 2 ≤ (k : Int) - (st : Int)) (h2 : (k : Int) - (st : Int) ≤ 3) : chk true (seg s st k) = (seg s st k).all alpha := by
  unfold chk
  rw [seg_len s st k hk, decide_eq_true (show 1 ≤ k - st by omega), decide_eq_true (show k - st ≤ 8 by omega), decide_eq_true (show 2 ≤ k - st by omega), decide_eq_true (show k - st ≤ 3 by omega)]
  simp

set_option maxRecDepth 100000 in
set_option maxHeartbeats 4000000 in
theorem gram_any (s : ByteArray) (w : World) (hs : s.size ≤ 1048576) :
    Calls Tryd.prog 8 #[.string s] w fun e w' => e = .returned (.bool (isTag s.data.toList)) ∧ w' = w := by
  rw [← scanAt_start]
  generalize hG : scanAt s true 0 0 = G
  go_enter Tryd.func8, Tryd.ntmps8
  go_wp2
  go_loop [3, 4, 5] (fun a b i => ∃ (st k : Nat) (f : Bool), a = .int .i64 st ∧ b = .bool f ∧ i = .int .i64 k ∧ st ≤ k ∧ ((k ≤ s.size ∧ G = scanAt s f st k) ∨ (k = s.size + 1 ∧ G = true))) (fun _ _ i => s.size + 1 - (intOf i).toNat)
  case atStart => exact ⟨0, 0, true, rfl, rfl, rfl, Nat.le_refl _, .inl ⟨Nat.zero_le _, hG.symm⟩⟩
  case round =>
    clear hG
    obtain ⟨st, k, f, rfl, rfl, rfl, hst, hr | hr⟩ := hrel
    · obtain ⟨hk, hr⟩ := hr
      have HR := hide hr
      clear hr
      by_cases hlt : k < s.size
      · by_cases hc : s[k] = 45
        · have t1 : (((s[k]).toNat : Int) != 45) = false := by rw [hc]; rfl
          have HY := hide (scanAt_hyphen s f st k hlt hc)
          clear hc
          have hex : (s.extract st k).size ≤ 1048576 := by rw [Lib.size_eq, extract_seg, seg_len s st k hk]; omega
          have cA := hide (allAlpha_any (s.extract st k) w hex)
          rw [extract_seg] at cA
          have hcf := chk_first s st k hk hst
          generalize (seg s st k).all alpha = A at cA hcf
          have HCF := hide hcf
          clear hex hcf
          cases f
          · go_wp2_with fail
            · go_ret
              exact ⟨ret_bool (by rw [unhide HR, unhide HY, chk_len s false st k hk hst (by omega)]; rfl), rfl⟩
            · go_round
              case measure => simp [intOf]; omega
              case rel => exact ⟨k + 1, k + 1, false, by go_num, rfl, by go_num, Nat.le_refl _, .inl ⟨by omega, by rw [unhide HR, unhide HY, chk_next s st k hk hst (by omega) (by omega), Bool.true_and]⟩⟩
            · go_ret
              exact ⟨ret_bool (by rw [unhide HR, unhide HY, chk_len s false st k hk hst (by omega)]; rfl), rfl⟩
          · cases A
            · go_wp2_with (go_at_call 10; refine (unhide cA).mono ?_; rintro e w' ⟨rfl, rfl⟩)
              all_goals (go_ret; first
                | exact ⟨ret_bool (by rw [unhide HR, unhide HY, chk_len s true st k hk hst (by omega)]; rfl), rfl⟩
                | exact ⟨ret_bool (by rw [unhide HR, unhide HY, chk_short s st k hk hst (by omega)]; rfl), rfl⟩
                | exact ⟨ret_bool (by rw [unhide HR, unhide HY, (unhide HCF) (by omega) (by omega)]; rfl), rfl⟩)
            · go_wp2_with (go_at_call 10; refine (unhide cA).mono ?_; rintro e w' ⟨rfl, rfl⟩)
              all_goals first
                | (go_round
                   case measure => simp [intOf]; omega
                   case rel => exact ⟨k + 1, k + 1, false, by go_num, rfl, by go_num, Nat.le_refl _, .inl ⟨by omega, by rw [unhide HR, unhide HY, (unhide HCF) (by omega) (by omega), Bool.true_and]⟩⟩)
                | (go_ret
                   exact ⟨ret_bool (by rw [unhide HR, unhide HY, chk_len s true st k hk hst (by omega)]; rfl), rfl⟩)
                | (go_ret
                   exact ⟨ret_bool (by rw [unhide HR, unhide HY, chk_short s st k hk hst (by omega)]; rfl), rfl⟩)
        · have t1 : (((s[k]).toNat : Int) != 45) = true := by
            rw [bne_iff_ne]
            intro e
            apply hc
            apply UInt8.toNat.inj
            show (s[k]).toNat = 45
            omega
          have hy := scanAt_char s f st k hst hlt hc
          have cA := hide (isAlnum_any (s[k]) w)
          cases ha : alnum s[k]
          · rw [ha] at cA hy
            have HY := hide hy
            clear ha hy hc
            go_wp2_with (go_at_call 16; refine (unhide cA).mono ?_; rintro e w' ⟨rfl, rfl⟩)
            go_ret
            exact ⟨ret_bool (by rw [unhide HR, unhide HY]; rfl), rfl⟩
          · rw [ha] at cA hy
            have HY := hide hy
            clear ha hy hc
            go_wp2_with (go_at_call 16; refine (unhide cA).mono ?_; rintro e w' ⟨rfl, rfl⟩)
            go_round
            case measure => simp [intOf]; omega
            case rel => exact ⟨st, k + 1, f, rfl, rfl, by go_num, by omega, .inl ⟨by omega, by rw [unhide HR, unhide HY, Bool.true_and]⟩⟩
      · have hke : k = s.size := by omega
        have HY : Hid (scanAt s f st k = chk f (seg s st k)) := by rw [hke]; exact scanAt_end s f st
        have t0 : decide ((k : Int) < (s.size : Int)) = false := decide_eq_false (by omega)
        have HK := hide hke
        clear hke
        have hex : (s.extract st k).size ≤ 1048576 := by rw [Lib.size_eq, extract_seg, seg_len s st k hk]; omega
        have cA := hide (allAlpha_any (s.extract st k) w hex)
        rw [extract_seg] at cA
        have hcf := chk_first s st k hk hst
        generalize (seg s st k).all alpha = A at cA hcf
        have HCF := hide hcf
        clear hex hcf
        cases f
        · go_wp2_with fail
          · go_ret
            exact ⟨ret_bool (by rw [unhide HR, unhide HY, chk_len s false st k hk hst (by omega)]), rfl⟩
          · go_round
            case measure => simp [intOf]; omega
            case rel => exact ⟨k + 1, k + 1, false, by go_num, rfl, by go_num, Nat.le_refl _, .inr ⟨by omega, by rw [unhide HR, unhide HY, chk_next s st k hk hst (by omega) (by omega)]⟩⟩
          · go_ret
            exact ⟨ret_bool (by rw [unhide HR, unhide HY, chk_len s false st k hk hst (by omega)]), rfl⟩
        · cases A
          · go_wp2_with (go_at_call 10; refine (unhide cA).mono ?_; rintro e w' ⟨rfl, rfl⟩)
            all_goals (go_ret; first
              | exact ⟨ret_bool (by rw [unhide HR, unhide HY, chk_len s true st k hk hst (by omega)]), rfl⟩
              | exact ⟨ret_bool (by rw [unhide HR, unhide HY, chk_short s st k hk hst (by omega)]), rfl⟩
              | exact ⟨ret_bool (by rw [unhide HR, unhide HY, (unhide HCF) (by omega) (by omega)]), rfl⟩)
          · go_wp2_with (go_at_call 10; refine (unhide cA).mono ?_; rintro e w' ⟨rfl, rfl⟩)
            all_goals first
              | (go_round
                 case measure => simp [intOf]; omega
                 case rel => exact ⟨k + 1, k + 1, false, by go_num, rfl, by go_num, Nat.le_refl _, .inr ⟨by omega, by rw [unhide HR, unhide HY, (unhide HCF) (by omega) (by omega)]⟩⟩)
              | (go_ret
                 exact ⟨ret_bool (by rw [unhide HR, unhide HY, chk_len s true st k hk hst (by omega)]), rfl⟩)
              | (go_ret
                 exact ⟨ret_bool (by rw [unhide HR, unhide HY, chk_short s st k hk hst (by omega)]), rfl⟩)
    · obtain ⟨hk, hr⟩ := hr
      have HR := hide hr
      have t0 : ¬ ((k : Int) ≤ (s.size : Int)) := by omega
      clear hr hk
      go_wp2
      go_ret
      exact ⟨ret_bool (unhide HR).symm, rfl⟩
end Go.Proofs.Qxb6601113aDoor
