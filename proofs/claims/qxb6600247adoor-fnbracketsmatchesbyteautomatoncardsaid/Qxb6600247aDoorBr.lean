/-
  WALK of seat b6600247aD: (*MemberScanner).brackets and ZZBrackets.
-/
import Derived.Test.Qxb6600247aDoorString
import Derived.Test.Qxb6600247aDoorBrM
import Derived.Test.Qxb6600247aDoorPlain2
namespace Go.Proofs.Qxb6600247aDoor
open Go.RowKit Go.Deep
open Plain

def five : ByteArray := ⟨#[34, 123, 125, 91, 93]⟩
theorem five_list : five.data.toList = marks := rfl
theorem five_asc : Asc five := fun j h => by
  have h' : j < 5 := h
  have : j = 0 ∨ j = 1 ∨ j = 2 ∨ j = 3 ∨ j = 4 := by omega
  rcases this with rfl | rfl | rfl | rfl | rfl
  · exact (show (34 : UInt8).toNat < 128 from by decide)
  · exact (show (123 : UInt8).toNat < 128 from by decide)
  · exact (show (125 : UInt8).toNat < 128 from by decide)
  · exact (show (91 : UInt8).toNat < 128 from by decide)
  · exact (show (93 : UInt8).toNat < 128 from by decide)

theorem Scan.put_q {w : World} {sb : Nat} {e q : Bool} {d : Int} (h : Scan w sb e q d) (q' : Bool) : Scan (w.setCell ⟨sb, 6, none⟩ (.bool q')) sb e q' d where
  e := (cell_put (fun x => by cases x)).trans h.e
  q := World.cell?_setCell_same' _ _ _ (by rw [h.q]; rfl)
  d := (cell_put (fun x => by cases x)).trans h.d
  fe := by rw [World.frozen?_setCell]; exact h.fe
  fq := by rw [World.frozen?_setCell]; exact h.fq
  fd := by rw [World.frozen?_setCell]; exact h.fd
theorem Scan.put_d {w : World} {sb : Nat} {e q : Bool} {d : Int} (h : Scan w sb e q d) (d' : Int) : Scan (w.setCell ⟨sb, 7, none⟩ (.int .i64 d')) sb e q d' where
  e := (cell_put (fun x => by cases x)).trans h.e
  q := (cell_put (fun x => by cases x)).trans h.q
  d := World.cell?_setCell_same' _ _ _ (by rw [h.d]; rfl)
  fe := by rw [World.frozen?_setCell]; exact h.fe
  fq := by rw [World.frozen?_setCell]; exact h.fq
  fd := by rw [World.frozen?_setCell]; exact h.fd

/-- the scanner's string from place k on. -/
theorem string_at {w : World} {sb : Nat} {b o : Nat} {l : List UInt8} {m : Int} {e q : Bool} {d : Int} (h : Env w sb (some ⟨b, o, none⟩) l m) (hS : Scan w sb e q d) (c k : Nat) (hk : k < l.length) (hl : l.length ≤ 1048576) (hlc : l.length ≤ c) (hcb : c ≤ 1048576) (n : Nat) (cl af : Bool) (hr : strM e (l.drop k) = (n, cl, af)) :
    Calls Tryd.prog 27 #[.pointer (some ⟨sb, 0, none⟩), .slice (some ⟨b, o + k, none⟩) (l.length - k) (c - k)] w fun x w' => x = .returned (.tuple #[.int .i64 (n : Int), .bool cl]) ∧ Scan w' sb af q d ∧ Below sb w w' := by
  have hE : Env w sb (some ⟨b, o + k, none⟩) (l.drop k) m := ⟨h.T, h.m, fun h0 => by
    obtain ⟨b', o', hp, hlt, hc⟩ := h.b (by omega)
    cases hp
    refine ⟨b, o + k, rfl, hlt, fun i hi => ?_⟩
    rw [List.length_drop] at hi
    rw [Nat.add_assoc, hc (k + i) (by omega)]
    simp [List.getD], h.s⟩
  have := string_any sb e q d (some ⟨b, o + k, none⟩) (c - k) (l.drop k) w m hE hS (by rw [List.length_drop]; omega) (by rw [List.length_drop]; omega) (by omega) (fun _ => by rw [List.length_drop]; omega)
  rw [hr, List.length_drop] at this
  exact this

theorem bs_str {R : Br} {l : List UInt8} {k : Nat} {e : Bool} {d : Int} {n : Nat} {cl af : Bool} (h : R = bup k (brM ⟨true, e, d⟩ (l.drop k))) (hr : strM e (l.drop k) = (n, cl, af)) : R = bup (k + n) (brM ⟨!cl, af, d⟩ (l.drop (k + n))) := by
  rw [h, br_str, hr, bup_bup, List.drop_drop]
theorem bs_none {R : Br} {l : List UInt8} {k : Nat} {e : Bool} {d : Int} (h : R = bup k (brM ⟨false, e, d⟩ (l.drop k))) (hk : k ≤ l.length) (hall : ∀ x ∈ l.drop k, marks.contains x = false) : R = ⟨l.length, false, ⟨false, e, d⟩⟩ := by
  rw [h, br_none _ _ _ hall, bup]
  simp
  omega
theorem bs_mark {R : Br} {l a t : List UInt8} {x : UInt8} {k : Nat} {e : Bool} {d : Int} (h : R = bup k (brM ⟨false, e, d⟩ (l.drop k))) (hs : l.drop k = a ++ x :: t) (hall : ∀ y ∈ a, marks.contains y = false)
    {q' e' : Bool} {d' : Int} (hz : nextZ false e d (x.toNat : Int) = (false, q', e', d')) : R = bup (k + a.length + 1) (brM ⟨q', e', d'⟩ (l.drop (k + a.length + 1))) := by
  obtain ⟨_, _, hd, _⟩ := at_mid hs
  rw [nextZ_eq] at hz
  simp only [Prod.mk.injEq] at hz
  obtain ⟨h1, rfl, rfl, rfl⟩ := hz
  rw [hd, h, hs, br_pre _ _ _ _ hall, brM, h1, if_neg (by decide), bup_bup, bup_bup, Nat.add_assoc]
theorem bs_close {R : Br} {l a t : List UInt8} {x : UInt8} {k : Nat} {e : Bool} {d : Int} (h : R = bup k (brM ⟨false, e, d⟩ (l.drop k))) (hs : l.drop k = a ++ x :: t) (hall : ∀ y ∈ a, marks.contains y = false)
    {q' e' : Bool} {d' : Int} (hz : nextZ false e d (x.toNat : Int) = (true, q', e', d')) : R = ⟨k + a.length + 1, true, ⟨q', e', d'⟩⟩ := by
  rw [nextZ_eq] at hz
  simp only [Prod.mk.injEq] at hz
  obtain ⟨h1, rfl, rfl, rfl⟩ := hz
  rw [h, hs, br_pre _ _ _ _ hall, brM, h1, if_pos rfl, bup_bup, bup]

set_option maxRecDepth 100000 in
set_option maxHeartbeats 16000000 in
theorem brackets_any (sb : Nat) (e q : Bool) (d : Int) (p : Option Addr) (c : Nat) (l : List UInt8) (w : World) (m : Int) (hE : Env w sb p l m) (hS : Scan w sb e q d) (hl : l.length ≤ 1048576) (hlc : l.length ≤ c) (hcb : c ≤ 1048576) (hd1 : 1 ≤ d) (hd2 : d ≤ 1074790400) :
    Calls Tryd.prog 25 #[.pointer (some ⟨sb, 0, none⟩), .slice p l.length c] w fun x w' => x = .returned (.tuple #[.int .i64 ((brM ⟨q, e, d⟩ l).n : Int), .bool (brM ⟨q, e, d⟩ l).c]) ∧ Scan w' sb (brM ⟨q, e, d⟩ l).s.e (brM ⟨q, e, d⟩ l).s.q (brM ⟨q, e, d⟩ l).s.d ∧ Below sb w w' := by
  have HE := hide hE
  have HS := hide hS
  clear hE hS
  generalize hR : brM ⟨q, e, d⟩ l = R
  have HR := hide hR
  clear hR
  go_enter Tryd.func25, Tryd.ntmps25
  go_wp2
  go_loopw [6] (fun i wr => ∃ (k : Nat) (qk ek : Bool) (dk : Int), k ≤ l.length ∧ i = .int .i64 k ∧ R = bup k (brM ⟨qk, ek, dk⟩ (l.drop k)) ∧ Scan wr sb ek qk dk ∧ Below sb w wr ∧ 1 ≤ dk ∧ dk ≤ d + k) (fun i _ => l.length - (intOf i).toNat)
  case atStart => exact ⟨0, q, e, d, Nat.zero_le _, rfl, by rw [bup_zero, List.drop_zero]; exact (unhide HR).symm, unhide HS, Below.refl _ _, hd1, by omega⟩
  case round =>
    obtain ⟨k, qk, ek, dk, hk, rfl, hs, hsc, hbe, hk1, hk2⟩ := hrel
    have HS1 := hide hsc
    have HB1 := hide hbe
    have HR1 := hide hs
    clear hsc hbe hs
    by_cases hlt : k < l.length
    · obtain ⟨b, o, rfl, hblk, hc⟩ := (unhide HE).b (by omega)
      have c6 := (unhide HS1).q
      cases qk
      · rcases idx_cases marks (l.drop k) with ⟨hj, hall⟩ | ⟨a, x, t, hsplit, hj, hall, hx⟩
        · have CI := hide (ia_at ((unhide HE).below (unhide HB1)) c k hlt hl hlc hcb five (by decide) (by decide) five_asc (-1) hj)
          have HF := hide (bs_none (unhide HR1) hk hall)
          clear hj hall hc
          go_wp2_with fail
          refine (unhide CI).mono ?_
          rintro e w1 ⟨rfl, hb1⟩
          have HB2 : Hid (Below sb w w1) := (unhide HB1).trans (hb1.mono (Nat.le_of_lt (unhide HS1).lt))
          have HS2 := hide ((unhide HS1).below hb1)
          clear hb1 CI
          go_wp2
          go_ret2
          rw [unhide HF]
          exact ⟨rfl, unhide HS2, unhide HB2⟩
        · have CI := hide (ia_at ((unhide HE).below (unhide HB1)) c k hlt hl hlc hcb five (by decide) (by decide) five_asc (a.length : Int) hj)
          obtain ⟨hxa, hlt2, hrest, hlen⟩ := at_mid hsplit
          have hcx := hc (k + a.length) hlt2
          rw [hxa] at hcx
          have HSP := hide hsplit
          have HAL := hide hall
          have HXX := hide (marks_yes hx)
          clear hj hall hc hsplit hx hxa hrest hlen
          go_wp2_with fail
          refine (unhide CI).mono ?_
          rintro e w1 ⟨rfl, hb1⟩
          have HB2 : Hid (Below sb w w1) := (unhide HB1).trans (hb1.mono (Nat.le_of_lt (unhide HS1).lt))
          have HS2 := hide ((unhide HS1).below hb1)
          have hcx1 : w1.cell? ⟨b, o + (k + a.length), none⟩ = some (.int .u8 (x.toNat : Int)) := ((unhide HB2).cell (p := ⟨b, o + (k + a.length), none⟩) hblk).trans hcx
          have k6 := (unhide HS2).q
          have g6 := (unhide HS2).fq
          have k7 := (unhide HS2).d
          have g7 := (unhide HS2).fd
          clear hb1 CI hcx c6
          have tz : (dk == 0) = false := beq_eq_false_iff_ne.2 (by omega)
          have tz1 : (dk + 1 == 0) = false := beq_eq_false_iff_ne.2 (by omega)
          rcases unhide HXX with hx1 | hx1 | hx1 | hx1 | hx1
          · have hnz : nextZ false ek dk (x.toNat : Int) = (false, true, ek, dk) := by rw [hx1]; rfl
            have t34 : ((x.toNat : Int) == 34) = true := by rw [hx1]; rfl
            have t123 : ((x.toNat : Int) == 123) = false := by rw [hx1]; rfl
            have t91 : ((x.toNat : Int) == 91) = false := by rw [hx1]; rfl
            have HF := hide (bs_mark (unhide HR1) (unhide HSP) (unhide HAL) hnz)
            clear hnz hx1
            go_wp2
            go_roundw
            case measure => simp [intOf]; omega
            case rel => first
              | exact ⟨k + a.length + 1, true, ek, dk, by omega, by go_num, unhide HF, (unhide HS2).put_q _, below_put (unhide HB2) 6 _, by omega, by omega⟩
              | ((repeat apply Exists.intro); exact ⟨⟨k + a.length + 1, true, ek, dk, by omega, by go_num, unhide HF, (unhide HS2).put_q _, below_put (unhide HB2) 6 _, by omega, by omega⟩, rfl⟩)
          · have hnz : nextZ false ek dk (x.toNat : Int) = (false, false, ek, dk + 1) := by rw [hx1]; rfl
            have t34 : ((x.toNat : Int) == 34) = false := by rw [hx1]; rfl
            have t123 : ((x.toNat : Int) == 123) = true := by rw [hx1]; rfl
            have t91 : ((x.toNat : Int) == 91) = false := by rw [hx1]; rfl
            have HF := hide (bs_mark (unhide HR1) (unhide HSP) (unhide HAL) hnz)
            clear hnz hx1
            go_wp2
            go_roundw
            case measure => simp [intOf]; omega
            case rel => first
              | exact ⟨k + a.length + 1, false, ek, dk + 1, by omega, by go_num, unhide HF, (unhide HS2).put_d _, below_put (unhide HB2) 7 _, by omega, by omega⟩
              | ((repeat apply Exists.intro); exact ⟨⟨k + a.length + 1, false, ek, dk + 1, by omega, by go_num, unhide HF, (unhide HS2).put_d _, below_put (unhide HB2) 7 _, by omega, by omega⟩, rfl⟩)
          · by_cases h1 : dk = 1
            · have hnz : nextZ false ek dk (x.toNat : Int) = (true, false, ek, dk - 1) := by rw [hx1, h1]; rfl
              have t34 : ((x.toNat : Int) == 34) = false := by rw [hx1]; rfl
              have t123 : ((x.toNat : Int) == 123) = false := by rw [hx1]; rfl
              have t91 : ((x.toNat : Int) == 91) = false := by rw [hx1]; rfl
              have tz2 : (dk - 1 == 0) = true := beq_iff_eq.2 (by omega)
              have HF := hide (bs_close (unhide HR1) (unhide HSP) (unhide HAL) hnz)
              clear hnz hx1 h1
              go_wp2
              go_ret2
              rw [unhide HF]
              exact ⟨ret2n (m := k + a.length + 1) (by omega), (unhide HS2).put_d _, below_put (unhide HB2) 7 _⟩
            have hnz : nextZ false ek dk (x.toNat : Int) = (false, false, ek, dk - 1) := by
              rw [hx1]
              have hdd : decide (dk - 1 = 0) = false := decide_eq_false (by omega)
              show (decide (dk - 1 = 0), false, ek, dk - 1) = _
              rw [hdd]
            have t34 : ((x.toNat : Int) == 34) = false := by rw [hx1]; rfl
            have t123 : ((x.toNat : Int) == 123) = false := by rw [hx1]; rfl
            have t91 : ((x.toNat : Int) == 91) = false := by rw [hx1]; rfl
            have tz2 : (dk - 1 == 0) = false := beq_eq_false_iff_ne.2 (by omega)
            have HF := hide (bs_mark (unhide HR1) (unhide HSP) (unhide HAL) hnz)
            clear hnz hx1
            go_wp2
            go_roundw
            case measure => simp [intOf]; omega
            case rel => first
              | exact ⟨k + a.length + 1, false, ek, dk - 1, by omega, by go_num, unhide HF, (unhide HS2).put_d _, below_put (unhide HB2) 7 _, by omega, by omega⟩
              | ((repeat apply Exists.intro); exact ⟨⟨k + a.length + 1, false, ek, dk - 1, by omega, by go_num, unhide HF, (unhide HS2).put_d _, below_put (unhide HB2) 7 _, by omega, by omega⟩, rfl⟩)
          · have hnz : nextZ false ek dk (x.toNat : Int) = (false, false, ek, dk + 1) := by rw [hx1]; rfl
            have t34 : ((x.toNat : Int) == 34) = false := by rw [hx1]; rfl
            have t123 : ((x.toNat : Int) == 123) = false := by rw [hx1]; rfl
            have t91 : ((x.toNat : Int) == 91) = true := by rw [hx1]; rfl
            have HF := hide (bs_mark (unhide HR1) (unhide HSP) (unhide HAL) hnz)
            clear hnz hx1
            go_wp2
            go_roundw
            case measure => simp [intOf]; omega
            case rel => first
              | exact ⟨k + a.length + 1, false, ek, dk + 1, by omega, by go_num, unhide HF, (unhide HS2).put_d _, below_put (unhide HB2) 7 _, by omega, by omega⟩
              | ((repeat apply Exists.intro); exact ⟨⟨k + a.length + 1, false, ek, dk + 1, by omega, by go_num, unhide HF, (unhide HS2).put_d _, below_put (unhide HB2) 7 _, by omega, by omega⟩, rfl⟩)
          · by_cases h1 : dk = 1
            · have hnz : nextZ false ek dk (x.toNat : Int) = (true, false, ek, dk - 1) := by rw [hx1, h1]; rfl
              have t34 : ((x.toNat : Int) == 34) = false := by rw [hx1]; rfl
              have t123 : ((x.toNat : Int) == 123) = false := by rw [hx1]; rfl
              have t91 : ((x.toNat : Int) == 91) = false := by rw [hx1]; rfl
              have tz2 : (dk - 1 == 0) = true := beq_iff_eq.2 (by omega)
              have HF := hide (bs_close (unhide HR1) (unhide HSP) (unhide HAL) hnz)
              clear hnz hx1 h1
              go_wp2
              go_ret2
              rw [unhide HF]
              exact ⟨ret2n (m := k + a.length + 1) (by omega), (unhide HS2).put_d _, below_put (unhide HB2) 7 _⟩
            have hnz : nextZ false ek dk (x.toNat : Int) = (false, false, ek, dk - 1) := by
              rw [hx1]
              have hdd : decide (dk - 1 = 0) = false := decide_eq_false (by omega)
              show (decide (dk - 1 = 0), false, ek, dk - 1) = _
              rw [hdd]
            have t34 : ((x.toNat : Int) == 34) = false := by rw [hx1]; rfl
            have t123 : ((x.toNat : Int) == 123) = false := by rw [hx1]; rfl
            have t91 : ((x.toNat : Int) == 91) = false := by rw [hx1]; rfl
            have tz2 : (dk - 1 == 0) = false := beq_eq_false_iff_ne.2 (by omega)
            have HF := hide (bs_mark (unhide HR1) (unhide HSP) (unhide HAL) hnz)
            clear hnz hx1
            go_wp2
            go_roundw
            case measure => simp [intOf]; omega
            case rel => first
              | exact ⟨k + a.length + 1, false, ek, dk - 1, by omega, by go_num, unhide HF, (unhide HS2).put_d _, below_put (unhide HB2) 7 _, by omega, by omega⟩
              | ((repeat apply Exists.intro); exact ⟨⟨k + a.length + 1, false, ek, dk - 1, by omega, by go_num, unhide HF, (unhide HS2).put_d _, below_put (unhide HB2) 7 _, by omega, by omega⟩, rfl⟩)
      · generalize hr : strM ek (l.drop k) = S
        obtain ⟨n, cl, af⟩ := S
        have CS := hide (string_at ((unhide HE).below (unhide HB1)) (unhide HS1) c k hlt hl hlc hcb n cl af hr)
        have hn1 : 1 ≤ n := by have := strM_pos ek (l.drop k) (by intro h; have := congrArg List.length h; simp at this; omega); rw [hr] at this; exact this
        have hn2 : n ≤ l.length - k := by have := strM_le ek (l.drop k); rw [hr, List.length_drop] at this; exact this
        have HF := hide (bs_str (unhide HR1) hr)
        clear hr hc
        go_wp2_with fail
        refine (unhide CS).mono ?_
        rintro e w1 ⟨rfl, hs1, hb1⟩
        have HB2 : Hid (Below sb w w1) := (unhide HB1).trans hb1
        have HS2 := hide hs1
        have k6 := hs1.q
        have g6 := hs1.fq
        clear hb1 hs1 CS c6
        go_wp2
        go_roundw
        case measure => simp [intOf]; omega
        case rel => first
          | exact ⟨k + n, !cl, af, dk, by omega, by go_num, unhide HF, (unhide HS2).put_q _, below_put (unhide HB2) 6 _, hk1, by omega⟩
          | ((repeat apply Exists.intro); exact ⟨⟨k + n, !cl, af, dk, by omega, by go_num, unhide HF, (unhide HS2).put_q _, below_put (unhide HB2) 6 _, hk1, by omega⟩, rfl⟩)
    · go_wp2
      go_ret2
      have hkl : k = l.length := by omega
      have hfin : R = ⟨l.length, false, ⟨qk, ek, dk⟩⟩ := by rw [unhide HR1, hkl, List.drop_length]; rfl
      rw [hfin]
      exact ⟨rfl, unhide HS1, unhide HB1⟩

set_option maxRecDepth 100000 in
set_option maxHeartbeats 4000000 in
theorem zzBrackets_any (q e : Bool) (d : Int) (p : Option Addr) (c : Nat) (l : List UInt8) (w : World) (m : Int) (hT : Lib.Utf8Tabs 1 2 w) (hm : w.cell? ⟨0, 0, none⟩ = some (.int .i64 m)) (hb : Bts w p l) (hl : l.length ≤ 1048576) (hlc : l.length ≤ c) (hcb : c ≤ 1048576)
    (hd1 : 1 ≤ d) (hd2 : d ≤ 1074790400) :
    Calls Tryd.prog 11 #[.bool q, .bool e, .int .i64 d, .slice p l.length c] w fun x w' => x = .returned (brV (brM ⟨q, e, d⟩ l)) ∧ Below w.heap.size w w' := by
  have CS := hide (brackets_any w.heap.size e q d p c l _ m (env_new hT hm hb _) (scan_new w e q d) hl hlc hcb hd1 hd2)
  clear hT hm hb
  generalize brM ⟨q, e, d⟩ l = R at CS
  obtain ⟨n, cl, qa, ea, da⟩ := R
  dsimp only at CS
  go_enter Tryd.func11, Tryd.ntmps11
  go_wp2_with fail
  refine (unhide CS).mono ?_
  rintro x w1 ⟨rfl, hs1, hb1⟩
  have k5 := hs1.e
  have k6 := hs1.q
  have k7 := hs1.d
  have HB : Hid (Below w.heap.size w w1) := ((Below.refl _ _).alloc (Nat.le_refl _) _).trans hb1
  clear hs1 hb1 CS
  go_wp2_with fail
  go_quiet (fail)
  go_wp2
  ((try simp only [Exit.inBlock, Exit.then]); refine bodyPost_ret (results_tmp5 rfl _ _ _) rfl ?_)
  exact ⟨rfl, below_dn (unhide HB) _⟩
end Go.Proofs.Qxb6600247aDoor
