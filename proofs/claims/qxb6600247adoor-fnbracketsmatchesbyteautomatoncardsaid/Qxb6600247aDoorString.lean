/-
  WALK of seat b6600247aD: (*MemberScanner).string and ZZString.
-/
import Derived.Test.Qxb6600247aDoorIdx
import Derived.Test.Qxb6600247aDoorClone
import Derived.Deep.QuietTactic
import Derived.BigQuiet
namespace Go.Proofs.Qxb6600247aDoor
open Go.RowKit Go.Deep
open Plain

/-- the scanner's three cells that these functions read and write. -/
structure Scan (w : World) (sb : Nat) (e q : Bool) (d : Int) : Prop where
  e : w.cell? ⟨sb, 5, none⟩ = some (.bool e)
  q : w.cell? ⟨sb, 6, none⟩ = some (.bool q)
  d : w.cell? ⟨sb, 7, none⟩ = some (.int .i64 d)
  fe : w.frozen? ⟨sb, 5, none⟩ = false
  fq : w.frozen? ⟨sb, 6, none⟩ = false
  fd : w.frozen? ⟨sb, 7, none⟩ = false
theorem Scan.lt {w : World} {sb : Nat} {e q : Bool} {d : Int} (h : Scan w sb e q d) : sb < w.heap.size := World.block_lt_of_cell? _ _ h.e
theorem Scan.below {w w' : World} {sb : Nat} {e q : Bool} {d : Int} (h : Scan w sb e q d) (hb : Below w.heap.size w w') : Scan w' sb e q d :=
  have l := h.lt
  ⟨(hb.cell (p := ⟨sb, 5, none⟩) l).trans h.e, (hb.cell (p := ⟨sb, 6, none⟩) l).trans h.q, (hb.cell (p := ⟨sb, 7, none⟩) l).trans h.d,
   (hb.frozen (p := ⟨sb, 5, none⟩) l).trans h.fe, (hb.frozen (p := ⟨sb, 6, none⟩) l).trans h.fq, (hb.frozen (p := ⟨sb, 7, none⟩) l).trans h.fd⟩

/-- what the walks lean on: the two tables, the one open variable, the text in a block below the scanner's. -/
structure Env (w : World) (sb : Nat) (p : Option Addr) (l : List UInt8) (m : Int) : Prop where
  T : Lib.Utf8Tabs 1 2 w
  m : w.cell? ⟨0, 0, none⟩ = some (.int .i64 m)
  b : 0 < l.length → ∃ b o, p = some ⟨b, o, none⟩ ∧ b < sb ∧ ∀ i, i < l.length → w.cell? ⟨b, o + i, none⟩ = some (.int .u8 ((l.getD i 0).toNat : Int))
  s : 2 < sb

def quotes : ByteArray := ⟨#[34, 92]⟩
theorem quotes_list : quotes.data.toList = [34, 92] := rfl
theorem quotes_asc : Asc quotes := fun j h => by
  have h' : j < 2 := h
  have : j = 0 ∨ j = 1 := by omega
  rcases this with rfl | rfl
  · exact (show (34 : UInt8).toNat < 128 from by decide)
  · exact (show (92 : UInt8).toNat < 128 from by decide)
theorem quotes_no {x : UInt8} (h : ([34, 92] : List UInt8).contains x = false) : x ≠ 34 ∧ x ≠ 92 := by simpa using h
theorem quotes_yes {x : UInt8} (h : ([34, 92] : List UInt8).contains x = true) : x = 34 ∨ x = 92 := by simpa using h

theorem Env.below {w w' : World} {sb : Nat} {p : Option Addr} {l : List UInt8} {m : Int} (h : Env w sb p l m) (hb : Below sb w w') : Env w' sb p l m where
  T := ⟨fun c hc => (hb.cell (p := ⟨1, c, none⟩) (by have := h.s; show 1 < sb; omega)).trans (h.T.1 c hc), fun i hi => ⟨(hb.cell (p := ⟨2, 2 * i, none⟩) h.s).trans (h.T.2 i hi).1, (hb.cell (p := ⟨2, 2 * i + 1, none⟩) h.s).trans (h.T.2 i hi).2⟩⟩
  m := (hb.cell (p := ⟨0, 0, none⟩) (by have := h.s; show 0 < sb; omega)).trans h.m
  b := fun h0 => by
    obtain ⟨b, o, hp, hlt, hc⟩ := h.b h0
    exact ⟨b, o, hp, hlt, fun i hi => (hb.cell (p := ⟨b, o + i, none⟩) hlt).trans (hc i hi)⟩
  s := h.s

/-- the search from place k on. -/
theorem ia_at {w : World} {sb : Nat} {b o : Nat} {l : List UInt8} {m : Int} (h : Env w sb (some ⟨b, o, none⟩) l m) (c k : Nat) (hk : k < l.length) (hl : l.length ≤ 1048576) (hlc : l.length ≤ c) (hcb : c ≤ 1048576)
    (cs : ByteArray) (h2 : 2 ≤ cs.size) (hc9 : cs.size < 4294967281) (ha : Asc cs) (r : Int) (hr : Lib.indexAny (l.drop k) cs.data.toList = r) :
    Calls Tryd.prog 31 #[.slice (some ⟨b, o + k, none⟩) (l.length - k) (c - k), .string cs] w fun e w' => e = .returned (.int .i64 r) ∧ Below w.heap.size w w' := by
  have := ia_any (some ⟨b, o + k, none⟩) (c - k) (l.drop k) cs w m (fun h0 => ⟨b, o + k, rfl, fun i hi => by
    obtain ⟨b', o', hp, _, hc⟩ := h.b (by omega)
    cases hp
    rw [List.length_drop] at hi
    rw [Nat.add_assoc, hc (k + i) (by omega)]
    simp [List.getD]⟩) (by simp; omega) (by simp; omega) (by omega) h.T h.m h2 hc9 ha
  rw [hr, List.length_drop] at this
  exact this

/-- the byte behind a stretch. -/
theorem at_mid {l a b : List UInt8} {x : UInt8} {k : Nat} (h : l.drop k = a ++ x :: b) : l.getD (k + a.length) 0 = x ∧ k + a.length < l.length ∧ l.drop (k + a.length + 1) = b ∧ l.length = k + a.length + 1 + b.length := by
  have hlen := congrArg List.length h
  simp at hlen
  have hk : k < l.length := by omega
  refine ⟨?_, by omega, ?_, by omega⟩
  · have : (l.drop k)[a.length]? = some x := by rw [h]; simp
    rw [List.getElem?_drop] at this
    simp [List.getD, this]
  · have : (l.drop k).drop (a.length + 1) = b := by rw [h, ← List.drop_drop]; simp
    rw [List.drop_drop] at this
    rw [← this]
    congr 1

theorem below_put {w0 w : World} {sb : Nat} (h : Below sb w0 w) (j : Nat) (v : Value) : Below sb w0 (w.setCell ⟨sb, j, none⟩ v) := h.setCell (p := ⟨sb, j, none⟩) (Nat.le_refl sb) v
theorem start_esc {l : List UInt8} {R : Nat × Bool × Bool} (h : strM true l = R) (h0 : 0 < l.length) : R = up 1 (strM false (l.drop 1)) := by
  rw [← h]
  cases l with
  | nil => simp at h0
  | cons c t => rfl
theorem cell_put {w : World} {a b : Addr} {v : Value} (h : b ≠ a) : (w.setCell a v).cell? b = w.cell? b := World.cell?_setCell_other _ _ _ _ (fun e => h e.symm)
theorem Scan.put_e {w : World} {sb : Nat} {e q : Bool} {d : Int} (h : Scan w sb e q d) (e' : Bool) : Scan (w.setCell ⟨sb, 5, none⟩ (.bool e')) sb e' q d where
  e := World.cell?_setCell_same' _ _ _ (by rw [h.e]; rfl)
  q := (cell_put (fun x => by cases x)).trans h.q
  d := (cell_put (fun x => by cases x)).trans h.d
  fe := by rw [World.frozen?_setCell]; exact h.fe
  fq := by rw [World.frozen?_setCell]; exact h.fq
  fd := by rw [World.frozen?_setCell]; exact h.fd
theorem fin_none {l : List UInt8} {R : Nat × Bool × Bool} {k : Nat} (h : R = up k (strM false (l.drop k))) (hk : k ≤ l.length) (hall : ∀ x ∈ l.drop k, x ≠ 34 ∧ x ≠ 92) : R = (l.length, false, false) := by
  rw [h, strM_none _ hall, up]
  simp
  omega

theorem fin_quote {l a t : List UInt8} {R : Nat × Bool × Bool} {k : Nat} (h : R = up k (strM false (l.drop k))) (hs : l.drop k = a ++ 34 :: t) (hall : ∀ x ∈ a, x ≠ 34 ∧ x ≠ 92) : R = (k + a.length + 1, true, false) := by
  rw [h, hs, strM_quote _ _ hall, up]; rfl
theorem fin_slash_end {l a : List UInt8} {R : Nat × Bool × Bool} {k : Nat} (h : R = up k (strM false (l.drop k))) (hs : l.drop k = a ++ [92]) (hall : ∀ x ∈ a, x ≠ 34 ∧ x ≠ 92) : R = (k + a.length + 1, false, true) := by
  rw [h, hs, strM_slash_end _ hall, up]; rfl
theorem fin_slash {l a t : List UInt8} {y : UInt8} {R : Nat × Bool × Bool} {k : Nat} (h : R = up k (strM false (l.drop k))) (hs : l.drop k = a ++ 92 :: y :: t) (hall : ∀ x ∈ a, x ≠ 34 ∧ x ≠ 92) :
    R = up (k + a.length + 2) (strM false (l.drop (k + a.length + 2))) := by
  have hd : l.drop (k + a.length + 2) = t := by
    have : (l.drop k).drop (a.length + 2) = t := by rw [hs, ← List.drop_drop]; simp
    rw [List.drop_drop] at this
    rw [← this]
    congr 1
  rw [hd, h, hs, strM_slash _ _ _ hall, up_up]
  congr 1
theorem ret2n {n : Int} {m : Nat} {b : Bool} (h : n = m) : Ending.returned (.tuple #[.int .i64 n, .bool b]) = .returned (.tuple #[.int .i64 (m : Int), .bool b]) := by rw [h]

set_option maxRecDepth 100000 in
set_option maxHeartbeats 8000000 in
theorem string_any (sb : Nat) (e q : Bool) (d : Int) (p : Option Addr) (c : Nat) (l : List UInt8) (w : World) (m : Int) (hE : Env w sb p l m) (hS : Scan w sb e q d) (hl : l.length ≤ 1048576) (hlc : l.length ≤ c) (hcb : c ≤ 1048576)
    (hne : e = true → 0 < l.length) :
    Calls Tryd.prog 27 #[.pointer (some ⟨sb, 0, none⟩), .slice p l.length c] w fun x w' => x = .returned (.tuple #[.int .i64 ((strM e l).1 : Int), .bool (strM e l).2.1]) ∧ Scan w' sb (strM e l).2.2 q d ∧ Below sb w w' := by
  have HE := hide hE
  have HN := hide hne
  have c5 := hS.e
  have f5 := hS.fe
  have HS := hide hS
  clear hE hne hS
  generalize hR : strM e l = R
  have HR := hide hR
  clear hR
  cases e
  all_goals
    go_enter Tryd.func27, Tryd.ntmps27
    go_wp2
    clear c5 f5
    go_loopw [6] (fun i wr => ∃ k : Nat, k ≤ l.length ∧ i = .int .i64 k ∧ R = up k (strM false (l.drop k)) ∧ Scan wr sb false q d ∧ Below sb w wr) (fun i _ => l.length - (intOf i).toNat)
    case atStart => first
      | exact ⟨0, by omega, rfl, by rw [up_zero, List.drop_zero]; exact (unhide HR).symm, unhide HS, Below.refl _ _⟩
      | exact ⟨1, (unhide HN) trivial, rfl, start_esc (unhide HR) ((unhide HN) trivial), (unhide HS).put_e _, below_put (Below.refl _ _) 5 _⟩
    case round =>
      obtain ⟨k, hk, rfl, hs, hsc, hbe⟩ := hrel
      have HS1 := hide hsc
      have HB1 := hide hbe
      have HR1 := hide hs
      clear hsc hbe hs
      by_cases hlt : k < l.length
      · obtain ⟨b, o, rfl, hblk, hc⟩ := (unhide HE).b (by omega)
        rcases idx_cases [34, 92] (l.drop k) with ⟨hj, hall⟩ | ⟨a, x, t, hsplit, hj, hall, hx⟩
        · have cI := ia_at ((unhide HE).below (unhide HB1)) c k hlt hl hlc hcb quotes (by decide) (by decide) quotes_asc (-1) hj
          have CI := hide cI
          have hfin : R = (l.length, false, false) := fin_none (unhide HR1) hk (fun y hy => quotes_no (hall y hy))
          have HF := hide hfin
          clear cI hj hall hfin hc
          go_wp2_with fail
          refine (unhide CI).mono ?_
          rintro e w1 ⟨rfl, hb1⟩
          have HB2 : Hid (Below sb w w1) := (unhide HB1).trans (hb1.mono (Nat.le_of_lt (unhide HS1).lt))
          have HS2 := hide ((unhide HS1).below hb1)
          clear hb1 CI
          go_wp2
          go_ret2
          rw [unhide HF]
          exact ⟨rfl, unhide HS2, unhide HB2⟩
        · have cI := ia_at ((unhide HE).below (unhide HB1)) c k hlt hl hlc hcb quotes (by decide) (by decide) quotes_asc (a.length : Int) hj
          have CI := hide cI
          obtain ⟨hxa, hlt2, hrest, hlen⟩ := at_mid hsplit
          have hcx := hc (k + a.length) hlt2
          rw [hxa] at hcx
          have HSP := hide hsplit
          have HAL := hide hall
          have HXX := hide (quotes_yes hx)
          have HRS := hide hrest
          have HLN := hide hlen
          clear cI hj hall hc hsplit hx hxa hrest hlen
          go_wp2_with fail
          refine (unhide CI).mono ?_
          rintro e w1 ⟨rfl, hb1⟩
          have HB2 : Hid (Below sb w w1) := (unhide HB1).trans (hb1.mono (Nat.le_of_lt (unhide HS1).lt))
          have HS2 := hide ((unhide HS1).below hb1)
          have hcx1 : w1.cell? ⟨b, o + (k + a.length), none⟩ = some (.int .u8 (x.toNat : Int)) := ((unhide HB2).cell (p := ⟨b, o + (k + a.length), none⟩) hblk).trans hcx
          have k5 := (unhide HS2).e
          have g5 := (unhide HS2).fe
          clear hb1 CI hcx
          rcases unhide HXX with hx34 | hx92
          · have t34 : ((x.toNat : Int) == 34) = true := by rw [hx34]; rfl
            have hfin : R = (k + a.length + 1, true, false) := fin_quote (unhide HR1) (by rw [unhide HSP, hx34]) (fun y hy => quotes_no ((unhide HAL) y hy))
            have HF := hide hfin
            clear hx34 hfin
            go_wp2
            go_ret2
            rw [unhide HF]
            exact ⟨ret2n (by omega), unhide HS2, unhide HB2⟩
          have t34 : ((x.toNat : Int) == 34) = false := by rw [hx92]; rfl
          cases ht : t with
          | nil =>
            have hfin : R = (k + a.length + 1, false, true) := fin_slash_end (unhide HR1) (by rw [unhide HSP, hx92, ht]) (fun y hy => quotes_no ((unhide HAL) y hy))
            have hln := unhide HLN
            rw [ht, List.length_nil] at hln
            have tEq : ((k : Int) + ((a.length : Int) + 1) == (l.length : Int)) = true := beq_iff_eq.2 (by omega)
            have HF := hide hfin
            have HL2 := hide hln
            clear hx92 hfin hln ht
            go_wp2
            go_ret2
            rw [unhide HF]
            have hln := unhide HL2
            exact ⟨ret2n (by omega), (unhide HS2).put_e _, (unhide HB2).setCell (Nat.le_refl _) _⟩
          | cons y t2 =>
            have hnx := fin_slash (k := k) (unhide HR1) (by rw [unhide HSP, hx92, ht]) (fun y hy => quotes_no ((unhide HAL) y hy))
            have hln := unhide HLN
            rw [ht, List.length_cons] at hln
            have tEq : ((k : Int) + ((a.length : Int) + 1) == (l.length : Int)) = false := beq_eq_false_iff_ne.2 (by omega)
            have hle : k + a.length + 2 ≤ l.length := by omega
            have HF := hide hnx
            clear hx92 hnx hln ht
            go_wp2
            go_roundw
            case measure => simp [intOf]; omega
            case rel => first
              | exact ⟨k + a.length + 2, hle, by go_num, unhide HF, unhide HS2, unhide HB2⟩
              | ((repeat apply Exists.intro); exact ⟨⟨k + a.length + 2, hle, by go_num, unhide HF, unhide HS2, unhide HB2⟩, rfl⟩)
      · go_wp2
        go_ret2
        have hkl : k = l.length := by omega
        have hfin : R = (l.length, false, false) := by rw [unhide HR1, hkl, List.drop_length]; rfl
        rw [hfin]
        exact ⟨ret2n (by omega), unhide HS1, unhide HB1⟩
theorem below_dn {B : Nat} {a w : World} (h : Below B a w) (n : Nat) : Below B a (w.drewN n) := h.trans ⟨rfl, rfl, rfl, Nat.le_refl _, fun _ _ => rfl⟩
/-- a scanner as the shim builds it. -/
theorem scan_new (w : World) (e q : Bool) (d : Int) : Scan (w.alloc (.cells #[.slice none 0 0, .int .i64 0, .slice none 0 0, .slice none 0 0, .int .i64 0, .bool e, .bool q, .int .i64 d, .int .i64 0, .slice none 0 0, .int .i64 0, .bool false] 48)) w.heap.size e q d := by
  have R := World.rowIs_alloc w #[.slice none 0 0, .int .i64 0, .slice none 0 0, .slice none 0 0, .int .i64 0, .bool e, .bool q, .int .i64 d, .int .i64 0, .slice none 0 0, .int .i64 0, .bool false] 48
    (fun i => #[.slice none 0 0, .int .i64 0, .slice none 0 0, .slice none 0 0, .int .i64 0, .bool e, .bool q, .int .i64 d, .int .i64 0, .slice none 0 0, .int .i64 0, .bool false].getD i undef)
    (fun i hi => by rw [Array.getElem?_eq_getElem hi]; simp only [Array.getD, hi, dif_pos]; rfl)
  exact ⟨R.cell (i := 5) (by simp), R.cell (i := 6) (by simp), R.cell (i := 7) (by simp), R.frozen 5, R.frozen 6, R.frozen 7⟩
theorem env_new {w : World} {p : Option Addr} {l : List UInt8} {m : Int} (hT : Lib.Utf8Tabs 1 2 w) (hm : w.cell? ⟨0, 0, none⟩ = some (.int .i64 m)) (hb : Bts w p l) (o : Obj) : Env (w.alloc o) w.heap.size p l m where
  T := tabs_below hT ((Below.refl _ _).alloc (Nat.le_refl _) _)
  m := (((Below.refl _ _).alloc (Nat.le_refl _) o).cell (p := ⟨0, 0, none⟩) (World.block_lt_of_cell? _ _ hm)).trans hm
  b := fun h => by
    obtain ⟨b, o', hp, hc⟩ := hb h
    have hlt : b < w.heap.size := World.block_lt_of_cell? _ _ (hc 0 h)
    exact ⟨b, o', hp, hlt, fun i hi => (((Below.refl _ _).alloc (Nat.le_refl _) o).cell (p := ⟨b, o' + i, none⟩) hlt).trans (hc i hi)⟩
  s := World.block_lt_of_cell? _ _ (hT.2 0 (by omega)).1

set_option maxRecDepth 100000 in
set_option maxHeartbeats 4000000 in
theorem zzString_any (e : Bool) (p : Option Addr) (c : Nat) (l : List UInt8) (w : World) (m : Int) (hT : Lib.Utf8Tabs 1 2 w) (hm : w.cell? ⟨0, 0, none⟩ = some (.int .i64 m)) (hb : Bts w p l) (hl : l.length ≤ 1048576) (hlc : l.length ≤ c) (hcb : c ≤ 1048576)
    (hne : e = true → 0 < l.length) :
    Calls Tryd.prog 15 #[.bool e, .slice p l.length c] w fun x w' => x = .returned (.tuple #[.int .i64 ((strM e l).1 : Int), .bool (strM e l).2.1, .bool (strM e l).2.2]) ∧ Below w.heap.size w w' := by
  have CS := hide (string_any w.heap.size e false 0 p c l _ m (env_new hT hm hb _) (scan_new w e false 0) hl hlc hcb hne)
  clear hT hm hb hne
  generalize strM e l = R at CS
  obtain ⟨n, cl, af⟩ := R
  go_enter Tryd.func15, Tryd.ntmps15
  go_wp2_with fail
  refine (unhide CS).mono ?_
  rintro x w1 ⟨rfl, hs1, hb1⟩
  have k5 := hs1.e
  have HB : Hid (Below w.heap.size w w1) := ((Below.refl _ _).alloc (Nat.le_refl _) _).trans hb1
  clear hs1 hb1 CS
  go_wp2_with fail
  go_quiet (fail)
  go_wp2
  go_ret3
  exact ⟨rfl, below_dn (unhide HB) _⟩
end Go.Proofs.Qxb6600247aDoor
