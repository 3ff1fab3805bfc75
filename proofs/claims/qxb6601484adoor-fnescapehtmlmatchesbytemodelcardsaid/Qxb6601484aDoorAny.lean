/-
  WALK of seat b6601484aD: bytes.IndexAny at an ASCII text of two or more bytes: Go's own text, road by road.
-/
import Derived.Test.Qxb6601484aDoorSmall
import Derived.Test.Qxb6601484aDoorDec
import Derived.Test.Qxb6601484aDoorShelf
import Derived.Lib.Bytealg
import Derived.Laws.RangeString
namespace Go.Proofs.Qxb6601484aDoor
open Go.RowKit Go.Deep

theorem run34 (s : ByteArray) (c : Int) (w : World) : (callFunc 14 #[.string s, .int .u8 c]).run Tryd.prog w = .ok (.value (.int .i64 (Lib.indexByte s.data.toList c.toNat.toUInt8))) w := by
  rw [run_callFunc_extern Tryd.func14 (by kernel_rfl) (by kernel_rfl) (by kernel_rfl) (e := Extern.BytealgIndexByte.indexByte) (by kernel_rfl), Lib.run_indexByteString]
  rfl

theorem isEmpty_of (s : ByteArray) (h : 1 ≤ s.size) : s.toList.isEmpty = false := by
  rw [Lib.toList_data]
  cases h' : s.data.toList with
  | nil => have := Lib.size_eq s; rw [h', List.length_nil] at this; omega
  | cons _ _ => rfl

set_option maxHeartbeats 1000000 in
/-- one byte, ASCII. -/
theorem ia_one_ascii (b o c : Nat) (x : UInt8) (cs : ByteArray) (w : World) (hc : w.cell? ⟨b, o, none⟩ = some (.int .u8 (x.toNat : Int))) (hx : x.toNat < 128) (h2 : 2 ≤ cs.size) :
    Calls Tryd.prog 12 #[.slice (some ⟨b, o, none⟩) 1 c, .string cs] w fun e w' => e = .returned (.int .i64 (Lib.indexAny [x] cs.data.toList)) ∧ w' = w := by
  have hemp := isEmpty_of cs (by omega)
  have hib := run34 cs (x.toNat : Int)
  have hback : ((x.toNat : Int)).toNat.toUInt8 = x := by simp
  rw [hback] at hib
  have hcon := Lib.contains_iff_indexByte cs.data.toList x
  have hx' : ¬ ((128 : Int) ≤ (x.toNat : Int)) := by omega
  clear hback
  generalize hR : Lib.indexByte cs.data.toList x = R at hib hcon
  have hfin : Lib.indexAny [x] cs.data.toList = if cs.data.toList.contains x then 0 else -1 := by
    simp [Lib.indexAny]
  rw [hfin]
  clear hR hfin
  generalize cs.data.toList.contains x = inn at hcon
  cases inn
  · have hR : ¬ (0 ≤ R) := of_decide_eq_false hcon.symm
    clear hcon
    go_enter Tryd.func12, Tryd.ntmps12
    go_wp2
    go_ret
    exact ⟨rfl, rfl⟩
  · have hR : 0 ≤ R := of_decide_eq_true hcon.symm
    clear hcon
    go_enter Tryd.func12, Tryd.ntmps12
    go_wp2
    go_ret
    exact ⟨rfl, rfl⟩

/-- the ASCII text: each byte of it, by its place. -/
def Asc (cs : ByteArray) : Prop := ∀ (j : Nat) (h : j < cs.size), (cs[j]'h).toNat < 128
theorem Asc.mem {cs : ByteArray} (h : Asc cs) : ∀ x ∈ cs.data.toList, x.toNat < 128 := by
  intro x hx
  obtain ⟨j, hj⟩ := List.getElem?_of_mem hx
  have hlt : j < cs.size := by
    rw [Lib.size_eq]
    exact (List.getElem?_eq_some_iff.1 hj).1
  rw [Lib.data_getElem? cs j hlt] at hj
  cases hj
  exact h j hlt
theorem Asc.no {cs : ByteArray} (h : Asc cs) {x : UInt8} (hx : 128 ≤ x.toNat) : cs.data.toList.contains x = false := by
  cases hc : cs.data.toList.contains x with
  | false => rfl
  | true => have := h.mem x (by simpa using hc); omega

set_option maxHeartbeats 2000000 in
/-- one byte, beyond ASCII. -/
theorem ia_one_hi (b o c : Nat) (x : UInt8) (cs : ByteArray) (w : World) (hc : w.cell? ⟨b, o, none⟩ = some (.int .u8 (x.toNat : Int))) (hx : 128 ≤ x.toNat) (h2 : 2 ≤ cs.size) (ha : Asc cs) :
    Calls Tryd.prog 12 #[.slice (some ⟨b, o, none⟩) 1 c, .string cs] w fun e w' => e = .returned (.int .i64 (Lib.indexAny [x] cs.data.toList)) ∧ Below w.heap.size w w' := by
  have hemp := isEmpty_of cs (by omega)
  have hx' : (128 : Int) ≤ (x.toNat : Int) := by omega
  have hfin : Lib.indexAny [x] cs.data.toList = -1 := by
    have := ha.no hx
    simp only [Lib.indexAny, this]
    rfl
  rw [hfin]
  clear hfin
  have HA := hide ha
  clear ha
  have hw32 : wrap32 (x.toNat : Int) = (x.toNat : Int) := by have := Dec.u8lt x; unfold wrap32; omega
  have hdd : decide ((128 : Int) ≤ (x.toNat : Int)) = true := decide_eq_true hx'
  go_enter Tryd.func12, Tryd.ntmps12
  go_wp2
  go_loopg [5] cs.size (fun g _ wx => ∃ i : Nat, i + g = cs.size ∧ wx = w.iter cs i)
  case atStart => exact ⟨0, by omega, rfl⟩
  case round =>
    obtain ⟨i, hig, rfl⟩ := hrel
    cases gk with
    | zero =>
      obtain rfl : i = cs.size := by omega
      have hnx := run_next_end (P := Tryd.prog) w cs cs.size
      go_wp2
      go_ret
      exact ⟨rfl, (Below.refl _ _).alloc (Nat.le_refl _) _⟩
    | succ g =>
      have hi : i < cs.size := by omega
      have h128 := unhide HA i hi
      have hnx := fun ty => run_next_ascii (P := Tryd.prog) w cs i ty hi h128
      generalize cs[i] = y at hnx h128
      have hne : ((y.toNat : Int) == 65533) = false := beq_eq_false_iff_ne.2 (by omega)
      go_wp2
      go_roundg g
      case measure => omega
      case rel => exact ⟨i + 1, by omega, rfl⟩

theorem run40 (a e : ByteArray) (w : World) (m : Int) (hm : w.cell? ⟨0, 0, none⟩ = some (.int .i64 m)) (h2 : 2 ≤ e.size) (he : (e.size : Int) ≤ m) (ha : a.size < 4294967281) (hi : Lib.index a.data.toList e.data.toList = -1) :
    (callFunc 20 #[.string a, .string e]).run Tryd.prog w = .ok (.value (.int .i64 (-1))) w := by
  rw [run_callFunc_extern Tryd.func20 (by kernel_rfl) (by kernel_rfl) (by kernel_rfl) (e := Extern.BytealgIndex.index) (by kernel_rfl), Lib.run_indexString a e w 0 m (by kernel_rfl) hm h2 he ha, hi]
  rfl

theorem ia_hit {l cs : List UInt8} {k : Nat} {x : UInt8} (h : Lib.NoAny l cs k) (hk : k < l.length) (hx : l.getD k 0 = x) (hin : cs.contains x = true) : Lib.indexAny l cs = k :=
  Lib.indexAny_hit h (by rw [List.getElem?_eq_getElem hk, ← hx]; simp [List.getD, hk]) hin
theorem ia_next {l cs : List UInt8} {k : Nat} {x : UInt8} (h : Lib.NoAny l cs k) (hk : k < l.length) (hx : l.getD k 0 = x) (hin : cs.contains x = false) : Lib.NoAny l cs (k + 1) :=
  h.succ (by rw [List.getElem?_eq_getElem hk, ← hx]; simp [List.getD, hk]) hin

theorem tabs_below {g1 g2 : Nat} {w w' : World} (h : Lib.Utf8Tabs g1 g2 w) (hb : Below w.heap.size w w') : Lib.Utf8Tabs g1 g2 w' := by
  have l1 : g1 < w.heap.size := World.block_lt_of_cell? _ _ (h.1 0 (by omega))
  have l2 : g2 < w.heap.size := World.block_lt_of_cell? _ _ (h.2 0 (by omega)).1
  exact ⟨fun c hc => (hb.cell (p := ⟨g1, c, none⟩) l1).trans (h.1 c hc), fun i hi => ⟨(hb.cell (p := ⟨g2, 2 * i, none⟩) l2).trans (h.2 i hi).1, (hb.cell (p := ⟨g2, 2 * i + 1, none⟩) l2).trans (h.2 i hi).2⟩⟩

/-- unicode/utf8.DecodeRune, by the shelf's contract. -/
theorem dec_any (b o c n : Nat) (t : List UInt8) (w : World) (r k : Nat) (hn : n = t.length) (hT : Lib.Utf8Tabs 1 2 w) (hc : ∀ i, i < t.length → w.cell? ⟨b, o + i, none⟩ = some (.int .u8 ((t.getD i 0).toNat : Int)))
    (hd : Lib.decodeGo (ByteArray.mk t.toArray) = (r, k)) :
    Calls Tryd.prog 19 #[.slice (some ⟨b, o, none⟩) n c] w fun e w' => e = .returned (.tuple #[.int .i32 (r : Int), .int .i64 (k : Int)]) ∧ Below w.heap.size w w' := by
  have hsz : (ByteArray.mk t.toArray).size = t.length := by simp [ByteArray.size]
  have := Any7.utf8_DecodeRune Tryd.lays32 (ByteArray.mk t.toArray) b o c w hT (fun j hj => by rw [Dec.get!_list]; exact hc j (by omega))
  rw [hd, hsz] at this
  rw [hn]
  exact this

set_option maxRecDepth 100000 in
set_option maxHeartbeats 8000000 in
theorem ia_short (p : Option Addr) (c : Nat) (l : List UInt8) (cs : ByteArray) (w : World) (m : Int) (hb : Bts w p l) (hl : l.length ≤ 8) (hl1 : l.length ≠ 1) (hlc : l.length ≤ c) (hcb : c ≤ 9223372036854775807)
    (hT : Lib.Utf8Tabs 1 2 w) (hm : w.cell? ⟨0, 0, none⟩ = some (.int .i64 m)) (h2 : 2 ≤ cs.size) (hc9 : cs.size < 4294967281) (ha : Asc cs) :
    Calls Tryd.prog 12 #[.slice p l.length c, .string cs] w fun e w' => e = .returned (.int .i64 (Lib.indexAny l cs.data.toList)) ∧ Below w.heap.size w w' := by
  have hemp := isEmpty_of cs (by omega)
  have hn1 : ((l.length : Int) == 1) = false := beq_eq_false_iff_ne.2 (by omega)
  have hcs1 : ((cs.size : Int) == 1) = false := beq_eq_false_iff_ne.2 (by omega)
  have h8 : decide ((8 : Int) < (l.length : Int)) = false := decide_eq_false (by omega)
  have HA := hide ha
  have HB := hide hb
  have HT := hide hT
  have HM := hide hm
  clear ha hb hT hm
  go_enter Tryd.func12, Tryd.ntmps12
  go_wp2
  go_loopw [12] (fun i wx => ∃ k : Nat, k ≤ l.length ∧ i = .int .i64 k ∧ Lib.NoAny l cs.data.toList k ∧ Below w.heap.size w wx) (fun i _ => l.length - (intOf i).toNat)
  case atStart => exact ⟨0, Nat.zero_le _, rfl, Lib.NoAny.zero _ _, Below.refl _ _⟩
  case round =>
    obtain ⟨k, hk, rfl, hno, hbe⟩ := hrel
    have HN := hide hno
    have HE := hide hbe
    clear hno hbe
    by_cases hlt : k < l.length
    · obtain ⟨b, o, rfl, hc⟩ := unhide HB (by omega)
      have hblk : b < w.heap.size := World.block_lt_of_cell? _ _ (hc k hlt)
      have hck : wr.cell? ⟨b, o + k, none⟩ = some (.int .u8 ((l.getD k 0).toNat : Int)) := ((unhide HE).cell (p := ⟨b, o + k, none⟩) hblk).trans (hc k hlt)
      generalize hxe : l.getD k 0 = x at hck
      have HX := hide hxe
      clear hxe hc
      have hw32 : wrap32 (x.toNat : Int) = (x.toNat : Int) := by have := Dec.u8lt x; unfold wrap32; omega
      by_cases hx : x.toNat < 128
      · have hx' : (x.toNat : Int) < 128 := by omega
        have hib := run34 cs (x.toNat : Int)
        have hback : ((x.toNat : Int)).toNat.toUInt8 = x := by simp
        rw [hback] at hib
        have hcon := Lib.contains_iff_indexByte cs.data.toList x
        clear hback
        generalize Lib.indexByte cs.data.toList x = R at hib hcon
        cases hin : cs.data.toList.contains x
        · rw [hin] at hcon
          have hR : ¬ (0 ≤ R) := of_decide_eq_false hcon.symm
          have HI := hide hin
          clear hcon hin
          go_wp2
          go_roundw
          case measure => simp [intOf]; omega
          case rel => exact ⟨k + 1, by omega, by go_num, ia_next (unhide HN) hlt (unhide HX) (unhide HI), unhide HE⟩
        · rw [hin] at hcon
          have hR : 0 ≤ R := of_decide_eq_true hcon.symm
          have HI := hide hin
          clear hcon hin
          go_wp2
          go_ret
          exact ⟨by rw [ia_hit (unhide HN) hlt (unhide HX) (unhide HI)]; rfl, unhide HE⟩
      · have hx' : ¬ ((x.toNat : Int) < 128) := by omega
        have hd0 : (l.drop k).getD 0 0 = x := by rw [← unhide HX]; simp [List.getD]
        obtain ⟨r, kk, hdec, hr1, hr2, hk1, hk2, hrun, henc, hrr⟩ := Dec.dec (l.drop k) (by simp; omega) (by rw [hd0]; omega)
        rw [List.length_drop] at hk2
        have HD := hide hdec
        have HR := hide hrun
        have HEN := hide henc
        have HRR := hide hrr
        clear hdec hrun henc hrr hd0
        have cD := dec_any b (o + k) (c - k) (l.length - k) (l.drop k) wr r kk (by simp) (tabs_below (unhide HT) (unhide HE)) (fun i hi => by
          have hi' : k + i < l.length := by simp at hi; omega
          rw [(unhide HE).cell (p := ⟨b, o + k + i, none⟩) hblk, Nat.add_assoc]
          obtain ⟨b', o', hp, hc⟩ := unhide HB (by omega)
          cases hp
          rw [hc (k + i) hi']
          simp [List.getD]) (unhide HD)
        have CD := hide cD
        have HNX : Hid (Lib.NoAny l cs.data.toList (k + kk)) := Dec.no_run (unhide HA).mem (unhide HN) (unhide HR)
        have hne0 : (Utf8.encode (r : Int)).data.toList ≠ [] ∨ r = 65533 := by
          by_cases h : r = 65533
          · exact .inr h
          · refine .inl fun e => ?_
            have := (unhide HRR h)
            have h3 := Lib.size_eq (Utf8.encode (r : Int))
            rw [e, List.length_nil] at h3
            omega
        have HNE := hide hne0
        clear cD hne0
        go_wp2_with fail
        refine (unhide CD).mono ?_
        rintro e w1 ⟨rfl, hbe1⟩
        have HE1 : Hid (Below w.heap.size w w1) := (unhide HE).trans (hbe1.mono (unhide HE).size)
        clear hbe1 CD hck
        by_cases hre : r = 65533
        · have hrb : ((r : Int) != 65533) = false := by simp [hre]
          have hr3 : (128 : Int) ≤ (r : Int) := by omega
          clear hre
          go_wp2
          go_loopg [15] cs.size (fun g _ wx => ∃ i : Nat, i + g = cs.size ∧ wx = w1.iter cs i)
          case atStart => exact ⟨0, by omega, rfl⟩
          case round =>
            obtain ⟨i, hig, rfl⟩ := hrel
            cases gk with
            | zero =>
              obtain rfl : i = cs.size := by omega
              have hnx := run_next_end (P := Tryd.prog) w1 cs cs.size
              go_wp2
              go_roundw
              case measure => simp [intOf]; omega
              case rel => ((repeat apply Exists.intro); exact ⟨⟨k + kk, by omega, by go_num, unhide HNX, (unhide HE1).alloc (unhide HE1).size _⟩, rfl⟩)
            | succ g =>
              have hi : i < cs.size := by omega
              have h128 := unhide HA i hi
              have hnx := fun ty => run_next_ascii (P := Tryd.prog) w1 cs i ty hi h128
              generalize cs[i] = y at hnx h128
              have hne : ((r : Int) == (y.toNat : Int)) = false := beq_eq_false_iff_ne.2 (by omega)
              go_wp2
              go_roundg g
              case measure => omega
              case rel => exact ⟨i + 1, by omega, rfl⟩
        · have hrb : ((r : Int) != 65533) = true := by simp; omega
          obtain ⟨hk2', hsz⟩ := unhide HRR hre
          have hnt : (Utf8.encode (r : Int)).data.toList ≠ [] := (unhide HNE).resolve_right hre
          have hneq : cs.data.toList ≠ (Utf8.encode (r : Int)).data.toList := Dec.ne_text _ _ (unhide HA).mem (unhide HEN) hnt
          have hocc := Dec.not_occ cs.data.toList (Utf8.encode (r : Int)).data.toList (unhide HA).mem (unhide HEN) hnt
          have hgl : 0 < w.heap.size := World.block_lt_of_cell? _ _ (unhide HM)
          have hm1 : w1.cell? ⟨0, 0, none⟩ = some (.int .i64 m) := ((unhide HE1).cell (p := ⟨0, 0, none⟩) hgl).trans (unhide HM)
          have hr3 : (128 : Int) ≤ (r : Int) := by omega
          have hbq : (cs.toList == (Utf8.encode (r : Int)).toList) = false := by
            rw [Lib.toList_data, Lib.toList_data]; exact beq_eq_false_iff_ne.2 hneq
          have HO := hide hocc
          have HS := hide hsz
          clear hneq hocc hsz hnt hre hgl
          by_cases hw : cs.size = kk
          · have hw' : ((cs.size : Int) == (kk : Int)) = true := by simp [hw]
            clear hw
            go_wp2
            go_roundw
            case measure => simp [intOf]; omega
            case rel => ((repeat apply Exists.intro); exact ⟨⟨k + kk, by omega, by go_num, unhide HNX, unhide HE1⟩, rfl⟩)
          have hw' : ((cs.size : Int) == (kk : Int)) = false := beq_eq_false_iff_ne.2 (by omega)
          clear hw
          by_cases hmk : (kk : Int) ≤ m
          · have h40 := run40 cs (Utf8.encode (r : Int)) w1 m hm1 (by rw [unhide HS]; omega) (by rw [unhide HS]; exact hmk) hc9 (unhide HO)
            go_wp2
            go_roundw
            case measure => simp [intOf]; omega
            case rel => ((repeat apply Exists.intro); exact ⟨⟨k + kk, by omega, by go_num, unhide HNX, unhide HE1⟩, rfl⟩)
          have hdm : decide ((kk : Int) ≤ m) = false := decide_eq_false hmk
          clear hmk
          go_wp2_with fail
          go_loopg [15] cs.size (fun g _ wx => ∃ i : Nat, i + g = cs.size ∧ wx = w1.iter cs i)
          case atStart => exact ⟨0, by omega, rfl⟩
          case round =>
            obtain ⟨i, hig, rfl⟩ := hrel
            cases gk with
            | zero =>
              obtain rfl : i = cs.size := by omega
              have hnx := run_next_end (P := Tryd.prog) w1 cs cs.size
              go_wp2
              go_roundw
              case measure => simp [intOf]; omega
              case rel => ((repeat apply Exists.intro); exact ⟨⟨k + kk, by omega, by go_num, unhide HNX, (unhide HE1).alloc (unhide HE1).size _⟩, rfl⟩)
            | succ g =>
              have hi : i < cs.size := by omega
              have h128 := unhide HA i hi
              have hnx := fun ty => run_next_ascii (P := Tryd.prog) w1 cs i ty hi h128
              generalize cs[i] = y at hnx h128
              have hne : ((r : Int) == (y.toNat : Int)) = false := beq_eq_false_iff_ne.2 (by omega)
              go_wp2
              go_roundg g
              case measure => omega
              case rel => exact ⟨i + 1, by omega, rfl⟩
    · go_wp2
      go_ret
      exact ⟨by rw [Lib.indexAny_none (by have h : k = l.length := by omega
                                          rw [← h]; exact unhide HN)]; rfl, unhide HE⟩

end Go.Proofs.Qxb6601484aDoor
