/-
  WALKS of seat b6601621aD: parseDecimal, ZZparseDecimal.
-/
import Derived.Test.Qxb6601621aDoorScal
import Derived.Laws.ResultCell
import Derived.BigQuiet
namespace Go.Proofs.Qxb6601621aDoor
open Go.RowKit
open Plain

theorem pre_any (s : List UInt8) (c : UInt8) (b : Bool) (w : World) (h : ([c].isPrefixOf s) = b) :
    Calls Tryd.prog 17 #[.string (str s), .string ⟨#[c]⟩] w fun e w' => e = .returned (.bool b) ∧ w' = w := by
  have := Any.strings_HasPrefix Tryd.lays99 (str s) ⟨#[c]⟩ w
  rw [str_data] at this
  rw [← h]
  exact this
theorem tl_any (s : List UInt8) (w : World) :
    Calls Tryd.prog 20 #[.string (str s), .string ⟨#[48]⟩] w fun e w' => e = .returned (.string (str (dD s))) ∧ w' = w := by
  have := Any.strings_TrimLeft_one Tryd.lays161 (str s) 48 (by decide) w
  rw [str_data] at this
  exact this
theorem tr_any (s : List UInt8) (w : World) (hs : s.length ≤ 1000) :
    Calls Tryd.prog 21 #[.string (str (dD s)), .string ⟨#[48]⟩] w fun e w' => e = .returned (.string (str (dT s))) ∧ w' = w := by
  have := Any.strings_TrimRight_one Tryd.lays162 (str (dD s)) 48 (by decide) w (by rw [str_size]; have := dD_le s; omega)
  rw [str_data] at this
  exact this

theorem ne_list {s : ByteArray} (h : 0 < s.size) : ¬ s.toList = [] := fun e => by
  rw [Lib.toList_data] at e
  rw [Lib.size_eq, e] at h
  exact absurd h (by decide)

set_option maxHeartbeats 400000 in
theorem load31 (w : World) (n : Bool) (s : ByteArray) (e : Int) (O : Obj) :
    (loadVar 31 ⟨w.heap.size, 0, none⟩).run Tryd.prog ((w.alloc (.cells #[.bool n, .string s, .int .i64 e] 31)).alloc O) = .ok (.agg #[.bool n, .string s, .int .i64 e]) ((w.alloc (.cells #[.bool n, .string s, .int .i64 e] 31)).alloc O) := by
  go_simp
theorem ret13 (tmps : Array Value) (w : World) (n : Bool) (s : ByteArray) (e : Int) (O : Obj) (b : Value) (h2 : tmps.getD 2 undef = .pointer (some ⟨w.heap.size, 0, none⟩)) (h3 : tmps.getD 3 undef = b) :
    (results Tryd.f13 tmps).run Tryd.prog ((w.alloc (.cells #[.bool n, .string s, .int .i64 e] 31)).alloc O) = .ok (.tuple #[.agg #[.bool n, .string s, .int .i64 e], b]) ((w.alloc (.cells #[.bool n, .string s, .int .i64 e] 31)).alloc O) := by
  rw [results_cell_tmp (fn := Tryd.f13) (p := 2) (u := 3) (ty := 31) rfl, h2, h3]
  simp only [asAddr, Sem.run_pure, Result.andThen, load31]

set_option maxHeartbeats 1000000 in
/-- the walk, at strings known by what their pieces are. -/
theorem parse_core (neg : Bool) (tx rs ip r1 fp ds tr : ByteArray) (w : World)
    (c1 : ∀ w, Calls Tryd.prog 17 #[.string tx, .string ⟨#[45]⟩] w fun e w' => e = .returned (.bool neg) ∧ w' = w)
    (c2 : ∀ w, Calls Tryd.prog 18 #[.string rs] w fun e w' => e = .returned (.string ip) ∧ w' = w)
    (c3 : ∀ w, Calls Tryd.prog 17 #[.string r1, .string ⟨#[46]⟩] w fun e w' => e = .returned (.bool true) ∧ w' = w)
    (c4 : ∀ w, Calls Tryd.prog 18 #[.string fp] w fun e w' => e = .returned (.string fp) ∧ w' = w)
    (c5 : ∀ w, Calls Tryd.prog 20 #[.string (ip ++ fp), .string ⟨#[48]⟩] w fun e w' => e = .returned (.string ds) ∧ w' = w)
    (c6 : ∀ w, Calls Tryd.prog 21 #[.string ds, .string ⟨#[48]⟩] w fun e w' => e = .returned (.string tr) ∧ w' = w)
    (hrs : rs.size = ip.size + r1.size) (hr1 : r1.size = 1 + fp.size) (hsm : ip.size + fp.size ≤ 100) (hds : ds.size ≤ ip.size + fp.size) (htr : tr.size ≤ ds.size)
    (hip : 0 < ip.size) (hz : ∀ _ : 1 < ip.size, (ip[0]'hip) ≠ 48) (hfp : 0 < fp.size)
    (hpos : neg = false → tx = rs) (hneg : neg = true → tx.size = 1 + rs.size ∧ tx.extract 1 tx.size = rs)
    (x1 : rs.extract ip.size rs.size = r1) (x2 : r1.extract 1 r1.size = fp) :
    Calls Tryd.prog 13 #[.string tx] w fun e w' => e = .returned (.tuple #[.agg #[.bool neg, .string tr, .int .i64 ((ds.size : Int) - (tr.size : Int) - (fp.size : Int))], .bool true]) ∧ Below w.heap.size w w' := by
  have C1 := hide c1
  have C2 := hide c2
  have C3 := hide c3
  have C4 := hide c4
  have C5 := hide c5
  have C6 := hide c6
  clear c1 c2 c3 c4 c5 c6
  rw [hrs, hr1] at x1
  rw [hr1] at x2
  have hne1 := ne_list hip
  have hem1 : ip.toList.isEmpty = false := by rw [List.isEmpty_eq_false_iff]; exact hne1
  have hne2 := ne_list hfp
  have hem2 : fp.toList.isEmpty = false := by rw [List.isEmpty_eq_false_iff]; exact hne2
  have HZ := hide hz
  clear hz
  by_cases hone : 1 < ip.size
  · have h48 : (((ip[0]'hip).toNat : Int) == 48) = false := beq_eq_false_iff_ne.2 (fun e => (unhide HZ) hone (UInt8.toNat_inj.1 (by have h48 : (48 : UInt8).toNat = 48 := rfl; omega)))
    cases neg
    · have e := hpos rfl
      subst e
      clear hpos hneg
      go_enter Tryd.func13, Tryd.ntmps13
      go_wp2_with fail
      refine ((unhide C1) _).mono ?_
      rintro e w1 ⟨rfl, rfl⟩
      go_wp2_with fail
      refine ((unhide C2) _).mono ?_
      rintro e w1 ⟨rfl, rfl⟩
      go_wp2_with fail
      refine ((unhide C3) _).mono ?_
      rintro e w1 ⟨rfl, rfl⟩
      go_wp2_with fail
      refine ((unhide C4) _).mono ?_
      rintro e w1 ⟨rfl, rfl⟩
      go_wp2_with fail
      refine ((unhide C5) _).mono ?_
      rintro e w1 ⟨rfl, rfl⟩
      go_wp2_with fail
      refine ((unhide C6) _).mono ?_
      rintro e w1 ⟨rfl, rfl⟩
      go_wp2_with fail
      (try simp only [Exit.inBlock, Exit.then])
      refine bodyPost_ret (ret13 _ w _ _ _ _ _ rfl rfl) rfl ⟨rfl, ((Below.refl _ _).alloc (Nat.le_refl _) _).alloc (by simp) _⟩
    · obtain ⟨htx, x0⟩ := hneg rfl
      clear hpos hneg
      rw [hrs, hr1] at htx
      rw [htx] at x0
      go_enter Tryd.func13, Tryd.ntmps13
      go_wp2_with fail
      refine ((unhide C1) _).mono ?_
      rintro e w1 ⟨rfl, rfl⟩
      go_wp2_with fail
      refine ((unhide C2) _).mono ?_
      rintro e w1 ⟨rfl, rfl⟩
      go_wp2_with fail
      refine ((unhide C3) _).mono ?_
      rintro e w1 ⟨rfl, rfl⟩
      go_wp2_with fail
      refine ((unhide C4) _).mono ?_
      rintro e w1 ⟨rfl, rfl⟩
      go_wp2_with fail
      refine ((unhide C5) _).mono ?_
      rintro e w1 ⟨rfl, rfl⟩
      go_wp2_with fail
      refine ((unhide C6) _).mono ?_
      rintro e w1 ⟨rfl, rfl⟩
      go_wp2_with fail
      (try simp only [Exit.inBlock, Exit.then])
      refine bodyPost_ret (ret13 _ w _ _ _ _ _ rfl rfl) rfl ⟨rfl, ((Below.refl _ _).alloc (Nat.le_refl _) _).alloc (by simp) _⟩
  · have t1 : decide ((1 : Int) < (ip.size : Int)) = false := decide_eq_false (by omega)
    cases neg
    · have e := hpos rfl
      subst e
      clear hpos hneg
      go_enter Tryd.func13, Tryd.ntmps13
      go_wp2_with fail
      refine ((unhide C1) _).mono ?_
      rintro e w1 ⟨rfl, rfl⟩
      go_wp2_with fail
      refine ((unhide C2) _).mono ?_
      rintro e w1 ⟨rfl, rfl⟩
      go_wp2_with fail
      refine ((unhide C3) _).mono ?_
      rintro e w1 ⟨rfl, rfl⟩
      go_wp2_with fail
      refine ((unhide C4) _).mono ?_
      rintro e w1 ⟨rfl, rfl⟩
      go_wp2_with fail
      refine ((unhide C5) _).mono ?_
      rintro e w1 ⟨rfl, rfl⟩
      go_wp2_with fail
      refine ((unhide C6) _).mono ?_
      rintro e w1 ⟨rfl, rfl⟩
      go_wp2_with fail
      (try simp only [Exit.inBlock, Exit.then])
      refine bodyPost_ret (ret13 _ w _ _ _ _ _ rfl rfl) rfl ⟨rfl, ((Below.refl _ _).alloc (Nat.le_refl _) _).alloc (by simp) _⟩
    · obtain ⟨htx, x0⟩ := hneg rfl
      clear hpos hneg
      rw [hrs, hr1] at htx
      rw [htx] at x0
      go_enter Tryd.func13, Tryd.ntmps13
      go_wp2_with fail
      refine ((unhide C1) _).mono ?_
      rintro e w1 ⟨rfl, rfl⟩
      go_wp2_with fail
      refine ((unhide C2) _).mono ?_
      rintro e w1 ⟨rfl, rfl⟩
      go_wp2_with fail
      refine ((unhide C3) _).mono ?_
      rintro e w1 ⟨rfl, rfl⟩
      go_wp2_with fail
      refine ((unhide C4) _).mono ?_
      rintro e w1 ⟨rfl, rfl⟩
      go_wp2_with fail
      refine ((unhide C5) _).mono ?_
      rintro e w1 ⟨rfl, rfl⟩
      go_wp2_with fail
      refine ((unhide C6) _).mono ?_
      rintro e w1 ⟨rfl, rfl⟩
      go_wp2_with fail
      (try simp only [Exit.inBlock, Exit.then])
      refine bodyPost_ret (ret13 _ w _ _ _ _ _ rfl rfl) rfl ⟨rfl, ((Below.refl _ _).alloc (Nat.le_refl _) _).alloc (by simp) _⟩
def sgn (neg : Bool) : List UInt8 := if neg then [45] else []
/-- the text of a number: sign, whole part, point, fraction. -/
def text (neg : Bool) (I F : List UInt8) : List UInt8 := sgn neg ++ (I ++ 46 :: F)
theorem dig_no (c : UInt8) (h : isDig c) (n : UInt8) (hn : n.toNat < 48) : (n == c) = false := beq_eq_false_iff_ne.2 (fun e => by
  unfold isDig at h
  rw [← e] at h
  omega)

/-- parseDecimal at such a text. -/
theorem parse_any (neg : Bool) (I F : List UInt8) (w : World) (hI : ∀ c ∈ I, isDig c) (hF : ∀ c ∈ F, isDig c) (hi : ∃ c t, I = c :: t ∧ (c = 48 → t = [])) (hf : 0 < F.length) (hl : I.length + F.length ≤ 100) :
    Calls Tryd.prog 13 #[.string (str (text neg I F))] w fun e w' => e = .returned (.tuple #[.agg #[.bool neg, .string (str (dT (I ++ F))), .int .i64 (((dD (I ++ F)).length : Int) - ((dT (I ++ F)).length : Int) - (F.length : Int))], .bool true]) ∧ Below w.heap.size w w' := by
  obtain ⟨c, t, rfl, hc⟩ := hi
  have hcd := hI c (List.mem_cons_self ..)
  have hlt : 0 < (c :: t).length := by simp
  have hip : 0 < (str (c :: t)).size := by rw [str_size]; exact hlt
  have h := parse_core neg (str (text neg (c :: t) F)) (str ((c :: t) ++ 46 :: F)) (str (c :: t)) (str (46 :: F)) (str F) (str (dD ((c :: t) ++ F))) (str (dT ((c :: t) ++ F))) w
    (fun w => pre_any _ 45 neg w (by
      cases neg
      · have h0 : text false (c :: t) F = c :: (t ++ 46 :: F) := rfl
        rw [h0]
        simp [List.isPrefixOf, dig_no c hcd 45 (by decide)]
      · have h0 : text true (c :: t) F = 45 :: ((c :: t) ++ 46 :: F) := rfl
        rw [h0]
        simp [List.isPrefixOf]))
    (fun w => lead_any (c :: t) (46 :: F) w (by rw [List.length_append, List.length_cons (a := 46)]; omega) hI (fun c t e => by cases e; unfold isDig; decide))
    (fun w => pre_any (46 :: F) 46 true w (by simp [List.isPrefixOf]))
    (fun w => by
      have := lead_any F [] w (by rw [List.append_nil]; omega) hF (fun c t e => by cases e)
      rw [List.append_nil] at this
      exact this)
    (fun w => by rw [str_add]; exact tl_any _ w)
    (fun w => tr_any _ w (by rw [List.length_append]; omega))
    (by rw [str_size, str_size, str_size, List.length_append])
    (by rw [str_size, str_size, List.length_cons]; omega)
    (by rw [str_size, str_size]; omega)
    (by
      rw [str_size, str_size, str_size]
      have := dD_le ((c :: t) ++ F)
      rw [List.length_append] at this
      exact this)
    (by rw [str_size, str_size]; exact dT_le _)
    hip
    (fun h1 e => by
      rw [str_at (c :: t) 0 hip hlt] at e
      have := hc e
      rw [str_size, this] at h1
      simp at h1)
    (by rw [str_size]; exact hf)
    (fun e => by rw [e]; rfl)
    (fun e => by
      rw [e]
      have h0 : text true (c :: t) F = 45 :: ((c :: t) ++ 46 :: F) := rfl
      rw [h0]
      refine ⟨by rw [str_size, str_size, List.length_cons]; omega, ?_⟩
      rw [str_from]
      rfl)
    (by rw [str_size (c :: t), str_from, List.drop_left' rfl])
    (by rw [str_from]; rfl)
  rw [str_size, str_size, str_size] at h
  exact h

theorem below_dn {B : Nat} {a w : World} (h : Below B a w) (n : Nat) : Below B a (w.drewN n) := h.trans ⟨rfl, rfl, rfl, Nat.le_refl _, fun _ _ => rfl⟩
theorem results_tmp4 {fn : Func} {a b c d : Tmp} (h : fn.results = #[.tmp a, .tmp b, .tmp c, .tmp d]) (tmps : Array Value) (P : Program) (w : World) :
    (results fn tmps).run P w = .ok (.tuple #[tmps.getD a undef, tmps.getD b undef, tmps.getD c undef, tmps.getD d undef]) w := by
  simp [results, h]

set_option maxHeartbeats 1000000 in
/-- the shim lays the decimal open. -/
theorem zparse_on (tx tr : ByteArray) (neg : Bool) (e : Int) (w : World)
    (h : Calls Tryd.prog 13 #[.string tx] w fun x w' => x = .returned (.tuple #[.agg #[.bool neg, .string tr, .int .i64 e], .bool true]) ∧ Below w.heap.size w w') :
    Calls Tryd.prog 7 #[.string tx] w fun x w' => x = .returned (.tuple #[.bool neg, .string tr, .int .i64 e, .bool true]) ∧ Below w.heap.size w w' := by
  have H := hide h
  clear h
  go_enter Tryd.func7, Tryd.ntmps7
  go_wp2_with fail
  refine (unhide H).mono ?_
  rintro x w1 ⟨rfl, hb⟩
  have HB := hide hb
  clear hb H
  go_wp2_with fail
  go_quiet (fail)
  go_wp2_with fail
  (try simp only [Exit.inBlock, Exit.then])
  refine bodyPost_ret (results_tmp4 rfl _ _ _) rfl ⟨rfl, ?_⟩
  exact below_dn ((unhide HB).alloc (unhide HB).size _) _

end Go.Proofs.Qxb6601621aDoor
