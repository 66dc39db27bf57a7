/-
  Proved: the walk of FnScanNumberRescanLiteral returns true at every argument.
  Conditions: the library's UTF-8 tables hold what the row lists.
-/
import Derived.Test.YtpdfompeoceklaaFmtNumLaw
import Derived.Test.YtpdfompeoceklaaFmtStr
namespace Go.Proofs.YtpdfompeoceklaaFmt.NumLaw
open Go.ChangeShapes Go.WideShapes Go.ChangeAt Go.RowKit Core
set_option linter.unusedVariables false

theorem bytes_yes (a : Option Addr) (len cap : Nat) (w : World) (h : len ≤ 1048576) : Calls Tryf.prog 7 #[.slice a len cap] w fun e w' => e = .returned (.bool true) ∧ w = w' := by
  go_enter Tryf.func7, Tryf.ntmps7
  go_wp2_with fail
  go_ret
  exact ⟨rfl, rfl⟩
theorem bytes_no (a : Option Addr) (len cap : Nat) (w : World) (h : ¬ len ≤ 1048576) : Calls Tryf.prog 7 #[.slice a len cap] w fun e w' => e = .returned (.bool false) ∧ w = w' := by
  go_enter Tryf.func7, Tryf.ntmps7
  go_wp2_with fail
  go_ret
  exact ⟨rfl, rfl⟩
/-- The second scan, over the first's literal. -/
theorem again_any (g cap : Nat) (bs : List UInt8) (str : ByteArray) (e : Nat) (w : World) (he : e = numEnd bs 0) (hstr : str = strOf (bs.take e)) (hl : e ≤ bs.length) (hs : Src w (some ⟨g, 0, none⟩) cap str.data.toList) (hn : str.size ≤ 1048576) (hT : Tabs w) (hb0 : bt bs 0 < 128) (hpe : 0 < e) :
    Calls Tryf.prog 10 #[.slice (some ⟨g, 0, none⟩) str.size cap] w fun e1 w' => e1 = .returned (.tuple #[.int .i64 (tokOf (numFloat bs 0)), .string str, .int .i64 e, .int .i64 (numErr bs 0)]) ∧ Below w.heap.size w w' := by
  have hd : str.data.toList = bs.take e := by rw [hstr, strOf_data]
  have h1 : numEnd (bs.take e) 0 = e := by rw [he]; exact num_take (by omega)
  have h2 : numErr (bs.take e) 0 = numErr bs 0 := by rw [he]; exact numErr_take (by omega)
  have h3 : numFloat (bs.take e) 0 = numFloat bs 0 := by rw [he]; exact numFloat_take (by omega)
  have h4 : (bs.take e).length = e := len_take hl
  have h5 : nxErr (bs.take e) e = 0 := nxErr_end (by omega)
  have h6 : (⟨(sub (bs.take e) 0 e).toArray⟩ : ByteArray) = str := by
    rw [sub_zero, List.take_of_length_le (by omega), hstr]
    rfl
  have hsz : str.size = e := by rw [hstr, strOf_size, h4]
  rw [hd] at hs
  have C := scanNum_any (some ⟨g, 0, none⟩) cap (bs.take e) w hs (by omega) hT (by rw [bt_take hpe]; exact hb0) (by rw [h1]; exact hpe)
  rw [h1, h2, h3, h4, h5, h6, Int.zero_add, Int.add_zero] at C
  rw [hsz]
  exact C
set_option maxHeartbeats 4000000 in
set_option maxRecDepth 20000 in
theorem walkIn (a : Option Addr) (cap : Nat) (bs : List UInt8) (w : World) (hs : Src w a cap bs) (hN : a = none → bs.length = 0 ∧ cap = 0) (hn : bs.length ≤ 1048576) (hT : Tabs w) (hst : isStart bs = true) :
    Calls Tryf.prog 3 #[.slice a bs.length cap] w fun e w' => e = .returned (.bool true) ∧ Below w.heap.size w w' := by
  obtain ⟨hl0, hb1, hb2, hpe⟩ := start_pos hst
  have hle := (numEnd_le (bs := bs) (p := 0) (by omega)).2.1
  have ST := Lib.hid (start_any a cap bs w hs hn)
  rw [hst] at ST
  have CL := Lib.hid (P74.clone_any a cap bs w hs hN hn)
  have HT := Lib.hid hT
  clear hs hT hN hst
  have d1 : decide ((1048576 : Int) < (bs.length : Int)) = false := decide_eq_false (by omega)
  go_enter Tryf.func3, Tryf.ntmps3
  go_wp2_with (first | (go_at_call 7; refine (bytes_yes a bs.length cap w hn).mono ?_; rintro e w1 ⟨rfl, rfl⟩) | (go_at_call 8; refine ST.out.mono ?_; rintro e w1 ⟨rfl, rfl⟩))
  refine CL.out.mono ?_
  rintro e w1 ⟨A, cap1, rfl, hs1, ho1, hA1, hN1⟩
  have O1 := Lib.hid ho1
  have C1 := Lib.hid (scanNum_any A cap1 bs w1 hs1 hn (HT.out.only ho1) hb2 hpe)
  clear hs1 ho1 hA1 hN1 CL ST
  obtain ⟨str, hstr⟩ : ∃ str : ByteArray, str = strOf (bs.take (numEnd bs 0)) := ⟨_, rfl⟩
  have hss : (⟨(sub bs 0 (numEnd bs 0)).toArray⟩ : ByteArray) = str := by rw [hstr, sub_zero]; rfl
  have hsz : str.size = numEnd bs 0 := by rw [hstr, strOf_size, len_take hle]
  rw [hss] at C1
  obtain ⟨e, he⟩ : ∃ e, e = numEnd bs 0 := ⟨_, rfl⟩
  rw [← he] at C1 hsz hstr hpe hle
  have HE := Lib.hid he
  have HSTR := Lib.hid hstr
  have n1 := numErr_01 bs 0
  have n2 := nxErr_le (bs := bs) (p := e)
  clear hss he hstr
  have q1 : ((e : Int) != (str.size : Int)) = false := by simp; omega
  have q2 : ((e : Int) == (str.size : Int)) = true := by simp; omega
  have hss : str.size ≤ 1048576 := by omega
  have HSZ := Lib.hid hsz
  clear hsz
  obtain ⟨x1, hx1⟩ : ∃ x1 : Int, x1 = 0 + numErr bs 0 + nxErr bs e := ⟨_, rfl⟩
  rw [← hx1] at C1
  have u1 : decide (numErr bs 0 ≤ x1) = true := decide_eq_true (by omega)
  have u2 : decide (numErr bs 0 ≤ 1) = true := decide_eq_true (by omega)
  clear hx1
  go_wp2_with fail
  refine C1.out.mono ?_
  rintro e1 w2 ⟨rfl, hb⟩
  have B2 := Lib.hid hb
  have kc := Lib.run_convert_string_bytes (P := Tryf.prog) w2 9 22 5 str Tryf.underlying9 Tryf.underlying22 Tryf.underlying5
  have HB := Lib.hid (conv_below w2 5 str)
  have HS := Lib.hid (conv_src w2 5 str (by unfold maxLen; omega))
  clear hb C1
  go_wp2_with fail
  clear kc
  generalize Lib.bytesWorld w2 5 str = w3 at *
  generalize grownCap w2 str.size 0 5 = cap3 at *
  have O3 := Lib.hid ((O1.out.next (Only.ofBelow B2.out []) (by simp)).next (Only.ofBelow HB.out []) (by simp))
  have C2 := Lib.hid (again_any w2.heap.size cap3 bs str e w3 HE.out HSTR.out hle HS.out hss (HT.out.only O3.out) hb2 hpe)
  clear HS HB B2
  generalize numErr bs 0 = x2 at *
  generalize tokOf (numFloat bs 0) = tk at *
  refine C2.out.mono ?_
  rintro e1 w4 ⟨rfl, hb4⟩
  have O4 := Lib.hid (O3.out.next (Only.ofBelow hb4 []) (by simp))
  clear hb4 C2
  have v1 : (tk == tk) = true := by simp
  go_wp2_with fail
  go_ret
  exact ⟨by simp, O4.out.below (Nat.le_refl _) (by simp)⟩
set_option maxHeartbeats 2000000 in
theorem walk0 (a : Option Addr) (cap : Nat) (bs : List UInt8) (w : World) (hs : Src w a cap bs) (hN : a = none → bs.length = 0 ∧ cap = 0) (hlen : bs.length ≤ 9223372036854775807) (hT : Tabs w) :
    Calls Tryf.prog 3 #[.slice a bs.length cap] w fun e w' => e = .returned (.bool true) ∧ Below w.heap.size w w' := by
  by_cases h20 : ¬ bs.length ≤ 1048576
  · clear hs hN hT
    go_enter Tryf.func3, Tryf.ntmps3
    go_wp2_with (first | (go_at_call 7; refine (bytes_no a bs.length cap w h20).mono ?_; rintro e w1 ⟨rfl, rfl⟩))
    go_ret
    exact ⟨rfl, Below.refl _ _⟩
  replace h20 := Classical.not_not.1 h20
  cases hst : isStart bs with
  | true => exact walkIn a cap bs w hs hN h20 hT hst
  | false =>
    have ST := Lib.hid (start_any a cap bs w hs h20)
    rw [hst] at ST
    clear hs hN hT hst
    have d1 : decide ((1048576 : Int) < (bs.length : Int)) = false := decide_eq_false (by omega)
    go_enter Tryf.func3, Tryf.ntmps3
    go_wp2_with (first | (go_at_call 7; refine (bytes_yes a bs.length cap w h20).mono ?_; rintro e w1 ⟨rfl, rfl⟩) | (go_at_call 8; refine ST.out.mono ?_; rintro e w1 ⟨rfl, rfl⟩))
    go_ret
    exact ⟨rfl, Below.refl _ _⟩
theorem walk (w : World) (a : Option Addr) (len cap : Nat) (z : List Int) (h : IsRow .u8 w a len cap z) (hL : laidMet Tryf.prog Rows.fnScanNumberRescanLiteralRow.laid w) :
    Calls Tryf.prog 3 #[.slice a len cap] w fun e w' => e = .returned (.bool true) ∧ Below w.heap.size w w' := by
  have e := h.bytes_len
  have hm := h.len_le
  have hw := walk0 a cap (bytesOf len z) w h.src (fun ha => by subst ha; rw [e]; exact h.none) (by rw [e]; unfold maxLen at hm; omega) (tabs_of (Lib.laidMet.reads hL (.head _)) (Lib.laidMet.reads hL (.tail _ (.head _))))
  rwa [e] at hw
end Go.Proofs.YtpdfompeoceklaaFmt.NumLaw
