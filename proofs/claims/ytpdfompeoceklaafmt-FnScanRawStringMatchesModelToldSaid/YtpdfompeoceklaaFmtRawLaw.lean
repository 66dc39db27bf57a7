/-
  Proved: the walk of FnScanRawStringMatchesModel returns true at every argument.
  Conditions: the library's UTF-8 tables hold what the row lists.
-/
import Derived.Test.YtpdfompeoceklaaFmtLead
import Derived.Test.YtpdfompeoceklaaFmtMake114
import Derived.Test.YtpdfompeoceklaaFmtClone114
import Derived.Test.YtpdfompeoceklaaFmtTabs
namespace Go.Proofs.YtpdfompeoceklaaFmt.RawLaw
open Go.ChangeShapes Go.WideShapes Go.ChangeAt Go.RowKit Core Lead
set_option linter.unusedVariables false

theorem bytes_yes (a : Option Addr) (len cap : Nat) (w : World) (h : len ≤ 1048576) : Calls Tryf.prog 21 #[.slice a len cap] w fun e w' => e = .returned (.bool true) ∧ w = w' := by
  go_enter Tryf.func21, Tryf.ntmps21
  go_wp2_with fail
  go_ret
  exact ⟨rfl, rfl⟩
theorem bytes_no (a : Option Addr) (len cap : Nat) (w : World) (h : ¬ len ≤ 1048576) : Calls Tryf.prog 21 #[.slice a len cap] w fun e w' => e = .returned (.bool false) ∧ w = w' := by
  go_enter Tryf.func21, Tryf.ntmps21
  go_wp2_with fail
  go_ret
  exact ⟨rfl, rfl⟩
theorem count_any (S : Nat) (p : Int) (w : World) (h : w.cell? ⟨S, 8, none⟩ = some (.int .i64 p)) : Calls Tryf.prog 20 #[.pointer (some ⟨S, 0, none⟩)] w fun e w' => e = .returned (.int .i64 p) ∧ w = w' := by
  go_enter Tryf.func20, Tryf.ntmps20
  go_wp2_with fail
  go_ret
  exact ⟨rfl, rfl⟩
theorem off_any (S : Nat) (p : Int) (w : World) (h : w.cell? ⟨S, 3, none⟩ = some (.int .i64 p)) : Calls Tryf.prog 19 #[.pointer (some ⟨S, 0, none⟩)] w fun e w' => e = .returned (.int .i64 p) ∧ w = w' := by
  go_enter Tryf.func19, Tryf.ntmps19
  go_wp2_with fail
  go_ret
  exact ⟨rfl, rfl⟩
theorem next_door {w0 : Base} {w : World} {S : Nat} {bs : List UInt8} {semi : Bool} {mode : Int} {p : Nat} {errs : Int} (h : Live w0 w S bs semi mode p errs) (h0 : 0 ≤ errs) (h1 : errs < 4611686018427387904) :
    Calls Tryf.prog 15 #[.pointer (some ⟨S, 0, none⟩)] w fun e w' => e = .returned (.tuple #[]) ∧ Live w0 w' S bs semi mode (nxRd bs p) (errs + nxErr bs (nxRd bs p)) := by
  have C := Lib.hid (live_next h h0 h1)
  clear h
  go_enter Tryf.func15, Tryf.ntmps15
  go_wp2_with fail
  refine C.out.mono ?_
  rintro e w1 ⟨rfl, h, _⟩
  go_wp2_with fail
  go_end0
  exact ⟨rfl, h⟩
theorem scan_door {w0 : Base} {w : World} {S : Nat} {bs : List UInt8} {semi : Bool} {mode : Int} {e0 : Int} (h : Live w0 w S bs semi mode 1 e0) (h0 : 0 ≤ e0) (h1 : e0 ≤ 2) (hb : bt bs 0 ≠ 13) (hl : 0 < bs.length) :
    Calls Tryf.prog 22 #[.pointer (some ⟨S, 0, none⟩)] w (RawDone w0 S bs semi mode) := by
  have C := Lib.hid (raw_any h h0 h1 hb hl)
  clear h
  go_enter Tryf.func22, Tryf.ntmps22
  go_wp2_with fail
  refine C.out.mono ?_
  rintro e w1 ⟨er, rfl, hL, k0, k1, k2⟩
  have H := Lib.hid hL
  have K2 := Lib.hid k2
  clear hL C k2
  go_wp2_with fail
  go_ret
  exact ⟨er, rfl, H.out, k0, k1, K2.out⟩
set_option maxHeartbeats 8000000 in
set_option maxRecDepth 20000 in
theorem walkIn (a : Option Addr) (cap : Nat) (body : List UInt8) (w : World) (hs : Src w a cap body) (hN : a = none → body.length = 0 ∧ cap = 0) (hn : body.length ≤ 65536) (hT : Tabs w) :
    Calls Tryf.prog 5 #[.slice a body.length cap] w fun e w' => e = .returned (.bool true) ∧ Below w.heap.size w w' := by
  have CL := Lib.hid (P114.clone_any a cap body w hs hN (by omega))
  have HT := Lib.hid hT
  clear hs hN hT
  obtain ⟨bs, hbs⟩ : ∃ bs : List UInt8, bs = (96 : UInt8) :: body := ⟨_, rfl⟩
  have hlen : bs.length = body.length + 1 := by rw [hbs]; rfl
  have hb0 : bt bs 0 = 96 := by rw [hbs]; rfl
  have hend := rawEnd_le (bs := bs) (i := 1) (by omega)
  have hl1 : bs.length ≤ 65537 := by omega
  have hl2 : 1 ≤ bs.length := by omega
  have HB0 := Lib.hid hb0
  clear hlen hb0
  go_enter Tryf.func5, Tryf.ntmps5
  go_wp2_with (first | (go_at_call 21; refine (bytes_yes a body.length cap w (by omega)).mono ?_; rintro e w1 ⟨rfl, rfl⟩))
  refine CL.out.mono ?_
  rintro e w1 ⟨A, cap1, rfl, hs1, ho1, hA1, hN1⟩
  have O1 := Lib.hid ho1
  have LD := Lib.hid (lead_any (96 : UInt8) 96 rfl A cap1 body w1 hs1 hN1 (by omega))
  rw [← hbs] at LD
  clear hs1 ho1 hA1 hN1 CL hbs
  go_wp2_with fail
  refine LD.out.mono ?_
  rintro e w2 ⟨v, rfl, hO⟩
  obtain ⟨A2, cap2, rfl, hs2, hA2⟩ := hO.src
  have OB := hO.2
  have O2 := Lib.hid (O1.out.next (Only.ofBelow OB []) (by simp))
  have T2 := Lib.hid (HT.out.only O2.out)
  obtain ⟨g, o, rfl, hc2⟩ := hs2.2.2 (by omega)
  have HC2 := Lib.hid hc2
  have hcap2 := hs2.1
  have M := Lib.hid (P114.made_any (some ⟨g, o, none⟩) cap2 bs (fun _ => True) (fun _ _ => trivial) w2 hs2 (by omega) T2.out)
  clear hO hs2 hA2 OB hc2 LD
  go_wp2_with fail
  refine M.out.mono ?_
  rintro e w3 ⟨S, rfl, hL⟩
  rw [bom_ascii (by have := HB0.out; omega)] at hL
  have z0 := nxErr_clean (bs := bs) (p := 0) (by have := HB0.out; omega) (by have := HB0.out; omega)
  have r0 := (nx_ascii (bs := bs) (p := 0) (by omega) (by have := HB0.out; omega)).2
  rw [Nat.zero_add] at r0
  have hne := nxErr_le (bs := bs) (p := 1)
  have C4 := Lib.hid (next_door hL (by omega) (by omega))
  rw [r0, z0, Int.zero_add] at C4
  clear hL z0 r0 M
  go_wp2_with fail
  refine C4.out.mono ?_
  rintro e w4 ⟨rfl, hL4⟩
  have C5 := Lib.hid (scan_door hL4 (by omega) (by omega) (by have := HB0.out; omega) (by omega))
  clear hL4 C4
  go_wp2_with fail
  refine C5.out.mono ?_
  rintro e w5 ⟨er, rfl, hL5, k0, k1, k2⟩
  have x3 := hL5.off
  have x8 := hL5.errsC
  have O5 := Lib.hid (O2.out.next hL5.only (by simp))
  have HC5 := Lib.hid (show ∀ j, j < bs.length → w5.cell? ⟨g, o + j, none⟩ = some (.int .u8 (bt bs j)) from fun j hj => hL5.only.cell (HC2.out j hj) (by simp))
  have K2 := Lib.hid k2
  clear hL5 C5 HC2 k2
  have EN := Lib.hid (rawEnd_any g o cap2 bs w5 HC5.out (by omega) (by omega))
  obtain ⟨en, hen⟩ : ∃ en, en = (rawEnd bs 1).1 := ⟨_, rfl⟩
  obtain ⟨cl, hcl⟩ : ∃ cl, cl = (rawEnd bs 1).2 := ⟨_, rfl⟩
  rw [← hen, ← hcl] at EN
  rw [← hen] at x3 hend
  rw [← hcl] at K2
  have HEN := Lib.hid hen
  clear hcl
  have i0 : (0 : Int) ≤ (en : Int) := by omega
  have i2 : (en : Int) ≤ (cap2 : Int) := by omega
  have n3 : ((en : Int) != (en : Int)) = false := by simp
  have hstr : strOf (noCR (sub bs 0 (rawEnd bs 1).1)) = strOf (noCR (sub bs 0 en)) := by rw [hen]
  rw [hstr]
  clear hstr hen
  have DR := Lib.hid (drop_any g o cap2 (sub bs 0 en) w5 (fun j hj => by
    rw [sub_len hend.2] at hj
    rw [sub_bt hj, Nat.zero_add]
    exact HC5.out j (by omega)) (by rw [sub_len hend.2]; omega))
  rw [sub_len hend.2, Nat.sub_zero] at DR
  go_wp2_with (first | (go_at_call 23; refine EN.out.mono ?_; rintro e w6 ⟨rfl, rfl⟩))
  refine DR.out.mono ?_
  rintro e w6 ⟨v6, rfl, hO6⟩
  obtain ⟨A6, cap6, rfl, h61, h62, h63⟩ := hO6.read
  have O6 := Lib.hid (O5.out.next (Only.ofBelow hO6.2 []) (by simp))
  have y3 := (hO6.2.cell (World.block_lt_of_cell? w5 _ x3)).trans x3
  have y8 := (hO6.2.cell (World.block_lt_of_cell? w5 _ x8)).trans x8
  have hl6 : (noCR (sub bs 0 en)).length ≤ 65537 := by
    unfold noCR
    exact Nat.le_trans (List.length_filter_le _ _) (by rw [sub_len hend.2]; omega)
  have SM := Lib.hid (same_any (strOf (noCR (sub bs 0 en))) A6 cap6 w6 (by rw [strOf_size]; omega) (fun hp => by
    rw [strOf_size] at hp
    obtain ⟨g6, rfl, _, hc6⟩ := h63 hp
    exact ⟨g6, 0, rfl, fun j hj => by rw [strOf_size] at hj; rw [strOf_data]; exact hc6 j hj⟩))
  rw [strOf_size] at SM
  clear hO6 h63 DR EN x3 x8
  generalize strOf (noCR (sub bs 0 en)) = str at *
  generalize (noCR (sub bs 0 en)).length = nl at *
  go_wp2_with fail
  refine SM.out.mono ?_
  rintro e w7 ⟨rfl, q7, rfl⟩
  clear SM
  cases cl with
  | true =>
    go_wp2_with (first | (go_at_call 19; refine (off_any S _ _ (by simpa using y3)).mono ?_; rintro e w8 ⟨rfl, rfl⟩) | (go_at_call 20; refine (count_any S _ _ (by simpa using y8)).mono ?_; rintro e w8 ⟨rfl, rfl⟩))
    go_ret
    exact ⟨rfl, (O6.out.draws q7).below (Nat.le_refl _) (by simp)⟩
  | false =>
    have ge := K2.out rfl
    have n8 : (er == 0) = false := by rw [beq_eq_false_iff_ne]; omega
    go_wp2_with (first | (go_at_call 19; refine (off_any S _ _ (by simpa using y3)).mono ?_; rintro e w8 ⟨rfl, rfl⟩) | (go_at_call 20; refine (count_any S _ _ (by simpa using y8)).mono ?_; rintro e w8 ⟨rfl, rfl⟩))
    go_ret
    exact ⟨rfl, (O6.out.draws q7).below (Nat.le_refl _) (by simp)⟩
set_option maxHeartbeats 2000000 in
theorem walk0 (a : Option Addr) (cap : Nat) (bs : List UInt8) (w : World) (hs : Src w a cap bs) (hN : a = none → bs.length = 0 ∧ cap = 0) (hlen : bs.length ≤ 9223372036854775807) (hT : Tabs w) :
    Calls Tryf.prog 5 #[.slice a bs.length cap] w fun e w' => e = .returned (.bool true) ∧ Below w.heap.size w w' := by
  by_cases h20 : ¬ bs.length ≤ 1048576
  · clear hs hN hT
    go_enter Tryf.func5, Tryf.ntmps5
    go_wp2_with (first | (go_at_call 21; refine (bytes_no a bs.length cap w h20).mono ?_; rintro e w1 ⟨rfl, rfl⟩))
    go_ret
    exact ⟨rfl, Below.refl _ _⟩
  replace h20 := Classical.not_not.1 h20
  by_cases h16 : ¬ bs.length ≤ 65536
  · clear hs hN hT
    go_enter Tryf.func5, Tryf.ntmps5
    go_wp2_with (first | (go_at_call 21; refine (bytes_yes a bs.length cap w h20).mono ?_; rintro e w1 ⟨rfl, rfl⟩))
    go_ret
    exact ⟨rfl, Below.refl _ _⟩
  exact walkIn a cap bs w hs hN (Classical.not_not.1 h16) hT
theorem walk (w : World) (a : Option Addr) (len cap : Nat) (z : List Int) (h : IsRow .u8 w a len cap z) (hL : laidMet Tryf.prog Rows.fnScanRawStringMatchesModelRow.laid w) :
    Calls Tryf.prog 5 #[.slice a len cap] w fun e w' => e = .returned (.bool true) ∧ Below w.heap.size w w' := by
  have e := h.bytes_len
  have hm := h.len_le
  have hw := walk0 a cap (bytesOf len z) w h.src (fun ha => by subst ha; rw [e]; exact h.none) (by rw [e]; unfold maxLen at hm; omega) (tabs_of (Lib.laidMet.reads hL (.head _)) (Lib.laidMet.reads hL (.tail _ (.head _))))
  rwa [e] at hw
end Go.Proofs.YtpdfompeoceklaaFmt.RawLaw
