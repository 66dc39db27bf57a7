/-
  Proved: the law's own maker of a scanner leaves one that stands at the text's first character behind a byte order mark.
  Conditions: the library's UTF-8 tables hold what the row lists.
-/
import Derived.Test.YtpdfompeoceklaaFmtLive
namespace Go.Proofs.YtpdfompeoceklaaFmt.P114
open Go.ChangeShapes Go.WideShapes Go.ChangeAt Go.RowKit Core
set_option linter.unusedVariables false

set_option maxHeartbeats 1000000 in
theorem made_any (A : Option Addr) (cap : Nat) (bs : List UInt8) (t : Nat → Prop) (hA : ∀ a, A = some a → t a.block) (w : World) (hs : Src w A cap bs) (hn : bs.length ≤ 1500000) (hT : Tabs w) :
    Calls Tryf.prog 14 #[.slice A bs.length cap] w fun e w' => ∃ S, e = .returned (.pointer (some ⟨S, 0, none⟩)) ∧ Live ⟨w, [], t⟩ w' S bs false 0 (bom bs) (nxErr bs (bom bs)) := by
  have HS := Lib.hid hs
  have HT := Lib.hid hT
  have HTX := Lib.hid hA
  clear hs hT hA
  go_enter Tryf.func14, Tryf.ntmps14
  go_wp2_with fail
  refine (newFileSet_any w).mono ?_
  rintro e w1 ⟨rfl, rfl⟩
  have hH := Lib.hid (Hold.fresh w 63 #[.int .i64 1, .slice none 0 0, .pointer none])
  have o1 := Lib.hid ((Only.refl w []).fresh (.cells #[.int .i64 1, .slice none 0 0, .pointer none] 63))
  have e1 := Lib.hid (show (w.alloc (.cells #[.int .i64 1, .slice none 0 0, .pointer none] 63)).heap.size = w.heap.size + 1 by simp)
  generalize w.alloc (.cells #[.int .i64 1, .slice none 0 0, .pointer none] 63) = w1 at *
  go_wp2_with fail
  refine (addFile_any w.heap.size bs.length _ w1 hH.out (by omega)).mono ?_
  rintro e w2 ⟨F, L, rfl, hF, hF0, hL0, o2⟩
  have HF := Lib.hid hF
  have HF0 := Lib.hid hF0
  have HL0 := Lib.hid hL0
  have o3 := Lib.hid (o1.out.next o2 (by simp))
  clear hF hF0 hL0 o2
  go_wp2_with fail
  refine (newScanner_any F L A cap bs 0 w2 HF.out (HS.out.keep o3.out (by simp)) ?_ (by omega) (HT.out.only o3.out) ?_).mono ?_
  · intro hp a ha
    obtain ⟨b, o, rfl, hc⟩ := HS.out.2.2 hp
    have h1 := World.block_lt_of_cell? w _ (hc 0 hp)
    have h2 := HF0.out
    have h3 := HL0.out
    have h4 := e1.out
    injection ha with ha
    subst ha
    simp only at h1 ⊢
    omega
  · have h1 := HT.out.lt
    have h2 := HF0.out
    have h3 := HL0.out
    have h4 := e1.out
    simp
    omega
  · rintro e w3 hN
    obtain ⟨S, rfl, hL⟩ := live_made (S := 0) t HTX.out HT.out (by omega) o3.out (by have := HF0.out; have := e1.out; omega) (by have := HL0.out; have := e1.out; omega) hN
    have HLv := Lib.hid hL
    clear hN hL
    go_wp2_with fail
    go_ret
    exact ⟨S, rfl, HLv.out⟩
end Go.Proofs.YtpdfompeoceklaaFmt.P114
