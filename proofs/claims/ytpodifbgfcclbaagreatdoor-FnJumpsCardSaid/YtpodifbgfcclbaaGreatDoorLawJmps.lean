/- FnJumps: what the law's function answers. -/
import Derived.Test.YtpodifbgfcclbaaGreatDoorLaw1
import Derived.Test.YtpodifbgfcclbaaGreatDoorSj11
import Derived.Test.YtpodifbgfcclbaaGreatDoorJm26
set_option linter.unusedVariables false
set_option linter.unusedSimpArgs false
namespace Go.Proofs.YtpodifbgfcclbaaGreatDoor
open Go.RowKit
attribute [local go_sem] Nat.lt_add_one_of_lt

set_option maxHeartbeats 4000000 in
theorem fnJumps_any (l : List Fl) (a : Option Addr) (cap : Nat) (w : World) (hs : SL w w.heap.size a cap l) (ht : Tab w) : Calls Tryz.prog 12 #[.slice a l.length cap] w (RetB w true) := by
  by_cases hlen : (l.length : Int) > 2147483647
  · clear hs ht
    go_enter Tryz.func12, Tryz.ntmps12
    go_wp2_with fail
    (try simp only [Exit.inBlock, Exit.then])
    refine bodyPost_ret (results_tmp rfl _ _ _) rfl ?_
    exact ⟨rfl, Below.refl _ _⟩
  cases hv : validL l with
  | false =>
    have cv := valid_any _ _ _ _ w hs (Nat.le_refl _)
    rw [hv] at cv
    have CV := Lib.hid cv
    clear cv hs ht hv
    go_enter Tryz.func12, Tryz.ntmps12
    go_wp2_with fail
    refine (CV.out).mono ?_
    rintro e w1 ⟨rfl, hb1⟩
    go_wp2_with fail
    go_ret
    exact ⟨rfl, hb1⟩
  | true =>
    have cv := valid_any _ _ _ _ w hs (Nat.le_refl _)
    rw [hv] at cv
    have CV := Lib.hid cv
    have HS := Lib.hid hs
    have HT := Lib.hid ht
    have HV := Lib.hid hv
    clear cv hs ht hv
    go_enter Tryz.func12, Tryz.ntmps12
    go_wp2_with fail
    refine (CV.out).mono ?_
    rintro e w1 ⟨rfl, hb1⟩
    have c2 := jumps_any _ _ _ w1 (HS.out.up hb1) (HT.out.on hb1) HV.out
    have C2 := Lib.hid c2
    have HB1 := Lib.hid hb1
    clear c2 hb1
    go_wp2_with fail
    refine (C2.out).mono ?_
    rintro e w2 ⟨rfl, hb2⟩
    have hb02 := bseq HB1.out hb2
    have c3 := specJumps_any l _ _ w2 (HS.out.up hb02) HV.out
    have C3 := Lib.hid c3
    have HB2 := Lib.hid hb02
    clear c3 hb2 hb02
    go_wp2_with fail
    refine (C3.out).mono ?_
    rintro e w3 ⟨rfl, hb3⟩
    have HB3 := Lib.hid (bseq HB2.out hb3)
    have heq : (jumpsJ l == jumpsJ l) = true := by simp
    clear hb3
    go_wp2_with fail
    refine (works_any w3 (HT.out.on HB3.out)).mono ?_
    rintro e w4 ⟨rfl, hb4⟩
    go_wp2_with fail
    go_ret
    exact ⟨rfl, bseq HB3.out hb4⟩
end Go.Proofs.YtpodifbgfcclbaaGreatDoor
