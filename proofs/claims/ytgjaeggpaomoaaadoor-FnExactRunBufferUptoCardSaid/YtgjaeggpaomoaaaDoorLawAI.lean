/- The calls of a script on a buffer return what the reference tells. -/
import Derived.Test.YtgjaeggpaomoaaaDoorRunX
import Derived.Test.YtgjaeggpaomoaaaDoorSpecRun
namespace Go.Proofs.YtgjaeggpaomoaaaDoor
open Go.RowKit
set_option linter.unusedVariables false
attribute [local go_sem ↓] Go.wp_at_zero Go.wp_at_succ

set_option maxHeartbeats 1600000 in
set_option maxRecDepth 100000 in
theorem FnExactRunBuffer_walk (l : List UInt8) (A : Option Addr) (n c : Nat) (os : List OpV) (w : World) (a c' : Addr) (hV : Env w.heap.size w a c') (hl : l.length ≤ 9223372036854775807) (hS : Rg w A n 5 (os.flatMap OpV.cells)) (hn : n = os.length) (hok : ∀ o ∈ os, o.Ok) (hN : l.length + (tsum os + n) ≤ 1048576) :
    Calls Tryd.prog 7 #[.string ⟨l.toArray⟩, .slice A n c] w fun e w' => e = .returned (.bool true) ∧ Below w.heap.size w w' := by
  have h0 := Lib.hid (laws_specOps A n c os w hS hn (by omega))
  have HN := Lib.hid hn
  have HOK := Lib.hid hok
  clear hn hok
  go_enter Tryd.func7, Tryd.ntmps7
  go_wp2_with fail
  refine h0.out.mono ?_
  rintro e w1 ⟨A1, c1, rfl, ho1, hf1⟩
  have hR1 := (own_rs ho1).rg
  have hla := Lib.hid (spec_Large A1 n c1 os w1 hR1 HN.out (by omega) HOK.out)
  have hrb := Lib.hid fun W (hF : Fr [] w W) (hg : ∀ o ∈ os, o.kind = k_grow → o.n ≤ 1048576) => impl_RunBufferX l A n c os W a c' (by have hV2 := hV.fr hF (by simp); have := hF.size; exact ⟨hV2.tabs, hV2.eof, hV2.unr, hV2.ne, hV2.ba, hV2.bc, by have := hV2.low; omega⟩) (hS.fr_old hF (by simp)) HN.out (by omega) (fun o ho => ⟨HOK.out o ho, hg o ho⟩)
  have hsb := Lib.hid fun W (hF : Fr [] w1 W) => spec_Run l A1 n c1 os W (hR1.fr_old hF (by simp)) HN.out (by omega) HOK.out
  clear hS ho1 hR1 hV
  go_wp2_with fail
  refine hla.out.mono ?_
  rintro e w2 ⟨b, rfl, HL, hf2⟩
  cases b
  · obtain ⟨_, hg⟩ := HL.out rfl
    have h1 := Lib.hid (hrb.out w2 (hf1.trans hf2) hg)
    clear hg HL hrb hla
    go_wp2_with fail
    refine h1.out.mono ?_
    rintro e w3 ⟨B, m, d, sts, rfl, hR3, hm3, hmn3, H3, hf3⟩
    have HM3 := Lib.hid hm3
    clear hm3
    go_wp2_with fail
    refine (hsb.out w3 (hf2.trans hf3)).mono ?_
    rintro e w4 ⟨B4, m4, d4, sts4, rfl, hR4, hm4, hmn4, H4, hf4⟩
    have hss := Lib.hid (sameSteps_true B B4 m m4 d d4 sts sts4 w4 (hR3.fr_old hf4 (by simp)) hR4 HM3.out hm4 (by omega) (by rw [H4.out]; exact (runS_pre os (sta0 l)).trans H3.out.1))
    clear hR3 hR4 hm4 H3 H4
    go_wp2_with fail
    refine hss.out.mono ?_
    rintro e w5 ⟨rfl, hf5⟩
    go_wp2_with fail
    go_ret
    exact ⟨rfl, ((((hf1.trans hf2).trans hf3).trans hf4).trans hf5).below (Nat.le_refl _) (by simp)⟩
  · go_wp2_with fail
    go_ret
    exact ⟨rfl, (hf1.trans hf2).below (Nat.le_refl _) (by simp)⟩

end Go.Proofs.YtgjaeggpaomoaaaDoor
