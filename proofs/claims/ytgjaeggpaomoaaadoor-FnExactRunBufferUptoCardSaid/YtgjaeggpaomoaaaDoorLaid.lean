/- What the laid variables hold: facts for the rows. -/
import Derived.Test.YtgjaeggpaomoaaaDoorShelf
import Derived.Lib.LaidU8T
import Derived.PinnedBridge
import Derived.Stop.LaidTwo
namespace Go.Proofs.YtgjaeggpaomoaaaDoor
open Go.RowKit
set_option linter.unusedVariables false

theorem laidMet_drop2 {P : Program} {x y : String × DataW Unit} {r : List (String × DataW Unit)} {w : World} (h : laidMet P (x :: y :: r) w) : laidMet P (x :: r) w := by
  obtain ⟨ps, hv, hnd, hrows⟩ := h
  obtain ⟨n, d⟩ := x
  obtain ⟨m, e⟩ := y
  obtain ⟨g, t, cs, fuel, p, q, h1, h2, h3, h4, ⟨g2, t2, cs2, fuel2, p2, q2, _, _, _, _, hq2, rfl⟩, rfl⟩ := hv
  refine ⟨_, ⟨g, t, cs, fuel, p, q2, h1, h2, h3, h4, hq2, rfl⟩, ?_, ?_⟩
  · refine List.Nodup.sublist ?_ hnd
    exact List.Sublist.append_left (List.sublist_append_right _ _) _
  · intro b off hm
    refine hrows b off ?_
    rcases List.mem_append.1 hm with hm | hm
    · exact List.mem_append_left _ hm
    · exact List.mem_append_right _ (List.mem_append_right _ hm)
def renU8 : Go.Shelf.Ren := ⟨fun n => n, fun | 119 => 145 | 138 => 147 | 139 => 148 | n => n, fun | 3 => 4 | 4 => 5 | n => n⟩
theorem typesU8 : U8Types Tryd.prog renU8 := { t5 := Tryd.underlying5, t119 := Tryd.underlying145, t138 := Tryd.underlying147, t139 := Tryd.underlying148 }
theorem extraU8 : U8Extra Tryd.prog renU8 := { n3 := by kernel_rfl, n4 := by kernel_rfl, y3 := by kernel_rfl, y4 := by kernel_rfl, c5 := by kernel_rfl, c119 := by kernel_rfl, c138 := by kernel_rfl }
theorem tabs_of_laid {l : List (String × DataW Unit)} {w : World} {d : DataW Unit} {n3 n4 : String} (h : laidMet Tryd.prog l w) (h3 : (n3, Go.Pinned.utf8First) ∈ l) (h4 : (n4, d) ∈ l) (hd : d = Lib.acceptData) (e3 : Lib.VarReads Tryd.prog w n3 Lib.firstData → Lib.VarReads Tryd.prog w n4 Lib.acceptData → Tabs w) : Tabs w := by
  subst hd
  rw [Pinned.utf8First_eq] at h3
  exact e3 (Lib.laidMet.reads h h3) (Lib.laidMet.reads h h4)

end Go.Proofs.YtgjaeggpaomoaaaDoor
