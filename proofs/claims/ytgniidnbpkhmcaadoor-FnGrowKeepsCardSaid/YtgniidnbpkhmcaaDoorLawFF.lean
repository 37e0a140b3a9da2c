/- What a buffer has before and after it is grown. -/
import Derived.Test.YtgniidnbpkhmcaaDoorBufGrow
namespace Go.Proofs.YtgniidnbpkhmcaaDoor
open Go.RowKit
set_option linter.unusedVariables false
attribute [local go_sem ↓] Go.wp_at_zero Go.wp_at_succ

theorem agg_cells {w : World} {k : Nat} {t : TypeId} {v0 v1 v2 v3 v4 : Value} (h : Blk w k t #[v0, v1, v2, v3, v4]) :
    (w.cell? ⟨k, 0, none⟩ = some v0 ∧ w.cell? ⟨k, 1, none⟩ = some v1 ∧ w.cell? ⟨k, 2, none⟩ = some v2 ∧ w.cell? ⟨k, 3, none⟩ = some v3 ∧ w.cell? ⟨k, 4, none⟩ = some v4) ∧
    (w.frozen? ⟨k, 0, none⟩ = false ∧ w.frozen? ⟨k, 1, none⟩ = false ∧ w.frozen? ⟨k, 2, none⟩ = false ∧ w.frozen? ⟨k, 3, none⟩ = false ∧ w.frozen? ⟨k, 4, none⟩ = false) :=
  ⟨⟨h.cell 0, h.cell 1, h.cell 2, h.cell 3, h.cell 4⟩, h.frozen 0, h.frozen 1, h.frozen 2, h.frozen 3, h.frozen 4⟩

set_option maxHeartbeats 1600000 in
set_option maxRecDepth 100000 in
theorem impl_Grow_bad (l : List UInt8) (a : Int) (w : World) (hl : l.length ≤ 9223372036854775807) (ha : a < 0) :
    Calls Tryd.prog 17 #[.string ⟨l.toArray⟩, .int .i64 a] w fun e w' => e = .returned (.tuple #[.agg #[.int .i64 0, .int .i64 0, .int .i64 0, .int .i64 0, .int .i64 0], .agg #[.int .i64 0, .int .i64 0, .int .i64 0, .int .i64 0, .int .i64 0], .string ⟨#[]⟩, .bool false]) ∧ Fr [] w w' := by
  go_enter Tryd.func17, Tryd.ntmps17
  go_wp2_with fail
  refine (NewBufferString _ _ hl).mono ?_
  rintro e w1 ⟨b, g, pad, rfl, hB, hf, hb, hg⟩
  simp only [World.size_alloc] at hb hg
  go_wp2_with fail
  refine (impl_space _ hB).mono ?_
  rintro e w2 ⟨m, a2, c2, rfl, H2, hf2⟩
  have hB2 := hB.fr hf2 (by simp) (by simp)
  have HG := Lib.hid fun W h => impl_grow_bad (b := b) (g := some g) (row := l ++ pad) (len := l.length) (off := 0) (lr := 0) W h a ha
  have hk4 := (((Blk.new w 41 #[.int .i64 0, .int .i64 0, .int .i64 0, .int .i64 0, .int .i64 0]).alloc (.cells #[.int .i64 0, .int .i64 0, .int .i64 0, .int .i64 0, .int .i64 0] 41)).fr hf (by simp)).fr hf2 (by simp)
  have hk5 : Blk w2 (w.heap.size + 1) 41 #[.int .i64 0, .int .i64 0, .int .i64 0, .int .i64 0, .int .i64 0] := by
    have := Blk.new (w.alloc (.cells #[.int .i64 0, .int .i64 0, .int .i64 0, .int .i64 0, .int .i64 0] 41)) 41 #[.int .i64 0, .int .i64 0, .int .i64 0, .int .i64 0, .int .i64 0]
    exact (Blk.fr (by simpa using this) hf (by simp)).fr hf2 (by simp)
  go_wp2_with fail
  refine (HG.out _ (hB2.alloc _)).mono ?_
  rintro e w3 ⟨rfl, hB3, hf3⟩
  have hf23 := ((Fr.refl [] w2).alloc (.cells #[.int .i64 (m : Int), .int .i64 (c2 : Int), .int .i64 (a2 : Int), .int .i64 0, .int .i64 (a2 : Int)] 41)).trans hf3
  obtain ⟨⟨c40, c41, c42, c43, c44⟩, f40, f41, f42, f43, f44⟩ := agg_cells (hk4.fr hf23 (by simp))
  obtain ⟨⟨c50, c51, c52, c53, c54⟩, f50, f51, f52, f53, f54⟩ := agg_cells (hk5.fr hf23 (by simp))
  have hfin := Lib.hid (((((Fr.refl [] w).alloc (.cells #[.int .i64 0, .int .i64 0, .int .i64 0, .int .i64 0, .int .i64 0] 41)).alloc (.cells #[.int .i64 0, .int .i64 0, .int .i64 0, .int .i64 0, .int .i64 0] 41)).trans hf).trans hf2 |>.trans hf23)
  clear hk4 hk5 hB hB2 hB3 H2
  go_wp2_with fail
  refine bodyPost_ret (v := .tuple #[.agg #[.int .i64 0, .int .i64 0, .int .i64 0, .int .i64 0, .int .i64 0], .agg #[.int .i64 0, .int .i64 0, .int .i64 0, .int .i64 0, .int .i64 0], .string ⟨#[]⟩, .bool false]) (by simp [results, Tryd.results17, go_sem, *]) rfl ⟨rfl, ?_⟩
  have h4 : w.heap.size ≤ w.heap.size + 1 := by omega
  exact (((((((((hfin.out.setCell (.inr (Nat.le_refl _)) _).setCell (.inr (Nat.le_refl _)) _).setCell (.inr (Nat.le_refl _)) _).setCell (.inr (Nat.le_refl _)) _).setCell (.inr (Nat.le_refl _)) _).setCell (.inr h4) _).setCell (.inr h4) _).setCell (.inr h4) _).setCell (.inr h4) _).setCell (.inr h4) _

set_option maxHeartbeats 3200000 in
set_option maxRecDepth 100000 in
theorem impl_Grow_ok (l : List UInt8) (n : Nat) (w : World) (hl : l.length ≤ 2097152) (hn : n ≤ 1048576) :
    Calls Tryd.prog 17 #[.string ⟨l.toArray⟩, .int .i64 (n : Int)] w fun e w' => ∃ (L c a c' a' : Nat) (s : List UInt8), e = .returned (.tuple #[.agg #[.int .i64 (L : Int), .int .i64 (c : Int), .int .i64 (a : Int), .int .i64 0, .int .i64 (a : Int)], .agg #[.int .i64 (L : Int), .int .i64 (c' : Int), .int .i64 (a' : Int), .int .i64 0, .int .i64 (a' : Int)], .string ⟨s.toArray⟩, .bool true]) ∧ Hid (L = l.length ∧ c = L + a ∧ c' = L + a' ∧ n ≤ a' ∧ a ≤ a' ∧ (n ≤ a → a' = a) ∧ s = l ∧ c' ≤ 9223372036854775807) ∧ Fr [] w w' := by
  go_enter Tryd.func17, Tryd.ntmps17
  go_wp2_with fail
  refine (NewBufferString _ _ (by omega)).mono ?_
  rintro e w1 ⟨b, g, pad, rfl, hB, hf, hb, hg⟩
  simp only [World.size_alloc] at hb hg
  go_wp2_with fail
  refine (impl_space _ hB).mono ?_
  rintro e w2 ⟨m, a2, c2, rfl, H2, hf2⟩
  have hB2 := hB.fr hf2 (by simp) (by simp)
  have HG := Lib.hid fun W h => impl_grow_ok (b := b) (g := some g) (row := l ++ pad) (len := l.length) (off := 0) (lr := 0) W h n (by omega)
  have hk4 := (((Blk.new w 41 #[.int .i64 0, .int .i64 0, .int .i64 0, .int .i64 0, .int .i64 0]).alloc (.cells #[.int .i64 0, .int .i64 0, .int .i64 0, .int .i64 0, .int .i64 0] 41)).fr hf (by simp)).fr hf2 (by simp)
  have hk5 : Blk w2 (w.heap.size + 1) 41 #[.int .i64 0, .int .i64 0, .int .i64 0, .int .i64 0, .int .i64 0] := by
    have := Blk.new (w.alloc (.cells #[.int .i64 0, .int .i64 0, .int .i64 0, .int .i64 0, .int .i64 0] 41)) 41 #[.int .i64 0, .int .i64 0, .int .i64 0, .int .i64 0, .int .i64 0]
    exact (Blk.fr (by simpa using this) hf (by simp)).fr hf2 (by simp)
  have hlt : b < w2.heap.size := hB2.blk.lt
  have hgt : g < w2.heap.size := (hB2.some_ g rfl).2.lt
  go_wp2_with fail
  refine (HG.out _ (hB2.alloc _)).mono ?_
  rintro e w3 ⟨g3, row3, len3, off3, lr3, rfl, hG⟩
  obtain ⟨rfl, rfl⟩ := hG.zero rfl
  have hk9 := (Blk.new w2 41 #[.int .i64 (m : Int), .int .i64 (c2 : Int), .int .i64 (a2 : Int), .int .i64 0, .int .i64 (a2 : Int)]).fr hG.fr (by simp; omega)
  have hk43 := (hk4.alloc (.cells #[.int .i64 (m : Int), .int .i64 (c2 : Int), .int .i64 (a2 : Int), .int .i64 0, .int .i64 (a2 : Int)] 41)).fr hG.fr (by simp; omega)
  have hk53 := (hk5.alloc (.cells #[.int .i64 (m : Int), .int .i64 (c2 : Int), .int .i64 (a2 : Int), .int .i64 0, .int .i64 (a2 : Int)] 41)).fr hG.fr (by simp; omega)
  have hfw : Fr [] w w3 := ((((((Fr.refl [] w).alloc (.cells #[.int .i64 0, .int .i64 0, .int .i64 0, .int .i64 0, .int .i64 0] 41)).alloc (.cells #[.int .i64 0, .int .i64 0, .int .i64 0, .int .i64 0, .int .i64 0] 41)).trans hf).trans hf2).alloc (.cells #[.int .i64 (m : Int), .int .i64 (c2 : Int), .int .i64 (a2 : Int), .int .i64 0, .int .i64 (a2 : Int)] 41)).trans_of hG.fr (by simp; omega)
  obtain ⟨⟨c40, c41, c42, c43, c44⟩, f40, f41, f42, f43, f44⟩ := agg_cells hk43
  obtain ⟨⟨c50, c51, c52, c53, c54⟩, f50, f51, f52, f53, f54⟩ := agg_cells hk53
  obtain ⟨⟨c90, c91, c92, c93, c94⟩, f90, f91, f92, f93, f94⟩ := agg_cells hk9
  have HB3 := Lib.hid fun W (hW : Fr [] w3 W) => hG.buf.fr hW (by simp) (by simp)
  have HK4 := Lib.hid fun W (hW : Fr [] w3 W) => agg_cells (hk43.fr hW (by simp))
  have HK5 := Lib.hid fun W (hW : Fr [] w3 W) => agg_cells (hk53.fr hW (by simp))
  have HK9 := Lib.hid fun W (hW : Fr [] w3 W) => agg_cells (hk9.fr hW (by simp))
  have HSP := Lib.hid fun W (hW : Fr [] w3 W) => impl_space W (HB3.out W hW)
  have HST := Lib.hid fun W (hW : Fr [] w3 W) => Buffer_String W (HB3.out W hW)
  have HGR := Lib.hid hG
  clear hG hk9 hk43 hk53 hk4 hk5 hB hB2
  go_wp2_with fail
  go_region_with (first
    | (go_at_call 37; ((with_reducible refine (HSP.out _ (by first | exact (Fr.refl [] w3).drew | exact ((Fr.refl [] w3).drew).drewN _)).mono ?_); rintro e w5 ⟨m5, a5, c5, rfl, H5, hf5⟩; have hf35 : Fr [] w3 w5 := (by first | exact (Fr.refl [] w3).drew.trans hf5 | exact ((Fr.refl [] w3).drew.drewN _).trans hf5); obtain ⟨⟨d40, d41, d42, d43, d44⟩, e40, e41, e42, e43, e44⟩ := HK4.out w5 hf35; obtain ⟨⟨d50, d51, d52, d53, d54⟩, e50, e51, e52, e53, e54⟩ := HK5.out w5 hf35; obtain ⟨⟨d90, d91, d92, d93, d94⟩, e90, e91, e92, e93, e94⟩ := HK9.out w5 hf35))
    | (go_at_call 32; ((with_reducible refine (HST.out _ (by first | exact (Fr.refl [] w3).drew | assumption)).mono ?_); rintro e w6 ⟨s, rfl, H6, k6, rfl⟩)))
  all_goals
    have hfr := hfw.trans hf35
    have hroom := HGR.out.room
    have hcap := HGR.out.cap
    have hkeep := HGR.out.keeps
    have hcl := HGR.out.buf.cap_le
    have hrd := HGR.out.reads
    rw [unread_pad] at hrd
    obtain ⟨hm1, hc1, ha1⟩ := H2.out
    obtain ⟨hm5, hc5, ha5⟩ := H5.out
    have hs6 := H6.out
    obtain rfl : m = m5 := by omega
    have HFIN : Hid (m = l.length ∧ c2 = m + a2 ∧ c5 = m + a5 ∧ n ≤ a5 ∧ a2 ≤ a5 ∧ (n ≤ a2 → a5 = a2) ∧ s = l ∧ c5 ≤ 9223372036854775807) := by
      simp only [List.length_append] at *
      refine ⟨by omega, by omega, by omega, by omega, by omega, fun h => ?_, ?_, by omega⟩
      · have := hkeep (by omega)
        omega
      · rw [hs6, hrd]
        rfl
    clear hm1 hc1 ha1 hm5 hc5 ha5 hs6 hroom hcap hkeep hcl hrd H2 H5 H6
    go_wp2_with fail
    refine bodyPost_ret (v := .tuple #[.agg #[.int .i64 (m : Int), .int .i64 (c2 : Int), .int .i64 (a2 : Int), .int .i64 0, .int .i64 (a2 : Int)], .agg #[.int .i64 (m : Int), .int .i64 (c5 : Int), .int .i64 (a5 : Int), .int .i64 0, .int .i64 (a5 : Int)], .string ⟨s.toArray⟩, .bool true]) (by simp [results, Tryd.results17, go_sem, *]) rfl ⟨m, c2, a2, c5, a5, s, rfl, HFIN, ?_⟩
    repeat (refine Fr.setCell ?_ (.inr (by simp)) _)
    first
      | exact hfr
      | exact hfr.drewN _

end Go.Proofs.YtgniidnbpkhmcaaDoor
