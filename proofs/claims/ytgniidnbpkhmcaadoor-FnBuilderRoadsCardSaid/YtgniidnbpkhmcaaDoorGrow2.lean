/- A bytes.Buffer's grow. -/
import Derived.Test.YtgniidnbpkhmcaaDoorGrow
namespace Go.Proofs.YtgniidnbpkhmcaaDoor
open Go.RowKit
set_option linter.unusedVariables false
attribute [local go_sem ↓] Go.wp_at_zero Go.wp_at_succ

/-- What grow leaves. -/
structure Grew (w w' : World) (b : Nat) (g : Option Nat) (row : List UInt8) (len off : Nat) (lr : Int) (n : Nat) (g' : Option Nat) (row' : List UInt8) (m off' : Nat) (lr' : Int) : Prop where
  buf : Buf w' b g' row' (m + n) off' lr'
  off_le : off' ≤ m
  m_le : m ≤ len
  reads : unread row' m off' = unread row len off
  cap : row.length ≤ row'.length
  keeps : len + n ≤ row.length → row'.length = row.length
  zero : off = 0 → m = len ∧ off' = 0
  lr_ : lr' = lr ∨ lr' = 0
  fr : Fr (b :: g.toList) w w'
  at_ : ∀ x, g' = some x → g = some x ∨ w.heap.size ≤ x

theorem unread_over (row u : List UInt8) (h : u.length ≤ row.length) : unread (over row 0 u) u.length 0 = u := by
  unfold unread over
  simp
theorem unread_head (row' u : List UInt8) (m : Nat) (h : row'.take m = u) : unread row' m 0 = u := by
  unfold unread
  rw [h]
  simp

theorem makes64 (W : World) (n : Nat) (hn : n ≤ 64) : (Instr.makeSlice 22 (.int .i64 (n : Int)) (.int .i64 64)).run Tryd.prog W = .ok (.slice (some ⟨W.heap.size, 0, none⟩) n 64) (W.alloc (.cells (madeCells #[.int .u8 0] 64) 5)) := by
  obtain ⟨i, hi, hz0, hz1, hz2⟩ := info_parts (P := Tryd.prog) (e := 5) (z := .int .u8 0) (size := 1) (bytes := 1) (by kernel_rfl)
  have hmk := run_make (P := Tryd.prog) W 22 5 i (.int .u8 0) Tryd.underlying22 hi hz0 .i64 .i64 n 64 (by omega) (by omega) (by rw [hz2]; omega) (by omega)
  rw [hz1] at hmk
  simpa [Value.cells] using hmk
theorem row_zeros (w : World) (n : Nat) : Row (w.alloc (.cells (madeCells #[.int .u8 0] n) 5)) w.heap.size (List.replicate n 0) := by
  have e : madeCells #[Value.int .u8 0] n = bvs (List.replicate n 0) := by
    apply Array.ext'
    rw [toList_madeCells_one]
    simp [bvs, bv]
  rw [e]
  exact ⟨0, 0, heap_alloc_new w _, .inl (Nat.le_refl _)⟩

set_option maxHeartbeats 6400000 in
set_option maxRecDepth 100000 in
theorem Buffer_grow {b : Nat} {g : Option Nat} {row : List UInt8} {len off : Nat} {lr : Int} (w : World) (h : Buf w b g row len off lr) (n : Nat) (hlim : len + n ≤ 140737488355328) :
    Calls Tryd.prog 51 #[.pointer (some ⟨b, 0, none⟩), .int .i64 (n : Int)] w fun e w' => ∃ (g' : Option Nat) (row' : List UInt8) (m off' : Nat) (lr' : Int), e = .returned (.int .i64 (m : Int)) ∧ Grew w w' b g row len off lr n g' row' m off' lr' := by
  have hol := h.off_le
  have hll := h.len_le
  have hcl := h.cap_le
  have hL := Lib.hid (Buffer_Len w h)
  have HR := Lib.hid fun k => Buffer_Reset _ (h.drewN k)
  have HB := Lib.hid fun k => h.drewN k
  have hc1 : ∀ k, (w.drewN k).cell? ⟨b, 1, none⟩ = some (.int .i64 (off : Int)) := fun k => (h.drewN k).c1
  have hnn := h.none_
  have hgw : ∀ x, g = some x → x < w.heap.size := fun x e => (h.some_ x e).2.lt
  have hbw := h.blk.lt
  have HGW := Lib.hid hgw
  have HNN := Lib.hid hnn
  have hHC := Lib.hid hc1
  have hM0 : ∃ M, M = len - off := ⟨_, rfl⟩
  obtain ⟨M, hM⟩ := hM0
  rw [← hM] at hL
  have HM := Lib.hid hM
  clear h hM hgw hnn hc1
  go_enter Tryd.func51, Tryd.ntmps51
  go_wp2_with fail
  refine hL.out.mono ?_
  rintro e w0 ⟨rfl, k0, rfl⟩
  have c1 := hHC.out k0
  rcases (show ((((M : Int) == 0) = true) ∧ (((off : Int) != 0) = true)) ∨ ((((M : Int) == 0) = true) ∧ (((off : Int) != 0) = false)) ∨ (((M : Int) == 0) = false) by
    by_cases h1 : M = 0
    · by_cases h2 : off = 0
      · exact .inr (.inl (by simp [h1, h2]))
      · exact .inl (by simp [h1, h2])
    · exact .inr (.inr (by simp [h1]))) with ⟨t1, t2⟩ | ⟨t1, t2⟩ | t1
  · have hME : M = 0 ∧ off ≠ 0 := by simpa using And.intro t1 t2
    obtain ⟨rfl, hof⟩ := hME
    go_wp2_with fail
    refine (HR.out k0).mono ?_
    rintro e w1 ⟨rfl, hB0, hf1⟩
    have hf1' : Fr [b] w w1 := ((Fr.refl [b] w).drewN k0).trans hf1
    obtain ⟨lr1, hB1, HS⟩ : ∃ (lr1 : Int), Buf w1 b g row 0 0 lr1 ∧ Hid (unread row 0 0 = unread row len off ∧ (off = 0 → 0 = len) ∧ (lr1 = lr ∨ lr1 = 0)) := by
      refine ⟨0, hB0, ⟨?_, fun e => absurd e hof, .inr rfl⟩⟩
      rw [unread_eq, unread_eq, ← HM.out]
      simp
    clear hf1 HR HB hB0 hHC c1 t1 t2 hof
    go_wp2_with fail
    by_cases hroom : n ≤ row.length
    · refine (Buffer_tryGrow_yes _ hB1 n (by omega)).mono ?_
      rintro e w2 ⟨rfl, hB2, hf2⟩
      have HB2 := Lib.hid hB2
      clear hB2 hB1
      go_wp2_with fail
      go_ret
      exact ⟨g, row, 0, 0, lr1, rfl, ⟨HB2.out, Nat.le_refl _, Nat.zero_le _, HS.out.1, Nat.le_refl _, fun _ => rfl, fun e => ⟨by first | exact HS.out.2.1 e | exact HS.out.2.1 trivial, rfl⟩, HS.out.2.2, (hf1'.trans hf2).more (by simp), fun x e => .inl e⟩⟩
    · refine (Buffer_tryGrow_no _ hB1 n (by omega)).mono ?_
      rintro e w2 ⟨rfl, rfl⟩
      cases g with
      | none =>
        have hrow := HNN.out rfl
        by_cases hn64 : n ≤ 64
        · subst hrow
          have hmk := fun W => makes64 W n hn64
          have hnil := fun W => Go.run_eql_slice_nil (P := Tryd.prog) W 22 5 none 0 0 Tryd.underlying22
          simp only [Option.isNone_none] at hnil
          have c0 := hB1.c0
          have f0 := hB1.fz 0
          have hbN : b < w1.heap.size := hB1.blk.lt
          have HB1 := Lib.hid hB1
          simp only [Option.map_none, List.length_nil] at c0
          clear hB1
          go_wp2_with fail
          go_ret
          refine ⟨some w1.heap.size, List.replicate 64 0, 0, 0, lr1, rfl, ⟨⟨?_, Nat.zero_le _, by simp; omega, by simp, by simp, ?_⟩, Nat.le_refl _, Nat.zero_le _, ?_, by simp, fun h => by simp at h; omega, fun e => ⟨by first | exact HS.out.2.1 e | exact HS.out.2.1 trivial, rfl⟩, HS.out.2.2, ?_, ?_⟩⟩
          · have := (HB1.out.blk.set_ 0 (.slice (some ⟨w1.heap.size, 0, none⟩) n 64)).alloc (.cells (madeCells #[.int .u8 0] 64) 5)
            simpa using this
          · rintro x ⟨⟩
            have hne : w1.heap.size ≠ b := by omega
            refine ⟨hne, ?_⟩
            have := row_zeros (w1.setCell ⟨b, 0, none⟩ (.slice (some ⟨w1.heap.size, 0, none⟩) n 64)) 64
            simpa [World.setCell] using this
          · rw [← HS.out.1]
            simp [unread]
          · exact ((hf1'.setCell (.inl (by simp)) _).alloc _).more (by simp)
          · rintro x ⟨⟩
            exact .inr hf1'.size
        · have HROW := Lib.hid hrow
          clear hrow
          have h64 : decide ((n : Int) ≤ 64) = false := by simp; omega
          have hg0 := bytes_growSlice none 0 row.length n [] w1.drew ⟨rfl, Rd.nil _ _⟩ (by omega) (by omega) (by omega) (by omega)
          have HG := Lib.hid hg0
          have hsl := fun W => run_cut_l (P := Tryd.prog) 22 5 Tryd.underlying22 size5 none 0 row.length W 0 (Nat.le_refl _)
          simp only [Int.natCast_zero, cutA_zero, Nat.sub_zero] at hsl
          have hwr : IntKind.i64.wrap (n : Int) = (n : Int) := IntWalk.i64_in _ (by omega)
          have hd1 : decide ((n : Int) ≤ (row.length : Int) / 2) = false := by simp; omega
          have hd2 : decide ((9223372036854775807 : Int) - (row.length : Int) - (n : Int) < (row.length : Int)) = false := by simp; omega
          have c0 := hB1.c0
          have c1' := hB1.c1
          have hbN : b < w1.heap.size := hB1.blk.lt
          have HB1 := Lib.hid hB1
          simp only [Option.map_none, Int.natCast_zero] at c0 c1'
          have hnil := fun W => Go.run_eql_slice_nil (P := Tryd.prog) W 22 5 none 0 row.length Tryd.underlying22
          simp only [Option.isNone_none] at hnil
          clear hg0 hB1
          go_wp2_with fail
          go_region_with ((go_at_call 63; ((with_reducible refine HG.out.mono ?_); rintro e w2 ⟨row2, rfl, hR2, H2, hn2, hc2, hf2⟩; have hB2 := HB1.out.fr (((Fr.refl [] w1).drew).trans hf2) (by simp) (by simp); have d0 := hB2.c0; have d1 := hB2.c1; have f0 := hB2.fz 0; have f1 := hB2.fz 1; have HB2 := Lib.hid hB2; clear hB2; have HR2 := Lib.hid hR2; clear hR2; have hsl2 := fun W => run_cut_h (P := Tryd.prog) 22 5 Tryd.underlying22 size5 (some ⟨w1.heap.size, 0, none⟩) 0 row2.length W n (by omega); simp only [Int.natCast_zero] at d1)))
          all_goals
            go_wp2_with fail
            go_ret
            refine ⟨some w1.heap.size, row2, 0, 0, lr1, rfl, ⟨⟨?_, Nat.zero_le _, by have := hn2; omega, hc2, by simp, ?_⟩, Nat.zero_le _, Nat.zero_le _, ?_, by omega, fun h => by omega, fun e => ?_, HS.out.2.2, ?_, ?_⟩⟩
            · have hk := ((HB2.out.blk.set_ 0 (.slice (some ⟨w1.heap.size, 0, none⟩) (0) row2.length)).set_ 1 (.int .i64 0)).set_ 0 (.slice (some ⟨w1.heap.size, 0, none⟩) (0 + n) row2.length)
              simpa using hk
            · rintro x ⟨⟩
              have hne : w1.heap.size ≠ b := by omega
              exact ⟨hne, ((HR2.out.far (by simpa using Ne.symm hne) _).far (by simpa using Ne.symm hne) _).far (by simpa using Ne.symm hne) _⟩
            · rw [← HS.out.1]
              simp [unread]
            · exact ⟨by first | exact HS.out.2.1 e | exact HS.out.2.1 trivial, rfl⟩
            · have hfa : Fr [b] w w2 := hf1'.trans_of (((Fr.refl [] w1).drew).trans hf2) (by simp)
              exact (((hfa.setCell (.inl (by simp)) _).setCell (.inl (by simp)) _).setCell (.inl (by simp)) _).more (by simp)
            · rintro x ⟨⟩
              exact .inr hf1'.size
      | some y =>
        have hg0 := bytes_growSlice (some ⟨y, 0, none⟩) 0 row.length n [] w1.drew ⟨rfl, Rd.nil _ _⟩ (by omega) (by omega) (by omega) (by omega)
        have HG := Lib.hid hg0
        have hsl := fun W => run_cut_l (P := Tryd.prog) 22 5 Tryd.underlying22 size5 (some ⟨y, 0, none⟩) 0 row.length W 0 (Nat.le_refl _)
        simp only [Int.natCast_zero, cutA_zero, Nat.sub_zero] at hsl
        have hwr : IntKind.i64.wrap (n : Int) = (n : Int) := IntWalk.i64_in _ (by omega)
        have hd1 : decide ((n : Int) ≤ (row.length : Int) / 2) = false := by simp; omega
        have hd2 : decide ((9223372036854775807 : Int) - (row.length : Int) - (n : Int) < (row.length : Int)) = false := by simp; omega
        have c0 := hB1.c0
        have c1' := hB1.c1
        have hbN : b < w1.heap.size := hB1.blk.lt
        have HB1 := Lib.hid hB1
        simp only [Option.map_some, Int.natCast_zero] at c0 c1'
        have hnil := fun W => Go.run_eql_slice_nil (P := Tryd.prog) W 22 5 (some ⟨y, 0, none⟩) 0 row.length Tryd.underlying22
        simp only [Option.isNone_some] at hnil
        clear hg0 hB1
        go_wp2_with fail
        go_region_with ((go_at_call 63; ((with_reducible refine HG.out.mono ?_); rintro e w2 ⟨row2, rfl, hR2, H2, hn2, hc2, hf2⟩; have hB2 := HB1.out.fr (((Fr.refl [] w1).drew).trans hf2) (by simp) (by simp); have d0 := hB2.c0; have d1 := hB2.c1; have f0 := hB2.fz 0; have f1 := hB2.fz 1; have HB2 := Lib.hid hB2; clear hB2; have HR2 := Lib.hid hR2; clear hR2; have hsl2 := fun W => run_cut_h (P := Tryd.prog) 22 5 Tryd.underlying22 size5 (some ⟨w1.heap.size, 0, none⟩) 0 row2.length W n (by omega); simp only [Int.natCast_zero] at d1)))
        all_goals
          go_wp2_with fail
          go_ret
          refine ⟨some w1.heap.size, row2, 0, 0, lr1, rfl, ⟨⟨?_, Nat.zero_le _, by have := hn2; omega, hc2, by simp, ?_⟩, Nat.zero_le _, Nat.zero_le _, ?_, by omega, fun h => by omega, fun e => ?_, HS.out.2.2, ?_, ?_⟩⟩
          · have hk := ((HB2.out.blk.set_ 0 (.slice (some ⟨w1.heap.size, 0, none⟩) (0) row2.length)).set_ 1 (.int .i64 0)).set_ 0 (.slice (some ⟨w1.heap.size, 0, none⟩) (0 + n) row2.length)
            simpa using hk
          · rintro x ⟨⟩
            have hne : w1.heap.size ≠ b := by omega
            exact ⟨hne, ((HR2.out.far (by simpa using Ne.symm hne) _).far (by simpa using Ne.symm hne) _).far (by simpa using Ne.symm hne) _⟩
          · rw [← HS.out.1]
            simp [unread]
          · exact ⟨by first | exact HS.out.2.1 e | exact HS.out.2.1 trivial, rfl⟩
          · have hfa : Fr [b] w w2 := hf1'.trans_of (((Fr.refl [] w1).drew).trans hf2) (by simp)
            exact (((hfa.setCell (.inl (by simp)) _).setCell (.inl (by simp)) _).setCell (.inl (by simp)) _).more (by simp)
          · rintro x ⟨⟩
            exact .inr hf1'.size
  · have hME : M = 0 ∧ off = 0 := by simpa using And.intro t1 t2
    obtain ⟨rfl, rfl⟩ := hME
    have hf1' : Fr [b] w (w.drewN k0) := (Fr.refl [b] w).drewN k0
    obtain ⟨lr1, hB1, HS⟩ : ∃ (lr1 : Int), Buf (w.drewN k0) b g row 0 0 lr1 ∧ Hid (unread row 0 0 = unread row len 0 ∧ ((0 : Nat) = 0 → 0 = len) ∧ (lr1 = lr ∨ lr1 = 0)) := by
      have hlen : len = 0 := by have := HM.out; omega
      refine ⟨lr, by have := HB.out k0; rw [hlen] at this; exact this, ⟨by rw [hlen], fun _ => hlen.symm, .inl rfl⟩⟩
    clear HR HB hHC t1 t2
    simp only [Int.natCast_zero] at c1
    go_wp2_with fail
    clear c1
    generalize w.drewN k0 = w1 at *
    by_cases hroom : n ≤ row.length
    · refine (Buffer_tryGrow_yes _ hB1 n (by omega)).mono ?_
      rintro e w2 ⟨rfl, hB2, hf2⟩
      have HB2 := Lib.hid hB2
      clear hB2 hB1
      go_wp2_with fail
      go_ret
      exact ⟨g, row, 0, 0, lr1, rfl, ⟨HB2.out, Nat.le_refl _, Nat.zero_le _, HS.out.1, Nat.le_refl _, fun _ => rfl, fun e => ⟨by first | exact HS.out.2.1 e | exact HS.out.2.1 trivial, rfl⟩, HS.out.2.2, (hf1'.trans hf2).more (by simp), fun x e => .inl e⟩⟩
    · refine (Buffer_tryGrow_no _ hB1 n (by omega)).mono ?_
      rintro e w2 ⟨rfl, rfl⟩
      cases g with
      | none =>
        have hrow := HNN.out rfl
        by_cases hn64 : n ≤ 64
        · subst hrow
          have hmk := fun W => makes64 W n hn64
          have hnil := fun W => Go.run_eql_slice_nil (P := Tryd.prog) W 22 5 none 0 0 Tryd.underlying22
          simp only [Option.isNone_none] at hnil
          have c0 := hB1.c0
          have f0 := hB1.fz 0
          have hbN : b < w1.heap.size := hB1.blk.lt
          have HB1 := Lib.hid hB1
          simp only [Option.map_none, List.length_nil] at c0
          clear hB1
          go_wp2_with fail
          go_ret
          refine ⟨some w1.heap.size, List.replicate 64 0, 0, 0, lr1, rfl, ⟨⟨?_, Nat.zero_le _, by simp; omega, by simp, by simp, ?_⟩, Nat.le_refl _, Nat.zero_le _, ?_, by simp, fun h => by simp at h; omega, fun e => ⟨by first | exact HS.out.2.1 e | exact HS.out.2.1 trivial, rfl⟩, HS.out.2.2, ?_, ?_⟩⟩
          · have := (HB1.out.blk.set_ 0 (.slice (some ⟨w1.heap.size, 0, none⟩) n 64)).alloc (.cells (madeCells #[.int .u8 0] 64) 5)
            simpa using this
          · rintro x ⟨⟩
            have hne : w1.heap.size ≠ b := by omega
            refine ⟨hne, ?_⟩
            have := row_zeros (w1.setCell ⟨b, 0, none⟩ (.slice (some ⟨w1.heap.size, 0, none⟩) n 64)) 64
            simpa [World.setCell] using this
          · rw [← HS.out.1]
            simp [unread]
          · exact ((hf1'.setCell (.inl (by simp)) _).alloc _).more (by simp)
          · rintro x ⟨⟩
            exact .inr hf1'.size
        · have HROW := Lib.hid hrow
          clear hrow
          have h64 : decide ((n : Int) ≤ 64) = false := by simp; omega
          have hg0 := bytes_growSlice none 0 row.length n [] w1.drew ⟨rfl, Rd.nil _ _⟩ (by omega) (by omega) (by omega) (by omega)
          have HG := Lib.hid hg0
          have hsl := fun W => run_cut_l (P := Tryd.prog) 22 5 Tryd.underlying22 size5 none 0 row.length W 0 (Nat.le_refl _)
          simp only [Int.natCast_zero, cutA_zero, Nat.sub_zero] at hsl
          have hwr : IntKind.i64.wrap (n : Int) = (n : Int) := IntWalk.i64_in _ (by omega)
          have hd1 : decide ((n : Int) ≤ (row.length : Int) / 2) = false := by simp; omega
          have hd2 : decide ((9223372036854775807 : Int) - (row.length : Int) - (n : Int) < (row.length : Int)) = false := by simp; omega
          have c0 := hB1.c0
          have c1' := hB1.c1
          have hbN : b < w1.heap.size := hB1.blk.lt
          have HB1 := Lib.hid hB1
          simp only [Option.map_none, Int.natCast_zero] at c0 c1'
          have hnil := fun W => Go.run_eql_slice_nil (P := Tryd.prog) W 22 5 none 0 row.length Tryd.underlying22
          simp only [Option.isNone_none] at hnil
          clear hg0 hB1
          go_wp2_with fail
          go_region_with ((go_at_call 63; ((with_reducible refine HG.out.mono ?_); rintro e w2 ⟨row2, rfl, hR2, H2, hn2, hc2, hf2⟩; have hB2 := HB1.out.fr (((Fr.refl [] w1).drew).trans hf2) (by simp) (by simp); have d0 := hB2.c0; have d1 := hB2.c1; have f0 := hB2.fz 0; have f1 := hB2.fz 1; have HB2 := Lib.hid hB2; clear hB2; have HR2 := Lib.hid hR2; clear hR2; have hsl2 := fun W => run_cut_h (P := Tryd.prog) 22 5 Tryd.underlying22 size5 (some ⟨w1.heap.size, 0, none⟩) 0 row2.length W n (by omega); simp only [Int.natCast_zero] at d1)))
          all_goals
            go_wp2_with fail
            go_ret
            refine ⟨some w1.heap.size, row2, 0, 0, lr1, rfl, ⟨⟨?_, Nat.zero_le _, by have := hn2; omega, hc2, by simp, ?_⟩, Nat.zero_le _, Nat.zero_le _, ?_, by omega, fun h => by omega, fun e => ?_, HS.out.2.2, ?_, ?_⟩⟩
            · have hk := ((HB2.out.blk.set_ 0 (.slice (some ⟨w1.heap.size, 0, none⟩) (0) row2.length)).set_ 1 (.int .i64 0)).set_ 0 (.slice (some ⟨w1.heap.size, 0, none⟩) (0 + n) row2.length)
              simpa using hk
            · rintro x ⟨⟩
              have hne : w1.heap.size ≠ b := by omega
              exact ⟨hne, ((HR2.out.far (by simpa using Ne.symm hne) _).far (by simpa using Ne.symm hne) _).far (by simpa using Ne.symm hne) _⟩
            · rw [← HS.out.1]
              simp [unread]
            · exact ⟨by first | exact HS.out.2.1 e | exact HS.out.2.1 trivial, rfl⟩
            · have hfa : Fr [b] w w2 := hf1'.trans_of (((Fr.refl [] w1).drew).trans hf2) (by simp)
              exact (((hfa.setCell (.inl (by simp)) _).setCell (.inl (by simp)) _).setCell (.inl (by simp)) _).more (by simp)
            · rintro x ⟨⟩
              exact .inr hf1'.size
      | some y =>
        have hg0 := bytes_growSlice (some ⟨y, 0, none⟩) 0 row.length n [] w1.drew ⟨rfl, Rd.nil _ _⟩ (by omega) (by omega) (by omega) (by omega)
        have HG := Lib.hid hg0
        have hsl := fun W => run_cut_l (P := Tryd.prog) 22 5 Tryd.underlying22 size5 (some ⟨y, 0, none⟩) 0 row.length W 0 (Nat.le_refl _)
        simp only [Int.natCast_zero, cutA_zero, Nat.sub_zero] at hsl
        have hwr : IntKind.i64.wrap (n : Int) = (n : Int) := IntWalk.i64_in _ (by omega)
        have hd1 : decide ((n : Int) ≤ (row.length : Int) / 2) = false := by simp; omega
        have hd2 : decide ((9223372036854775807 : Int) - (row.length : Int) - (n : Int) < (row.length : Int)) = false := by simp; omega
        have c0 := hB1.c0
        have c1' := hB1.c1
        have hbN : b < w1.heap.size := hB1.blk.lt
        have HB1 := Lib.hid hB1
        simp only [Option.map_some, Int.natCast_zero] at c0 c1'
        have hnil := fun W => Go.run_eql_slice_nil (P := Tryd.prog) W 22 5 (some ⟨y, 0, none⟩) 0 row.length Tryd.underlying22
        simp only [Option.isNone_some] at hnil
        clear hg0 hB1
        go_wp2_with fail
        go_region_with ((go_at_call 63; ((with_reducible refine HG.out.mono ?_); rintro e w2 ⟨row2, rfl, hR2, H2, hn2, hc2, hf2⟩; have hB2 := HB1.out.fr (((Fr.refl [] w1).drew).trans hf2) (by simp) (by simp); have d0 := hB2.c0; have d1 := hB2.c1; have f0 := hB2.fz 0; have f1 := hB2.fz 1; have HB2 := Lib.hid hB2; clear hB2; have HR2 := Lib.hid hR2; clear hR2; have hsl2 := fun W => run_cut_h (P := Tryd.prog) 22 5 Tryd.underlying22 size5 (some ⟨w1.heap.size, 0, none⟩) 0 row2.length W n (by omega); simp only [Int.natCast_zero] at d1)))
        all_goals
          go_wp2_with fail
          go_ret
          refine ⟨some w1.heap.size, row2, 0, 0, lr1, rfl, ⟨⟨?_, Nat.zero_le _, by have := hn2; omega, hc2, by simp, ?_⟩, Nat.zero_le _, Nat.zero_le _, ?_, by omega, fun h => by omega, fun e => ?_, HS.out.2.2, ?_, ?_⟩⟩
          · have hk := ((HB2.out.blk.set_ 0 (.slice (some ⟨w1.heap.size, 0, none⟩) (0) row2.length)).set_ 1 (.int .i64 0)).set_ 0 (.slice (some ⟨w1.heap.size, 0, none⟩) (0 + n) row2.length)
            simpa using hk
          · rintro x ⟨⟩
            have hne : w1.heap.size ≠ b := by omega
            exact ⟨hne, ((HR2.out.far (by simpa using Ne.symm hne) _).far (by simpa using Ne.symm hne) _).far (by simpa using Ne.symm hne) _⟩
          · rw [← HS.out.1]
            simp [unread]
          · exact ⟨by first | exact HS.out.2.1 e | exact HS.out.2.1 trivial, rfl⟩
          · have hfa : Fr [b] w w2 := hf1'.trans_of (((Fr.refl [] w1).drew).trans hf2) (by simp)
            exact (((hfa.setCell (.inl (by simp)) _).setCell (.inl (by simp)) _).setCell (.inl (by simp)) _).more (by simp)
          · rintro x ⟨⟩
            exact .inr hf1'.size
  · have hf1' : Fr [b] w (w.drewN k0) := (Fr.refl [b] w).drewN k0
    obtain ⟨len1, off1, lr1, hB1, HS, hlim1⟩ : ∃ (len1 off1 : Nat) (lr1 : Int), Buf (w.drewN k0) b g row len1 off1 lr1 ∧ Hid (M = len1 - off1 ∧ unread row len1 off1 = unread row len off ∧ (off = 0 → len1 = len ∧ off1 = 0) ∧ (lr1 = lr ∨ lr1 = 0) ∧ len1 ≤ len) ∧ len1 + n ≤ 140737488355328 :=
      ⟨len, off, lr, HB.out k0, ⟨HM.out, rfl, fun e => ⟨rfl, e⟩, .inl rfl, Nat.le_refl _⟩, hlim⟩
    clear HR HB hHC
    go_wp2_with fail
    clear c1
    generalize w.drewN k0 = w1 at *
    have hl1 := hB1.len_le
    have ho1 := hB1.off_le
    by_cases hroom : len1 + n ≤ row.length
    · refine (Buffer_tryGrow_yes _ hB1 n hroom).mono ?_
      rintro e w2 ⟨rfl, hB2, hf2⟩
      have HB2 := Lib.hid hB2
      clear hB2 hB1
      go_wp2_with fail
      go_ret
      exact ⟨g, row, len1, off1, lr1, rfl, ⟨HB2.out, ho1, HS.out.2.2.2.2, HS.out.2.1, Nat.le_refl _, fun _ => rfl, HS.out.2.2.1, HS.out.2.2.2.1, (hf1'.trans hf2).more (by simp), fun x e => .inl e⟩⟩
    · refine (Buffer_tryGrow_no _ hB1 n (by omega)).mono ?_
      rintro e w2 ⟨rfl, rfl⟩
      have hlen1 := HS.out.2.2.2.2
      have hMl : M ≤ len1 := by have := HS.out.1; omega
      cases g with
      | none =>
        have hrow := HNN.out rfl
        have : row.length = 0 := by rw [hrow]; rfl
        have h1 := HS.out.1
        have h2 : M ≠ 0 := by simpa using t1
        omega
      | some y =>
        by_cases hsl0 : n + M ≤ row.length / 2
        · have hS : Sl w1.drew (cutA (some ⟨y, 0, none⟩) row.length off1) (len1 - off1) (unread row len1 off1) := by
            refine ⟨(unread_length hl1).symm, ?_⟩
            rw [unread_eq]
            exact hB1.drew.rd_cut off1 (len1 - off1)
          obtain ⟨hyb, hR⟩ := hB1.some_ y rfl
          have hRd : Row w1.drew y row := hR
          have hul := unread_length (row := row) (off := off1) hl1
          have hcp := run_copy_sl (P := Tryd.prog) hRd hS 22 22 3 Tryd.underlying22 size5 0 len1 row.length (row.length - off1) (by omega)
          rw [List.take_of_length_le (by omega), cutA_zero] at hcp
          have hR2 := row_setCells hRd 0 (unread row len1 off1) (by omega)
          have hf2 := fr_setCells y ((unread row len1 off1).map bv) 0 w1.drew
          have hB1d := hB1.drew
          have hk2 : Blk (w1.drew.setCells y 0 ((unread row len1 off1).map bv)) b 81 _ := hB1d.blk.fr hf2 (by simpa using Ne.symm hyb)
          have d0 : (w1.drew.setCells y 0 ((unread row len1 off1).map bv)).cell? ⟨b, 0, none⟩ = some (.slice (some ⟨y, 0, none⟩) len1 row.length) := hk2.cell 0
          have d1 : (w1.drew.setCells y 0 ((unread row len1 off1).map bv)).cell? ⟨b, 1, none⟩ = some (.int .i64 (off1 : Int)) := hk2.cell 1
          have f0 := hk2.frozen 0
          have f1 := hk2.frozen 1
          have hsl := fun W => run_cut_l (P := Tryd.prog) 22 5 Tryd.underlying22 size5 (some ⟨y, 0, none⟩) len1 row.length W off1 ho1
          have hsl2 := fun W => run_cut_h (P := Tryd.prog) 22 5 Tryd.underlying22 size5 (some ⟨y, 0, none⟩) len1 row.length W (M + n) (by omega)
          rw [Int.natCast_add] at hsl2
          have hd1 : decide ((n : Int) ≤ (row.length : Int) / 2 - (M : Int)) = true := by simp; omega
          have c0 := hB1.c0
          have c1' := hB1.c1
          simp only [Option.map_some] at c0
          have hnil := fun W => Go.run_eql_slice_nil (P := Tryd.prog) W 22 5 (some ⟨y, 0, none⟩) len1 row.length Tryd.underlying22
          simp only [Option.isNone_some] at hnil
          have hMle : M + n ≤ 140737488355328 := by omega
          have hfa : Fr (b :: (some y).toList) w (w1.drew.setCells y 0 ((unread row len1 off1).map bv)) := (hf1'.drew.more (by simp)).trans (hf2.more (by simp))
          have hol2 : (over row 0 (unread row len1 off1)).length = row.length := over_length _ _ _ (by omega)
          have HK := Lib.hid hk2
          have HR2 := Lib.hid hR2
          have HFA := Lib.hid hfa
          have HU := Lib.hid (unread_over row (unread row len1 off1) (by omega))
          have HO2 := Lib.hid hol2
          have HUL := Lib.hid hul
          clear hS hB1 hR hRd hR2 hf2 hB1d hk2 hfa hol2 hul
          generalize (w1.drew.setCells y 0 ((unread row len1 off1).map bv)) = w2 at *
          go_wp2_with fail
          go_region
          all_goals
            go_wp2_with fail
            go_ret
            refine ⟨some y, over row 0 (unread row len1 off1), M, 0, lr1, rfl, ⟨⟨?_, Nat.zero_le _, by rw [HO2.out]; omega, by rw [HO2.out]; omega, by simp, ?_⟩, Nat.zero_le _, by omega, ?_, by rw [HO2.out]; exact Nat.le_refl _, fun _ => HO2.out, fun e => ?_, HS.out.2.2.2.1, ?_, fun x e => .inl e⟩⟩
            · rw [HO2.out]
              exact (HK.out.set_ 1 _).set_ 0 _
            · rintro x ⟨⟩
              exact ⟨hyb, (HR2.out.far (by simpa using Ne.symm hyb) _).far (by simpa using Ne.symm hyb) _⟩
            · have e1 := HU.out
              rw [HUL.out, ← HS.out.1] at e1
              rw [e1]
              exact HS.out.2.1
            · have := HS.out.2.2.1 e; have := HS.out.1; omega
            · exact (HFA.out.setCell (.inl (by simp)) _).setCell (.inl (by simp)) _
        · have hHS1 := HS.out.1
          have hS : Sl w1.drew (cutA (some ⟨y, 0, none⟩) row.length off1) (len1 - off1) (unread row len1 off1) := by
            refine ⟨(unread_length hl1).symm, ?_⟩
            rw [unread_eq]
            exact hB1.drew.rd_cut off1 (len1 - off1)
          have hg0 := bytes_growSlice (cutA (some ⟨y, 0, none⟩) row.length off1) (len1 - off1) (row.length - off1) (off1 + n) (unread row len1 off1) w1.drew hS (by omega) (by omega) (by omega) (by omega)
          rw [Int.natCast_add] at hg0
          have HG := Lib.hid hg0
          have hsl := fun W => run_cut_l (P := Tryd.prog) 22 5 Tryd.underlying22 size5 (some ⟨y, 0, none⟩) len1 row.length W off1 ho1
          have hwr : IntKind.i64.wrap ((off1 : Int) + (n : Int)) = (off1 : Int) + (n : Int) := IntWalk.i64_in _ (by omega)
          have hd1 : decide ((n : Int) ≤ (row.length : Int) / 2 - (M : Int)) = false := by simp; omega
          have hd2 : decide ((9223372036854775807 : Int) - (row.length : Int) - (n : Int) < (row.length : Int)) = false := by simp; omega
          have c0 := hB1.c0
          have c1' := hB1.c1
          have hbN : b < w1.heap.size := hB1.blk.lt
          have HB1 := Lib.hid hB1
          have hMle : M + n ≤ 140737488355328 := by have := HS.out; omega
          simp only [Option.map_some] at c0
          have hnil := fun W => Go.run_eql_slice_nil (P := Tryd.prog) W 22 5 (some ⟨y, 0, none⟩) len1 row.length Tryd.underlying22
          simp only [Option.isNone_some] at hnil
          clear hS hg0 hB1 hHS1
          go_wp2_with fail
          go_region_with ((go_at_call 63; ((with_reducible refine HG.out.mono ?_); rintro e w2 ⟨row2, rfl, hR2, H2, hn2, hc2, hf2⟩; have hB2 := HB1.out.fr (((Fr.refl [] w1).drew).trans hf2) (by simp) (by simp); have d0 := hB2.c0; have d1 := hB2.c1; have f0 := hB2.fz 0; have f1 := hB2.fz 1; have HB2 := Lib.hid hB2; clear hB2; have HR2 := Lib.hid hR2; clear hR2; have hsl2 := fun W => run_cut_h (P := Tryd.prog) 22 5 Tryd.underlying22 size5 (some ⟨w1.heap.size, 0, none⟩) (len1 - off1) row2.length W (M + n) (by have := HS.out; omega); rw [Int.natCast_add] at hsl2; have hwr2 : IntKind.i64.wrap ((M : Int) + (n : Int)) = (M : Int) + (n : Int) := IntWalk.i64_in _ (by omega))))
          all_goals
            go_wp2_with fail
            go_ret
            refine ⟨some w1.heap.size, row2, M, 0, lr1, rfl, ⟨⟨?_, Nat.zero_le _, by have := HS.out; omega, hc2, by simp, ?_⟩, Nat.zero_le _, by have := HS.out; omega, ?_, by omega, fun h => by have := HS.out; omega, fun e => ?_, HS.out.2.2.2.1, ?_, ?_⟩⟩
            · have hk := ((HB2.out.blk.set_ 0 (.slice (some ⟨w1.heap.size, 0, none⟩) (len1 - off1) row2.length)).set_ 1 (.int .i64 0)).set_ 0 (.slice (some ⟨w1.heap.size, 0, none⟩) (M + n) row2.length)
              simpa using hk
            · rintro x ⟨⟩
              have hne : w1.heap.size ≠ b := by omega
              exact ⟨hne, ((HR2.out.far (by simpa using Ne.symm hne) _).far (by simpa using Ne.symm hne) _).far (by simpa using Ne.symm hne) _⟩
            · rw [← HS.out.2.1]
              exact unread_head _ _ _ (by rw [HS.out.1]; exact H2.out)
            · have := HS.out.2.2.1 e; have := HS.out.1; omega
            · have hfa : Fr [b] w w2 := hf1'.trans_of (((Fr.refl [] w1).drew).trans hf2) (by simp)
              exact (((hfa.setCell (.inl (by simp)) _).setCell (.inl (by simp)) _).setCell (.inl (by simp)) _).more (by simp)
            · rintro x ⟨⟩
              exact .inr hf1'.size

end Go.Proofs.YtgniidnbpkhmcaaDoor
