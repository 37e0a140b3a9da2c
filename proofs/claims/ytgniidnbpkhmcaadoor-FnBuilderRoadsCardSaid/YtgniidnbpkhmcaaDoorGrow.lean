/- A bytes.Buffer that grows. -/
import Derived.Test.YtgniidnbpkhmcaaDoorBuf
import Derived.Test.YtgniidnbpkhmcaaDoorCopy
import Derived.Lib.AppendZeros
import Derived.Lib.ByteType
import Derived.Deep.RegionWith
import Derived.Deep.DrawnRows
import Derived.Defers
import Derived.Recover
import Derived.WalkLawsBesides
namespace Go.Proofs.YtgniidnbpkhmcaaDoor
open Go.RowKit
set_option linter.unusedVariables false
attribute [local go_sem ↓] Go.wp_at_zero Go.wp_at_succ

theorem info5g : (Tryd.prog.info? 5).map (fun i => (i.zero, i.size, i.bytes)) = some (some (.int .u8 0), 1, 1) := by kernel_rfl

section
variable {b : Nat} {g : Option Nat} {row : List UInt8} {len off : Nat} {lr : Int} (w : World) (h : Buf w b g row len off lr)
include h
theorem Buf.reset0 :
    Buf (((w.setCell ⟨b, 0, none⟩ (.slice (g.map fun g => ⟨g, 0, none⟩) 0 row.length)).setCell ⟨b, 1, none⟩ (.int .i64 0)).setCell ⟨b, 2, none⟩ (.int .i8 0)) b g row 0 0 0 :=
  ⟨((h.blk.set_ 0 _).set_ 1 _).set_ 2 _, Nat.le_refl _, Nat.zero_le _, h.cap_le, h.none_, fun y e => ⟨(h.some_ y e).1, (((h.some_ y e).2.far (by simpa using Ne.symm (h.some_ y e).1) _).far (by simpa using Ne.symm (h.some_ y e).1) _).far (by simpa using Ne.symm (h.some_ y e).1) _⟩⟩
theorem Buffer_Reset : Calls Tryd.prog 62 #[.pointer (some ⟨b, 0, none⟩)] w fun e w' => e = .returned (.tuple #[]) ∧ Buf w' b g row 0 0 0 ∧ Fr [b] w w' := by
  have hB := Lib.hid h
  have c0 := h.c0
  have c1 := h.c1
  have c2 := h.c2
  have f0 := h.fz 0
  have f1 := h.fz 1
  have f2 := h.fz 2
  clear h
  generalize hA : (g.map fun g => (⟨g, 0, none⟩ : Addr)) = A at *
  have HA := Lib.hid hA
  clear hA
  have hsl := fun W => run_cut_h (P := Tryd.prog) 22 5 Tryd.underlying22 size5 A len row.length W 0 (Nat.zero_le _)
  simp only [Int.natCast_zero] at hsl
  go_enter Tryd.func62, Tryd.ntmps62
  go_wp2
  go_end0
  have hf := Buf.reset0 _ hB.out
  rw [HA.out] at hf
  exact ⟨rfl, hf, (((Fr.refl [b] w).setCell (.inl (by simp)) _).setCell (.inl (by simp)) _).setCell (.inl (by simp)) _⟩

theorem Buffer_tryGrow_yes (n : Nat) (hn : len + n ≤ row.length) : Calls Tryd.prog 50 #[.pointer (some ⟨b, 0, none⟩), .int .i64 (n : Int)] w fun e w' => e = .returned (.tuple #[.int .i64 (len : Int), .bool true]) ∧ Buf w' b g row (len + n) off lr ∧ Fr [b] w w' := by
  have hB := Lib.hid h
  have c0 := h.c0
  have f0 := h.fz 0
  have hl := h.off_le
  have hm := h.len_le
  have hc := h.cap_le
  clear h
  have hsl := fun W => run_cut_h (P := Tryd.prog) 22 5 Tryd.underlying22 size5 (g.map fun g => ⟨g, 0, none⟩) len row.length W (len + n) hn
  rw [Int.natCast_add] at hsl
  have hd : decide ((n : Int) ≤ (row.length : Int) - (len : Int)) = true := by simp; omega
  go_enter Tryd.func50, Tryd.ntmps50
  go_wp2
  go_ret2
  exact ⟨rfl, hB.out.set0 (len + n) hn (by omega), (Fr.refl [b] w).setCell (.inl (by simp)) _⟩
theorem Buffer_tryGrow_no (n : Nat) (hn : row.length < len + n) : Calls Tryd.prog 50 #[.pointer (some ⟨b, 0, none⟩), .int .i64 (n : Int)] w fun e w' => e = .returned (.tuple #[.int .i64 0, .bool false]) ∧ w = w' := by
  have c0 := h.c0
  have hm := h.len_le
  have hc := h.cap_le
  clear h
  have hd : decide ((n : Int) ≤ (row.length : Int) - (len : Int)) = false := by simp; omega
  go_enter Tryd.func50, Tryd.ntmps50
  go_wp2
  go_ret2
  exact ⟨rfl, rfl⟩
end

theorem growSlice_catch (w : World) :
    CallsD Tryd.prog 68 #[] .returning w fun e u' w' => e = .returned (.tuple #[]) ∧ u' = .returning ∧ w' = w := by
  refine callsD_of_wpS Tryd.func68 rfl fun c₀ cs hu => ?_
  apply wpS_seq
  apply wpS_region
  simp [wpOpsS, go_sem, recoverD, hu, Tryd.ntmps68, Exit.thenS]
  refine wpS_cond (t := false) (by simp [Act.eval, Array.replicate]) ?_
  simp only [Bool.false_eq_true, if_false]
  refine wpS_of_wp (wp_skip ?_)
  cases c₀
  simp_all [bodyPostS, results, Tryd.results68]

theorem zeros_row (w : World) (n c : Nat) (h : n ≤ c) : Row (w.drew.alloc (.cells (Builtin.zeroCells (Value.int .u8 0).cells n ++ Builtin.zeroCells (Value.int .u8 0).cells (c - n)) 5)) w.heap.size (List.replicate c 0) := by
  have e : Builtin.zeroCells (Value.int .u8 0).cells n ++ Builtin.zeroCells (Value.int .u8 0).cells (c - n) = bvs (List.replicate c 0) := by
    apply Array.ext'
    simp [bvs, Builtin.zeroCells, Value.cells, bv, Nat.mod_one, List.map_const']
    omega
  rw [e]
  exact ⟨0, 0, heap_alloc_new w.drew _, .inl (Nat.le_refl _)⟩

set_option maxHeartbeats 2000000 in
set_option maxRecDepth 100000 in
theorem bytes_growSlice (A : Option Addr) (n c k : Nat) (l : List UInt8) (w : World) (hS : Sl w A n l) (hk : 1 ≤ k) (hc : n ≤ c) (hlim : n + k ≤ 140737488355328) (hc2 : 2 * c ≤ 281474976710656) :
    Calls Tryd.prog 63 #[.slice A n c, .int .i64 (k : Int)] w fun e w' => ∃ row' : List UInt8, e = .returned (.slice (some ⟨w.heap.size, 0, none⟩) n row'.length) ∧ Row w' w.heap.size row' ∧ Hid (row'.take n = l) ∧ n + k ≤ row'.length ∧ row'.length ≤ 9223372036854775807 ∧ Fr [] w w' := by
  obtain ⟨i, hi, hz, hsz, hby⟩ : ∃ i, Tryd.prog.info? 5 = some i ∧ i.zero = some (.int .u8 0) ∧ i.size = 1 ∧ i.bytes = 1 := by
    have hinfo := info5g
    cases hi : Tryd.prog.info? 5 with
    | none => simp [hi] at hinfo
    | some i => simp [hi] at hinfo; exact ⟨i, rfl, hinfo.1, hinfo.2.1, hinfo.2.2⟩
  obtain ⟨N, hN1, hN2, hN3, hN4⟩ : ∃ N : Nat, n + k ≤ N ∧ N ≤ 281474976710656 ∧ (n + k < 2 * c → N = 2 * c) ∧ (2 * c ≤ n + k → N = n + k) := by
    by_cases h : n + k < 2 * c
    · exact ⟨2 * c, by omega, by omega, fun _ => rfl, fun _ => by omega⟩
    · exact ⟨n + k, by omega, by omega, fun _ => by omega, fun _ => rfl⟩
  have happ := Lib.run_append_nil_zeros (P := Tryd.prog) w 22 3 22 5 i (.int .u8 0) .i64 .i64 Tryd.underlying22 Tryd.underlying3 hi hz N (by omega) (by omega) (by omega) (by rw [hby]; omega)
  have hge := grownCap_ge w N 0 5
  have hle : grownCap w N 0 5 ≤ 9223372036854775807 := by
    have := grownCap_le_maxLen w N 0 5 (by unfold maxLen; omega)
    unfold maxLen at this
    exact this
  generalize grownCap w N 0 5 = C at *
  have hR := zeros_row w N C (by omega)
  have hf := ((Fr.refl [] w).drew).alloc (.cells (Builtin.zeroCells (Value.int .u8 0).cells N ++ Builtin.zeroCells (Value.int .u8 0).cells (C - N)) 5)
  generalize (w.drew.alloc (.cells (Builtin.zeroCells (Value.int .u8 0).cells N ++ Builtin.zeroCells (Value.int .u8 0).cells (C - N)) 5)) = w1 at *
  have hS1 := hS.fr hf (by simp)
  have hnl := hS.1
  have hlt : l.take N = l := List.take_of_length_le (by omega)
  have hcp := run_copy_sl (P := Tryd.prog) hR hS1 22 22 3 Tryd.underlying22 size5 0 N C c (by simp; omega)
  rw [hlt, show min n N = n by omega, cutA_zero] at hcp
  have hR2 := row_setCells hR 0 l (by simp; omega)
  have hf2 := hf.trans_of (fr_setCells w.heap.size (l.map bv) 0 w1) (by simp)
  have hol : (over (List.replicate C (0 : UInt8)) 0 l).length = C := by rw [over_length _ _ _ (by simp; omega)]; simp
  have htk : (over (List.replicate C (0 : UInt8)) 0 l).take n = l := by
    unfold over
    simp only [List.take_zero, List.nil_append]
    exact List.take_left' hnl.symm
  have HT := Lib.hid htk
  have HR := Lib.hid hR2
  have HF := Lib.hid hf2
  have HO := Lib.hid hol
  clear hR hS hS1 hR2 hf2 hol htk hlt hnl hf
  generalize (w1.setCells w.heap.size 0 (l.map bv)) = w2 at *
  have hsl := fun W => run_cut_h (P := Tryd.prog) 22 5 Tryd.underlying22 size5 (some ⟨w.heap.size, 0, none⟩) N C W n (by omega)
  by_cases hC : n + k < 2 * c
  · have hNe := hN3 hC
    rw [hNe] at happ
    rw [show ((2 * c : Nat) : Int) = 2 * (c : Int) by omega] at happ
    subst hNe
    clear hN3 hN4 hN1 hN2
    go_enter_defers Tryd.func63, Tryd.ntmps63
    go_wp2_with (at_builtin; refine wpList_append_run rfl _ _ _ _ rfl rfl rfl happ ?_)
    refine leaves_cons (f := 68) (args := #[]) (by simp) (by simp [go_sem]) ?_
    refine (growSlice_catch _).mono ?_
    rintro e u' w'' ⟨rfl, rfl, rfl⟩
    refine ⟨_, results_tmp rfl _ _ _, ?_⟩
    exact ⟨_, by rw [HO.out]; rfl, HR.out, HT, by rw [HO.out]; omega, by rw [HO.out]; exact hle, HF.out⟩
  · have hNe := hN4 (by omega)
    rw [hNe] at happ
    rw [show ((n + k : Nat) : Int) = (n : Int) + (k : Int) by omega] at happ
    subst hNe
    clear hN3 hN4 hN1
    go_enter_defers Tryd.func63, Tryd.ntmps63
    go_wp2_with (at_builtin; refine wpList_append_run rfl _ _ _ _ rfl rfl rfl happ ?_)
    refine leaves_cons (f := 68) (args := #[]) (by simp) (by simp [go_sem]) ?_
    refine (growSlice_catch _).mono ?_
    rintro e u' w'' ⟨rfl, rfl, rfl⟩
    refine ⟨_, results_tmp rfl _ _ _, ?_⟩
    exact ⟨_, by rw [HO.out]; rfl, HR.out, HT, by rw [HO.out]; omega, by rw [HO.out]; exact hle, HF.out⟩

end Go.Proofs.YtgniidnbpkhmcaaDoor
