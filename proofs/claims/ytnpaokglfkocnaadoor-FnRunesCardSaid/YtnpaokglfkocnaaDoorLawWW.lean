/- Code points that are written are read again. -/
import Derived.Test.YtnpaokglfkocnaaDoorLawTT
import Derived.Test.YtnpaokglfkocnaaDoorLawNN
import Derived.Test.YtnpaokglfkocnaaDoorDrawR
import Derived.BigQuiet
namespace Go.Proofs.YtnpaokglfkocnaaDoor
open Go.RowKit
set_option linter.unusedVariables false
attribute [local go_sem ↓] Go.wp_at_zero Go.wp_at_succ

theorem chr_enc (z : Int) (hv : validB z = true) (t : List UInt8) : chr (Lib.encodeRune z ++ t) = (z.toNat, (Lib.encodeRune z).length, false) := by
  have hl := enc_len z
  have hne : Lib.encodeRune z ++ t ≠ [] := by intro e; have := congrArg List.length e; simp at this; simp [this.1] at hl
  have hd := dec_of_enc z (by simpa [validB] using hv) t
  rw [chr_cons hne, hd]
theorem rst_encs : ∀ (zs : List Int), (∀ z ∈ zs, validB z = true) → ∀ k, k ≤ zs.length → rst (encs zs).flatten k = (encs (zs.drop k)).flatten
  | zs, hv, 0, _ => by simp [rst]
  | zs, hv, k + 1, hk => by
    have ih := rst_encs zs hv k (by omega)
    rw [rst, ih]
    have hd : zs.drop k = zs[k] :: zs.drop (k + 1) := List.drop_eq_getElem_cons (by omega)
    rw [hd]
    have : (encs (zs[k] :: zs.drop (k + 1))).flatten = Lib.encodeRune zs[k] ++ (encs (zs.drop (k + 1))).flatten := rfl
    rw [this, chr_enc _ (hv _ (List.getElem_mem _))]
    simp
theorem chr_encs (zs : List Int) (hv : ∀ z ∈ zs, validB z = true) (k : Nat) (z : Int) (hz : zs[k]? = some z) : chr (rst (encs zs).flatten k) = (z.toNat, (Lib.encodeRune z).length, false) := by
  obtain ⟨hlt, rfl⟩ := List.getElem?_eq_some_iff.1 hz
  rw [rst_encs zs hv k (by omega), List.drop_eq_getElem_cons hlt]
  have : (encs (zs[k] :: zs.drop (k + 1))).flatten = Lib.encodeRune zs[k] ++ (encs (zs.drop (k + 1))).flatten := rfl
  rw [this, chr_enc _ (hv _ (List.getElem_mem _))]

set_option maxHeartbeats 4000000 in
set_option maxRecDepth 100000 in
theorem FnRunes_walk (A : Option Addr) (n c : Nat) (l : List UInt8) (w : World) (hT : Tabs w) (a : Addr) (hE : Eof w a) (hS : Sl w A n l) :
    Calls Tryd.prog 8 #[.slice A n c] w fun e w' => e = .returned (.bool true) ∧ Below w.heap.size w w' := by
  go_enter Tryd.func8, Tryd.ntmps8
  go_wp2_with fail
  by_cases hn : n ≤ 1048576
  · refine (large_no A n c w hn).mono ?_
    rintro e w1 ⟨rfl, rfl⟩
    go_wp2_with fail
    refine (DrawWriteRunes A n c l w hS hn).mono ?_
    rintro e w1 ⟨B, m, d, zs, rfl, hm, hB, hz, hmd, hf1⟩
    have HT := Lib.hid hT
    have HE := Lib.hid hE
    have hmz : m = zs.length := by have := hB.1; simpa using this
    have HMZ := Lib.hid hmz
    have hav := Lib.hid (spec_AllValid B m d zs w1 hB hz (by omega))
    have hwr := Lib.hid fun W hW => impl_WriteRunes B m d zs W hW hz (by omega)
    clear hT hE hmz hS
    go_wp2_with fail
    refine hav.out.mono ?_
    rintro e w2 ⟨bb, rfl, HB, rfl⟩
    cases bb with
    | false =>
      go_wp2_with fail
      go_ret
      exact ⟨rfl, hf1.below (Nat.le_refl _) (by simp)⟩
    | true =>
      have HVL := Lib.hid (HB.out rfl)
      go_wp2_with fail
      refine (hwr.out w1 hB).mono ?_
      rintro e w2 ⟨A2, c2, s2, rfl, hS2, H2, hf2⟩
      have hf12 := hf1.trans hf2
      have hlen2 : s2.length ≤ 28 := by
        rw [H2.out, List.length_flatten]
        have h1 := encs_le zs
        have h2 := HMZ.out
        omega
      have hrr := Lib.hid (impl_ReadRunes s2 m w2 a (HE.out.fr hf12 (by simp)) (HT.out.fr_old hf12 (by simp)) (by omega) (by omega))
      clear hav hwr
      go_wp2_with fail
      refine hrr.out.mono ?_
      rintro e w3 ⟨A3, c3, s3, rfl, hR3, H3, hf3⟩
      have hs3 : s3 = [] := by
        rw [H3.out, H2.out, rst_encs zs HVL.out m (by have := HMZ.out; omega), List.drop_eq_nil_of_le (by have := HMZ.out; omega)]
        rfl
      subst hs3
      have hB3 := (hB.fr_old (hf2.trans hf3) (by simp))
      have hS3 := hS2.fr_old hf3 (by simp)
      have hf13 := hf12.trans hf3
      clear hrr hB hS2 H3
      go_wp2_with fail
      go_loopw [41] (fun i wr => ∃ k, k ≤ m ∧ i = .int .i64 (k : Int) ∧ Fr [] w3 wr) (fun i _ => m - (intOf i).toNat)
      case atStart => exact ⟨0, Nat.zero_le _, rfl, Fr.refl _ _⟩
      case round =>
        obtain ⟨k, hk, rfl, hfr⟩ := hrel
        by_cases hlt : k < m
        · obtain ⟨ga, rfl, ca⟩ := (hR3.fr_old hfr (by simp)).get (by omega)
          obtain ⟨z, hzk⟩ : ∃ z, zs[k]? = some z := ⟨_, List.getElem?_eq_getElem (by have := HMZ.out; omega)⟩
          have hx := chs_get s2 m k hlt
          rw [H2.out, chr_encs zs HVL.out k z hzk] at hx
          rw [H2.out] at ca
          have hz0 : 0 ≤ z := by
            have := HVL.out z (List.mem_of_getElem? hzk)
            simp [validB] at this
            omega
          have g4 := recs_get icells 4 (fun _ => rfl) (chs (encs zs).flatten m) k
          have a0 := ca _ _ ((g4 0 _ hx (by omega)).trans rfl)
          have a1 := ca _ _ ((g4 1 _ hx (by omega)).trans rfl)
          have a2 := ca _ _ ((g4 2 _ hx (by omega)).trans rfl)
          have a3 := ca _ _ ((g4 3 _ hx (by omega)).trans rfl)
          simp only [Nat.add_zero, Int.toNat_of_nonneg hz0] at a0
          obtain ⟨ad, u, rfl, hu, hcz⟩ := (hB3.fr_old hfr (by simp)).at_ hlt
          rw [List.getElem?_map, hzk] at hu
          simp only [Option.map_some, Option.some.injEq] at hu
          subst hu
          obtain ⟨ae, v, rfl, hv, hcl⟩ := (hS3.fr_old hfr (by simp)).at_ hlt
          have hv2 : v = .int .i64 ((Lib.encodeRune z).length : Int) := by
            rw [List.getElem?_map, List.getElem?_map, encs, List.getElem?_map, hzk] at hv
            simp only [Option.map_some, Option.some.injEq] at hv
            exact hv.symm
          subst hv2
          have l1 : (ad.add k).block < wr.heap.size := block_lt_of_cell hcz
          have l2 : (ae.add k).block < wr.heap.size := block_lt_of_cell hcl
          have bx1 : ∀ o, (wr.alloc o).cell? (ad.add k) = _ := fun o => (((Fr.refl [] wr).alloc o).cell (p := ad.add k) l1 (by simp)).trans hcz
          have bx2 : ∀ o, (wr.alloc o).cell? (ae.add k) = _ := fun o => (((Fr.refl [] wr).alloc o).cell (p := ae.add k) l2 (by simp)).trans hcl
          generalize (Lib.encodeRune z).length = q at *
          clear ca hx g4 hv hzk
          go_wp2_with fail
          go_quiet (fail)
          go_wp2
          go_roundw
          case rel => exact ⟨k + 1, by omega, by go_num, (hfr.alloc _).drewN _⟩
          case measure => simp [intOf]; omega
        · go_wp2_with fail
          go_ret
          exact ⟨rfl, (hf13.trans hfr).below (Nat.le_refl _) (by simp)⟩
  · refine (large_yes A n c w (by omega)).mono ?_
    rintro e w1 ⟨rfl, rfl⟩
    go_wp2_with fail
    go_ret
    exact ⟨rfl, Below.refl _ _⟩

end Go.Proofs.YtnpaokglfkocnaaDoor
