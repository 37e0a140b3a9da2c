/- A look behind a read shows what comes next. -/
import Derived.Test.YtpmcomlgljgopaaDoorScripts
import Derived.Test.YtpmcomlgljgopaaDoorDraw4
import Derived.BigQuiet
namespace Go.Proofs.YtpmcomlgljgopaaDoor
open Go.RowKit
set_option linter.unusedVariables false
attribute [local go_sem ↓] Go.wp_at_zero Go.wp_at_succ

def pkOps (z : Nat) : List OpV := [opS k_peek z, opS k_next z]
def pks (zs : List Nat) : List OpV := zs.flatMap pkOps
def pkSteps (t : List UInt8) : List Nat → List StV
  | [] => []
  | z :: r => ⟨t.take z, 0, 0, if t.length < z then e_end else []⟩ :: ⟨t.take z, 0, 0, []⟩ :: pkSteps (t.drop z) r
theorem run_pks : ∀ (zs : List Nat) (s : Sta), runM s (pks zs) = pkSteps s.text zs ∧ okM s (pks zs) = true
  | [], s => ⟨rfl, rfl⟩
  | z :: r, s => by
    have hnil : ([] : List UInt8) ≠ e_panic := by decide
    have he : (if s.text.length < z then e_end else []) ≠ e_panic := by split <;> decide
    have c1 : callM s (opS k_peek z) = (s.oth s.text, ⟨s.text.take z, 0, 0, if s.text.length < z then e_end else []⟩, true) := callM_peek _ _ rfl
    have c2 : callM (s.oth s.text) (opS k_next z) = ((s.oth s.text).rd (min z s.text.length) 1, ⟨s.text.take z, 0, 0, []⟩, true) := callM_next _ _ rfl
    have e : pks (z :: r) = opS k_peek z :: opS k_next z :: pks r := rfl
    have ih := run_pks r ((s.oth s.text).rd (min z s.text.length) 1)
    have ht : ((s.oth s.text).rd (min z s.text.length) 1).text = s.text.drop z := by
      rw [rd_text]
      show s.text.drop _ = _
      by_cases h : z ≤ s.text.length
      · rw [Nat.min_eq_left h]
      · rw [List.drop_eq_nil_of_le (by omega), List.drop_eq_nil_of_le (by omega)]
    rw [ht] at ih
    rw [e, runM_next _ _ _ _ _ c1 he, okM_next _ _ _ _ _ c1 he, runM_next _ _ _ _ _ c2 hnil, okM_next _ _ _ _ _ c2 hnil, ih.1]
    exact ⟨rfl, ih.2⟩
theorem pkSteps_get : ∀ (zs : List Nat) (t : List UInt8) (k z : Nat), zs[k]? = some z → (pkSteps t zs)[2 * k]? = some ⟨(t.drop (zs.take k).sum).take z, 0, 0, if (t.drop (zs.take k).sum).length < z then e_end else []⟩ ∧ (pkSteps t zs)[2 * k + 1]? = some ⟨(t.drop (zs.take k).sum).take z, 0, 0, []⟩
  | [], t, k, z, h => by simp at h
  | y :: r, t, 0, z, h => by simp at h; subst h; simp [pkSteps]
  | y :: r, t, k + 1, z, h => by
    have := pkSteps_get r (t.drop y) k z (by simpa using h)
    rw [show 2 * (k + 1) = 2 * k + 2 by omega]
    simp only [pkSteps, List.getElem?_cons_succ, List.take_succ_cons, List.sum_cons]
    rw [List.drop_drop] at this
    exact this
theorem pkSteps_length : ∀ (zs : List Nat) (t : List UInt8), (pkSteps t zs).length = 2 * zs.length
  | [], t => rfl
  | y :: r, t => by simp only [pkSteps, List.length_cons, pkSteps_length r]; omega
theorem pks_length (zs : List Nat) : (pks zs).length = 2 * zs.length := by
  induction zs with
  | nil => rfl
  | cons z r ih => simp only [pks, List.flatMap_cons, pkOps] at ih ⊢; simp only [List.length_append, List.length_cons, List.length_nil, ih]; omega
theorem pks_tsum (zs : List Nat) : tsum (pks zs) = 8 * zs.length := by
  induction zs with
  | nil => rfl
  | cons z r ih =>
    have : tsum (pks (z :: r)) = 4 + (4 + tsum (pks r)) := by simp [tsum, pks, pkOps, opS]
    rw [this, ih, List.length_cons]
    omega
theorem src_blkn {P : Program} (w : World) (vs : Array Value) (e e' tx : TypeId) (hk : P.underlying tx = some (.slice e')) (size n : Nat) (hs : vs.size = n * size) (h1 : ∀ u ∈ vs.toList, u.oneCell' = true) (c : Nat) : Src P size tx (.slice (some ⟨w.heap.size, 0, none⟩) n c) n vs.toList (w.alloc (.cells vs e)) :=
  Src.ofSlice _ hk _ n c vs.toList (by simp [hs]) (World.news_of_block (cs := vs) (heap_alloc_new w _)) h1
theorem infoOp : (Tryd.prog.info? 30).map (fun i => (i.zero, i.size, i.bytes)) = some (some (.agg #[.string ByteArray.empty, .string ByteArray.empty, .int .u16 0, .int .i64 0, .int .i32 0]), 5, 56) := by kernel_rfl

set_option maxHeartbeats 8000000 in
set_option maxRecDepth 100000 in
theorem FnPeekBehind_walk (A : Option Addr) (n c0 : Nat) (l : List UInt8) (w : World) (a c : Addr) (hV : Env w.heap.size w a c) (hS : Sl w A n l) :
    Calls Tryd.prog 4 #[.slice A n c0] w fun e w' => e = .returned (.bool true) ∧ Below w.heap.size w w' := by
  go_enter Tryd.func4, Tryd.ntmps4
  go_wp2_with fail
  by_cases hn : n ≤ 1048576
  · refine (large_no A n c0 w hn).mono ?_
    rintro e w1 ⟨rfl, rfl⟩
    go_wp2_with fail
    refine (DrawPeekChunks A n c0 l w hS hn).mono ?_
    rintro e w1 ⟨t, B, m, d, zs, rfl, ht, hm, hB, hz, hf1⟩
    have HV := Lib.hid hV
    have hmz : m = zs.length := by have := hB.1; simpa using this
    have HMZ := Lib.hid hmz
    clear hV hS hmz
    go_wp2_with fail
    go_loopw [6, 23] (fun v i wr => ∃ k, k ≤ m ∧ i = .int .i64 (k : Int) ∧ wr.ownsRow w1.heap.size 30 5 v (2 * k) ((pks (zs.take k)).flatMap OpV.cells) ∧ Fr [] w1 wr) (fun _ i _ => m - (intOf i).toNat)
    case atStart => exact ⟨0, Nat.zero_le _, rfl, own_empty w1 30 5, (Fr.refl [] w1).alloc _⟩
    case round =>
      obtain ⟨k, hk, rfl, ho, hfr⟩ := hrel
      obtain ⟨A', c', rfl⟩ := own_form ho
      by_cases hlt : k < m
      · obtain ⟨ad, u, rfl, hu, hc⟩ := (hB.fr_old hfr (by simp)).at_ hlt
        rw [List.getElem?_map] at hu
        cases hzk : zs[k]? with
        | none => rw [hzk] at hu; cases hu
        | some z =>
          rw [hzk] at hu
          simp only [Option.map_some, Option.some.injEq] at hu
          subst hu
          have HZ := Lib.hid hzk
          clear hzk
          obtain ⟨v', w', hrun, ho', hg', hb'⟩ := run_app (P := Tryd.prog) (wr.alloc (.cells #[.string ⟨#[112, 101, 101, 107]⟩, .string ⟨#[]⟩, .int .u16 (z : Int), .int .i64 0, .int .i32 0, .string ⟨#[110, 101, 120, 116]⟩, .string ⟨#[]⟩, .int .u16 (z : Int), .int .i64 0, .int .i32 0] 30)) w1.heap.size 31 31 31 30 _ 5 56 Tryd.underlying31 infoOp rfl (by decide) _ _ _ (ho.alloc _) _ 2 _
            (src_blkn wr #[.string ⟨#[112, 101, 101, 107]⟩, .string ⟨#[]⟩, .int .u16 (z : Int), .int .i64 0, .int .i32 0, .string ⟨#[110, 101, 120, 116]⟩, .string ⟨#[]⟩, .int .u16 (z : Int), .int .i64 0, .int .i32 0] 30 30 31 Tryd.underlying31 5 2 rfl (by simp [Value.oneCell']) 2) (by omega) (by omega) (by have := hfr.size; simp; omega)
          have HO := Lib.hid ho
          clear ho
          go_wp2_with (at_builtin; refine wpList_append_run rfl _ _ _ _ rfl rfl rfl hrun ?_)
          go_roundw
          case rel =>
            refine ⟨k + 1, by omega, by go_num, ?_, hfr.app HO.out hg'⟩
            have e1 : (pks (zs.take (k + 1))).flatMap OpV.cells = (pks (zs.take k)).flatMap OpV.cells ++ (pkOps z).flatMap OpV.cells := by
              rw [take_next zs k z HZ.out]
              simp [pks]
            rw [e1, show 2 * (k + 1) = 2 * k + 2 by omega]
            exact ho'
          case measure => simp [intOf]; omega
      · obtain rfl : k = m := by omega
        have hfw := hf1.trans hfr
        have hV2 := HV.out.fr hfw (by simp)
        have hsz := hfw.size
        have hzt : zs.take k = zs := List.take_of_length_le (by have := HMZ.out; omega)
        rw [hzt] at ho
        have hrn := run_pks zs (sta0 t)
        have hrb := Lib.hid (impl_RunBuffer t A' (2 * k) c' (pks zs) wr a c ⟨hV2.tabs, hV2.eof, hV2.unr, hV2.ne, hV2.ba, hV2.bc, by have := hV2.low; omega⟩ (own_rs ho) (by rw [pks_length, ← HMZ.out]) (by rw [pks_tsum, ← HMZ.out]; omega) (by
          intro o ho
          simp only [pks, List.mem_flatMap, pkOps, List.mem_cons, List.not_mem_nil, or_false] at ho
          obtain ⟨z, hzz, rfl | rfl⟩ := ho
          · exact ⟨opS_ok _ _ (by have := hz z hzz; omega), by show (0 : Int) ≤ _; omega, by show k_peek ∈ kinds; decide⟩
          · exact ⟨opS_ok _ _ (by have := hz z hzz; omega), by show (0 : Int) ≤ _; omega, by show k_next ∈ kinds; decide⟩))
        have HRN := Lib.hid hrn
        clear hrn ho hV2 hzt
        go_wp2_with fail
        refine hrb.out.mono ?_
        rintro e w3 ⟨B3, m3, d3, sts, rfl, hR3, hm3, _, H3, hf3⟩
        have hst : sts = pkSteps t zs := by rw [H3.out.2 HRN.out.2, HRN.out.1]; rfl
        subst hst
        have hm4 : m3 = 2 * k := by rw [hm3, pkSteps_length, ← HMZ.out]
        subst hm4
        have hB3 := hB.fr_old (hfr.trans hf3) (by simp)
        have hf13 := hfw.trans hf3
        clear hrb H3 HRN hm3
        go_wp2_with fail
        go_loopw [5, 46] (fun at_ i wr => ∃ j q : Nat, j ≤ k ∧ i = .int .i64 (j : Int) ∧ at_ = .int .i64 (q : Int) ∧ q ≤ t.length ∧ Hid (t.drop q = t.drop (zs.take j).sum) ∧ Fr [] w3 wr) (fun _ i _ => k - (intOf i).toNat)
        case atStart => exact ⟨0, 0, Nat.zero_le _, rfl, rfl, Nat.zero_le _, rfl, Fr.refl _ _⟩
        case round =>
          obtain ⟨j, q, hj, rfl, rfl, hq, HQ, hfr2⟩ := hrel
          by_cases hlt2 : j < k
          · obtain ⟨ad, u, rfl, hu, hc⟩ := (hB3.fr_old hfr2 (by simp)).at_ hlt2
            rw [List.getElem?_map] at hu
            cases hzk : zs[j]? with
            | none => rw [hzk] at hu; cases hu
            | some z =>
              rw [hzk] at hu
              simp only [Option.map_some, Option.some.injEq] at hu
              subst hu
              obtain ⟨gg, rfl, ca⟩ := (hR3.fr_old hfr2 (by simp)).get (by omega)
              obtain ⟨x1, x2⟩ := pkSteps_get zs t j z hzk
              rw [← HQ.out] at x1 x2
              have g4 := fun i x => recs_get StV.cells 4 (fun _ => rfl) (pkSteps t zs) i x
              have y0 := ca _ _ ((g4 (2 * j) 0 _ x1 (by omega)).trans rfl)
              have y3 := ca _ _ ((g4 (2 * j) 3 _ x1 (by omega)).trans rfl)
              have z0 := ca _ _ ((g4 (2 * j + 1) 0 _ x2 (by omega)).trans rfl)
              simp only [Nat.add_zero] at y0 z0
              have hz1 : z ≤ 4335 := hz z (List.mem_of_getElem? hzk)
              have hmi : min (z : Int) ((t.length : Int) - (q : Int)) = ((min z (t.length - q) : Nat) : Int) := by omega
              clear ca g4 x1 x2
              obtain ⟨nn, hnn⟩ : ∃ nn, min z (t.length - q) = nn := ⟨_, rfl⟩
              rw [hnn] at hmi
              have hqn : q + nn ≤ t.length := by omega
              have htx : (t.drop q).take z = (t.take (q + nn)).drop q := by
                rw [← List.take_drop]
                by_cases hle : z ≤ t.length - q
                · rw [show nn = z by omega]
                · rw [List.take_of_length_le (by rw [List.length_drop]; omega), List.take_of_length_le (by rw [List.length_drop]; omega)]
              have hn2 : t.drop (q + nn) = t.drop (zs.take (j + 1)).sum := by
                have h5 : t.drop ((zs.take j).sum + z) = (t.drop q).drop z := by rw [← List.drop_drop, HQ.out]
                rw [take_next zs j z hzk, List.sum_append, List.sum_singleton, h5, List.drop_drop]
                by_cases hle : z ≤ t.length - q
                · rw [show nn = z by omega]
                · rw [List.drop_eq_nil_of_le (by omega), List.drop_eq_nil_of_le (by omega)]
              have HN2 := Lib.hid hn2
              rw [htx] at y0 z0
              have hw1 : IntKind.i64.wrap (2 * (j : Int)) = 2 * (j : Int) := IntWalk.i64_in _ (by omega)
              have hw2 : IntKind.i64.wrap (2 * (j : Int) + 1) = 2 * (j : Int) + 1 := IntWalk.i64_in _ (by omega)
              have hw3 : IntKind.i64.wrap ((q : Int) + (nn : Int)) = (q : Int) + (nn : Int) := IntWalk.i64_in _ (by omega)
              clear htx hn2
              by_cases hlz : t.length - q < z
              · have hy3 : (if (t.drop q).length < z then e_end else []) = e_end := by rw [if_pos (by rw [List.length_drop]; omega)]
                rw [hy3] at y3
                have hcmp : decide (nn < z) = true := by simp; omega
                have hcmn : (!decide (nn < z)) = false := by rw [hcmp]; rfl
                clear hy3 hlz hnn
                go_wp2_with fail
                go_quiet (fail)
                go_wp2_with fail
                go_roundw
                case rel => exact ⟨j + 1, q + nn, by omega, by go_num, by go_num, hqn, by show _ = _; exact HN2.out, hfr2.drewN _⟩
                case measure => simp [intOf]; omega
              · have hy3 : (if (t.drop q).length < z then e_end else []) = [] := by rw [if_neg (by rw [List.length_drop]; omega)]
                rw [hy3] at y3
                have hcmp : decide (nn < z) = false := by simp; omega
                have hcmn : (!decide (nn < z)) = true := by rw [hcmp]; rfl
                clear hy3 hlz hnn
                go_wp2_with fail
                go_quiet (fail)
                go_wp2_with fail
                go_roundw
                case rel => exact ⟨j + 1, q + nn, by omega, by go_num, by go_num, hqn, by show _ = _; exact HN2.out, hfr2.drewN _⟩
                case measure => simp [intOf]; omega
          · go_wp2_with fail
            go_ret
            exact ⟨rfl, (hf13.trans hfr2).below (Nat.le_refl _) (by simp)⟩
  · refine (large_yes A n c0 w (by omega)).mono ?_
    rintro e w1 ⟨rfl, rfl⟩
    go_wp2_with fail
    go_ret
    exact ⟨rfl, Below.refl _ _⟩

end Go.Proofs.YtpmcomlgljgopaaDoor
