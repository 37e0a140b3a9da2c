/- FnLinesAll. -/
import Derived.Test.YtbogmdgooifhnaaDoorLawO
namespace Go.Proofs.YtbogmdgooifhnaaDoor
open Go.RowKit
set_option linter.unusedVariables false
attribute [local go_sem ↓] Go.wp_at_zero Go.wp_at_succ

theorem count_step (s : List UInt8) (x : UInt8) (p d : Nat) (hp : p < s.length) (h1 : 1 ≤ d) (h : ∀ j, p < j → j < p + d → s[j]? ≠ some x) :
    (s.take (p + d)).count x = (s.take p).count x + (if s[p] = x then 1 else 0) := by
  obtain ⟨e, rfl⟩ : ∃ e, d = e + 1 := ⟨d - 1, by omega⟩
  have h2 : s.take (p + (e + 1)) = s.take p ++ (s[p] :: (s.drop (p + 1)).take e) := by
    rw [List.take_add, List.drop_eq_getElem_cons hp, List.take_succ_cons]
  rw [h2, List.count_append, List.count_cons]
  have h0 : ((s.drop (p + 1)).take e).count x = 0 := by
    rw [List.count_eq_zero]
    intro hm
    obtain ⟨j, hj⟩ := List.getElem?_of_mem hm
    rw [List.getElem?_take] at hj
    split at hj
    · rw [List.getElem?_drop] at hj
      exact h (p + 1 + j) (by omega) (by omega) hj
    · cases hj
  rw [h0]
  simp

theorem count_rest (d : List UInt8) (x : UInt8) (h : d.idxOf x < d.length) : d.count x = (rest d x).count x + 1 := by
  have h1 : d = d.take (d.idxOf x) ++ (x :: rest d x) := by
    rw [rest]
    conv => lhs; rw [← List.take_append_drop (d.idxOf x) d, List.drop_eq_getElem_cons h, List.getElem_idxOf h]
  have h0 : (d.take (d.idxOf x)).count x = 0 := by
    rw [List.count_eq_zero]
    intro hm
    obtain ⟨j, hj⟩ := List.getElem?_of_mem hm
    rw [List.getElem?_take] at hj
    split at hj
    · rename_i hlt
      have := List.not_of_lt_findIdx hlt
      obtain ⟨hjl, e⟩ := List.getElem?_eq_some_iff.1 hj
      simp [e] at this
    · cases hj
  conv => lhs; rw [h1]
  rw [List.count_append, List.count_cons, h0]
  simp

theorem mem_count (d : List UInt8) (x : UInt8) : d.idxOf x < d.length ↔ 0 < d.count x := by
  rw [List.count_pos_iff, List.idxOf_lt_length_iff]

theorem count_left (s : List UInt8) (x : UInt8) (N : Nat) : ∀ k, k ≤ N → k ≤ s.count x → (left s (List.replicate N x) k).count x + k = s.count x
  | 0, _, _ => by simp [left]
  | k + 1, h, hc => by
    have ih := count_left s x N k (by omega) (by omega)
    rw [left_succ s (List.replicate N x) k x (by rw [List.getElem?_replicate, if_pos (by omega)])]
    have := count_rest _ x ((mem_count (left s (List.replicate N x) k) x).2 (by omega))
    omega
theorem left_all (s : List UInt8) (x : UInt8) : left s (List.replicate (s.count x + 1) x) (s.count x + 1) = [] := by
  have h := count_left s x (s.count x + 1) (s.count x) (by omega) (Nat.le_refl _)
  rw [left_succ s (List.replicate (s.count x + 1) x) (s.count x) x (by rw [List.getElem?_replicate, if_pos (by omega)])]
  have : ¬ (left s (List.replicate (s.count x + 1) x) (s.count x)).idxOf x < (left s (List.replicate (s.count x + 1) x) (s.count x)).length := by
    rw [mem_count]
    omega
  rw [rest, List.drop_eq_nil_of_le (by omega)]
theorem misses_all (s : List UInt8) (x : UInt8) (k : Nat) (hk : k ≤ s.count x) : (readl s (List.replicate (s.count x + 1) x) k).2 = decide (k = s.count x) := by
  rw [readl_eq s (List.replicate (s.count x + 1) x) k x (by rw [List.getElem?_replicate, if_pos (by omega)])]
  have h := count_left s x (s.count x + 1) k (by omega) hk
  have hm := mem_count (left s (List.replicate (s.count x + 1) x) k) x
  simp only [misses]
  by_cases he : k = s.count x
  · have : ¬ (left s (List.replicate (s.count x + 1) x) k).idxOf x < (left s (List.replicate (s.count x + 1) x) k).length := by rw [hm]; omega
    simp [he] at this ⊢
    omega
  · have : (left s (List.replicate (s.count x + 1) x) k).idxOf x < (left s (List.replicate (s.count x + 1) x) k).length := by rw [hm]; omega
    simp [he, this]

theorem Fr.iterAt {S : List Nat} {a w : World} (h : Fr S a w) {k : Nat} (hk : k ∈ S ∨ a.heap.size ≤ k) (s : ByteArray) (p : Nat) : Fr S a (w.iterAt k s p) := by
  refine ⟨h.os, h.tape, h.output, ?_, fun i hi hn => ?_⟩
  · rw [show (w.iterAt k s p).heap.size = w.heap.size by simp [World.iterAt]]
    exact h.size
  · have hik : i ≠ k := by
      rintro rfl
      rcases hk with hk | hk
      · exact hn hk
      · omega
    have : (w.iterAt k s p).heap[i]? = w.heap[i]? := by simp [World.iterAt, Ne.symm hik]
    rw [this]
    exact h.block i hi hn
theorem own_iterAt {w : World} {base : Nat} {e : TypeId} {size : Nat} {v : Value} {n : Nat} {xs : List Value} (h : w.ownsRow base e size v n xs) {k : Nat} {s : ByteArray} {p : Nat} (hk : w.heap[k]? = some (.stringIter s p)) (p' : Nat) : (w.iterAt k s p').ownsRow base e size v n xs := by
  have hf : Fr [k] w (w.iterAt k s p') := (Fr.refl [k] w).iterAt (.inl (by simp)) s p'
  refine hf.own h (fun y hy => ?_)
  simp only [List.mem_singleton]
  rintro rfl
  rcases h.2 with ⟨rfl, _⟩ | ⟨g, cap, cur, rfl, _, hg, _⟩
  · simp [Value.ownBlock] at hy
  · simp [Value.ownBlock] at hy
    subst hy
    rw [hk] at hg
    cases hg

theorem own_ne_iter {w : World} {base : Nat} {e : TypeId} {size : Nat} {v : Value} {n : Nat} {xs : List Value} (h : w.ownsRow base e size v n xs) {k : Nat} {s : ByteArray} {p : Nat} (hk : w.heap[k]? = some (.stringIter s p)) : k ∉ v.ownBlock.toList := by
  intro hm
  simp only [Option.mem_toList] at hm
  rcases h.2 with ⟨rfl, _⟩ | ⟨g, cap, cur, rfl, _, hg, _⟩
  · simp [Value.ownBlock] at hm
  · simp [Value.ownBlock] at hm
    subst hm
    rw [hk] at hg
    cases hg

/-- The range over the text. -/
def AllRel (w : World) (s : List UInt8) (x : UInt8) (r : Nat) (v : Value) (wr : World) : Prop :=
  ∃ p m, wr.heap[r]? = some (.stringIter ⟨s.toArray⟩ p) ∧ p ≤ s.length ∧ wr.ownsRow w.heap.size 5 1 v m ((List.replicate m x).map bv) ∧ m = (s.take p).count x ∧ Fr [] w wr

set_option maxHeartbeats 3200000 in
theorem FnLinesAll_walk (A : Option Addr) (n c : Nat) (l : List UInt8) (w : World) (a : Addr) (hE : Eof w a) (hS : Sl w A n l) :
    Calls Tryd.prog 4 #[.slice A n c] w fun e w' => e = .returned (.bool true) ∧ Below w.heap.size w w' := by
  go_enter Tryd.func4, Tryd.ntmps4
  go_wp2_with fail
  by_cases hn : n ≤ 1048576
  · refine (large_no A n c w hn).mono ?_
    rintro e w1 ⟨rfl, rfl⟩
    go_wp2_with fail
    refine (DrawReadStrings_ok A n c l w hS hn).mono ?_
    rintro e w1 ⟨s, B, m, d, cs, rfl, hs, hm, hB, hcs, hf1⟩
    have hE1 := hE.fr hf1 (by simp)
    by_cases hm0 : m = 0
    · have hmb : ((m : Int) == 0) = true := by simp; omega
      clear hm0
      go_wp2_with fail
      go_ret
      exact ⟨rfl, hf1.below (Nat.le_refl _) (by simp)⟩
    · have hmb : ((m : Int) == 0) = false := by simp; omega
      obtain ⟨ad, x, rfl, hx, hcx⟩ := hB.at_ (k := 0) (by omega)
      have hx64 : x.toNat / 64 ≠ 2 := hcs x (List.mem_of_getElem? hx)
      have HX64 := Lib.hid hx64
      have hc1 : w1.cell? ad = some (.int .u8 (x.toNat : Int)) := by simpa [Addr.add] using hcx
      have hadlt : ad.block < w1.heap.size := block_lt_of_cell hc1
      have hm1 : (0 : Int) < (m : Int) := by omega
      clear hx64 hm0 hcs hx hcx
      go_wp2_with fail
      go_loopw [5] (fun v wr => AllRel w1 s x (w1.heap.size + 1) v wr) (fun _ wr => s.length - wr.iterPos (w1.heap.size + 1))
      case atStart =>
        refine ⟨0, 0, ?_, Nat.zero_le _, ?_, by simp, ((Fr.refl [] w1).alloc _).alloc _⟩
        · have := World.iter_heap (w1.alloc (.cells #[] 5)) ⟨s.toArray⟩ 0
          simpa using this
        · exact (own_empty w1 5 1).alloc _
      case round =>
        obtain ⟨p, q, hit, hp, ho, hq, hf⟩ := hrel
        obtain ⟨A', c', rfl⟩ := own_form ho
        have HQ := Lib.hid hq
        clear hq
        by_cases hlt : p < s.length
        · have hnx := fun ty => Lib.run_next_any_at (P := Tryd.prog) wr (w1.heap.size + 1) ⟨s.toArray⟩ p ty hit (by rw [str_size]; exact hlt)
          have HP : Hid (wr.iterPos (w1.heap.size + 1) = p) := Lib.hid (by simp [World.iterPos, hit])
          go_wp2_with fail
          obtain ⟨k1, k2, k3⟩ := decode_step s p hlt
          generalize (Utf8.decode ⟨s.toArray⟩ p).2 = dd at *
          have hfW : Fr [] w1 (wr.iterAt (w1.heap.size + 1) ⟨s.toArray⟩ (p + dd)) := hf.iterAt (.inr (by omega)) _ _
          have hoW := own_iterAt ho hit (p + dd)
          have hitW := Lib.iterAt_heap wr (w1.heap.size + 1) ⟨s.toArray⟩ p (p + dd) hit
          generalize wr.iterAt (w1.heap.size + 1) ⟨s.toArray⟩ (p + dd) = W at *
          have hcW : W.cell? ad = some (.int .u8 (x.toNat : Int)) := (hfW.cell hadlt (by simp)).trans hc1
          have hcnt := count_step s x p dd hlt k1 (fun j h1 h2 h => HX64.out (k3 j h1 h2 x h))
          have HCNT := Lib.hid hcnt
          clear hcnt k3 hnx
          have hszp : p < (⟨s.toArray⟩ : ByteArray).size := by rw [str_size]; exact hlt
          have hget : (⟨s.toArray⟩ : ByteArray)[p] = s[p] := rfl
          by_cases hsx : s[p] = x
          · have hb : ((((⟨s.toArray⟩ : ByteArray)[p]).toNat : Int) == (x.toNat : Int)) = true := by rw [hget, hsx]; simp
            have hqn : q ≤ 4096 := by
              rw [HQ.out]
              exact Nat.le_trans List.count_le_length (by simp; omega)
            have HSX := Lib.hid hsx
            clear hsx hget
            have hszW := hfW.size
            go_quiet (fail)
            obtain ⟨v', w', hrun, ho', hg', hb'⟩ := run_app (P := Tryd.prog) ((W.drewN nq).alloc (.cells #[.int .u8 (x.toNat : Int)] 5)) w1.heap.size 22 22 22 5 _ 1 1 Tryd.underlying22 infoB rfl (by decide) _ _ _ ((own_drewN hoW nq).alloc _) _ 1 _
              (src_one (W.drewN nq) (.int .u8 (x.toNat : Int)) 5 5 22 Tryd.underlying22 rfl 1) (by omega) (by omega) (by simp; omega)
            have hit' : w'.heap[w1.heap.size + 1]? = some (.stringIter ⟨s.toArray⟩ (p + dd)) := by
              have h0 := heap_lt hitW
              have h1 := (Fr.of_grown hg').block (w1.heap.size + 1) (by simp; omega) (own_ne_iter hoW hitW)
              rw [h1, Below.heap_alloc _ _ _ (by simpa using h0)]
              exact hitW
            go_wp2_with (at_builtin; refine wpList_append_run rfl _ _ _ _ rfl rfl rfl hrun ?_)
            go_roundw
            case rel =>
              refine ⟨p + dd, q + 1, hit', k2, ?_, ?_, (hfW.drewN nq).app (own_drewN hoW nq) hg'⟩
              · rw [List.replicate_succ', List.map_append]
                exact ho'
              · rw [HCNT.out, if_pos HSX.out, HQ.out]
            case measure =>
              rw [HP.out, show w'.iterPos (w1.heap.size + 1) = p + dd by simp [World.iterPos, hit']]
              omega
          · have hb : ((((⟨s.toArray⟩ : ByteArray)[p]).toNat : Int) == (x.toNat : Int)) = false := by
              rw [hget]
              simp only [beq_eq_false_iff_ne, ne_eq]
              intro h
              exact hsx (UInt8.toNat_inj.1 (by omega))
            have HSX := Lib.hid hsx
            clear hsx hget
            go_quiet (fail)
            go_wp2
            go_roundw
            case rel => exact ⟨p + dd, q, hitW, k2, own_drewN hoW _, by rw [HCNT.out, if_neg HSX.out, HQ.out]; rfl, hfW.drewN _⟩
            case measure =>
              rw [HP.out]
              simp [World.iterPos, hitW]
              omega
        · have hnx := fun ty => Lib.run_next_end_at (P := Tryd.prog) wr (w1.heap.size + 1) ⟨s.toArray⟩ p ty hit (by rw [str_size]; exact hlt)
          obtain rfl : p = s.length := by omega
          have hq : q = s.count x := by rw [HQ.out, List.take_length]
          have hqn : q ≤ 4096 := by
            rw [hq]
            exact Nat.le_trans List.count_le_length hs
          have HQ2 := Lib.hid hq
          clear hq HQ
          have hszW := hf.size
          have hcW : wr.cell? ad = some (.int .u8 (x.toNat : Int)) := (hf.cell hadlt (by simp)).trans hc1
          obtain ⟨v', w', hrun, ho', hg', hb'⟩ := run_app (P := Tryd.prog) (wr.alloc (.cells #[.int .u8 (x.toNat : Int)] 5)) w1.heap.size 22 22 22 5 _ 1 1 Tryd.underlying22 infoB rfl (by decide) _ _ _ (ho.alloc _) _ 1 _
            (src_one wr (.int .u8 (x.toNat : Int)) 5 5 22 Tryd.underlying22 rfl 1) (by omega) (by omega) (by simp; omega)
          obtain ⟨A2, c2, rfl⟩ := own_form ho'
          have hSx : Sl w' A2 (q + 1) (List.replicate (q + 1) x) := by
            rw [List.replicate_succ']
            exact own_sl (l := List.replicate q x ++ [x]) (by rw [List.map_append]; exact ho')
          have hfA : Fr [] w1 w' := hf.app ho hg'
          go_wp2_with (at_builtin; refine wpList_append_run rfl _ _ _ _ rfl rfl rfl hrun ?_)
          refine (impl_ReadStrings s A2 (q + 1) c2 (List.replicate (q + 1) x) w' a (hE1.fr hfA (by simp)) hSx (by omega)).mono ?_
          rintro e w3 ⟨C, d2, s2, rfl, hC, H2, hf3⟩
          have hf13 := (hf1.trans hfA).trans hf3
          have hTl := text_readl_le s (List.replicate (q + 1) x) (q + 1) (by simp)
          have hTe := text_readl s (List.replicate (q + 1) x) (q + 1) (by simp)
          have hms := fun k => misses_all s x k
          rw [← HQ2.out] at hms
          obtain rfl : s2 = [] := by rw [H2.out, HQ2.out]; exact left_all s x
          rw [show left s (List.replicate (q + 1) x) (q + 1) = [] by rw [HQ2.out]; exact left_all s x, List.append_nil] at hTe
          have HTL := Lib.hid hTl
          have HTE := Lib.hid hTe
          have HMS := Lib.hid hms
          clear hTl hTe hms H2 hrun
          generalize readl s (List.replicate (q + 1) x) = f at *
          go_wp2_with fail
          go_loopw [53] (fun i wr => ∃ k, k ≤ q + 1 ∧ i = .int .i64 (k : Int) ∧ Fr [] w3 wr) (fun i _ => q + 1 - (intOf i).toNat)
          case atStart => exact ⟨0, Nat.zero_le _, rfl, Fr.refl _ _⟩
          case round =>
            obtain ⟨k, hk, rfl, hf4⟩ := hrel
            by_cases hlt2 : k < q + 1
            · have hp2 := parts_get f (q + 1) k hlt2
              obtain ⟨ga, rfl, ca⟩ := (hC.fr_old hf4 (by simp)).get (by omega)
              obtain ⟨a0, a1, a2⟩ := pcells_get (parts f (q + 1)) k (f k).1 (f k).2 hp2
              have x0 := ca _ _ a0
              have x1 := ca _ _ a1
              have x2 := ca _ _ a2
              rw [HMS.out k (by omega)] at x1
              generalize (f k).1 = t at *
              clear ca a0 a1 a2 hp2
              by_cases hkq : k = q
              · have hkb : ((k : Int) == (q : Int)) = true := by simp; omega
                rw [show decide (k = q) = true by simp; omega] at x1
                clear hkq
                go_wp2_with fail
                go_roundw
                case rel => exact ⟨k + 1, by omega, by go_num, hf4.alloc _⟩
                case measure => simp [intOf]; omega
              · have hkb : ((k : Int) == (q : Int)) = false := by simp; omega
                rw [show decide (k = q) = false by simp; omega] at x1
                clear hkq
                go_wp2_with fail
                go_roundw
                case rel => exact ⟨k + 1, by omega, by go_num, hf4.alloc _⟩
                case measure => simp [intOf]; omega
            · have hTl := HTL.out
              go_wp2_with fail
              refine (laws_joined C (q + 1) d2 f _ (hC.fr_old hf4 (by simp)) (by omega) (by omega)).mono ?_
              rintro e w5 ⟨T, rfl, H5, hf5⟩
              have HTF := Lib.hid (show T = s by rw [H5.out, HTE.out])
              clear hTl
              go_wp2_with fail
              go_ret
              exact ⟨ret_true (by simp [HTF.out]), ((hf13.trans hf4).trans hf5).below (Nat.le_refl _) (by simp)⟩
  · refine (large_yes A n c w (by omega)).mono ?_
    rintro e w1 ⟨rfl, rfl⟩
    go_wp2_with fail
    go_ret
    exact ⟨rfl, Below.refl _ _⟩

end Go.Proofs.YtbogmdgooifhnaaDoor
