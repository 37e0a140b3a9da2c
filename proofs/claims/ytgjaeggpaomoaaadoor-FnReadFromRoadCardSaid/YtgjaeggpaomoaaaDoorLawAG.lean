/- Reading from a reader is writing all that it returns. -/
import Derived.Test.YtgjaeggpaomoaaaDoorLawAF
namespace Go.Proofs.YtgjaeggpaomoaaaDoor
open Go.RowKit
set_option linter.unusedVariables false
attribute [local go_sem ↓] Go.wp_at_zero Go.wp_at_succ

set_option maxHeartbeats 1600000 in
set_option maxRecDepth 100000 in
theorem DrawReadFrom (A : Option Addr) (n c : Nat) (l : List UInt8) (w : World) (hS : Sl w A n l) (hn : n ≤ 1048576) :
    Calls Tryd.prog 22 #[.slice A n c] w fun e w' => ∃ (s : List UInt8) (B : Option Addr) (k d : Nat) (ls : List (List UInt8)) (f h : Bool), e = .returned (.tuple #[.string ⟨s.toArray⟩, .slice B k d, .bool f, .bool h]) ∧ s.length ≤ 4096 ∧ k ≤ 5 ∧ Slv w' B k (ls.map sv) ∧ (∀ z ∈ ls, z.length ≤ 4096) ∧ Fr [] w w' := by
  have hA : 0 < n → ∀ ad, A = some ad → ad.block < w.heap.size := hS.old
  have HA := Lib.hid hA
  clear hA
  go_enter Tryd.func22, Tryd.ntmps22
  go_wp2_with fail
  refine (rd_long _ w.heap.size A n c l 0 (Dr.made hS hn) (by omega)).mono ?_
  rintro e w1 ⟨s, rfl, hs, hD1, hf1⟩
  have hf01 := ((Fr.refl [] w).alloc (.cells #[.slice A n c, .int .i64 0] 80)).trans_of hf1 (by simp)
  have hsz1 := hf01.size
  have hlt1 := hD1.lt
  go_wp2_with fail
  refine (rd_pick _ w.heap.size A n c l _ 6 (hD1.alloc _) (by omega) (by omega) (by omega)).mono ?_
  rintro e w2 ⟨x, rfl, hx, hD2, hf2⟩
  go_wp2_with fail
  go_loopw [8, 9] (fun v i wr => LongsRel w w.heap.size A n c l 21 v i wr) (fun _ i _ => (intOf i).toNat)
  case atStart =>
    refine ⟨x, [], by omega, rfl, by simp; omega, ?_, by simp, hD2.mono (by omega), (hf01.alloc _).trans_of hf2 (by simp)⟩
    have := own_empty w1 9 1
    exact hf2.own (w := w1.alloc (.cells #[] 9)) ⟨this.1, by
      rcases this.2 with h | ⟨x, cap, cur, hv, hb', rest⟩
      · exact .inl h
      · exact .inr ⟨x, cap, cur, hv, Nat.le_trans hsz1 hb', rest⟩⟩ (by simp [Value.ownBlock]; omega)
  case round =>
    obtain ⟨k, ls, hk, rfl, hz, ho, hzz, hD, hf⟩ := hrel
    obtain ⟨A', c', rfl⟩ := own_form ho
    by_cases h0 : 0 < k
    · go_wp2_with fail
      refine (rd_long _ w.heap.size A n c l _ hD (by omega)).mono ?_
      rintro e w3 ⟨y, rfl, hy, hD3, hf3⟩
      have hne := own_ne_r hD ho (by decide)
      have ho3 := hf3.own ho (fun y hy => by have := hne y hy; simpa using this)
      have hfw := hf.trans_of hf3 (by simp)
      have hsz : w.heap.size ≤ w3.heap.size := hfw.size
      obtain ⟨v', w', hrun, ho', hg', hb'⟩ := run_app (P := Tryd.prog) (w3.alloc (.cells #[.string ⟨y.toArray⟩] 9)) w.heap.size 37 37 37 9 _ 1 16 Tryd.underlying37 infoStr rfl (by decide) _ _ _ (ho3.alloc _) _ 1 _
        (src_one w3 (.string ⟨y.toArray⟩) 9 9 37 Tryd.underlying37 rfl 1) (by omega) (by omega) (by simp; omega)
      go_wp2_with (at_builtin; refine wpList_append_run rfl _ _ _ _ rfl rfl rfl hrun ?_)
      go_roundw
      case rel =>
        refine ⟨k - 1, ls ++ [y], by omega, vint (by omega), by simp; omega, ?_, ?_, (hD3.app (w := w) ho3 HA.out (by decide) hg').mono (by omega), hfw.app ho3 hg'⟩
        · rw [List.length_append, List.map_append]
          exact ho'
        · intro z hz
          rcases List.mem_append.1 hz with hz | hz
          · exact hzz z hz
          · simp at hz
            subst hz
            exact hy
      case measure => simp [intOf]; omega
    · have hne := own_ne_r hD ho (by decide)
      have HO := Lib.hid ho
      clear ho
      go_wp2_with fail
      refine (rd_pick _ w.heap.size A n c l _ 2 hD (by omega) (by omega) (by omega)).mono ?_
      rintro e w3 ⟨y1, rfl, hy1, hD3, hf3⟩
      go_wp2_with fail
      refine (rd_pick _ w.heap.size A n c l _ 2 hD3 (by omega) (by omega) (by omega)).mono ?_
      rintro e w4 ⟨y2, rfl, hy2, hD4, hf4⟩
      generalize hb1 : ((y1 : Int) == 0) = b1
      generalize hb2 : ((y2 : Int) == 0) = b2
      go_wp2_with fail
      have ho4 := (hf3.trans hf4).own HO.out (fun y hy => by have := hne y hy; simpa using this)
      refine bodyPost_ret (v := .tuple #[.string ⟨s.toArray⟩, .slice A' ls.length c', .bool b1, .bool b2]) (by simp [results, Tryd.results22, go_sem]) rfl ?_
      exact ⟨s, _, _, _, ls, b1, b2, rfl, hs, by omega, own_slv ho4, hzz, (hf.trans_of hf3 (by simp)).trans_of hf4 (by simp)⟩

set_option maxHeartbeats 3200000 in
set_option maxRecDepth 100000 in
theorem FnReadFromRoad_walk (A : Option Addr) (n c : Nat) (l : List UInt8) (w : World) (a : Addr) (hE : Eof w a) (hS : Sl w A n l) :
    Calls Tryd.prog 6 #[.slice A n c] w fun e w' => e = .returned (.bool true) ∧ Below w.heap.size w w' := by
  go_enter Tryd.func6, Tryd.ntmps6
  go_wp2_with fail
  by_cases hn : n ≤ 1048576
  · refine (large_no A n c w hn).mono ?_
    rintro e w1 ⟨rfl, rfl⟩
    go_wp2_with fail
    refine (DrawReadFrom A n c l w hS hn).mono ?_
    rintro e w1 ⟨s, B, m, d, ls, f, h, rfl, hs, hm, hB, hz, hf1⟩
    have hml : m = ls.length := by have := hB.1; simpa using this
    have hsum := sum_le ls hz
    rw [← hml] at hsum
    have hfl : ls.flatten.length = (ls.map List.length).sum := List.length_flatten
    have hE1 := hE.fr hf1 (by simp)
    have h1 := Lib.hid (impl_ReadFrom s B m d ls f h w1 a hE1 hB (by omega))
    have hJ := Lib.hid fun W (hF : Fr [] w1 W) => spec_Joined B m d ls W (hB.fr_old hF (by simp)) (by omega) (by omega)
    have hW := Lib.hid fun W (hF : Fr [] w1 W) => impl_WriteStrings s B m d ls W (hB.fr_old hF (by simp)) (by omega)
    have hR2 := Lib.hid fun (x : List UInt8) (W : World) (hF : Fr [] w1 W) (hx : x.length ≤ 20480) (h' : Bool) => impl_ReadFrom s (some ⟨W.heap.size, 0, none⟩) 1 1 [x] false h' (W.alloc (.cells #[.string ⟨x.toArray⟩] 9)) a (hE1.fr (hF.alloc _) (by simp)) (by have := slv_fresh W #[.string ⟨x.toArray⟩] 9; simpa [sv] using this) (by simp; omega)
    have HFL := Lib.hid hfl
    have HML := Lib.hid hml
    clear hE hS hE1 hB hfl hml
    go_wp2_with fail
    refine h1.out.mono ?_
    rintro e w2 ⟨m1, s1, rfl, H1, hf2⟩
    go_wp2_with fail
    refine (hJ.out w2 hf2).mono ?_
    rintro e w3 ⟨j1, rfl, HJ1, rfl⟩
    have hj1 : j1.length ≤ 20480 := by rw [HJ1.out, HFL.out]; omega
    go_wp2_with fail
    refine (hR2.out j1 w2 hf2 hj1 _).mono ?_
    rintro e w3 ⟨m2, s2, rfl, H2, hf3⟩
    have hf13 : Fr [] w1 w3 := (hf2.alloc _).trans hf3
    go_wp2_with fail
    refine (hW.out w3 hf13).mono ?_
    rintro e w4 ⟨A4, c4, s4, rfl, hS4, H4, hf4⟩
    have hf14 := hf13.trans hf4
    clear h1 hR2 hW
    go_wp2_with fail
    go_loopw [17, 59] (fun v i wr => ∃ (k N : Nat), k ≤ m ∧ i = .int .i64 (k : Int) ∧ v = .int .i64 (N : Int) ∧ Hid (N = ((ls.map List.length).take k).sum) ∧ Fr [] w4 wr) (fun _ i _ => m - (intOf i).toNat)
    case atStart => exact ⟨0, 0, Nat.zero_le _, rfl, rfl, by show _ = _; simp, Fr.refl _ _⟩
    case round =>
      obtain ⟨k, N, hk, rfl, rfl, HN, hf⟩ := hrel
      have hNle : N ≤ 20480 := by
        have e1 : ((ls.map List.length).take k).sum + ((ls.map List.length).drop k).sum = (ls.map List.length).sum := by rw [← List.sum_append, List.take_append_drop]
        have := HN.out
        omega
      by_cases hlt : k < m
      · obtain ⟨x, hx⟩ : ∃ x, ls[k]? = some x := ⟨ls[k]'(by have := HML.out; omega), List.getElem?_eq_getElem _⟩
        have hxl : x.length ≤ 4096 := hz x (List.mem_of_getElem? hx)
        obtain ⟨ad, u, rfl, hu, hc⟩ := (hS4.fr_old hf (by simp)).at_ hlt
        obtain rfl : u = .int .i64 (x.length : Int) := by
          rw [List.getElem?_map, List.getElem?_map, hx] at hu
          simpa [iv] using hu.symm
        have hn2 : N + x.length = ((ls.map List.length).take (k + 1)).sum := by
          rw [take_next (ls.map List.length) k x.length (by rw [List.getElem?_map, hx]; rfl), List.sum_append, HN.out]
          simp
        have HN2 := Lib.hid hn2
        clear hx hu hn2
        go_wp2_with fail
        go_roundw
        case rel => exact ⟨k + 1, N + x.length, by omega, by go_num, by go_num, HN2.out, hf⟩
        case measure => simp [intOf]; omega
      · have hNN : N = m1 := by
          have e1 := HN.out
          rw [List.take_of_length_le (by simp; have := HML.out; omega), ← HFL.out, ← H1.out.1] at e1
          exact e1
        subst hNN
        have hm2 : m2 = N := by
          have e1 := H2.out.1
          rw [List.flatten_singleton, HJ1.out, ← H1.out.1] at e1
          exact e1
        subst hm2
        have e4 : s4 = s1 := by rw [H4.out, H1.out.2]
        have e2 : s2 = s1 := by
          have e1 := H2.out.2
          rw [List.flatten_singleton, HJ1.out, ← H1.out.2] at e1
          exact e1
        subst e4 e2
        have HS := Lib.hid H1.out.2
        have HFW := Lib.hid ((hf1.trans hf14).trans hf)
        clear H1 H2 H4 HN HJ1
        go_wp2_with fail
        refine (hJ.out wr (hf14.trans hf)).mono ?_
        rintro e w5 ⟨j2, rfl, HJ2, rfl⟩
        have hj2 : j2.length ≤ 20480 := by rw [HJ2.out, HFL.out]; omega
        have hss := HS.out
        rw [← HJ2.out] at hss
        subst hss
        clear HS HJ2
        cases f
        · go_wp2_with fail
          go_ret
          exact ⟨ret_true (by simp), HFW.out.below (Nat.le_refl _) (by simp)⟩
        · go_wp2_with fail
          go_ret
          exact ⟨ret_true (by simp), HFW.out.below (Nat.le_refl _) (by simp)⟩
  · refine (large_yes A n c w (by omega)).mono ?_
    rintro e w1 ⟨rfl, rfl⟩
    go_wp2_with fail
    go_ret
    exact ⟨rfl, Below.refl _ _⟩

end Go.Proofs.YtgjaeggpaomoaaaDoor
