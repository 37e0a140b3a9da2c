/- Laws on ReadFrom. -/
import Derived.Test.YtgjaeggpaomoaaaDoorSrce2
import Derived.Test.YtgjaeggpaomoaaaDoorDraw4
import Derived.BigQuiet
namespace Go.Proofs.YtgjaeggpaomoaaaDoor
open Go.RowKit
set_option linter.unusedVariables false
attribute [local go_sem ↓] Go.wp_at_zero Go.wp_at_succ

theorem broken_eq (w : World) : (binOp .eql 68 (.iface 75 (.agg #[])) (.iface 75 (.agg #[]))).run Tryd.prog w = .ok (.bool true) w := by kernel_rfl
theorem broken_ne (w : World) : (binOp .neq 68 (.iface 75 (.agg #[])) (.iface 75 (.agg #[]))).run Tryd.prog w = .ok (.bool false) w := by kernel_rfl
theorem nil_broken (w : World) : (binOp .eql 68 .nilIface (.iface 75 (.agg #[]))).run Tryd.prog w = .ok (.bool false) w := by kernel_rfl

/-- The chunks of a source that are a row of the call's own. -/
theorem own_chks {w : World} {base : Nat} {A : Option Addr} {n c : Nat} {ls : List (List UInt8)} (ho : w.ownsRow base 9 1 (.slice A n c) n (ls.map sv)) (k : Nat) (hk : base ≤ k) : ∃ gs, base ≤ gs ∧ (gs = k ∨ ∃ arr, Blk w gs 9 arr) ∧ Chks w gs A n c ls := by
  have hl : n = ls.length := by have := ho.1; simp at this; omega
  rcases ho.2 with ⟨hv, h0⟩ | ⟨g, cap, cur, hv, hb, hgg, hnc, hcm, hcs, htake⟩
  · injection hv with _ _ hc
    exact ⟨k, hk, .inl rfl, hl, by omega, fun h1 => by omega⟩
  · injection hv with hA _ hc
    subst hA hc
    refine ⟨g, hb, .inr ⟨cur, hgg⟩, hl, hnc, fun h1 => ⟨0, cur, rfl, hgg, fun j x hx => ?_⟩⟩
    have h2 : (cur.toList.take (n * 1))[j]? = some (sv x) := by rw [htake, List.getElem?_map, hx]; rfl
    rw [List.getElem?_take] at h2
    split at h2
    · rw [Nat.zero_add]
      simpa using h2
    · cases h2

set_option maxHeartbeats 3200000 in
set_option maxRecDepth 100000 in
theorem impl_ReadFrom (l : List UInt8) (A : Option Addr) (n c : Nat) (ls : List (List UInt8)) (f h : Bool) (w : World) (a : Addr) (hE : Eof w a) (hS : Slv w A n (ls.map sv)) (hN : l.length + (ls.map List.length).sum + n ≤ 2097152) :
    Calls Tryd.prog 16 #[.string ⟨l.toArray⟩, .slice A n c, .bool f, .bool h] w fun e w' => ∃ (m : Nat) (s : List UInt8), e = .returned (.tuple #[.int .i64 (m : Int), .bool f, .bool false, .string ⟨s.toArray⟩]) ∧ Hid (m = ls.flatten.length ∧ s = l ++ ls.flatten) ∧ Fr [] w w' := by
  have q1 := broken_eq
  have q2 := broken_ne
  have q3 := broken_nil
  have q4 := nil_broken
  have q5 := nil_neq_nil
  have hE0 := hE.lt
  have hfl : ls.flatten.length = (ls.map List.length).sum := List.length_flatten
  have HFL := Lib.hid hfl
  have HE := Lib.hid hE
  clear hfl hE
  go_enter Tryd.func16, Tryd.ntmps16
  go_wp2_with fail
  refine (NewBufferString _ _ (by omega)).mono ?_
  rintro e w1 ⟨b, g, pad, rfl, hB, hf, hb, hg⟩
  have hbl := hB.blk.lt
  have hgl := (hB.some_ g rfl).2.lt
  have hsz1 := hf.size
  obtain ⟨v', w2, hrun, ho, hgr, hb'⟩ := run_app (P := Tryd.prog) (w1.alloc (.cells #[] 9)) w1.heap.size 37 37 37 9 _ 1 16 Tryd.underlying37 infoStr rfl (by decide) _ _ _ (own_empty w1 9 1) (.slice A n c) n (ls.map sv)
    (((hS.fr_old hf (by simp)).fr_old ((Fr.refl [] w1).alloc (.cells #[] 9)) (by simp)).src Tryd.underlying37 c (by intro u hu; obtain ⟨x, _, rfl⟩ := List.mem_map.1 hu; rfl)) (by omega) (by omega) (by simp)
  simp only [Nat.zero_add, List.nil_append] at ho
  obtain ⟨A2, c2, rfl⟩ := own_form ho
  have hf2 : Fr [] w1 w2 := ((Fr.refl [] w1).alloc _).grown hgr (by simp [Value.ownBlock])
  have hfw2 : Fr [] w w2 := hf.trans hf2
  have hsz2 := hf2.size
  obtain ⟨gs, hgs1, hgs2, hch⟩ := own_chks ho w2.heap.size hsz2
  have hk3 := Blk.new w2 73 #[.slice A2 n c2, .bool f, .bool h]
  have hd3 : Fr [] w2 (w2.alloc (.cells #[.slice A2 n c2, .bool f, .bool h] 73)) := (Fr.refl [] w2).alloc _
  have hB3 : Bw w.heap.size (w2.alloc (.cells #[.slice A2 n c2, .bool f, .bool h] 73)) b l (some g) (l ++ pad) l.length 0 0 := ⟨(hB.fr hf2 (by simp) (by simp)).alloc _, by rw [unread_pad]; simp, fun x e => by injection e with e; omega, hb⟩
  have hgb : gs ≠ b := by
    rcases hgs2 with e | ⟨arr, e⟩
    · omega
    · exact Blk.ne_ e (hB.fr hf2 (by simp) (by simp)).blk (by decide)
  have hrf := Lib.hid (Buffer_ReadFrom w (w2.alloc (.cells #[.slice A2 n c2, .bool f, .bool h] 73)) b w2.heap.size gs (some g) (l ++ pad) l.length 0 l ls f h a hB3 ⟨A2, n, c2, hk3, hch.fr hd3 (by simp)⟩ (by omega) (by omega) (by omega) hgb (HE.out.fr (hfw2.alloc _) (by simp)) hE0 (hfw2.alloc _) ls.flatten rfl (by have := HFL.out; omega) (by
    intro x hx
    have h1 : x.length ≤ (ls.map List.length).sum := by
      obtain ⟨i, hi, rfl⟩ := List.getElem_of_mem hx
      have := len_le_sum ls i _ (List.getElem?_eq_getElem hi)
      omega
    omega))
  clear hB hB3 hk3 hch ho hgr hb' hS hgs2 HE
  go_wp2_with (at_builtin; refine wpList_append_run rfl _ _ _ _ rfl rfl rfl hrun ?_)
  refine hrf.out.mono ?_
  rintro e w3 ⟨g', row', len', m, rfl, HM, hB4, hf4⟩
  have hbs : Hid (∀ q : Nat, Calls Tryd.prog 31 #[.pointer (some ⟨b, 0, none⟩)] (w3.drewN q) fun e w' => e = .returned (.string ⟨(l ++ ls.flatten).toArray⟩) ∧ ∃ k, w' = w3.drewN k) := by
    intro q
    refine (Buffer_String _ (hB4.buf.drewN q)).mono ?_
    rintro e w' ⟨r, rfl, HR, k, rfl⟩
    exact ⟨by rw [HR.out, hB4.reads], q + k, by simp [World.drewN, Nat.add_assoc]⟩
  clear hB4
  generalize hall : ls.flatten = all at *
  have HALL := Lib.hid hall
  clear hall
  cases f
  · simp only [Bool.false_eq_true, if_false]
    go_wp2_with fail
    go_quiet ((go_at_call 31; first | exact hbs.out _ | exact (hbs.out _).mono fun e w' ⟨h1, h2⟩ => ⟨h1, h2⟩ | exact Calls.quiet_of_same (hbs.out _)))
    all_goals
      go_wp2_with fail
      refine bodyPost_ret (v := .tuple #[.int .i64 (m : Int), .bool false, .bool false, .string ⟨(l ++ all).toArray⟩]) (by simp [results, Tryd.results16, go_sem]) rfl ?_
      exact ⟨m, l ++ all, rfl, ⟨by rw [HALL.out]; exact HM.out, by rw [HALL.out]⟩, hf4.drewN _⟩
  · simp only [if_true]
    go_wp2_with fail
    go_quiet ((go_at_call 31; first | exact hbs.out _ | exact (hbs.out _).mono fun e w' ⟨h1, h2⟩ => ⟨h1, h2⟩ | exact Calls.quiet_of_same (hbs.out _)))
    all_goals
      go_wp2_with fail
      refine bodyPost_ret (v := .tuple #[.int .i64 (m : Int), .bool true, .bool false, .string ⟨(l ++ all).toArray⟩]) (by simp [results, Tryd.results16, go_sem]) rfl ?_
      exact ⟨m, l ++ all, rfl, ⟨by rw [HALL.out]; exact HM.out, by rw [HALL.out]⟩, hf4.drewN _⟩

theorem spec_ReadFrom (l : List UInt8) (A : Option Addr) (n c : Nat) (ls : List (List UInt8)) (w : World) (hS : Slv w A n (ls.map sv)) (hN : l.length + (ls.map List.length).sum + n ≤ 2097152) :
    Calls Tryd.prog 17 #[.string ⟨l.toArray⟩, .slice A n c] w fun e w' => ∃ (m : Nat) (s : List UInt8), e = .returned (.tuple #[.int .i64 (m : Int), .string ⟨s.toArray⟩]) ∧ Hid (m = ls.flatten.length ∧ s = l ++ ls.flatten) ∧ w = w' := by
  have hJ := Lib.hid (spec_Joined A n c ls w hS (by omega) (by omega))
  have hfl : ls.flatten.length = (ls.map List.length).sum := List.length_flatten
  have HFL := Lib.hid hfl
  clear hfl
  go_enter Tryd.func17, Tryd.ntmps17
  go_wp2_with fail
  refine hJ.out.mono ?_
  rintro e w1 ⟨s1, rfl, H1, rfl⟩
  have h1l : s1.length ≤ 2097152 := by rw [H1.out, HFL.out]; omega
  go_wp2_with fail
  refine hJ.out.mono ?_
  rintro e w1 ⟨s2, rfl, H2, rfl⟩
  have h2l : s2.length ≤ 2097152 := by rw [H2.out, HFL.out]; omega
  go_wp2_with fail
  go_ret2
  exact ⟨s1.length, l ++ s2, rfl, ⟨by rw [H1.out], by rw [H2.out]⟩, rfl⟩

set_option maxHeartbeats 1600000 in
theorem FnExactReadFrom_walk (l : List UInt8) (A : Option Addr) (n c : Nat) (ls : List (List UInt8)) (f h : Bool) (w : World) (a : Addr) (hE : Eof w a) (hl : l.length ≤ 9223372036854775807) (hS : Slv w A n (ls.map sv)) (hls : ∀ x ∈ ls, x.length ≤ 9223372036854775807) (hN : l.length + ((ls.map List.length).sum + n) ≤ 1048576) :
    Calls Tryd.prog 4 #[.string ⟨l.toArray⟩, .slice A n c, .bool f, .bool h] w fun e w' => e = .returned (.bool true) ∧ Below w.heap.size w w' := by
  go_enter Tryd.func4, Tryd.ntmps4
  go_wp2_with fail
  refine (impl_ReadFrom l A n c ls f h w a hE hS (by omega)).mono ?_
  rintro e w1 ⟨m, s, rfl, H1, hf1⟩
  have hsp := Lib.hid (spec_ReadFrom l A n c ls w1 (hS.fr_old hf1 (by simp)) (by omega))
  go_wp2_with fail
  refine hsp.out.mono ?_
  rintro e w2 ⟨m2, s2, rfl, H2, rfl⟩
  obtain rfl : m2 = m := by rw [H1.out.1, H2.out.1]
  obtain rfl : s2 = s := by rw [H1.out.2, H2.out.2]
  clear H1 H2
  cases f
  · go_wp2_with fail
    go_ret
    exact ⟨ret_true (by simp), hf1.below (Nat.le_refl _) (by simp)⟩
  · go_wp2_with fail
    go_ret
    exact ⟨ret_true (by simp), hf1.below (Nat.le_refl _) (by simp)⟩

end Go.Proofs.YtgjaeggpaomoaaaDoor
