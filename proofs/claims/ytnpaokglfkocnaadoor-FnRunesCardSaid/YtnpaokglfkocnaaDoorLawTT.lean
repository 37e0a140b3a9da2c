/- The reference's reads of code points, and the laws on them. -/
import Derived.Test.YtnpaokglfkocnaaDoorLawSS
namespace Go.Proofs.YtnpaokglfkocnaaDoor
open Go.RowKit
set_option linter.unusedVariables false
attribute [local go_sem ↓] Go.wp_at_zero Go.wp_at_succ

/-- The loop of the reference's ReadRunes. -/
def RunSRel (w : World) (l : List UInt8) (n : Nat) (s i v : Value) (wr : World) : Prop :=
  ∃ k, k ≤ n ∧ i = .int .u16 ((n - k : Nat) : Int) ∧ s = .string ⟨(rst l k).toArray⟩ ∧ wr.ownsRow w.heap.size 50 3 v k ((chs l k).flatMap rcells) ∧ Fr [] w wr

set_option maxHeartbeats 1600000 in
set_option maxRecDepth 100000 in
theorem spec_ReadRunes (l : List UInt8) (n : Nat) (w : World) (hn : n ≤ 65535) (hl : l.length ≤ 9223372036854775807) :
    Calls Tryd.prog 26 #[.string ⟨l.toArray⟩, .int .u16 (n : Int)] w fun e w' => ∃ A' c' s, e = .returned (.tuple #[.slice A' n c', .string ⟨s.toArray⟩]) ∧ Rs w' A' n 3 ((chs l n).flatMap rcells) ∧ Hid (s = rst l n) ∧ Fr [] w w' := by
  go_enter Tryd.func26, Tryd.ntmps26
  go_wp2_with fail
  go_loopw [0, 1, 6] (fun s i v wr => RunSRel w l n s i v wr) (fun _ i _ _ => (intOf i).toNat)
  case atStart =>
    exact ⟨0, Nat.zero_le _, rfl, rfl, own_empty w 50 3, (Fr.refl [] w).alloc _⟩
  case round =>
    obtain ⟨k, hk, rfl, rfl, ho, hf1⟩ := hrel
    obtain ⟨A', c', rfl⟩ := own_form ho
    by_cases hlt : k < n
    · have hdl : (rst l k).length ≤ 9223372036854775807 := Nat.le_trans (rst_length l k) hl
      generalize hd : rst l k = d at *
      have HD := Lib.hid hd
      clear hd
      generalize hnk : n - k = nk at *
      have hnk0 : 0 < nk := by omega
      have hnk1 : nk ≤ 65535 := by omega
      have HNK := Lib.hid hnk
      clear hnk
      have hsz : w.heap.size ≤ wr.heap.size := hf1.size
      cases d with
      | nil =>
        obtain ⟨v', w', hrun, ho', hg', hb'⟩ := run_app (P := Tryd.prog) (wr.alloc (.cells #[.int .i32 0, .int .i64 0, .bool true] 50)) w.heap.size 44 44 44 50 _ 3 24 Tryd.underlying44 infoD rfl (by decide) _ _ _ (ho.alloc _) _ 1 _
          (src_blk wr #[.int .i32 0, .int .i64 0, .bool true] 50 50 44 Tryd.underlying44 3 rfl (by simp [Value.oneCell']) 1) (by omega) (by omega) (by simp; omega)
        go_wp2_with (at_builtin; refine wpList_append_run rfl _ _ _ _ rfl rfl rfl hrun ?_)
        go_roundw
        case rel =>
          refine ⟨k + 1, by omega, vint (by have := HNK.out; omega), ?_, ?_, hf1.app ho hg'⟩
          · rw [rst, HD.out]; simp [chr]
          · rw [chs_succ, recs_snoc, HD.out, chr_nil]
            exact ho'
        case measure => simp [intOf]; omega
      | cons y t =>
        have hdc := Lib.hid (spec_Decode (y :: t) wr (by simp) hdl)
        simp only [List.length_cons] at hdl
        have hsz2 := Lib.hid (dec_size (y :: t) (by simp))
        go_wp2_with fail
        refine hdc.out.mono ?_
        rintro e w2 ⟨r, q, rfl, HR, rfl⟩
        obtain ⟨s1, s2, s3⟩ : 1 ≤ q ∧ q ≤ 4 ∧ q ≤ t.length + 1 := by
          have h1 := hsz2.out
          simp only [List.length_cons] at h1
          have h2 : q = (dec (y :: t)).2 := congrArg Prod.snd HR.out
          omega
        obtain ⟨v', w', hrun, ho', hg', hb'⟩ := run_app (P := Tryd.prog) (wr.alloc (.cells #[.int .i32 (r : Int), .int .i64 (q : Int), .bool false] 50)) w.heap.size 44 44 44 50 _ 3 24 Tryd.underlying44 infoD rfl (by decide) _ _ _ (ho.alloc _) _ 1 _
          (src_blk wr #[.int .i32 (r : Int), .int .i64 (q : Int), .bool false] 50 50 44 Tryd.underlying44 3 rfl (by simp [Value.oneCell']) 1) (by omega) (by omega) (by simp; omega)
        go_wp2_with (at_builtin; refine wpList_append_run rfl _ _ _ _ rfl rfl rfl hrun ?_)
        go_roundw
        case rel =>
          refine ⟨k + 1, by omega, vint (by have := HNK.out; omega), ?_, ?_, hf1.app ho hg'⟩
          · rw [rst, HD.out, chr_cons (by simp), ← HR.out]
          · rw [chs_succ, recs_snoc, HD.out, chr_cons (by simp), ← HR.out]
            exact ho'
        case measure => simp [intOf]; omega
    · have hnk : n - k = 0 := by omega
      go_wp2_with fail
      go_ret2
      obtain rfl : k = n := by omega
      exact ⟨_, _, rst l k, rfl, own_rs ho, rfl, hf1⟩

end Go.Proofs.YtnpaokglfkocnaaDoor
