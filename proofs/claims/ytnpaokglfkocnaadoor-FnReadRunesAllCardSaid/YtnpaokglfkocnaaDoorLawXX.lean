/- Reads of code points up to the end: each is what is written there, but for bytes that begin none. -/
import Derived.Test.YtnpaokglfkocnaaDoorLawTT
import Derived.Test.YtnpaokglfkocnaaDoorLawNN
import Derived.Test.YtnpaokglfkocnaaDoorDraw4
import Derived.BigQuiet
namespace Go.Proofs.YtnpaokglfkocnaaDoor
open Go.RowKit
set_option linter.unusedVariables false
attribute [local go_sem ↓] Go.wp_at_zero Go.wp_at_succ

theorem DrawReadSingles_ (A : Option Addr) (n c : Nat) (l : List UInt8) (w : World) (hS : Sl w A n l) (hn : n ≤ 1048576) :
    Calls Tryd.prog 53 #[.slice A n c] w fun e w' => ∃ (s : List UInt8) (z : Nat), e = .returned (.tuple #[.string ⟨s.toArray⟩, .int .u16 (z : Int)]) ∧ s.length ≤ 4096 ∧ Fr [] w w' := by
  go_enter Tryd.func53, Tryd.ntmps53
  go_wp2_with fail
  refine (rd_textc _ w.heap.size A n c l 0 8 (Dr.made hS hn) (by omega) (by omega)).mono ?_
  rintro e w1 ⟨s, rfl, hs, hD1, hf1⟩
  go_wp2_with fail
  refine (rd_pick w1 w.heap.size A n c l _ 12 hD1 (by omega) (by omega) (by omega)).mono ?_
  rintro e w2 ⟨x, rfl, hx, hD2, hf2⟩
  go_wp2_with fail
  go_ret2
  exact ⟨s, _, rfl, by omega, ((Fr.refl [] w).alloc _).trans_of (hf1.trans hf2) (by simp)⟩
theorem DrawReadRunes (A : Option Addr) (n c : Nat) (l : List UInt8) (w : World) (hS : Sl w A n l) (hn : n ≤ 1048576) :
    Calls Tryd.prog 27 #[.slice A n c] w fun e w' => ∃ (s : List UInt8) (v : Value), e = .returned (.tuple #[.string ⟨s.toArray⟩, v]) ∧ s.length ≤ 4096 ∧ Fr [] w w' := by
  have h1 := Lib.hid (DrawReadSingles_ A n c l w hS hn)
  clear hS
  go_enter Tryd.func27, Tryd.ntmps27
  go_wp2_with fail
  refine h1.out.mono ?_
  rintro e w1 ⟨s, z, rfl, hs, hf⟩
  go_wp2_with fail
  go_ret2
  exact ⟨s, _, rfl, hs, hf⟩

theorem rst_short (l : List UInt8) : ∀ k, rst l k = [] ∨ (rst l k).length + k ≤ l.length
  | 0 => .inr (by simp [rst])
  | k + 1 => by
    rcases rst_short l k with h | h
    · exact .inl (by rw [rst, h]; simp)
    · by_cases h0 : rst l k = []
      · exact .inl (by rw [rst, h0]; simp)
      · have hd := dec_size _ h0
        refine .inr ?_
        rw [rst, chr_cons h0, List.length_drop]
        simp only
        omega
theorem rst_end (l : List UInt8) (k : Nat) (hk : l.length ≤ k) : rst l k = [] := by
  rcases rst_short l k with h | h
  · exact h
  · exact List.eq_nil_of_length_eq_zero (by omega)

set_option maxHeartbeats 8000000 in
set_option maxRecDepth 100000 in
theorem FnReadRunesAll_walk (A : Option Addr) (n c : Nat) (l : List UInt8) (w : World) (hT : Tabs w) (a : Addr) (hE : Eof w a) (hS : Sl w A n l) :
    Calls Tryd.prog 7 #[.slice A n c] w fun e w' => e = .returned (.bool true) ∧ Below w.heap.size w w' := by
  go_enter Tryd.func7, Tryd.ntmps7
  go_wp2_with fail
  by_cases hn : n ≤ 1048576
  · refine (large_no A n c w hn).mono ?_
    rintro e w1 ⟨rfl, rfl⟩
    go_wp2_with fail
    refine (DrawReadRunes A n c l w hS hn).mono ?_
    rintro e w1 ⟨s, v, rfl, hs, hf1⟩
    have hrr := impl_ReadRunes s (s.length + 1) w1 a (hE.fr hf1 (by simp)) (hT.fr_old hf1 (by simp)) (by omega) (by omega)
    rw [Int.natCast_add, Int.natCast_one] at hrr
    have HRR := Lib.hid hrr
    clear hT hE hS hrr
    go_wp2_with fail
    refine HRR.out.mono ?_
    rintro e w2 ⟨A2, c2, s2, rfl, hR2, H2, hf2⟩
    have hs2 : s2 = [] := by rw [H2.out]; exact rst_end s _ (by omega)
    subst hs2
    have hf12 := hf1.trans hf2
    clear H2 HRR
    go_wp2_with fail
    go_loopw [7, 36] (fun at_ i wr => ∃ k q : Nat, k ≤ s.length + 1 ∧ i = .int .i64 (k : Int) ∧ at_ = .int .i64 (q : Int) ∧ q ≤ s.length ∧ Hid (s.drop q = rst s k) ∧ Fr [] w2 wr) (fun _ i _ => s.length + 1 - (intOf i).toNat)
    case atStart => exact ⟨0, 0, Nat.zero_le _, rfl, rfl, Nat.zero_le _, rfl, Fr.refl _ _⟩
    case round =>
      obtain ⟨k, q, hk, rfl, rfl, hq, HQ, hfr⟩ := hrel
      obtain ⟨ga, rfl, ca⟩ := (hR2.fr_old hfr (by simp)).get (by omega)
      by_cases hlt : k < s.length + 1
      · have hx := chs_get s (s.length + 1) k hlt
        have g4 := recs_get icells 4 (fun _ => rfl) (chs s (s.length + 1)) k
        by_cases h0 : rst s k = []
        · rw [h0, chr_nil] at hx
          have a0 := ca _ _ ((g4 0 _ hx (by omega)).trans rfl)
          have a1 := ca _ _ ((g4 1 _ hx (by omega)).trans rfl)
          have a2 := ca _ _ ((g4 2 _ hx (by omega)).trans rfl)
          have a3 := ca _ _ ((g4 3 _ hx (by omega)).trans rfl)
          simp only [Nat.add_zero] at a0
          have HZ := Lib.hid h0
          clear ca g4 hx h0
          go_wp2_with fail
          go_roundw
          case rel => exact ⟨k + 1, q, by omega, by go_num, rfl, hq, by show _ = _; rw [HQ.out, rst, HZ.out]; simp, hfr.alloc _⟩
          case measure => simp [intOf]; omega
        · have hd := dec_size (rst s k) h0
          have hr := dec_rune (rst s k)
          have hen := enc_of_dec (rst s k) h0
          have HC := Lib.hid (chr_cons h0)
          rw [chr_cons h0] at hx
          have hql : q + (dec (rst s k)).2 ≤ s.length := by
            have := congrArg List.length HQ.out
            rw [List.length_drop] at this
            omega
          generalize hdd : dec (rst s k) = dd at *
          obtain ⟨r, z⟩ := dd
          have HDD := Lib.hid hdd
          simp only at hd hr hen hql
          have a0 := ca _ _ ((g4 0 _ hx (by omega)).trans rfl)
          have a1 := ca _ _ ((g4 1 _ hx (by omega)).trans rfl)
          have a2 := ca _ _ ((g4 2 _ hx (by omega)).trans rfl)
          have a3 := ca _ _ ((g4 3 _ hx (by omega)).trans rfl)
          simp only [Nat.add_zero] at a0
          obtain ⟨d1, d2, d3⟩ := hd
          have hw := fun o => impl_WriteRunes (some ⟨(wr.alloc o).heap.size, 0, none⟩) 1 1 [(r : Int)] ((wr.alloc o).alloc (.cells #[.int .i32 (r : Int)] 21)) (slv_fresh (wr.alloc o) #[.int .i32 (r : Int)] 21) (by simp; omega) (by omega)
          simp only [World.size_alloc] at hw
          have HW := Lib.hid hw
          have HEN := Lib.hid hen
          have HD3 := Lib.hid d3
          clear ca g4 hx h0 hdd hw hen d3
          go_wp2_with fail
          refine (HW.out _).mono ?_
          rintro e w3 ⟨A3, c3, s3, rfl, hS3, H3, hf3⟩
          have hk3 := ((Blk.new wr 48 #[.int .i32 (r : Int), .int .i64 (z : Int), .bool false, .bool false]).alloc (.cells #[.int .i32 (r : Int)] 21)).fr hf3 (by simp)
          have y0 : w3.cell? ⟨wr.heap.size, 0, none⟩ = some (.int .i32 (r : Int)) := hk3.cell 0
          have y1 : w3.cell? ⟨wr.heap.size, 1, none⟩ = some (.int .i64 (z : Int)) := hk3.cell 1
          have hs3 : s3 = Lib.encodeRune (r : Int) := by rw [H3.out]; simp [encs]
          have hfr3 : Fr [] w2 w3 := ((hfr.alloc _).alloc _).trans hf3
          have HS3 := Lib.hid hs3
          clear hk3 HW hS3 hs3
          have hfin : ∀ W, Fr [] w3 W → ∃ k' q' : Nat, k' ≤ s.length + 1 ∧ Value.int .i64 ((k : Int) + 1) = .int .i64 (k' : Int) ∧ Value.int .i64 ((q : Int) + (z : Int)) = .int .i64 (q' : Int) ∧ q' ≤ s.length ∧ Hid (s.drop q' = rst s k') ∧ Fr [] w2 W := fun W hW =>
            ⟨k + 1, q + z, by omega, by go_num, by go_num, hql, by show _ = _; rw [rst, HC.out, ← HQ.out, List.drop_drop], hfr3.trans hW⟩
          have HF := Lib.hid hfin
          clear hfin
          by_cases hg : r ≠ 65533 ∨ z ≠ 1
          · have htx : s3 = (s.drop q).take z := by rw [HS3.out, HQ.out]; exact HEN.out hg
            have htx2 : s3 = (s.take (q + z)).drop q := by rw [htx, List.take_drop, Nat.add_comm]
            subst htx2
            clear htx
            by_cases hr1 : r = 65533
            · subst hr1
              have hz1 : ((z : Int) == 1) = false := by simp; omega
              go_wp2_with fail
              go_roundw
              case rel => exact HF.out _ (Fr.refl _ _)
              case measure => simp [intOf]; omega
            · have hr2 : ((r : Int) == 65533) = false := by simp; omega
              go_wp2_with fail
              go_roundw
              case rel => exact HF.out _ (Fr.refl _ _)
              case measure => simp [intOf]; omega
          · obtain ⟨rfl, rfl⟩ : r = 65533 ∧ z = 1 := by omega
            go_wp2_with fail
            go_roundw
            case rel => exact HF.out _ (Fr.refl _ _)
            case measure => simp [intOf]; omega
      · obtain rfl : k = s.length + 1 := by omega
        obtain rfl : q = s.length := by
          have h1 := HQ.out
          rw [rst_end s _ (by omega)] at h1
          have := congrArg List.length h1
          rw [List.length_drop, List.length_nil] at this
          omega
        have hx := chs_get s (s.length + 1) s.length (by omega)
        rw [rst_end s _ (Nat.le_refl _), chr_nil] at hx
        have e2 := ca _ _ ((recs_get icells 4 (fun _ => rfl) (chs s (s.length + 1)) s.length 2 _ hx (by omega)).trans rfl)
        clear ca hx
        go_wp2_with fail
        go_ret
        exact ⟨rfl, (hf12.trans hfr).below (Nat.le_refl _) (by simp)⟩
  · refine (large_yes A n c w (by omega)).mono ?_
    rintro e w1 ⟨rfl, rfl⟩
    go_wp2_with fail
    go_ret
    exact ⟨rfl, Below.refl _ _⟩

end Go.Proofs.YtnpaokglfkocnaaDoor
