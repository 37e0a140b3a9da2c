/- The calls of a script for the reference; whether they ask for much; whether results agree. -/
import Derived.Test.YtgjaeggpaomoaaaDoorScr
import Derived.Test.YtgjaeggpaomoaaaDoorRun
import Derived.Test.YtgjaeggpaomoaaaDoorRg
import Derived.Test.YtgjaeggpaomoaaaDoorRecs
import Derived.BigQuiet
namespace Go.Proofs.YtgjaeggpaomoaaaDoor
open Go.RowKit
set_option linter.unusedVariables false
attribute [local go_sem ↓] Go.wp_at_zero Go.wp_at_succ

theorem infoSo : (Tryd.prog.info? 29).map (fun i => (i.zero, i.size, i.bytes)) = some (some (.agg #[.string ByteArray.empty, .string ByteArray.empty, .int .u16 0, .int .i64 0, .int .i32 0]), 5, 56) := by kernel_rfl
theorem cells_one (o : OpV) : ∀ u ∈ (#[.string ⟨o.kind.toArray⟩, .string ⟨o.text.toArray⟩, .int .u16 (o.size : Int), .int .i64 o.n, .int .i32 o.char] : Array Value).toList, u.oneCell' = true := by simp [Value.oneCell']

set_option maxHeartbeats 1600000 in
set_option maxRecDepth 100000 in
theorem laws_specOps (A : Option Addr) (n c : Nat) (os : List OpV) (w : World) (hS : Rg w A n 5 (os.flatMap OpV.cells)) (hn : n = os.length) (hN : n ≤ 1048576) :
    Calls Tryd.prog 18 #[.slice A n c] w fun e w' => ∃ A' c', e = .returned (.slice A' n c') ∧ w'.ownsRow w.heap.size 29 5 (.slice A' n c') n (os.flatMap OpV.cells) ∧ Fr [] w w' := by
  have HN := Lib.hid hn
  clear hn
  go_enter Tryd.func18, Tryd.ntmps18
  go_wp2_with fail
  go_loopw [3, 9] (fun v i wr => ∃ k, k ≤ n ∧ i = .int .i64 (k : Int) ∧ wr.ownsRow w.heap.size 29 5 v k ((os.take k).flatMap OpV.cells) ∧ Fr [] w wr) (fun _ i _ => n - (intOf i).toNat)
  case atStart => exact ⟨0, Nat.zero_le _, rfl, own_empty w 29 5, (Fr.refl [] w).alloc _⟩
  case round =>
    obtain ⟨k, hk, rfl, ho, hf⟩ := hrel
    obtain ⟨A', c', rfl⟩ := own_form ho
    by_cases hlt : k < n
    · obtain ⟨o, hox⟩ : ∃ o, os[k]? = some o := ⟨_, List.getElem?_eq_getElem (by have := HN.out; omega)⟩
      obtain ⟨ad, rfl, cg0, cg⟩ := (hS.fr_old hf (by simp)).get (by omega)
      have g5 := fun j h => recs_get OpV.cells 5 (fun _ => rfl) os k j o hox h
      have x0 := cg0 _ _ ((g5 0 (by omega)).trans rfl)
      have x1 := cg _ 0 _ ((g5 1 (by omega)).trans rfl)
      have x2 := cg _ 1 _ ((g5 2 (by omega)).trans rfl)
      have x3 := cg _ 2 _ ((g5 3 (by omega)).trans rfl)
      have x4 := cg _ 3 _ ((g5 4 (by omega)).trans rfl)
      simp only [Nat.add_zero, Nat.zero_add, Nat.reduceAdd] at x0 x1 x2 x3 x4
      clear cg0 cg g5
      have hsz := hf.size
      obtain ⟨v', w', hrun, ho', hg', hb'⟩ := run_app (P := Tryd.prog) ((wr.alloc (.cells #[.string ⟨o.kind.toArray⟩, .string ⟨o.text.toArray⟩, .int .u16 (o.size : Int), .int .i64 o.n, .int .i32 o.char] 59)).alloc (.cells #[.string ⟨o.kind.toArray⟩, .string ⟨o.text.toArray⟩, .int .u16 (o.size : Int), .int .i64 o.n, .int .i32 o.char] 29)) w.heap.size 25 25 25 29 _ 5 56 Tryd.underlying25 infoSo rfl (by decide) _ _ _ ((ho.alloc _).alloc _) _ 1 _
        (src_blk (wr.alloc (.cells #[.string ⟨o.kind.toArray⟩, .string ⟨o.text.toArray⟩, .int .u16 (o.size : Int), .int .i64 o.n, .int .i32 o.char] 59)) #[.string ⟨o.kind.toArray⟩, .string ⟨o.text.toArray⟩, .int .u16 (o.size : Int), .int .i64 o.n, .int .i32 o.char] 29 29 25 Tryd.underlying25 5 rfl (cells_one o) 1) (by omega) (by omega) (by simp; omega)
      rw [show (wr.alloc (.cells #[.string ⟨o.kind.toArray⟩, .string ⟨o.text.toArray⟩, .int .u16 (o.size : Int), .int .i64 o.n, .int .i32 o.char] 59)).heap.size = wr.heap.size + 1 by simp] at hrun
      have HOX := Lib.hid hox
      have HO := Lib.hid ho
      clear ho hox
      go_wp2_with (at_builtin; refine wpList_append_run rfl _ _ _ _ rfl rfl rfl hrun ?_)
      go_roundw
      case rel =>
        refine ⟨k + 1, by omega, by go_num, ?_, ((hf.alloc _).alloc _).grown hg' (fun y hy => .inr ((HO.out.lt y hy).1))⟩
        rw [take_next os k o HOX.out, recs_snoc]
        exact ho'
      case measure => simp [intOf]; omega
    · go_wp2_with fail
      go_ret
      obtain rfl : k = n := by omega
      rw [List.take_of_length_le (by have := HN.out; omega)] at ho
      exact ⟨_, _, rfl, ho, hf⟩


set_option maxHeartbeats 1600000 in
set_option maxRecDepth 100000 in
theorem spec_Large (A : Option Addr) (n c : Nat) (os : List OpV) (w : World) (hS : Rg w A n 5 (os.flatMap OpV.cells)) (hn : n = os.length) (hN : n ≤ 1048576) (hok : ∀ o ∈ os, o.Ok) :
    Calls Tryd.prog 19 #[.slice A n c] w fun e w' => ∃ b : Bool, e = .returned (.bool b) ∧ Hid (b = false → n ≤ 4096 ∧ ∀ o ∈ os, o.kind = k_grow → o.n ≤ 1048576) ∧ Fr [] w w' := by
  have HN := Lib.hid hn
  have HOK := Lib.hid hok
  clear hn hok
  go_enter Tryd.func19, Tryd.ntmps19
  go_wp2_with fail
  go_loopw [7] (fun i wr => ∃ k, k ≤ n ∧ i = .int .i64 (k : Int) ∧ Hid (∀ o ∈ os.take k, o.kind = k_grow → o.n ≤ 1048576) ∧ Fr [] w wr) (fun i _ => n - (intOf i).toNat)
  case atStart => exact ⟨0, Nat.zero_le _, rfl, by show ∀ _, _; simp, Fr.refl [] w⟩
  case round =>
    obtain ⟨k, hk, rfl, HK, hf⟩ := hrel
    by_cases hlt : k < n
    · obtain ⟨o, hox⟩ : ∃ o, os[k]? = some o := ⟨_, List.getElem?_eq_getElem (by have := HN.out; omega)⟩
      obtain ⟨ad, rfl, cg0, cg⟩ := (hS.fr_old hf (by simp)).get (by omega)
      have g5 := fun j h => recs_get OpV.cells 5 (fun _ => rfl) os k j o hox h
      have x0 := cg0 _ _ ((g5 0 (by omega)).trans rfl)
      have x1 := cg _ 0 _ ((g5 1 (by omega)).trans rfl)
      have x2 := cg _ 1 _ ((g5 2 (by omega)).trans rfl)
      have x3 := cg _ 2 _ ((g5 3 (by omega)).trans rfl)
      have x4 := cg _ 3 _ ((g5 4 (by omega)).trans rfl)
      simp only [Nat.add_zero, Nat.zero_add, Nat.reduceAdd] at x0 x1 x2 x3 x4
      clear cg0 cg g5
      have ok := HOK.out o (List.mem_of_getElem? hox)
      have ok1 := ok.n0
      have ok2 := ok.n1
      have hnext : Hid ((o.kind = k_grow → o.n ≤ 1048576) → ∀ x ∈ os.take (k + 1), x.kind = k_grow → x.n ≤ 1048576) := by
        intro h x hx
        rw [take_next os k o hox] at hx
        rcases List.mem_append.1 hx with h1 | h1
        · exact HK.out x h1
        · simp only [List.mem_singleton] at h1
          rw [h1]
          exact h
      clear hox ok
      by_cases hg : o.kind = k_grow
      · have hg1 : (o.kind == [103, 114, 111, 119]) = true := by rw [hg]; rfl
        by_cases hb : (1048576 : Int) < o.n
        · have hb1 : decide ((1048576 : Int) < o.n) = true := decide_eq_true hb
          clear hg
          go_wp2_with fail
          go_ret
          exact ⟨true, rfl, (fun e => by cases e), hf.alloc _⟩
        · have hb1 : decide ((1048576 : Int) < o.n) = false := decide_eq_false hb
          have HB := Lib.hid hb
          clear hg hb
          go_wp2_with fail
          go_roundw
          case rel => exact ⟨k + 1, by omega, by go_num, hnext.out (fun _ => by have := HB.out; omega), hf.alloc _⟩
          case measure => simp [intOf]; omega
      · have hg1 : (o.kind == [103, 114, 111, 119]) = false := by simpa using hg
        have HG := Lib.hid hg
        clear hg
        go_wp2_with fail
        go_roundw
        case rel => exact ⟨k + 1, by omega, by go_num, hnext.out (fun e => absurd e HG.out), hf.alloc _⟩
        case measure => simp [intOf]; omega
    · have hal : ∀ o ∈ os, o.kind = k_grow → o.n ≤ 1048576 := by
        have := HK.out
        rw [List.take_of_length_le (by have := HN.out; omega)] at this
        exact this
      have HAL := Lib.hid hal
      clear hal
      by_cases hb : 4096 < n
      · have hb1 : decide ((4096 : Int) < (n : Int)) = true := decide_eq_true (by omega)
        go_wp2_with fail
        go_ret
        exact ⟨true, by simp, (fun e => by cases e), hf⟩
      · have hb1 : decide ((4096 : Int) < (n : Int)) = false := decide_eq_false (by omega)
        go_wp2_with fail
        go_ret
        exact ⟨false, by simp, fun _ => ⟨by omega, HAL.out⟩, hf⟩

set_option maxHeartbeats 3200000 in
set_option maxRecDepth 100000 in
theorem sameSteps_true (A B : Option Addr) (n m c d : Nat) (xs ys : List StV) (w : World) (hA : Rs w A n 4 (xs.flatMap StV.cells)) (hB : Rs w B m 4 (ys.flatMap StV.cells)) (hn : n = xs.length) (hm : m = ys.length) (hN : n ≤ 1048576) (hp : ys <+: xs) :
    Calls Tryd.prog 20 #[.slice A n c, .slice B m d] w fun e w' => e = .returned (.bool true) ∧ Fr [] w w' := by
  have hmn : m ≤ n := by rw [hn, hm]; exact hp.length_le
  have HP := Lib.hid hp
  have HX := Lib.hid hn
  have HY := Lib.hid hm
  clear hp hn hm
  go_enter Tryd.func20, Tryd.ntmps20
  go_wp2_with fail
  go_loopw [13] (fun i wr => ∃ k, k ≤ m ∧ i = .int .i64 (k : Int) ∧ Fr [] w wr) (fun i _ => m - (intOf i).toNat)
  case atStart => exact ⟨0, Nat.zero_le _, rfl, Fr.refl [] w⟩
  case round =>
    obtain ⟨k, hk, rfl, hf⟩ := hrel
    by_cases hlt : k < m
    · obtain ⟨st, hst⟩ : ∃ st, ys[k]? = some st := ⟨_, List.getElem?_eq_getElem (by have := HY.out; omega)⟩
      have hsx : xs[k]? = some st := by
        obtain ⟨r, hr⟩ := HP.out
        rw [← hr, List.getElem?_append_left (by have := HY.out; omega)]
        exact hst
      obtain ⟨g1, rfl, ca⟩ := (hA.fr_old hf (by simp)).get (by omega)
      obtain ⟨g2, rfl, cb⟩ := (hB.fr_old hf (by simp)).get (by omega)
      have g4 := fun j h => recs_get StV.cells 4 (fun _ => rfl) xs k j st hsx h
      have h4 := fun j h => recs_get StV.cells 4 (fun _ => rfl) ys k j st hst h
      have a0 := ca _ _ ((g4 0 (by omega)).trans rfl)
      have a1 := ca _ _ ((g4 1 (by omega)).trans rfl)
      have a2 := ca _ _ ((g4 2 (by omega)).trans rfl)
      have a3 := ca _ _ ((g4 3 (by omega)).trans rfl)
      have b0 := cb _ _ ((h4 0 (by omega)).trans rfl)
      have b1 := cb _ _ ((h4 1 (by omega)).trans rfl)
      have b2 := cb _ _ ((h4 2 (by omega)).trans rfl)
      have b3 := cb _ _ ((h4 3 (by omega)).trans rfl)
      simp only [Nat.add_zero] at a0 b0
      clear ca cb g4 h4 hst hsx
      go_wp2_with fail
      go_quiet (fail)
      go_wp2_with fail
      go_roundw
      case rel => exact ⟨k + 1, by omega, by go_num, hf.drewN _⟩
      case measure => simp [intOf]; omega
    · go_wp2_with fail
      go_ret
      exact ⟨rfl, hf⟩

end Go.Proofs.YtgjaeggpaomoaaaDoor
