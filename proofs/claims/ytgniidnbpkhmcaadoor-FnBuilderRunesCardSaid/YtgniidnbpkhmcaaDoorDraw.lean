/- The reader of drawn inputs: what its functions may return. -/
import Derived.Test.YtgniidnbpkhmcaaDoorBuf
import Derived.Deep.RegionWith
import Derived.Deep.DrawnRows
import Derived.LoopTactic
import Derived.Laws.BitsAllLaws
import Derived.Laws.BitsLemmas
namespace Go.Proofs.YtgniidnbpkhmcaaDoor
open Go.RowKit
set_option linter.unusedVariables false
attribute [local go_sem ↓] Go.wp_at_zero Go.wp_at_succ

/-- A reader in block r over the bytes l, at a place of at most q. -/
structure Dr (w : World) (r : Nat) (A : Option Addr) (n c : Nat) (l : List UInt8) (q : Nat) : Prop where
  blk : ∃ p : Nat, p ≤ q ∧ Blk w r 72 #[.slice A n c, .int .i64 (p : Int)]
  sl : Sl w A n l
  len_le : n ≤ 1048576
  ne : 0 < n → ∀ ad, A = some ad → ad.block ≠ r

theorem large_no (A : Option Addr) (n c : Nat) (w : World) (hn : n ≤ 1048576) : Calls Tryd.prog 7 #[.slice A n c] w fun e w' => e = .returned (.bool false) ∧ w = w' := by
  have hd : decide (1048576 < (n : Int)) = false := by simp; omega
  go_enter Tryd.func7, Tryd.ntmps7
  go_wp2
  go_ret
  exact ⟨by rw [← hd]; rfl, rfl⟩
theorem large_yes (A : Option Addr) (n c : Nat) (w : World) (hn : 1048576 < n) : Calls Tryd.prog 7 #[.slice A n c] w fun e w' => e = .returned (.bool true) ∧ w = w' := by
  have hd : decide (1048576 < (n : Int)) = true := by simp; omega
  go_enter Tryd.func7, Tryd.ntmps7
  go_wp2
  go_ret
  exact ⟨by rw [← hd]; rfl, rfl⟩

theorem rd_pick_zero (w : World) (r : Nat) (A : Option Addr) (c p m : Nat) (hk : Blk w r 72 #[.slice A 0 c, .int .i64 (p : Int)]) (hp : p ≤ 1000000) (hm : 1 ≤ m) (hm' : m ≤ 1000000) :
    Calls Tryd.prog 36 #[.pointer (some ⟨r, 0, none⟩), .int .i64 (m : Int)] w fun e w' => e = .returned (.int .i64 0) ∧ w.setCell ⟨r, 1, none⟩ (.int .i64 ((p + 1 : Nat) : Int)) = w' := by
  have c0 : w.cell? ⟨r, 0, none⟩ = some (.slice A 0 c) := hk.cell 0
  have c1 : w.cell? ⟨r, 1, none⟩ = some (.int .i64 (p : Int)) := hk.cell 1
  have f1 := hk.frozen 1
  clear hk
  go_enter Tryd.func36, Tryd.ntmps36
  go_wp2
  go_ret
  exact ⟨rfl, by simp⟩

theorem rd_pick_in (w : World) (r : Nat) (ad : Addr) (n c p m : Nat) (b : UInt8) (hk : Blk w r 72 #[.slice (some ad) n c, .int .i64 (p : Int)]) (hne : ad.block ≠ r) (hb : w.cell? (ad.add p) = some (.int .u8 (b.toNat : Int))) (hpn : p < n) (hn : n ≤ 1048576) (hm : 1 ≤ m) (hm' : m ≤ 1000000) :
    Calls Tryd.prog 36 #[.pointer (some ⟨r, 0, none⟩), .int .i64 (m : Int)] w fun e w' => e = .returned (.int .i64 ((b.toNat % m : Nat) : Int)) ∧ w.setCell ⟨r, 1, none⟩ (.int .i64 ((p + 1 : Nat) : Int)) = w' := by
  have c0 : w.cell? ⟨r, 0, none⟩ = some (.slice (some ad) n c) := hk.cell 0
  have c1 : w.cell? ⟨r, 1, none⟩ = some (.int .i64 (p : Int)) := hk.cell 1
  have f1 := hk.frozen 1
  have hb' : ∀ v, (w.setCell ⟨r, 1, none⟩ v).cell? (ad.add p) = some (.int .u8 (b.toNat : Int)) := fun v => by
    rw [World.cell?_setCell_other _ _ _ _ (fun e => hne (by have := congrArg Addr.block e; simpa [block_add] using this.symm))]
    exact hb
  have hb2 := b.toNat_lt
  have t1 : decide ((m : Int) < 1) = false := by simp; omega
  have t2 : ((n : Int) == 0) = false := by simp; omega
  clear hk hb
  go_enter Tryd.func36, Tryd.ntmps36
  go_wp2
  go_ret
  exact ⟨rfl, by simp⟩

theorem mix_nat (x1 x2 p n : Nat) (h1 : x1 < 256) (h2 : x2 < 256) (hp : p ≤ 1100000) : ∃ X : Nat, X ≤ 1000000000 ∧ wrap64 ((x1 : Int) * 131 + (x2 : Int) * 1117 + (p : Int) * 29 + wrap64 (wrap64 ((p : Int) / (n : Int)) * 53)) = (X : Int) := by
  have i3 : p / n ≤ p := Nat.div_le_self p n
  have e : (p : Int) / (n : Int) = ((p / n : Nat) : Int) := by simp
  rw [e]
  generalize p / n = j at *
  refine ⟨x1 * 131 + x2 * 1117 + p * 29 + j * 53, by omega, ?_⟩
  simp only [wrap64]
  omega
theorem xor_nat (X : Nat) (h : X ≤ 1000000000) : ∃ Y : Nat, Y ≤ 2000000000 ∧ bits .xor .i64 (X : Int) ((X : Int) / 64) = (Y : Int) := by
  have hx : X ^^^ (X / 64) < 2 ^ 30 := Nat.xor_lt_two_pow (by omega) (by omega)
  refine ⟨X ^^^ (X / 64), by omega, ?_⟩
  have e : (X : Int) / 64 = ((X / 64 : Nat) : Int) := by simp
  rw [e]
  show IntKind.i64.wrap ((BitVec.ofInt 64 (X : Int) ^^^ BitVec.ofInt 64 ((X / 64 : Nat) : Int)).toNat : Int) = _
  have o : ∀ a : Nat, a < 2 ^ 63 → (BitVec.ofInt 64 (a : Int)).toNat = a := fun a ha => by
    rw [BitVec.ofInt_natCast, BitVec.toNat_ofNat]
    exact Nat.mod_eq_of_lt (by omega)
  rw [BitVec.toNat_xor, o X (by omega), o (X / 64) (by omega), IntKind.wrap_i64]
  omega

theorem rd_pick_mix (w : World) (r : Nat) (ad : Addr) (n c p m : Nat) (b b' : UInt8) (hk : Blk w r 72 #[.slice (some ad) n c, .int .i64 (p : Int)]) (hne : ad.block ≠ r) (hb : w.cell? (ad.add (p % n)) = some (.int .u8 (b.toNat : Int))) (hb' : w.cell? (ad.add ((p * 7 + 3) % n)) = some (.int .u8 (b'.toNat : Int))) (hpn : n ≤ p) (h0 : 0 < n) (hn : n ≤ 1048576) (hp : p ≤ 1100000) (hm : 1 ≤ m) (hm' : m ≤ 1000000) :
    Calls Tryd.prog 36 #[.pointer (some ⟨r, 0, none⟩), .int .i64 (m : Int)] w fun e w' => ∃ x : Nat, e = .returned (.int .i64 (x : Int)) ∧ x < m ∧ ∃ q, (w.setCell ⟨r, 1, none⟩ (.int .i64 ((p + 1 : Nat) : Int))).drewN q = w' := by
  have c0 : w.cell? ⟨r, 0, none⟩ = some (.slice (some ad) n c) := hk.cell 0
  have c1 : w.cell? ⟨r, 1, none⟩ = some (.int .i64 (p : Int)) := hk.cell 1
  have f1 := hk.frozen 1
  have hb1 : ∀ v, (w.setCell ⟨r, 1, none⟩ v).cell? (ad.add (p % n)) = some (.int .u8 (b.toNat : Int)) := fun v => by
    rw [World.cell?_setCell_other _ _ _ _ (fun e => hne (by have := congrArg Addr.block e; simpa [block_add] using this.symm))]
    exact hb
  have hb2 : ∀ v, (w.setCell ⟨r, 1, none⟩ v).cell? (ad.add ((p * 7 + 3) % n)) = some (.int .u8 (b'.toNat : Int)) := fun v => by
    rw [World.cell?_setCell_other _ _ _ _ (fun e => hne (by have := congrArg Addr.block e; simpa [block_add] using this.symm))]
    exact hb'
  have hl1 := b.toNat_lt
  have hl2 := b'.toNat_lt
  have t1 : decide ((m : Int) < 1) = false := by simp; omega
  have t2 : ((n : Int) == 0) = false := by simp; omega
  have hnz : ¬ n = 0 := by omega
  have e1 : (p : Int).tmod (n : Int) = ((p % n : Nat) : Int) := by rw [Int.natCast_emod]; exact Int.tmod_eq_emod_of_nonneg (by omega)
  have e5 : ((p : Int) * 7 + 3).tmod (n : Int) = (((p * 7 + 3) % n : Nat) : Int) := by rw [Int.natCast_emod]; exact Int.tmod_eq_emod_of_nonneg (by omega)
  have i1 : p % n < n := Nat.mod_lt _ h0
  have i2 : (p * 7 + 3) % n < n := Nat.mod_lt _ h0
  clear hk hb hb'
  generalize p % n = j1 at *
  generalize (p * 7 + 3) % n = j2 at *
  generalize b.toNat = x1 at *
  generalize b'.toNat = x2 at *
  have e2 : IntKind.i64.wrap ((x1 : Int) * 131) = (x1 : Int) * 131 := IntWalk.i64_in _ (by omega)
  have e3 : IntKind.i64.wrap ((p : Int) * 7) = (p : Int) * 7 := IntWalk.i64_in _ (by omega)
  have e4 : IntKind.i64.wrap ((p : Int) * 7 + 3) = (p : Int) * 7 + 3 := IntWalk.i64_in _ (by omega)
  have e6 : IntKind.i64.wrap ((x2 : Int) * 1117) = (x2 : Int) * 1117 := IntWalk.i64_in _ (by omega)
  have e7 : IntKind.i64.wrap ((x1 : Int) * 131 + (x2 : Int) * 1117) = (x1 : Int) * 131 + (x2 : Int) * 1117 := IntWalk.i64_in _ (by omega)
  have e8 : IntKind.i64.wrap ((p : Int) * 29) = (p : Int) * 29 := IntWalk.i64_in _ (by omega)
  have e9 : IntKind.i64.wrap ((x1 : Int) * 131 + (x2 : Int) * 1117 + (p : Int) * 29) = (x1 : Int) * 131 + (x2 : Int) * 1117 + (p : Int) * 29 := IntWalk.i64_in _ (by omega)
  have e13 : IntKind.i64.wrap (x1 : Int) = x1 := IntWalk.i64_in _ (by omega)
  have e14 : IntKind.i64.wrap (x2 : Int) = x2 := IntWalk.i64_in _ (by omega)
  go_enter Tryd.func36, Tryd.ntmps36
  go_wp2_with fail
  go_quiet (fail)
  obtain ⟨X, hX, eX⟩ := mix_nat x1 x2 p n (by omega) (by omega) (by omega)
  rw [eX]
  clear eX e1 e2 e3 e4 e5 e6 e7 e8 e9 e13 e14 hb1 hb2
  obtain ⟨Y, hY, eY⟩ := xor_nat X hX
  go_wp2
  go_ret
  exact ⟨Y % m, ret_int (by simp), Nat.mod_lt _ (by omega), nq, by simp⟩

end Go.Proofs.YtgniidnbpkhmcaaDoor
