/- Drawn calls of a script. -/
import Derived.Test.YtgjaeggpaomoaaaDoorDrawR
import Derived.Test.YtgjaeggpaomoaaaDoorRecs
namespace Go.Proofs.YtgjaeggpaomoaaaDoor
open Go.RowKit
set_option linter.unusedVariables false
attribute [local go_sem ↓] Go.wp_at_zero Go.wp_at_succ

theorem rd_ofm (w : World) (r : Nat) (A : Option Addr) (n c : Nat) (l : List UInt8) (q : Nat) (h : Dr w r A n c l q) (hq : q ≤ 1000000) (bd : Addr) (k d : Nat) (vs : List Value) (hL : Slv w (some bd) k vs) (hb : bd.block ≠ r) (h1 : 1 ≤ k) (hk : k ≤ 1000) :
    Calls Tryd.prog 70 #[.pointer (some ⟨r, 0, none⟩), .slice (some bd) k d] w fun e w' => ∃ u : Value, e = .returned u ∧ u ∈ vs ∧ Dr w' r A n c l (q + 1) ∧ Fr [r] w w' := by
  go_enter Tryd.func70, Tryd.ntmps70
  go_wp2_with fail
  refine (rd_pick w r A n c l q k h hq h1 (by omega)).mono ?_
  rintro e w1 ⟨x, rfl, hx, hD, hf⟩
  have hL1 := hL.fr hf (fun ad e => by injection e with e; rw [← e]; simpa using hb)
  obtain ⟨ad, u, e, hu, hc⟩ := hL1.at_ hx
  injection e with e
  subst e
  have hm := List.mem_of_getElem? hu
  clear hu
  have HM := Lib.hid hm
  clear hm
  go_wp2_with fail
  go_ret
  exact ⟨u, rfl, HM.out, hD, hf⟩

/-- The kinds that are drawn. -/
def drawn : List (List UInt8) := [[114, 101, 97, 100], [114, 101, 97, 100, 114, 117, 110, 101], [117, 110, 114, 101, 97, 100, 114, 117, 110, 101], [114, 101, 97, 100, 98, 121, 116, 101], [117, 110, 114, 101, 97, 100, 98, 121, 116, 101], [110, 101, 120, 116], [119, 114, 105, 116, 101], [119, 114, 105, 116, 101, 115, 116, 114, 105, 110, 103], [119, 114, 105, 116, 101, 98, 121, 116, 101], [119, 114, 105, 116, 101, 114, 117, 110, 101], [114, 101, 97, 100, 98, 121, 116, 101, 115], [114, 101, 97, 100, 115, 116, 114, 105, 110, 103], [112, 101, 101, 107], [116, 114, 117, 110, 99, 97, 116, 101], [103, 114, 111, 119], [114, 101, 115, 101, 116], [108, 101, 110], [98, 121, 116, 101, 115], [115, 116, 114, 105, 110, 103], [110, 111, 110, 101]]
/-- What a drawn call has. -/
def Drawn (k t : List UInt8) (z : Nat) (x y : Int) : Prop := k ∈ drawn ∧ t.length ≤ 20 ∧ z ≤ 65535 ∧ -1 ≤ x ∧ x ≤ 5 ∧ -2147483648 ≤ y ∧ y ≤ 2147483647
/-- What rd.op leaves. -/
def OpPost (r : Nat) (A : Option Addr) (n c : Nat) (l : List UInt8) (q : Nat) (w : World) (e : Ending) (w' : World) : Prop :=
  ∃ (k t : List UInt8) (z : Nat) (x y : Int), e = .returned (.agg #[.string ⟨k.toArray⟩, .string ⟨t.toArray⟩, .int .u16 (z : Int), .int .i64 x, .int .i32 y]) ∧ Dr w' r A n c l (q + 16) ∧ Fr [r] w w' ∧ Hid (Drawn k t z x y)

set_option maxHeartbeats 40000000 in
set_option maxRecDepth 100000 in
theorem rd_op (w : World) (r : Nat) (A : Option Addr) (n c : Nat) (l : List UInt8) (q : Nat) (h : Dr w r A n c l q) (hq : q ≤ 700000) :
    Calls Tryd.prog 37 #[.pointer (some ⟨r, 0, none⟩)] w (OpPost r A n c l q w) := by
  have hlt := h.lt
  have hA : 0 < n → ∀ ad, A = some ad → ad.block < w.heap.size := h.sl.old
  have HA := Lib.hid hA
  clear hA
  have hof := rd_ofm _ r A n c l q ((h.alloc (.cells #[.string ⟨#[]⟩, .string ⟨#[]⟩, .int .u16 0, .int .i64 0, .int .i32 0] 29)).alloc (.cells #[.string ⟨#[114, 101, 97, 100]⟩, .string ⟨#[114, 101, 97, 100, 114, 117, 110, 101]⟩, .string ⟨#[117, 110, 114, 101, 97, 100, 114, 117, 110, 101]⟩, .string ⟨#[114, 101, 97, 100, 98, 121, 116, 101]⟩, .string ⟨#[117, 110, 114, 101, 97, 100, 98, 121, 116, 101]⟩, .string ⟨#[110, 101, 120, 116]⟩, .string ⟨#[119, 114, 105, 116, 101]⟩, .string ⟨#[119, 114, 105, 116, 101, 115, 116, 114, 105, 110, 103]⟩, .string ⟨#[119, 114, 105, 116, 101, 98, 121, 116, 101]⟩, .string ⟨#[119, 114, 105, 116, 101, 114, 117, 110, 101]⟩, .string ⟨#[114, 101, 97, 100, 98, 121, 116, 101, 115]⟩, .string ⟨#[114, 101, 97, 100, 115, 116, 114, 105, 110, 103]⟩, .string ⟨#[112, 101, 101, 107]⟩, .string ⟨#[116, 114, 117, 110, 99, 97, 116, 101]⟩, .string ⟨#[103, 114, 111, 119]⟩, .string ⟨#[114, 101, 115, 101, 116]⟩, .string ⟨#[108, 101, 110]⟩, .string ⟨#[98, 121, 116, 101, 115]⟩, .string ⟨#[115, 116, 114, 105, 110, 103]⟩, .string ⟨#[114, 101, 97, 100, 114, 117, 110, 101]⟩, .string ⟨#[114, 101, 97, 100, 98, 121, 116, 101]⟩, .string ⟨#[117, 110, 114, 101, 97, 100, 98, 121, 116, 101]⟩, .string ⟨#[110, 111, 110, 101]⟩] 9)) (by omega) ⟨w.heap.size + 1, 0, none⟩ 23 23 _ (by have := slv_new (w.alloc (.cells #[.string ⟨#[]⟩, .string ⟨#[]⟩, .int .u16 0, .int .i64 0, .int .i32 0] 29)) #[.string ⟨#[114, 101, 97, 100]⟩, .string ⟨#[114, 101, 97, 100, 114, 117, 110, 101]⟩, .string ⟨#[117, 110, 114, 101, 97, 100, 114, 117, 110, 101]⟩, .string ⟨#[114, 101, 97, 100, 98, 121, 116, 101]⟩, .string ⟨#[117, 110, 114, 101, 97, 100, 98, 121, 116, 101]⟩, .string ⟨#[110, 101, 120, 116]⟩, .string ⟨#[119, 114, 105, 116, 101]⟩, .string ⟨#[119, 114, 105, 116, 101, 115, 116, 114, 105, 110, 103]⟩, .string ⟨#[119, 114, 105, 116, 101, 98, 121, 116, 101]⟩, .string ⟨#[119, 114, 105, 116, 101, 114, 117, 110, 101]⟩, .string ⟨#[114, 101, 97, 100, 98, 121, 116, 101, 115]⟩, .string ⟨#[114, 101, 97, 100, 115, 116, 114, 105, 110, 103]⟩, .string ⟨#[112, 101, 101, 107]⟩, .string ⟨#[116, 114, 117, 110, 99, 97, 116, 101]⟩, .string ⟨#[103, 114, 111, 119]⟩, .string ⟨#[114, 101, 115, 101, 116]⟩, .string ⟨#[108, 101, 110]⟩, .string ⟨#[98, 121, 116, 101, 115]⟩, .string ⟨#[115, 116, 114, 105, 110, 103]⟩, .string ⟨#[114, 101, 97, 100, 114, 117, 110, 101]⟩, .string ⟨#[114, 101, 97, 100, 98, 121, 116, 101]⟩, .string ⟨#[117, 110, 114, 101, 97, 100, 98, 121, 116, 101]⟩, .string ⟨#[110, 111, 110, 101]⟩] 9; simpa using this) (by simp; omega) (by omega) (by omega)
  have HOF := Lib.hid hof
  clear hof h
  go_enter Tryd.func37, Tryd.ntmps37
  go_wp2_with fail
  refine HOF.out.mono ?_
  rintro e w1 ⟨u, rfl, hu, hD1, hf1⟩
  have hk1 := ((Blk.new w 29 #[.string ⟨#[]⟩, .string ⟨#[]⟩, .int .u16 0, .int .i64 0, .int .i32 0]).alloc (.cells #[.string ⟨#[114, 101, 97, 100]⟩, .string ⟨#[114, 101, 97, 100, 114, 117, 110, 101]⟩, .string ⟨#[117, 110, 114, 101, 97, 100, 114, 117, 110, 101]⟩, .string ⟨#[114, 101, 97, 100, 98, 121, 116, 101]⟩, .string ⟨#[117, 110, 114, 101, 97, 100, 98, 121, 116, 101]⟩, .string ⟨#[110, 101, 120, 116]⟩, .string ⟨#[119, 114, 105, 116, 101]⟩, .string ⟨#[119, 114, 105, 116, 101, 115, 116, 114, 105, 110, 103]⟩, .string ⟨#[119, 114, 105, 116, 101, 98, 121, 116, 101]⟩, .string ⟨#[119, 114, 105, 116, 101, 114, 117, 110, 101]⟩, .string ⟨#[114, 101, 97, 100, 98, 121, 116, 101, 115]⟩, .string ⟨#[114, 101, 97, 100, 115, 116, 114, 105, 110, 103]⟩, .string ⟨#[112, 101, 101, 107]⟩, .string ⟨#[116, 114, 117, 110, 99, 97, 116, 101]⟩, .string ⟨#[103, 114, 111, 119]⟩, .string ⟨#[114, 101, 115, 101, 116]⟩, .string ⟨#[108, 101, 110]⟩, .string ⟨#[98, 121, 116, 101, 115]⟩, .string ⟨#[115, 116, 114, 105, 110, 103]⟩, .string ⟨#[114, 101, 97, 100, 114, 117, 110, 101]⟩, .string ⟨#[114, 101, 97, 100, 98, 121, 116, 101]⟩, .string ⟨#[117, 110, 114, 101, 97, 100, 98, 121, 116, 101]⟩, .string ⟨#[110, 111, 110, 101]⟩] 9)).fr hf1 (by simp; omega)
  have HK1 := Lib.hid hk1
  have hs1 : w.heap.size + 2 ≤ w1.heap.size := by have := hf1.size; simpa using this
  have hfw1 : Fr [r] w w1 := (((Fr.refl [r] w).alloc _).alloc _).trans hf1
  have HD1 := Lib.hid hD1
  have HA1 : Hid (∀ o, Dr (w1.alloc o) r A n c l (q + 1)) := fun o => hD1.alloc o
  have hk1c0 : ∀ o, (w1.alloc o).cell? ⟨w.heap.size, 0, none⟩ = some (.string ⟨#[]⟩) := fun o => (hk1.alloc o).cell 0
  have hk1f0 := fun o => (hk1.alloc o).frozen 0
  have hk1c1 : ∀ o, (w1.alloc o).cell? ⟨w.heap.size, 1, none⟩ = some (.string ⟨#[]⟩) := fun o => (hk1.alloc o).cell 1
  have hk1f1 := fun o => (hk1.alloc o).frozen 1
  have hk1c2 : ∀ o, (w1.alloc o).cell? ⟨w.heap.size, 2, none⟩ = some (.int .u16 0) := fun o => (hk1.alloc o).cell 2
  have hk1f2 := fun o => (hk1.alloc o).frozen 2
  have hk1c3 : ∀ o, (w1.alloc o).cell? ⟨w.heap.size, 3, none⟩ = some (.int .i64 0) := fun o => (hk1.alloc o).cell 3
  have hk1f3 := fun o => (hk1.alloc o).frozen 3
  have hk1c4 : ∀ o, (w1.alloc o).cell? ⟨w.heap.size, 4, none⟩ = some (.int .i32 0) := fun o => (hk1.alloc o).cell 4
  have hk1f4 := fun o => (hk1.alloc o).frozen 4
  clear hk1
  clear hD1 HOF
  simp only [List.mem_cons, List.not_mem_nil, or_false] at hu
  rcases hu with rfl | rfl | rfl | rfl | rfl | rfl | rfl | rfl | rfl | rfl | rfl | rfl | rfl | rfl | rfl | rfl | rfl | rfl | rfl | rfl | rfl | rfl | rfl
  · skip
    have hc : Calls Tryd.prog 33 #[.pointer (some ⟨r, 0, none⟩), .int .i64 5] (w1.alloc (.cells #[.string ⟨#[114, 101, 97, 100]⟩, .string ⟨#[]⟩, .int .u16 0, .int .i64 0, .int .i32 0] 29)) _ := rd_pick _ r A n c l (q + 1) 5 (HA1.out _) (by omega) (by omega) (by omega)
    have HC := Lib.hid hc
    clear hc
    go_wp2_with fail
    refine HC.out.mono ?_
    rintro e w2 ⟨x, rfl, hx, hD2, hf2⟩
    have hfw2 : Fr [r] w w2 := (hfw1.alloc _).trans hf2
    have hs2 : w1.heap.size + 1 ≤ w2.heap.size := by have := hf2.size; simpa using this
    have HD2 := Lib.hid hD2
    clear hD2
    have ka := (HK1.out.alloc (.cells #[.string ⟨#[114, 101, 97, 100]⟩, .string ⟨#[]⟩, .int .u16 0, .int .i64 0, .int .i32 0] 29)).fr hf2 (by simp; omega)
    have kb := (Blk.new w1 29 #[.string ⟨#[114, 101, 97, 100]⟩, .string ⟨#[]⟩, .int .u16 0, .int .i64 0, .int .i32 0]).fr hf2 (by simp; omega)
    have kac0 : w2.cell? ⟨w.heap.size, 0, none⟩ = some (.string ⟨#[]⟩) := ka.cell 0
    have kaf0 := ka.frozen 0
    have kac1 : w2.cell? ⟨w.heap.size, 1, none⟩ = some (.string ⟨#[]⟩) := ka.cell 1
    have kaf1 := ka.frozen 1
    have kac2 : w2.cell? ⟨w.heap.size, 2, none⟩ = some (.int .u16 0) := ka.cell 2
    have kaf2 := ka.frozen 2
    have kac3 : w2.cell? ⟨w.heap.size, 3, none⟩ = some (.int .i64 0) := ka.cell 3
    have kaf3 := ka.frozen 3
    have kac4 : w2.cell? ⟨w.heap.size, 4, none⟩ = some (.int .i32 0) := ka.cell 4
    have kaf4 := ka.frozen 4
    have kbc0 : w2.cell? ⟨w1.heap.size, 0, none⟩ = some (.string ⟨#[114, 101, 97, 100]⟩) := kb.cell 0
    have kbf0 := kb.frozen 0
    have kbc1 : w2.cell? ⟨w1.heap.size, 1, none⟩ = some (.string ⟨#[]⟩) := kb.cell 1
    have kbf1 := kb.frozen 1
    have kbc2 : w2.cell? ⟨w1.heap.size, 2, none⟩ = some (.int .u16 0) := kb.cell 2
    have kbf2 := kb.frozen 2
    have kbc3 : w2.cell? ⟨w1.heap.size, 3, none⟩ = some (.int .i64 0) := kb.cell 3
    have kbf3 := kb.frozen 3
    have kbc4 : w2.cell? ⟨w1.heap.size, 4, none⟩ = some (.int .i32 0) := kb.cell 4
    have kbf4 := kb.frozen 4
    have HKA := Lib.hid ka
    have HKB := Lib.hid kb
    clear ka kb
    go_wp2_with fail
    refine bodyPost_ret (v := .agg #[.string ⟨#[114, 101, 97, 100]⟩, .string ⟨#[]⟩, .int .u16 (x : Int), .int .i64 0, .int .i32 0]) (by simp [results, Tryd.results37, go_sem, kac0, kac1, kac2, kac3, kac4]) rfl ?_
    have hfin : ∀ W, Fr [w.heap.size, w1.heap.size] w2 W → OpPost r A n c l q w (.returned (.agg #[.string ⟨#[114, 101, 97, 100]⟩, .string ⟨#[]⟩, .int .u16 (x : Int), .int .i64 0, .int .i32 0])) W := fun W hW =>
      ⟨[114, 101, 97, 100], [], x, 0, 0, rfl, (HD2.out.fr hW (by simp; omega) (fun h0 ad e => by have := HA.out h0 ad e; simp; omega)).mono (by omega), hfw2.trans_of hW (by simp; omega), ⟨by decide, by first | (simp; done) | omega, by omega, by omega, by omega, by omega, by omega⟩⟩
    exact hfin _ (by repeat' first | with_reducible refine Fr.setCell ?_ ?_ _ | with_reducible exact Fr.refl _ _ | exact .inl (by simp))
  · go_wp2_with fail
    refine bodyPost_ret (v := .agg #[.string ⟨#[114, 101, 97, 100, 114, 117, 110, 101]⟩, .string ⟨#[]⟩, .int .u16 0, .int .i64 0, .int .i32 0]) (by simp [results, Tryd.results37, go_sem, hk1c0, hk1c1, hk1c2, hk1c3, hk1c4]) rfl ?_
    have hfin : ∀ W, Fr [w.heap.size] (w1.alloc (.cells #[.string ⟨#[114, 101, 97, 100, 114, 117, 110, 101]⟩, .string ⟨#[]⟩, .int .u16 0, .int .i64 0, .int .i32 0] 29)) W → OpPost r A n c l q w (.returned (.agg #[.string ⟨#[114, 101, 97, 100, 114, 117, 110, 101]⟩, .string ⟨#[]⟩, .int .u16 0, .int .i64 0, .int .i32 0])) W := fun W hW =>
      ⟨[114, 101, 97, 100, 114, 117, 110, 101], [], 0, 0, 0, rfl, ((HA1.out _).fr hW (by simp; omega) (fun h0 ad e => by have := HA.out h0 ad e; simp; omega)).mono (by omega), (hfw1.alloc _).trans_of hW (by simp), ⟨by decide, by simp, by omega, by omega, by omega, by omega, by omega⟩⟩
    exact hfin _ (by repeat' first | with_reducible refine Fr.setCell ?_ ?_ _ | with_reducible exact Fr.refl _ _ | exact .inl (by simp))
  · go_wp2_with fail
    refine bodyPost_ret (v := .agg #[.string ⟨#[117, 110, 114, 101, 97, 100, 114, 117, 110, 101]⟩, .string ⟨#[]⟩, .int .u16 0, .int .i64 0, .int .i32 0]) (by simp [results, Tryd.results37, go_sem, hk1c0, hk1c1, hk1c2, hk1c3, hk1c4]) rfl ?_
    have hfin : ∀ W, Fr [w.heap.size] (w1.alloc (.cells #[.string ⟨#[117, 110, 114, 101, 97, 100, 114, 117, 110, 101]⟩, .string ⟨#[]⟩, .int .u16 0, .int .i64 0, .int .i32 0] 29)) W → OpPost r A n c l q w (.returned (.agg #[.string ⟨#[117, 110, 114, 101, 97, 100, 114, 117, 110, 101]⟩, .string ⟨#[]⟩, .int .u16 0, .int .i64 0, .int .i32 0])) W := fun W hW =>
      ⟨[117, 110, 114, 101, 97, 100, 114, 117, 110, 101], [], 0, 0, 0, rfl, ((HA1.out _).fr hW (by simp; omega) (fun h0 ad e => by have := HA.out h0 ad e; simp; omega)).mono (by omega), (hfw1.alloc _).trans_of hW (by simp), ⟨by decide, by simp, by omega, by omega, by omega, by omega, by omega⟩⟩
    exact hfin _ (by repeat' first | with_reducible refine Fr.setCell ?_ ?_ _ | with_reducible exact Fr.refl _ _ | exact .inl (by simp))
  · go_wp2_with fail
    refine bodyPost_ret (v := .agg #[.string ⟨#[114, 101, 97, 100, 98, 121, 116, 101]⟩, .string ⟨#[]⟩, .int .u16 0, .int .i64 0, .int .i32 0]) (by simp [results, Tryd.results37, go_sem, hk1c0, hk1c1, hk1c2, hk1c3, hk1c4]) rfl ?_
    have hfin : ∀ W, Fr [w.heap.size] (w1.alloc (.cells #[.string ⟨#[114, 101, 97, 100, 98, 121, 116, 101]⟩, .string ⟨#[]⟩, .int .u16 0, .int .i64 0, .int .i32 0] 29)) W → OpPost r A n c l q w (.returned (.agg #[.string ⟨#[114, 101, 97, 100, 98, 121, 116, 101]⟩, .string ⟨#[]⟩, .int .u16 0, .int .i64 0, .int .i32 0])) W := fun W hW =>
      ⟨[114, 101, 97, 100, 98, 121, 116, 101], [], 0, 0, 0, rfl, ((HA1.out _).fr hW (by simp; omega) (fun h0 ad e => by have := HA.out h0 ad e; simp; omega)).mono (by omega), (hfw1.alloc _).trans_of hW (by simp), ⟨by decide, by simp, by omega, by omega, by omega, by omega, by omega⟩⟩
    exact hfin _ (by repeat' first | with_reducible refine Fr.setCell ?_ ?_ _ | with_reducible exact Fr.refl _ _ | exact .inl (by simp))
  · go_wp2_with fail
    refine bodyPost_ret (v := .agg #[.string ⟨#[117, 110, 114, 101, 97, 100, 98, 121, 116, 101]⟩, .string ⟨#[]⟩, .int .u16 0, .int .i64 0, .int .i32 0]) (by simp [results, Tryd.results37, go_sem, hk1c0, hk1c1, hk1c2, hk1c3, hk1c4]) rfl ?_
    have hfin : ∀ W, Fr [w.heap.size] (w1.alloc (.cells #[.string ⟨#[117, 110, 114, 101, 97, 100, 98, 121, 116, 101]⟩, .string ⟨#[]⟩, .int .u16 0, .int .i64 0, .int .i32 0] 29)) W → OpPost r A n c l q w (.returned (.agg #[.string ⟨#[117, 110, 114, 101, 97, 100, 98, 121, 116, 101]⟩, .string ⟨#[]⟩, .int .u16 0, .int .i64 0, .int .i32 0])) W := fun W hW =>
      ⟨[117, 110, 114, 101, 97, 100, 98, 121, 116, 101], [], 0, 0, 0, rfl, ((HA1.out _).fr hW (by simp; omega) (fun h0 ad e => by have := HA.out h0 ad e; simp; omega)).mono (by omega), (hfw1.alloc _).trans_of hW (by simp), ⟨by decide, by simp, by omega, by omega, by omega, by omega, by omega⟩⟩
    exact hfin _ (by repeat' first | with_reducible refine Fr.setCell ?_ ?_ _ | with_reducible exact Fr.refl _ _ | exact .inl (by simp))
  · skip
    have hc : Calls Tryd.prog 33 #[.pointer (some ⟨r, 0, none⟩), .int .i64 5] (w1.alloc (.cells #[.string ⟨#[110, 101, 120, 116]⟩, .string ⟨#[]⟩, .int .u16 0, .int .i64 0, .int .i32 0] 29)) _ := rd_pick _ r A n c l (q + 1) 5 (HA1.out _) (by omega) (by omega) (by omega)
    have HC := Lib.hid hc
    clear hc
    go_wp2_with fail
    refine HC.out.mono ?_
    rintro e w2 ⟨x, rfl, hx, hD2, hf2⟩
    have hfw2 : Fr [r] w w2 := (hfw1.alloc _).trans hf2
    have hs2 : w1.heap.size + 1 ≤ w2.heap.size := by have := hf2.size; simpa using this
    have HD2 := Lib.hid hD2
    clear hD2
    have ka := (HK1.out.alloc (.cells #[.string ⟨#[110, 101, 120, 116]⟩, .string ⟨#[]⟩, .int .u16 0, .int .i64 0, .int .i32 0] 29)).fr hf2 (by simp; omega)
    have kb := (Blk.new w1 29 #[.string ⟨#[110, 101, 120, 116]⟩, .string ⟨#[]⟩, .int .u16 0, .int .i64 0, .int .i32 0]).fr hf2 (by simp; omega)
    have kac0 : w2.cell? ⟨w.heap.size, 0, none⟩ = some (.string ⟨#[]⟩) := ka.cell 0
    have kaf0 := ka.frozen 0
    have kac1 : w2.cell? ⟨w.heap.size, 1, none⟩ = some (.string ⟨#[]⟩) := ka.cell 1
    have kaf1 := ka.frozen 1
    have kac2 : w2.cell? ⟨w.heap.size, 2, none⟩ = some (.int .u16 0) := ka.cell 2
    have kaf2 := ka.frozen 2
    have kac3 : w2.cell? ⟨w.heap.size, 3, none⟩ = some (.int .i64 0) := ka.cell 3
    have kaf3 := ka.frozen 3
    have kac4 : w2.cell? ⟨w.heap.size, 4, none⟩ = some (.int .i32 0) := ka.cell 4
    have kaf4 := ka.frozen 4
    have kbc0 : w2.cell? ⟨w1.heap.size, 0, none⟩ = some (.string ⟨#[110, 101, 120, 116]⟩) := kb.cell 0
    have kbf0 := kb.frozen 0
    have kbc1 : w2.cell? ⟨w1.heap.size, 1, none⟩ = some (.string ⟨#[]⟩) := kb.cell 1
    have kbf1 := kb.frozen 1
    have kbc2 : w2.cell? ⟨w1.heap.size, 2, none⟩ = some (.int .u16 0) := kb.cell 2
    have kbf2 := kb.frozen 2
    have kbc3 : w2.cell? ⟨w1.heap.size, 3, none⟩ = some (.int .i64 0) := kb.cell 3
    have kbf3 := kb.frozen 3
    have kbc4 : w2.cell? ⟨w1.heap.size, 4, none⟩ = some (.int .i32 0) := kb.cell 4
    have kbf4 := kb.frozen 4
    have HKA := Lib.hid ka
    have HKB := Lib.hid kb
    clear ka kb
    go_wp2_with fail
    refine bodyPost_ret (v := .agg #[.string ⟨#[110, 101, 120, 116]⟩, .string ⟨#[]⟩, .int .u16 (x : Int), .int .i64 0, .int .i32 0]) (by simp [results, Tryd.results37, go_sem, kac0, kac1, kac2, kac3, kac4]) rfl ?_
    have hfin : ∀ W, Fr [w.heap.size, w1.heap.size] w2 W → OpPost r A n c l q w (.returned (.agg #[.string ⟨#[110, 101, 120, 116]⟩, .string ⟨#[]⟩, .int .u16 (x : Int), .int .i64 0, .int .i32 0])) W := fun W hW =>
      ⟨[110, 101, 120, 116], [], x, 0, 0, rfl, (HD2.out.fr hW (by simp; omega) (fun h0 ad e => by have := HA.out h0 ad e; simp; omega)).mono (by omega), hfw2.trans_of hW (by simp; omega), ⟨by decide, by first | (simp; done) | omega, by omega, by omega, by omega, by omega, by omega⟩⟩
    exact hfin _ (by repeat' first | with_reducible refine Fr.setCell ?_ ?_ _ | with_reducible exact Fr.refl _ _ | exact .inl (by simp))
  · have hc : Calls Tryd.prog 36 #[.pointer (some ⟨r, 0, none⟩), .int .i64 5] (w1.alloc (.cells #[.string ⟨#[119, 114, 105, 116, 101]⟩, .string ⟨#[]⟩, .int .u16 0, .int .i64 0, .int .i32 0] 29)) _ := rd_textc _ r A n c l (q + 1) 5 (HA1.out _) (by omega) (by omega)
    have HC := Lib.hid hc
    clear hc
    go_wp2_with fail
    refine HC.out.mono ?_
    rintro e w2 ⟨t, rfl, ht, hD2, hf2⟩
    have hfw2 : Fr [r] w w2 := (hfw1.alloc _).trans hf2
    have hs2 : w1.heap.size + 1 ≤ w2.heap.size := by have := hf2.size; simpa using this
    have HD2 := Lib.hid hD2
    clear hD2
    have ka := (HK1.out.alloc (.cells #[.string ⟨#[119, 114, 105, 116, 101]⟩, .string ⟨#[]⟩, .int .u16 0, .int .i64 0, .int .i32 0] 29)).fr hf2 (by simp; omega)
    have kb := (Blk.new w1 29 #[.string ⟨#[119, 114, 105, 116, 101]⟩, .string ⟨#[]⟩, .int .u16 0, .int .i64 0, .int .i32 0]).fr hf2 (by simp; omega)
    have kac0 : w2.cell? ⟨w.heap.size, 0, none⟩ = some (.string ⟨#[]⟩) := ka.cell 0
    have kaf0 := ka.frozen 0
    have kac1 : w2.cell? ⟨w.heap.size, 1, none⟩ = some (.string ⟨#[]⟩) := ka.cell 1
    have kaf1 := ka.frozen 1
    have kac2 : w2.cell? ⟨w.heap.size, 2, none⟩ = some (.int .u16 0) := ka.cell 2
    have kaf2 := ka.frozen 2
    have kac3 : w2.cell? ⟨w.heap.size, 3, none⟩ = some (.int .i64 0) := ka.cell 3
    have kaf3 := ka.frozen 3
    have kac4 : w2.cell? ⟨w.heap.size, 4, none⟩ = some (.int .i32 0) := ka.cell 4
    have kaf4 := ka.frozen 4
    have kbc0 : w2.cell? ⟨w1.heap.size, 0, none⟩ = some (.string ⟨#[119, 114, 105, 116, 101]⟩) := kb.cell 0
    have kbf0 := kb.frozen 0
    have kbc1 : w2.cell? ⟨w1.heap.size, 1, none⟩ = some (.string ⟨#[]⟩) := kb.cell 1
    have kbf1 := kb.frozen 1
    have kbc2 : w2.cell? ⟨w1.heap.size, 2, none⟩ = some (.int .u16 0) := kb.cell 2
    have kbf2 := kb.frozen 2
    have kbc3 : w2.cell? ⟨w1.heap.size, 3, none⟩ = some (.int .i64 0) := kb.cell 3
    have kbf3 := kb.frozen 3
    have kbc4 : w2.cell? ⟨w1.heap.size, 4, none⟩ = some (.int .i32 0) := kb.cell 4
    have kbf4 := kb.frozen 4
    have HKA := Lib.hid ka
    have HKB := Lib.hid kb
    clear ka kb
    go_wp2_with fail
    refine bodyPost_ret (v := .agg #[.string ⟨#[119, 114, 105, 116, 101]⟩, .string ⟨t.toArray⟩, .int .u16 0, .int .i64 0, .int .i32 0]) (by simp [results, Tryd.results37, go_sem, kac0, kac1, kac2, kac3, kac4]) rfl ?_
    have hfin : ∀ W, Fr [w.heap.size, w1.heap.size] w2 W → OpPost r A n c l q w (.returned (.agg #[.string ⟨#[119, 114, 105, 116, 101]⟩, .string ⟨t.toArray⟩, .int .u16 0, .int .i64 0, .int .i32 0])) W := fun W hW =>
      ⟨[119, 114, 105, 116, 101], t, 0, 0, 0, rfl, (HD2.out.fr hW (by simp; omega) (fun h0 ad e => by have := HA.out h0 ad e; simp; omega)).mono (by omega), hfw2.trans_of hW (by simp; omega), ⟨by decide, by first | (simp; done) | omega, by omega, by omega, by omega, by omega, by omega⟩⟩
    exact hfin _ (by repeat' first | with_reducible refine Fr.setCell ?_ ?_ _ | with_reducible exact Fr.refl _ _ | exact .inl (by simp))
  · have hc : Calls Tryd.prog 36 #[.pointer (some ⟨r, 0, none⟩), .int .i64 5] (w1.alloc (.cells #[.string ⟨#[119, 114, 105, 116, 101, 115, 116, 114, 105, 110, 103]⟩, .string ⟨#[]⟩, .int .u16 0, .int .i64 0, .int .i32 0] 29)) _ := rd_textc _ r A n c l (q + 1) 5 (HA1.out _) (by omega) (by omega)
    have HC := Lib.hid hc
    clear hc
    go_wp2_with fail
    refine HC.out.mono ?_
    rintro e w2 ⟨t, rfl, ht, hD2, hf2⟩
    have hfw2 : Fr [r] w w2 := (hfw1.alloc _).trans hf2
    have hs2 : w1.heap.size + 1 ≤ w2.heap.size := by have := hf2.size; simpa using this
    have HD2 := Lib.hid hD2
    clear hD2
    have ka := (HK1.out.alloc (.cells #[.string ⟨#[119, 114, 105, 116, 101, 115, 116, 114, 105, 110, 103]⟩, .string ⟨#[]⟩, .int .u16 0, .int .i64 0, .int .i32 0] 29)).fr hf2 (by simp; omega)
    have kb := (Blk.new w1 29 #[.string ⟨#[119, 114, 105, 116, 101, 115, 116, 114, 105, 110, 103]⟩, .string ⟨#[]⟩, .int .u16 0, .int .i64 0, .int .i32 0]).fr hf2 (by simp; omega)
    have kac0 : w2.cell? ⟨w.heap.size, 0, none⟩ = some (.string ⟨#[]⟩) := ka.cell 0
    have kaf0 := ka.frozen 0
    have kac1 : w2.cell? ⟨w.heap.size, 1, none⟩ = some (.string ⟨#[]⟩) := ka.cell 1
    have kaf1 := ka.frozen 1
    have kac2 : w2.cell? ⟨w.heap.size, 2, none⟩ = some (.int .u16 0) := ka.cell 2
    have kaf2 := ka.frozen 2
    have kac3 : w2.cell? ⟨w.heap.size, 3, none⟩ = some (.int .i64 0) := ka.cell 3
    have kaf3 := ka.frozen 3
    have kac4 : w2.cell? ⟨w.heap.size, 4, none⟩ = some (.int .i32 0) := ka.cell 4
    have kaf4 := ka.frozen 4
    have kbc0 : w2.cell? ⟨w1.heap.size, 0, none⟩ = some (.string ⟨#[119, 114, 105, 116, 101, 115, 116, 114, 105, 110, 103]⟩) := kb.cell 0
    have kbf0 := kb.frozen 0
    have kbc1 : w2.cell? ⟨w1.heap.size, 1, none⟩ = some (.string ⟨#[]⟩) := kb.cell 1
    have kbf1 := kb.frozen 1
    have kbc2 : w2.cell? ⟨w1.heap.size, 2, none⟩ = some (.int .u16 0) := kb.cell 2
    have kbf2 := kb.frozen 2
    have kbc3 : w2.cell? ⟨w1.heap.size, 3, none⟩ = some (.int .i64 0) := kb.cell 3
    have kbf3 := kb.frozen 3
    have kbc4 : w2.cell? ⟨w1.heap.size, 4, none⟩ = some (.int .i32 0) := kb.cell 4
    have kbf4 := kb.frozen 4
    have HKA := Lib.hid ka
    have HKB := Lib.hid kb
    clear ka kb
    go_wp2_with fail
    refine bodyPost_ret (v := .agg #[.string ⟨#[119, 114, 105, 116, 101, 115, 116, 114, 105, 110, 103]⟩, .string ⟨t.toArray⟩, .int .u16 0, .int .i64 0, .int .i32 0]) (by simp [results, Tryd.results37, go_sem, kac0, kac1, kac2, kac3, kac4]) rfl ?_
    have hfin : ∀ W, Fr [w.heap.size, w1.heap.size] w2 W → OpPost r A n c l q w (.returned (.agg #[.string ⟨#[119, 114, 105, 116, 101, 115, 116, 114, 105, 110, 103]⟩, .string ⟨t.toArray⟩, .int .u16 0, .int .i64 0, .int .i32 0])) W := fun W hW =>
      ⟨[119, 114, 105, 116, 101, 115, 116, 114, 105, 110, 103], t, 0, 0, 0, rfl, (HD2.out.fr hW (by simp; omega) (fun h0 ad e => by have := HA.out h0 ad e; simp; omega)).mono (by omega), hfw2.trans_of hW (by simp; omega), ⟨by decide, by first | (simp; done) | omega, by omega, by omega, by omega, by omega, by omega⟩⟩
    exact hfin _ (by repeat' first | with_reducible refine Fr.setCell ?_ ?_ _ | with_reducible exact Fr.refl _ _ | exact .inl (by simp))
  · skip
    have hc : Calls Tryd.prog 33 #[.pointer (some ⟨r, 0, none⟩), .int .i64 256] (w1.alloc (.cells #[.string ⟨#[119, 114, 105, 116, 101, 98, 121, 116, 101]⟩, .string ⟨#[]⟩, .int .u16 0, .int .i64 0, .int .i32 0] 29)) _ := rd_pick _ r A n c l (q + 1) 256 (HA1.out _) (by omega) (by omega) (by omega)
    have HC := Lib.hid hc
    clear hc
    go_wp2_with fail
    refine HC.out.mono ?_
    rintro e w2 ⟨x, rfl, hx, hD2, hf2⟩
    have hfw2 : Fr [r] w w2 := (hfw1.alloc _).trans hf2
    have hs2 : w1.heap.size + 1 ≤ w2.heap.size := by have := hf2.size; simpa using this
    have HD2 := Lib.hid hD2
    clear hD2
    have ka := (HK1.out.alloc (.cells #[.string ⟨#[119, 114, 105, 116, 101, 98, 121, 116, 101]⟩, .string ⟨#[]⟩, .int .u16 0, .int .i64 0, .int .i32 0] 29)).fr hf2 (by simp; omega)
    have kb := (Blk.new w1 29 #[.string ⟨#[119, 114, 105, 116, 101, 98, 121, 116, 101]⟩, .string ⟨#[]⟩, .int .u16 0, .int .i64 0, .int .i32 0]).fr hf2 (by simp; omega)
    have kac0 : w2.cell? ⟨w.heap.size, 0, none⟩ = some (.string ⟨#[]⟩) := ka.cell 0
    have kaf0 := ka.frozen 0
    have kac1 : w2.cell? ⟨w.heap.size, 1, none⟩ = some (.string ⟨#[]⟩) := ka.cell 1
    have kaf1 := ka.frozen 1
    have kac2 : w2.cell? ⟨w.heap.size, 2, none⟩ = some (.int .u16 0) := ka.cell 2
    have kaf2 := ka.frozen 2
    have kac3 : w2.cell? ⟨w.heap.size, 3, none⟩ = some (.int .i64 0) := ka.cell 3
    have kaf3 := ka.frozen 3
    have kac4 : w2.cell? ⟨w.heap.size, 4, none⟩ = some (.int .i32 0) := ka.cell 4
    have kaf4 := ka.frozen 4
    have kbc0 : w2.cell? ⟨w1.heap.size, 0, none⟩ = some (.string ⟨#[119, 114, 105, 116, 101, 98, 121, 116, 101]⟩) := kb.cell 0
    have kbf0 := kb.frozen 0
    have kbc1 : w2.cell? ⟨w1.heap.size, 1, none⟩ = some (.string ⟨#[]⟩) := kb.cell 1
    have kbf1 := kb.frozen 1
    have kbc2 : w2.cell? ⟨w1.heap.size, 2, none⟩ = some (.int .u16 0) := kb.cell 2
    have kbf2 := kb.frozen 2
    have kbc3 : w2.cell? ⟨w1.heap.size, 3, none⟩ = some (.int .i64 0) := kb.cell 3
    have kbf3 := kb.frozen 3
    have kbc4 : w2.cell? ⟨w1.heap.size, 4, none⟩ = some (.int .i32 0) := kb.cell 4
    have kbf4 := kb.frozen 4
    have HKA := Lib.hid ka
    have HKB := Lib.hid kb
    clear ka kb
    go_wp2_with fail
    refine bodyPost_ret (v := .agg #[.string ⟨#[119, 114, 105, 116, 101, 98, 121, 116, 101]⟩, .string ⟨#[]⟩, .int .u16 (x : Int), .int .i64 0, .int .i32 0]) (by simp [results, Tryd.results37, go_sem, kac0, kac1, kac2, kac3, kac4]) rfl ?_
    have hfin : ∀ W, Fr [w.heap.size, w1.heap.size] w2 W → OpPost r A n c l q w (.returned (.agg #[.string ⟨#[119, 114, 105, 116, 101, 98, 121, 116, 101]⟩, .string ⟨#[]⟩, .int .u16 (x : Int), .int .i64 0, .int .i32 0])) W := fun W hW =>
      ⟨[119, 114, 105, 116, 101, 98, 121, 116, 101], [], x, 0, 0, rfl, (HD2.out.fr hW (by simp; omega) (fun h0 ad e => by have := HA.out h0 ad e; simp; omega)).mono (by omega), hfw2.trans_of hW (by simp; omega), ⟨by decide, by first | (simp; done) | omega, by omega, by omega, by omega, by omega, by omega⟩⟩
    exact hfin _ (by repeat' first | with_reducible refine Fr.setCell ?_ ?_ _ | with_reducible exact Fr.refl _ _ | exact .inl (by simp))
  · skip
    have hc : Calls Tryd.prog 33 #[.pointer (some ⟨r, 0, none⟩), .int .i64 8] (w1.alloc (.cells #[.string ⟨#[119, 114, 105, 116, 101, 114, 117, 110, 101]⟩, .string ⟨#[]⟩, .int .u16 0, .int .i64 0, .int .i32 0] 29)) _ := rd_pick _ r A n c l (q + 1) 8 (HA1.out _) (by omega) (by omega) (by omega)
    have HC := Lib.hid hc
    clear hc
    go_wp2_with fail
    refine HC.out.mono ?_
    rintro e w2 ⟨x, rfl, hx, hD2, hf2⟩
    have hfw2 : Fr [r] w w2 := (hfw1.alloc _).trans hf2
    have hs2 : w1.heap.size + 1 ≤ w2.heap.size := by have := hf2.size; simpa using this
    have HD2 := Lib.hid hD2
    clear hD2
    have ka := (HK1.out.alloc (.cells #[.string ⟨#[119, 114, 105, 116, 101, 114, 117, 110, 101]⟩, .string ⟨#[]⟩, .int .u16 0, .int .i64 0, .int .i32 0] 29)).fr hf2 (by simp; omega)
    have kb := (Blk.new w1 29 #[.string ⟨#[119, 114, 105, 116, 101, 114, 117, 110, 101]⟩, .string ⟨#[]⟩, .int .u16 0, .int .i64 0, .int .i32 0]).fr hf2 (by simp; omega)
    have kac0 : w2.cell? ⟨w.heap.size, 0, none⟩ = some (.string ⟨#[]⟩) := ka.cell 0
    have kaf0 := ka.frozen 0
    have kac1 : w2.cell? ⟨w.heap.size, 1, none⟩ = some (.string ⟨#[]⟩) := ka.cell 1
    have kaf1 := ka.frozen 1
    have kac2 : w2.cell? ⟨w.heap.size, 2, none⟩ = some (.int .u16 0) := ka.cell 2
    have kaf2 := ka.frozen 2
    have kac3 : w2.cell? ⟨w.heap.size, 3, none⟩ = some (.int .i64 0) := ka.cell 3
    have kaf3 := ka.frozen 3
    have kac4 : w2.cell? ⟨w.heap.size, 4, none⟩ = some (.int .i32 0) := ka.cell 4
    have kaf4 := ka.frozen 4
    have kbc0 : w2.cell? ⟨w1.heap.size, 0, none⟩ = some (.string ⟨#[119, 114, 105, 116, 101, 114, 117, 110, 101]⟩) := kb.cell 0
    have kbf0 := kb.frozen 0
    have kbc1 : w2.cell? ⟨w1.heap.size, 1, none⟩ = some (.string ⟨#[]⟩) := kb.cell 1
    have kbf1 := kb.frozen 1
    have kbc2 : w2.cell? ⟨w1.heap.size, 2, none⟩ = some (.int .u16 0) := kb.cell 2
    have kbf2 := kb.frozen 2
    have kbc3 : w2.cell? ⟨w1.heap.size, 3, none⟩ = some (.int .i64 0) := kb.cell 3
    have kbf3 := kb.frozen 3
    have kbc4 : w2.cell? ⟨w1.heap.size, 4, none⟩ = some (.int .i32 0) := kb.cell 4
    have kbf4 := kb.frozen 4
    have HKA := Lib.hid ka
    have HKB := Lib.hid kb
    clear ka kb
    have HCH := Lib.hid fun v => rd_char v w2 r A n c l (q + 2) HD2.out (by omega)
    go_wp2_with fail
    generalize decide (0 < x) = vv at *
    refine (HCH.out _).mono ?_
    rintro e w3 ⟨z, rfl, hz, hzv, hD3, hf3⟩
    have hfw3 : Fr [r] w w3 := hfw2.trans hf3
    have HD3 := Lib.hid hD3
    clear hD3 hzv HCH kac0 kaf0 kac1 kaf1 kac2 kaf2 kac3 kaf3 kac4 kaf4 kbc0 kbf0 kbc1 kbf1 kbc2 kbf2 kbc3 kbf3 kbc4 kbf4
    have ka := HKA.out.fr hf3 (by simp; omega)
    have kb := HKB.out.fr hf3 (by simp; omega)
    have kac0 : w3.cell? ⟨w.heap.size, 0, none⟩ = some (.string ⟨#[]⟩) := ka.cell 0
    have kaf0 := ka.frozen 0
    have kac1 : w3.cell? ⟨w.heap.size, 1, none⟩ = some (.string ⟨#[]⟩) := ka.cell 1
    have kaf1 := ka.frozen 1
    have kac2 : w3.cell? ⟨w.heap.size, 2, none⟩ = some (.int .u16 0) := ka.cell 2
    have kaf2 := ka.frozen 2
    have kac3 : w3.cell? ⟨w.heap.size, 3, none⟩ = some (.int .i64 0) := ka.cell 3
    have kaf3 := ka.frozen 3
    have kac4 : w3.cell? ⟨w.heap.size, 4, none⟩ = some (.int .i32 0) := ka.cell 4
    have kaf4 := ka.frozen 4
    have kbc0 : w3.cell? ⟨w1.heap.size, 0, none⟩ = some (.string ⟨#[119, 114, 105, 116, 101, 114, 117, 110, 101]⟩) := kb.cell 0
    have kbf0 := kb.frozen 0
    have kbc1 : w3.cell? ⟨w1.heap.size, 1, none⟩ = some (.string ⟨#[]⟩) := kb.cell 1
    have kbf1 := kb.frozen 1
    have kbc2 : w3.cell? ⟨w1.heap.size, 2, none⟩ = some (.int .u16 0) := kb.cell 2
    have kbf2 := kb.frozen 2
    have kbc3 : w3.cell? ⟨w1.heap.size, 3, none⟩ = some (.int .i64 0) := kb.cell 3
    have kbf3 := kb.frozen 3
    have kbc4 : w3.cell? ⟨w1.heap.size, 4, none⟩ = some (.int .i32 0) := kb.cell 4
    have kbf4 := kb.frozen 4
    have HKA := Lib.hid ka
    have HKB := Lib.hid kb
    clear ka kb
    go_wp2_with fail
    refine bodyPost_ret (v := .agg #[.string ⟨#[119, 114, 105, 116, 101, 114, 117, 110, 101]⟩, .string ⟨#[]⟩, .int .u16 0, .int .i64 0, .int .i32 z]) (by simp [results, Tryd.results37, go_sem, kac0, kac1, kac2, kac3, kac4]) rfl ?_
    have hfin : ∀ W, Fr [w.heap.size, w1.heap.size] w3 W → OpPost r A n c l q w (.returned (.agg #[.string ⟨#[119, 114, 105, 116, 101, 114, 117, 110, 101]⟩, .string ⟨#[]⟩, .int .u16 0, .int .i64 0, .int .i32 z])) W := fun W hW =>
      ⟨[119, 114, 105, 116, 101, 114, 117, 110, 101], [], 0, 0, z, rfl, (HD3.out.fr hW (by simp; omega) (fun h0 ad e => by have := HA.out h0 ad e; simp; omega)).mono (by omega), hfw3.trans_of hW (by simp; omega), ⟨by decide, by first | (simp; done) | omega, by omega, by omega, by omega, by omega, by omega⟩⟩
    exact hfin _ (by repeat' first | with_reducible refine Fr.setCell ?_ ?_ _ | with_reducible exact Fr.refl _ _ | exact .inl (by simp))
  · have hc : Calls Tryd.prog 70 #[.pointer (some ⟨r, 0, none⟩), .slice (some ⟨w1.heap.size + 1, 0, none⟩) 4 4] ((w1.alloc (.cells #[.string ⟨#[114, 101, 97, 100, 98, 121, 116, 101, 115]⟩, .string ⟨#[]⟩, .int .u16 0, .int .i64 0, .int .i32 0] 29)).alloc (.cells #[.string ⟨#[10]⟩, .string ⟨#[44]⟩, .string ⟨#[97]⟩, .string ⟨#[98]⟩] 9)) _ := rd_of _ r A n c l (q + 1) ((HA1.out _).alloc _) (by omega) ⟨w1.heap.size + 1, 0, none⟩ 4 4 _ (by have := slv_new (w1.alloc (.cells #[.string ⟨#[114, 101, 97, 100, 98, 121, 116, 101, 115]⟩, .string ⟨#[]⟩, .int .u16 0, .int .i64 0, .int .i32 0] 29)) #[.string ⟨#[10]⟩, .string ⟨#[44]⟩, .string ⟨#[97]⟩, .string ⟨#[98]⟩] 9; simpa using this) (by simp; omega) (by decide) (by omega) (by omega)
    have HC := Lib.hid hc
    clear hc
    go_wp2_with fail
    refine HC.out.mono ?_
    rintro e w2 ⟨t, rfl, ht, ht1, hD2, hf2⟩
    obtain ⟨x, t', rfl⟩ : ∃ x t', t = x :: t' := by cases t with | nil => simp at ht1 | cons x t' => exact ⟨x, t', rfl⟩
    have hx256 : x.toNat < 256 := x.toNat_lt
    have hsz0 : 0 < (⟨(x :: t').toArray⟩ : ByteArray).size := by rw [str_size]; simp
    have hx0 : (⟨(x :: t').toArray⟩ : ByteArray)[0] = x := rfl
    have hfw2 : Fr [r] w w2 := ((hfw1.alloc _).alloc _).trans hf2
    have hs2 : w1.heap.size + 1 ≤ w2.heap.size := by have := hf2.size; simp at this; omega
    have HD2 := Lib.hid hD2
    clear hD2 ht ht1
    have ka := ((HK1.out.alloc (.cells #[.string ⟨#[114, 101, 97, 100, 98, 121, 116, 101, 115]⟩, .string ⟨#[]⟩, .int .u16 0, .int .i64 0, .int .i32 0] 29)).alloc _).fr hf2 (by simp; omega)
    have kb := (Blk.new w1 29 #[.string ⟨#[114, 101, 97, 100, 98, 121, 116, 101, 115]⟩, .string ⟨#[]⟩, .int .u16 0, .int .i64 0, .int .i32 0]).alloc _ |>.fr hf2 (by simp; omega)
    have kac0 : w2.cell? ⟨w.heap.size, 0, none⟩ = some (.string ⟨#[]⟩) := ka.cell 0
    have kaf0 := ka.frozen 0
    have kac1 : w2.cell? ⟨w.heap.size, 1, none⟩ = some (.string ⟨#[]⟩) := ka.cell 1
    have kaf1 := ka.frozen 1
    have kac2 : w2.cell? ⟨w.heap.size, 2, none⟩ = some (.int .u16 0) := ka.cell 2
    have kaf2 := ka.frozen 2
    have kac3 : w2.cell? ⟨w.heap.size, 3, none⟩ = some (.int .i64 0) := ka.cell 3
    have kaf3 := ka.frozen 3
    have kac4 : w2.cell? ⟨w.heap.size, 4, none⟩ = some (.int .i32 0) := ka.cell 4
    have kaf4 := ka.frozen 4
    have kbc0 : w2.cell? ⟨w1.heap.size, 0, none⟩ = some (.string ⟨#[114, 101, 97, 100, 98, 121, 116, 101, 115]⟩) := kb.cell 0
    have kbf0 := kb.frozen 0
    have kbc1 : w2.cell? ⟨w1.heap.size, 1, none⟩ = some (.string ⟨#[]⟩) := kb.cell 1
    have kbf1 := kb.frozen 1
    have kbc2 : w2.cell? ⟨w1.heap.size, 2, none⟩ = some (.int .u16 0) := kb.cell 2
    have kbf2 := kb.frozen 2
    have kbc3 : w2.cell? ⟨w1.heap.size, 3, none⟩ = some (.int .i64 0) := kb.cell 3
    have kbf3 := kb.frozen 3
    have kbc4 : w2.cell? ⟨w1.heap.size, 4, none⟩ = some (.int .i32 0) := kb.cell 4
    have kbf4 := kb.frozen 4
    have HKA := Lib.hid ka
    have HKB := Lib.hid kb
    clear ka kb
    go_wp2_with fail
    refine bodyPost_ret (v := .agg #[.string ⟨#[114, 101, 97, 100, 98, 121, 116, 101, 115]⟩, .string ⟨#[]⟩, .int .u16 (x.toNat : Int), .int .i64 0, .int .i32 0]) (by simp [results, Tryd.results37, go_sem, kac0, kac1, kac2, kac3, kac4]) rfl ?_
    have hfin : ∀ W, Fr [w.heap.size, w1.heap.size] w2 W → OpPost r A n c l q w (.returned (.agg #[.string ⟨#[114, 101, 97, 100, 98, 121, 116, 101, 115]⟩, .string ⟨#[]⟩, .int .u16 (x.toNat : Int), .int .i64 0, .int .i32 0])) W := fun W hW =>
      ⟨[114, 101, 97, 100, 98, 121, 116, 101, 115], [], x.toNat, 0, 0, rfl, (HD2.out.fr hW (by simp; omega) (fun h0 ad e => by have := HA.out h0 ad e; simp; omega)).mono (by omega), hfw2.trans_of hW (by simp; omega), ⟨by decide, by first | (simp; done) | omega, by omega, by omega, by omega, by omega, by omega⟩⟩
    exact hfin _ (by repeat' first | with_reducible refine Fr.setCell ?_ ?_ _ | with_reducible exact Fr.refl _ _ | exact .inl (by simp))
  · have hc : Calls Tryd.prog 70 #[.pointer (some ⟨r, 0, none⟩), .slice (some ⟨w1.heap.size + 1, 0, none⟩) 4 4] ((w1.alloc (.cells #[.string ⟨#[114, 101, 97, 100, 115, 116, 114, 105, 110, 103]⟩, .string ⟨#[]⟩, .int .u16 0, .int .i64 0, .int .i32 0] 29)).alloc (.cells #[.string ⟨#[10]⟩, .string ⟨#[44]⟩, .string ⟨#[97]⟩, .string ⟨#[98]⟩] 9)) _ := rd_of _ r A n c l (q + 1) ((HA1.out _).alloc _) (by omega) ⟨w1.heap.size + 1, 0, none⟩ 4 4 _ (by have := slv_new (w1.alloc (.cells #[.string ⟨#[114, 101, 97, 100, 115, 116, 114, 105, 110, 103]⟩, .string ⟨#[]⟩, .int .u16 0, .int .i64 0, .int .i32 0] 29)) #[.string ⟨#[10]⟩, .string ⟨#[44]⟩, .string ⟨#[97]⟩, .string ⟨#[98]⟩] 9; simpa using this) (by simp; omega) (by decide) (by omega) (by omega)
    have HC := Lib.hid hc
    clear hc
    go_wp2_with fail
    refine HC.out.mono ?_
    rintro e w2 ⟨t, rfl, ht, ht1, hD2, hf2⟩
    obtain ⟨x, t', rfl⟩ : ∃ x t', t = x :: t' := by cases t with | nil => simp at ht1 | cons x t' => exact ⟨x, t', rfl⟩
    have hx256 : x.toNat < 256 := x.toNat_lt
    have hsz0 : 0 < (⟨(x :: t').toArray⟩ : ByteArray).size := by rw [str_size]; simp
    have hx0 : (⟨(x :: t').toArray⟩ : ByteArray)[0] = x := rfl
    have hfw2 : Fr [r] w w2 := ((hfw1.alloc _).alloc _).trans hf2
    have hs2 : w1.heap.size + 1 ≤ w2.heap.size := by have := hf2.size; simp at this; omega
    have HD2 := Lib.hid hD2
    clear hD2 ht ht1
    have ka := ((HK1.out.alloc (.cells #[.string ⟨#[114, 101, 97, 100, 115, 116, 114, 105, 110, 103]⟩, .string ⟨#[]⟩, .int .u16 0, .int .i64 0, .int .i32 0] 29)).alloc _).fr hf2 (by simp; omega)
    have kb := (Blk.new w1 29 #[.string ⟨#[114, 101, 97, 100, 115, 116, 114, 105, 110, 103]⟩, .string ⟨#[]⟩, .int .u16 0, .int .i64 0, .int .i32 0]).alloc _ |>.fr hf2 (by simp; omega)
    have kac0 : w2.cell? ⟨w.heap.size, 0, none⟩ = some (.string ⟨#[]⟩) := ka.cell 0
    have kaf0 := ka.frozen 0
    have kac1 : w2.cell? ⟨w.heap.size, 1, none⟩ = some (.string ⟨#[]⟩) := ka.cell 1
    have kaf1 := ka.frozen 1
    have kac2 : w2.cell? ⟨w.heap.size, 2, none⟩ = some (.int .u16 0) := ka.cell 2
    have kaf2 := ka.frozen 2
    have kac3 : w2.cell? ⟨w.heap.size, 3, none⟩ = some (.int .i64 0) := ka.cell 3
    have kaf3 := ka.frozen 3
    have kac4 : w2.cell? ⟨w.heap.size, 4, none⟩ = some (.int .i32 0) := ka.cell 4
    have kaf4 := ka.frozen 4
    have kbc0 : w2.cell? ⟨w1.heap.size, 0, none⟩ = some (.string ⟨#[114, 101, 97, 100, 115, 116, 114, 105, 110, 103]⟩) := kb.cell 0
    have kbf0 := kb.frozen 0
    have kbc1 : w2.cell? ⟨w1.heap.size, 1, none⟩ = some (.string ⟨#[]⟩) := kb.cell 1
    have kbf1 := kb.frozen 1
    have kbc2 : w2.cell? ⟨w1.heap.size, 2, none⟩ = some (.int .u16 0) := kb.cell 2
    have kbf2 := kb.frozen 2
    have kbc3 : w2.cell? ⟨w1.heap.size, 3, none⟩ = some (.int .i64 0) := kb.cell 3
    have kbf3 := kb.frozen 3
    have kbc4 : w2.cell? ⟨w1.heap.size, 4, none⟩ = some (.int .i32 0) := kb.cell 4
    have kbf4 := kb.frozen 4
    have HKA := Lib.hid ka
    have HKB := Lib.hid kb
    clear ka kb
    go_wp2_with fail
    refine bodyPost_ret (v := .agg #[.string ⟨#[114, 101, 97, 100, 115, 116, 114, 105, 110, 103]⟩, .string ⟨#[]⟩, .int .u16 (x.toNat : Int), .int .i64 0, .int .i32 0]) (by simp [results, Tryd.results37, go_sem, kac0, kac1, kac2, kac3, kac4]) rfl ?_
    have hfin : ∀ W, Fr [w.heap.size, w1.heap.size] w2 W → OpPost r A n c l q w (.returned (.agg #[.string ⟨#[114, 101, 97, 100, 115, 116, 114, 105, 110, 103]⟩, .string ⟨#[]⟩, .int .u16 (x.toNat : Int), .int .i64 0, .int .i32 0])) W := fun W hW =>
      ⟨[114, 101, 97, 100, 115, 116, 114, 105, 110, 103], [], x.toNat, 0, 0, rfl, (HD2.out.fr hW (by simp; omega) (fun h0 ad e => by have := HA.out h0 ad e; simp; omega)).mono (by omega), hfw2.trans_of hW (by simp; omega), ⟨by decide, by first | (simp; done) | omega, by omega, by omega, by omega, by omega, by omega⟩⟩
    exact hfin _ (by repeat' first | with_reducible refine Fr.setCell ?_ ?_ _ | with_reducible exact Fr.refl _ _ | exact .inl (by simp))
  · skip
    have hc : Calls Tryd.prog 33 #[.pointer (some ⟨r, 0, none⟩), .int .i64 5] (w1.alloc (.cells #[.string ⟨#[112, 101, 101, 107]⟩, .string ⟨#[]⟩, .int .u16 0, .int .i64 0, .int .i32 0] 29)) _ := rd_pick _ r A n c l (q + 1) 5 (HA1.out _) (by omega) (by omega) (by omega)
    have HC := Lib.hid hc
    clear hc
    go_wp2_with fail
    refine HC.out.mono ?_
    rintro e w2 ⟨x, rfl, hx, hD2, hf2⟩
    have hfw2 : Fr [r] w w2 := (hfw1.alloc _).trans hf2
    have hs2 : w1.heap.size + 1 ≤ w2.heap.size := by have := hf2.size; simpa using this
    have HD2 := Lib.hid hD2
    clear hD2
    have ka := (HK1.out.alloc (.cells #[.string ⟨#[112, 101, 101, 107]⟩, .string ⟨#[]⟩, .int .u16 0, .int .i64 0, .int .i32 0] 29)).fr hf2 (by simp; omega)
    have kb := (Blk.new w1 29 #[.string ⟨#[112, 101, 101, 107]⟩, .string ⟨#[]⟩, .int .u16 0, .int .i64 0, .int .i32 0]).fr hf2 (by simp; omega)
    have kac0 : w2.cell? ⟨w.heap.size, 0, none⟩ = some (.string ⟨#[]⟩) := ka.cell 0
    have kaf0 := ka.frozen 0
    have kac1 : w2.cell? ⟨w.heap.size, 1, none⟩ = some (.string ⟨#[]⟩) := ka.cell 1
    have kaf1 := ka.frozen 1
    have kac2 : w2.cell? ⟨w.heap.size, 2, none⟩ = some (.int .u16 0) := ka.cell 2
    have kaf2 := ka.frozen 2
    have kac3 : w2.cell? ⟨w.heap.size, 3, none⟩ = some (.int .i64 0) := ka.cell 3
    have kaf3 := ka.frozen 3
    have kac4 : w2.cell? ⟨w.heap.size, 4, none⟩ = some (.int .i32 0) := ka.cell 4
    have kaf4 := ka.frozen 4
    have kbc0 : w2.cell? ⟨w1.heap.size, 0, none⟩ = some (.string ⟨#[112, 101, 101, 107]⟩) := kb.cell 0
    have kbf0 := kb.frozen 0
    have kbc1 : w2.cell? ⟨w1.heap.size, 1, none⟩ = some (.string ⟨#[]⟩) := kb.cell 1
    have kbf1 := kb.frozen 1
    have kbc2 : w2.cell? ⟨w1.heap.size, 2, none⟩ = some (.int .u16 0) := kb.cell 2
    have kbf2 := kb.frozen 2
    have kbc3 : w2.cell? ⟨w1.heap.size, 3, none⟩ = some (.int .i64 0) := kb.cell 3
    have kbf3 := kb.frozen 3
    have kbc4 : w2.cell? ⟨w1.heap.size, 4, none⟩ = some (.int .i32 0) := kb.cell 4
    have kbf4 := kb.frozen 4
    have HKA := Lib.hid ka
    have HKB := Lib.hid kb
    clear ka kb
    go_wp2_with fail
    refine bodyPost_ret (v := .agg #[.string ⟨#[112, 101, 101, 107]⟩, .string ⟨#[]⟩, .int .u16 (x : Int), .int .i64 0, .int .i32 0]) (by simp [results, Tryd.results37, go_sem, kac0, kac1, kac2, kac3, kac4]) rfl ?_
    have hfin : ∀ W, Fr [w.heap.size, w1.heap.size] w2 W → OpPost r A n c l q w (.returned (.agg #[.string ⟨#[112, 101, 101, 107]⟩, .string ⟨#[]⟩, .int .u16 (x : Int), .int .i64 0, .int .i32 0])) W := fun W hW =>
      ⟨[112, 101, 101, 107], [], x, 0, 0, rfl, (HD2.out.fr hW (by simp; omega) (fun h0 ad e => by have := HA.out h0 ad e; simp; omega)).mono (by omega), hfw2.trans_of hW (by simp; omega), ⟨by decide, by first | (simp; done) | omega, by omega, by omega, by omega, by omega, by omega⟩⟩
    exact hfin _ (by repeat' first | with_reducible refine Fr.setCell ?_ ?_ _ | with_reducible exact Fr.refl _ _ | exact .inl (by simp))
  · skip
    have hc : Calls Tryd.prog 33 #[.pointer (some ⟨r, 0, none⟩), .int .i64 6] (w1.alloc (.cells #[.string ⟨#[116, 114, 117, 110, 99, 97, 116, 101]⟩, .string ⟨#[]⟩, .int .u16 0, .int .i64 0, .int .i32 0] 29)) _ := rd_pick _ r A n c l (q + 1) 6 (HA1.out _) (by omega) (by omega) (by omega)
    have HC := Lib.hid hc
    clear hc
    go_wp2_with fail
    refine HC.out.mono ?_
    rintro e w2 ⟨x, rfl, hx, hD2, hf2⟩
    have hfw2 : Fr [r] w w2 := (hfw1.alloc _).trans hf2
    have hs2 : w1.heap.size + 1 ≤ w2.heap.size := by have := hf2.size; simpa using this
    have HD2 := Lib.hid hD2
    clear hD2
    have ka := (HK1.out.alloc (.cells #[.string ⟨#[116, 114, 117, 110, 99, 97, 116, 101]⟩, .string ⟨#[]⟩, .int .u16 0, .int .i64 0, .int .i32 0] 29)).fr hf2 (by simp; omega)
    have kb := (Blk.new w1 29 #[.string ⟨#[116, 114, 117, 110, 99, 97, 116, 101]⟩, .string ⟨#[]⟩, .int .u16 0, .int .i64 0, .int .i32 0]).fr hf2 (by simp; omega)
    have kac0 : w2.cell? ⟨w.heap.size, 0, none⟩ = some (.string ⟨#[]⟩) := ka.cell 0
    have kaf0 := ka.frozen 0
    have kac1 : w2.cell? ⟨w.heap.size, 1, none⟩ = some (.string ⟨#[]⟩) := ka.cell 1
    have kaf1 := ka.frozen 1
    have kac2 : w2.cell? ⟨w.heap.size, 2, none⟩ = some (.int .u16 0) := ka.cell 2
    have kaf2 := ka.frozen 2
    have kac3 : w2.cell? ⟨w.heap.size, 3, none⟩ = some (.int .i64 0) := ka.cell 3
    have kaf3 := ka.frozen 3
    have kac4 : w2.cell? ⟨w.heap.size, 4, none⟩ = some (.int .i32 0) := ka.cell 4
    have kaf4 := ka.frozen 4
    have kbc0 : w2.cell? ⟨w1.heap.size, 0, none⟩ = some (.string ⟨#[116, 114, 117, 110, 99, 97, 116, 101]⟩) := kb.cell 0
    have kbf0 := kb.frozen 0
    have kbc1 : w2.cell? ⟨w1.heap.size, 1, none⟩ = some (.string ⟨#[]⟩) := kb.cell 1
    have kbf1 := kb.frozen 1
    have kbc2 : w2.cell? ⟨w1.heap.size, 2, none⟩ = some (.int .u16 0) := kb.cell 2
    have kbf2 := kb.frozen 2
    have kbc3 : w2.cell? ⟨w1.heap.size, 3, none⟩ = some (.int .i64 0) := kb.cell 3
    have kbf3 := kb.frozen 3
    have kbc4 : w2.cell? ⟨w1.heap.size, 4, none⟩ = some (.int .i32 0) := kb.cell 4
    have kbf4 := kb.frozen 4
    have HKA := Lib.hid ka
    have HKB := Lib.hid kb
    clear ka kb
    have hc : Calls Tryd.prog 33 #[.pointer (some ⟨r, 0, none⟩), .int .i64 12] (w2.setCell ⟨w1.heap.size, 3, none⟩ (.int .i64 (x : Int))) _ := rd_pick _ r A n c l (q + 2) 12 (HD2.out.fr ((Fr.refl [w1.heap.size] w2).setCell (.inl (by simp)) _) (by simp; omega) (fun h0 ad e => by have := HA.out h0 ad e; simp; omega)) (by omega) (by omega) (by omega)
    have HC2 := Lib.hid hc
    clear hc
    go_wp2_with fail
    refine HC2.out.mono ?_
    rintro e w3 ⟨y, rfl, hy, hD3, hf3⟩
    have hfs : Fr [w1.heap.size] w2 (w2.setCell ⟨w1.heap.size, 3, none⟩ (.int .i64 (x : Int))) := (Fr.refl [w1.heap.size] w2).setCell (.inl (by simp)) _
    have hfw3 : Fr [r] w w3 := (hfw2.trans_of hfs (by simp; omega)).trans hf3
    have HKA := Lib.hid (HKA.out.fr hfs (by simp; omega))
    have HKB := Lib.hid (HKB.out.set_ 3 (.int .i64 (x : Int)))
    have HD3 := Lib.hid hD3
    clear hD3 kac0 kaf0 kac1 kaf1 kac2 kaf2 kac3 kaf3 kac4 kaf4 kbc0 kbf0 kbc1 kbf1 kbc2 kbf2 kbc3 kbf3 kbc4 kbf4
    have ka := HKA.out.fr hf3 (by simp; omega)
    have kb := HKB.out.fr hf3 (by simp; omega)
    have kac0 : w3.cell? ⟨w.heap.size, 0, none⟩ = some (.string ⟨#[]⟩) := ka.cell 0
    have kaf0 := ka.frozen 0
    have kac1 : w3.cell? ⟨w.heap.size, 1, none⟩ = some (.string ⟨#[]⟩) := ka.cell 1
    have kaf1 := ka.frozen 1
    have kac2 : w3.cell? ⟨w.heap.size, 2, none⟩ = some (.int .u16 0) := ka.cell 2
    have kaf2 := ka.frozen 2
    have kac3 : w3.cell? ⟨w.heap.size, 3, none⟩ = some (.int .i64 0) := ka.cell 3
    have kaf3 := ka.frozen 3
    have kac4 : w3.cell? ⟨w.heap.size, 4, none⟩ = some (.int .i32 0) := ka.cell 4
    have kaf4 := ka.frozen 4
    have kbc0 : w3.cell? ⟨w1.heap.size, 0, none⟩ = some (.string ⟨#[116, 114, 117, 110, 99, 97, 116, 101]⟩) := kb.cell 0
    have kbf0 := kb.frozen 0
    have kbc1 : w3.cell? ⟨w1.heap.size, 1, none⟩ = some (.string ⟨#[]⟩) := kb.cell 1
    have kbf1 := kb.frozen 1
    have kbc2 : w3.cell? ⟨w1.heap.size, 2, none⟩ = some (.int .u16 0) := kb.cell 2
    have kbf2 := kb.frozen 2
    have kbc3 : w3.cell? ⟨w1.heap.size, 3, none⟩ = some (.int .i64 (x : Int)) := kb.cell 3
    have kbf3 := kb.frozen 3
    have kbc4 : w3.cell? ⟨w1.heap.size, 4, none⟩ = some (.int .i32 0) := kb.cell 4
    have kbf4 := kb.frozen 4
    have HKA := Lib.hid ka
    have HKB := Lib.hid kb
    clear ka kb
    rcases (show (((y : Int) == 0) = true) ∨ (((y : Int) == 0) = false) by simp; omega) with hyb | hyb
    · go_wp2_with fail
      refine bodyPost_ret (v := .agg #[.string ⟨#[116, 114, 117, 110, 99, 97, 116, 101]⟩, .string ⟨#[]⟩, .int .u16 0, .int .i64 (-1), .int .i32 0]) (by simp [results, Tryd.results37, go_sem, kac0, kac1, kac2, kac3, kac4]) rfl ?_
      have hfin : ∀ W, Fr [w.heap.size, w1.heap.size] w3 W → OpPost r A n c l q w (.returned (.agg #[.string ⟨#[116, 114, 117, 110, 99, 97, 116, 101]⟩, .string ⟨#[]⟩, .int .u16 0, .int .i64 (-1), .int .i32 0])) W := fun W hW =>
        ⟨[116, 114, 117, 110, 99, 97, 116, 101], [], 0, -1, 0, rfl, (HD3.out.fr hW (by simp; omega) (fun h0 ad e => by have := HA.out h0 ad e; simp; omega)).mono (by omega), hfw3.trans_of hW (by simp; omega), ⟨by decide, by first | (simp; done) | omega, by omega, by omega, by omega, by omega, by omega⟩⟩
      exact hfin _ (by repeat' first | with_reducible refine Fr.setCell ?_ ?_ _ | with_reducible exact Fr.refl _ _ | exact .inl (by simp))
    · go_wp2_with fail
      refine bodyPost_ret (v := .agg #[.string ⟨#[116, 114, 117, 110, 99, 97, 116, 101]⟩, .string ⟨#[]⟩, .int .u16 0, .int .i64 (x : Int), .int .i32 0]) (by simp [results, Tryd.results37, go_sem, kac0, kac1, kac2, kac3, kac4]) rfl ?_
      have hfin : ∀ W, Fr [w.heap.size, w1.heap.size] w3 W → OpPost r A n c l q w (.returned (.agg #[.string ⟨#[116, 114, 117, 110, 99, 97, 116, 101]⟩, .string ⟨#[]⟩, .int .u16 0, .int .i64 (x : Int), .int .i32 0])) W := fun W hW =>
        ⟨[116, 114, 117, 110, 99, 97, 116, 101], [], 0, (x : Int), 0, rfl, (HD3.out.fr hW (by simp; omega) (fun h0 ad e => by have := HA.out h0 ad e; simp; omega)).mono (by omega), hfw3.trans_of hW (by simp; omega), ⟨by decide, by first | (simp; done) | omega, by omega, by omega, by omega, by omega, by omega⟩⟩
      exact hfin _ (by repeat' first | with_reducible refine Fr.setCell ?_ ?_ _ | with_reducible exact Fr.refl _ _ | exact .inl (by simp))
  · skip
    have hc : Calls Tryd.prog 33 #[.pointer (some ⟨r, 0, none⟩), .int .i64 6] (w1.alloc (.cells #[.string ⟨#[103, 114, 111, 119]⟩, .string ⟨#[]⟩, .int .u16 0, .int .i64 0, .int .i32 0] 29)) _ := rd_pick _ r A n c l (q + 1) 6 (HA1.out _) (by omega) (by omega) (by omega)
    have HC := Lib.hid hc
    clear hc
    go_wp2_with fail
    refine HC.out.mono ?_
    rintro e w2 ⟨x, rfl, hx, hD2, hf2⟩
    have hfw2 : Fr [r] w w2 := (hfw1.alloc _).trans hf2
    have hs2 : w1.heap.size + 1 ≤ w2.heap.size := by have := hf2.size; simpa using this
    have HD2 := Lib.hid hD2
    clear hD2
    have ka := (HK1.out.alloc (.cells #[.string ⟨#[103, 114, 111, 119]⟩, .string ⟨#[]⟩, .int .u16 0, .int .i64 0, .int .i32 0] 29)).fr hf2 (by simp; omega)
    have kb := (Blk.new w1 29 #[.string ⟨#[103, 114, 111, 119]⟩, .string ⟨#[]⟩, .int .u16 0, .int .i64 0, .int .i32 0]).fr hf2 (by simp; omega)
    have kac0 : w2.cell? ⟨w.heap.size, 0, none⟩ = some (.string ⟨#[]⟩) := ka.cell 0
    have kaf0 := ka.frozen 0
    have kac1 : w2.cell? ⟨w.heap.size, 1, none⟩ = some (.string ⟨#[]⟩) := ka.cell 1
    have kaf1 := ka.frozen 1
    have kac2 : w2.cell? ⟨w.heap.size, 2, none⟩ = some (.int .u16 0) := ka.cell 2
    have kaf2 := ka.frozen 2
    have kac3 : w2.cell? ⟨w.heap.size, 3, none⟩ = some (.int .i64 0) := ka.cell 3
    have kaf3 := ka.frozen 3
    have kac4 : w2.cell? ⟨w.heap.size, 4, none⟩ = some (.int .i32 0) := ka.cell 4
    have kaf4 := ka.frozen 4
    have kbc0 : w2.cell? ⟨w1.heap.size, 0, none⟩ = some (.string ⟨#[103, 114, 111, 119]⟩) := kb.cell 0
    have kbf0 := kb.frozen 0
    have kbc1 : w2.cell? ⟨w1.heap.size, 1, none⟩ = some (.string ⟨#[]⟩) := kb.cell 1
    have kbf1 := kb.frozen 1
    have kbc2 : w2.cell? ⟨w1.heap.size, 2, none⟩ = some (.int .u16 0) := kb.cell 2
    have kbf2 := kb.frozen 2
    have kbc3 : w2.cell? ⟨w1.heap.size, 3, none⟩ = some (.int .i64 0) := kb.cell 3
    have kbf3 := kb.frozen 3
    have kbc4 : w2.cell? ⟨w1.heap.size, 4, none⟩ = some (.int .i32 0) := kb.cell 4
    have kbf4 := kb.frozen 4
    have HKA := Lib.hid ka
    have HKB := Lib.hid kb
    clear ka kb
    have hc : Calls Tryd.prog 33 #[.pointer (some ⟨r, 0, none⟩), .int .i64 12] (w2.setCell ⟨w1.heap.size, 3, none⟩ (.int .i64 (x : Int))) _ := rd_pick _ r A n c l (q + 2) 12 (HD2.out.fr ((Fr.refl [w1.heap.size] w2).setCell (.inl (by simp)) _) (by simp; omega) (fun h0 ad e => by have := HA.out h0 ad e; simp; omega)) (by omega) (by omega) (by omega)
    have HC2 := Lib.hid hc
    clear hc
    go_wp2_with fail
    refine HC2.out.mono ?_
    rintro e w3 ⟨y, rfl, hy, hD3, hf3⟩
    have hfs : Fr [w1.heap.size] w2 (w2.setCell ⟨w1.heap.size, 3, none⟩ (.int .i64 (x : Int))) := (Fr.refl [w1.heap.size] w2).setCell (.inl (by simp)) _
    have hfw3 : Fr [r] w w3 := (hfw2.trans_of hfs (by simp; omega)).trans hf3
    have HKA := Lib.hid (HKA.out.fr hfs (by simp; omega))
    have HKB := Lib.hid (HKB.out.set_ 3 (.int .i64 (x : Int)))
    have HD3 := Lib.hid hD3
    clear hD3 kac0 kaf0 kac1 kaf1 kac2 kaf2 kac3 kaf3 kac4 kaf4 kbc0 kbf0 kbc1 kbf1 kbc2 kbf2 kbc3 kbf3 kbc4 kbf4
    have ka := HKA.out.fr hf3 (by simp; omega)
    have kb := HKB.out.fr hf3 (by simp; omega)
    have kac0 : w3.cell? ⟨w.heap.size, 0, none⟩ = some (.string ⟨#[]⟩) := ka.cell 0
    have kaf0 := ka.frozen 0
    have kac1 : w3.cell? ⟨w.heap.size, 1, none⟩ = some (.string ⟨#[]⟩) := ka.cell 1
    have kaf1 := ka.frozen 1
    have kac2 : w3.cell? ⟨w.heap.size, 2, none⟩ = some (.int .u16 0) := ka.cell 2
    have kaf2 := ka.frozen 2
    have kac3 : w3.cell? ⟨w.heap.size, 3, none⟩ = some (.int .i64 0) := ka.cell 3
    have kaf3 := ka.frozen 3
    have kac4 : w3.cell? ⟨w.heap.size, 4, none⟩ = some (.int .i32 0) := ka.cell 4
    have kaf4 := ka.frozen 4
    have kbc0 : w3.cell? ⟨w1.heap.size, 0, none⟩ = some (.string ⟨#[103, 114, 111, 119]⟩) := kb.cell 0
    have kbf0 := kb.frozen 0
    have kbc1 : w3.cell? ⟨w1.heap.size, 1, none⟩ = some (.string ⟨#[]⟩) := kb.cell 1
    have kbf1 := kb.frozen 1
    have kbc2 : w3.cell? ⟨w1.heap.size, 2, none⟩ = some (.int .u16 0) := kb.cell 2
    have kbf2 := kb.frozen 2
    have kbc3 : w3.cell? ⟨w1.heap.size, 3, none⟩ = some (.int .i64 (x : Int)) := kb.cell 3
    have kbf3 := kb.frozen 3
    have kbc4 : w3.cell? ⟨w1.heap.size, 4, none⟩ = some (.int .i32 0) := kb.cell 4
    have kbf4 := kb.frozen 4
    have HKA := Lib.hid ka
    have HKB := Lib.hid kb
    clear ka kb
    rcases (show (((y : Int) == 0) = true) ∨ (((y : Int) == 0) = false) by simp; omega) with hyb | hyb
    · go_wp2_with fail
      refine bodyPost_ret (v := .agg #[.string ⟨#[103, 114, 111, 119]⟩, .string ⟨#[]⟩, .int .u16 0, .int .i64 (-1), .int .i32 0]) (by simp [results, Tryd.results37, go_sem, kac0, kac1, kac2, kac3, kac4]) rfl ?_
      have hfin : ∀ W, Fr [w.heap.size, w1.heap.size] w3 W → OpPost r A n c l q w (.returned (.agg #[.string ⟨#[103, 114, 111, 119]⟩, .string ⟨#[]⟩, .int .u16 0, .int .i64 (-1), .int .i32 0])) W := fun W hW =>
        ⟨[103, 114, 111, 119], [], 0, -1, 0, rfl, (HD3.out.fr hW (by simp; omega) (fun h0 ad e => by have := HA.out h0 ad e; simp; omega)).mono (by omega), hfw3.trans_of hW (by simp; omega), ⟨by decide, by first | (simp; done) | omega, by omega, by omega, by omega, by omega, by omega⟩⟩
      exact hfin _ (by repeat' first | with_reducible refine Fr.setCell ?_ ?_ _ | with_reducible exact Fr.refl _ _ | exact .inl (by simp))
    · go_wp2_with fail
      refine bodyPost_ret (v := .agg #[.string ⟨#[103, 114, 111, 119]⟩, .string ⟨#[]⟩, .int .u16 0, .int .i64 (x : Int), .int .i32 0]) (by simp [results, Tryd.results37, go_sem, kac0, kac1, kac2, kac3, kac4]) rfl ?_
      have hfin : ∀ W, Fr [w.heap.size, w1.heap.size] w3 W → OpPost r A n c l q w (.returned (.agg #[.string ⟨#[103, 114, 111, 119]⟩, .string ⟨#[]⟩, .int .u16 0, .int .i64 (x : Int), .int .i32 0])) W := fun W hW =>
        ⟨[103, 114, 111, 119], [], 0, (x : Int), 0, rfl, (HD3.out.fr hW (by simp; omega) (fun h0 ad e => by have := HA.out h0 ad e; simp; omega)).mono (by omega), hfw3.trans_of hW (by simp; omega), ⟨by decide, by first | (simp; done) | omega, by omega, by omega, by omega, by omega, by omega⟩⟩
      exact hfin _ (by repeat' first | with_reducible refine Fr.setCell ?_ ?_ _ | with_reducible exact Fr.refl _ _ | exact .inl (by simp))
  · go_wp2_with fail
    refine bodyPost_ret (v := .agg #[.string ⟨#[114, 101, 115, 101, 116]⟩, .string ⟨#[]⟩, .int .u16 0, .int .i64 0, .int .i32 0]) (by simp [results, Tryd.results37, go_sem, hk1c0, hk1c1, hk1c2, hk1c3, hk1c4]) rfl ?_
    have hfin : ∀ W, Fr [w.heap.size] (w1.alloc (.cells #[.string ⟨#[114, 101, 115, 101, 116]⟩, .string ⟨#[]⟩, .int .u16 0, .int .i64 0, .int .i32 0] 29)) W → OpPost r A n c l q w (.returned (.agg #[.string ⟨#[114, 101, 115, 101, 116]⟩, .string ⟨#[]⟩, .int .u16 0, .int .i64 0, .int .i32 0])) W := fun W hW =>
      ⟨[114, 101, 115, 101, 116], [], 0, 0, 0, rfl, ((HA1.out _).fr hW (by simp; omega) (fun h0 ad e => by have := HA.out h0 ad e; simp; omega)).mono (by omega), (hfw1.alloc _).trans_of hW (by simp), ⟨by decide, by simp, by omega, by omega, by omega, by omega, by omega⟩⟩
    exact hfin _ (by repeat' first | with_reducible refine Fr.setCell ?_ ?_ _ | with_reducible exact Fr.refl _ _ | exact .inl (by simp))
  · go_wp2_with fail
    refine bodyPost_ret (v := .agg #[.string ⟨#[108, 101, 110]⟩, .string ⟨#[]⟩, .int .u16 0, .int .i64 0, .int .i32 0]) (by simp [results, Tryd.results37, go_sem, hk1c0, hk1c1, hk1c2, hk1c3, hk1c4]) rfl ?_
    have hfin : ∀ W, Fr [w.heap.size] (w1.alloc (.cells #[.string ⟨#[108, 101, 110]⟩, .string ⟨#[]⟩, .int .u16 0, .int .i64 0, .int .i32 0] 29)) W → OpPost r A n c l q w (.returned (.agg #[.string ⟨#[108, 101, 110]⟩, .string ⟨#[]⟩, .int .u16 0, .int .i64 0, .int .i32 0])) W := fun W hW =>
      ⟨[108, 101, 110], [], 0, 0, 0, rfl, ((HA1.out _).fr hW (by simp; omega) (fun h0 ad e => by have := HA.out h0 ad e; simp; omega)).mono (by omega), (hfw1.alloc _).trans_of hW (by simp), ⟨by decide, by simp, by omega, by omega, by omega, by omega, by omega⟩⟩
    exact hfin _ (by repeat' first | with_reducible refine Fr.setCell ?_ ?_ _ | with_reducible exact Fr.refl _ _ | exact .inl (by simp))
  · go_wp2_with fail
    refine bodyPost_ret (v := .agg #[.string ⟨#[98, 121, 116, 101, 115]⟩, .string ⟨#[]⟩, .int .u16 0, .int .i64 0, .int .i32 0]) (by simp [results, Tryd.results37, go_sem, hk1c0, hk1c1, hk1c2, hk1c3, hk1c4]) rfl ?_
    have hfin : ∀ W, Fr [w.heap.size] (w1.alloc (.cells #[.string ⟨#[98, 121, 116, 101, 115]⟩, .string ⟨#[]⟩, .int .u16 0, .int .i64 0, .int .i32 0] 29)) W → OpPost r A n c l q w (.returned (.agg #[.string ⟨#[98, 121, 116, 101, 115]⟩, .string ⟨#[]⟩, .int .u16 0, .int .i64 0, .int .i32 0])) W := fun W hW =>
      ⟨[98, 121, 116, 101, 115], [], 0, 0, 0, rfl, ((HA1.out _).fr hW (by simp; omega) (fun h0 ad e => by have := HA.out h0 ad e; simp; omega)).mono (by omega), (hfw1.alloc _).trans_of hW (by simp), ⟨by decide, by simp, by omega, by omega, by omega, by omega, by omega⟩⟩
    exact hfin _ (by repeat' first | with_reducible refine Fr.setCell ?_ ?_ _ | with_reducible exact Fr.refl _ _ | exact .inl (by simp))
  · go_wp2_with fail
    refine bodyPost_ret (v := .agg #[.string ⟨#[115, 116, 114, 105, 110, 103]⟩, .string ⟨#[]⟩, .int .u16 0, .int .i64 0, .int .i32 0]) (by simp [results, Tryd.results37, go_sem, hk1c0, hk1c1, hk1c2, hk1c3, hk1c4]) rfl ?_
    have hfin : ∀ W, Fr [w.heap.size] (w1.alloc (.cells #[.string ⟨#[115, 116, 114, 105, 110, 103]⟩, .string ⟨#[]⟩, .int .u16 0, .int .i64 0, .int .i32 0] 29)) W → OpPost r A n c l q w (.returned (.agg #[.string ⟨#[115, 116, 114, 105, 110, 103]⟩, .string ⟨#[]⟩, .int .u16 0, .int .i64 0, .int .i32 0])) W := fun W hW =>
      ⟨[115, 116, 114, 105, 110, 103], [], 0, 0, 0, rfl, ((HA1.out _).fr hW (by simp; omega) (fun h0 ad e => by have := HA.out h0 ad e; simp; omega)).mono (by omega), (hfw1.alloc _).trans_of hW (by simp), ⟨by decide, by simp, by omega, by omega, by omega, by omega, by omega⟩⟩
    exact hfin _ (by repeat' first | with_reducible refine Fr.setCell ?_ ?_ _ | with_reducible exact Fr.refl _ _ | exact .inl (by simp))
  · go_wp2_with fail
    refine bodyPost_ret (v := .agg #[.string ⟨#[114, 101, 97, 100, 114, 117, 110, 101]⟩, .string ⟨#[]⟩, .int .u16 0, .int .i64 0, .int .i32 0]) (by simp [results, Tryd.results37, go_sem, hk1c0, hk1c1, hk1c2, hk1c3, hk1c4]) rfl ?_
    have hfin : ∀ W, Fr [w.heap.size] (w1.alloc (.cells #[.string ⟨#[114, 101, 97, 100, 114, 117, 110, 101]⟩, .string ⟨#[]⟩, .int .u16 0, .int .i64 0, .int .i32 0] 29)) W → OpPost r A n c l q w (.returned (.agg #[.string ⟨#[114, 101, 97, 100, 114, 117, 110, 101]⟩, .string ⟨#[]⟩, .int .u16 0, .int .i64 0, .int .i32 0])) W := fun W hW =>
      ⟨[114, 101, 97, 100, 114, 117, 110, 101], [], 0, 0, 0, rfl, ((HA1.out _).fr hW (by simp; omega) (fun h0 ad e => by have := HA.out h0 ad e; simp; omega)).mono (by omega), (hfw1.alloc _).trans_of hW (by simp), ⟨by decide, by simp, by omega, by omega, by omega, by omega, by omega⟩⟩
    exact hfin _ (by repeat' first | with_reducible refine Fr.setCell ?_ ?_ _ | with_reducible exact Fr.refl _ _ | exact .inl (by simp))
  · go_wp2_with fail
    refine bodyPost_ret (v := .agg #[.string ⟨#[114, 101, 97, 100, 98, 121, 116, 101]⟩, .string ⟨#[]⟩, .int .u16 0, .int .i64 0, .int .i32 0]) (by simp [results, Tryd.results37, go_sem, hk1c0, hk1c1, hk1c2, hk1c3, hk1c4]) rfl ?_
    have hfin : ∀ W, Fr [w.heap.size] (w1.alloc (.cells #[.string ⟨#[114, 101, 97, 100, 98, 121, 116, 101]⟩, .string ⟨#[]⟩, .int .u16 0, .int .i64 0, .int .i32 0] 29)) W → OpPost r A n c l q w (.returned (.agg #[.string ⟨#[114, 101, 97, 100, 98, 121, 116, 101]⟩, .string ⟨#[]⟩, .int .u16 0, .int .i64 0, .int .i32 0])) W := fun W hW =>
      ⟨[114, 101, 97, 100, 98, 121, 116, 101], [], 0, 0, 0, rfl, ((HA1.out _).fr hW (by simp; omega) (fun h0 ad e => by have := HA.out h0 ad e; simp; omega)).mono (by omega), (hfw1.alloc _).trans_of hW (by simp), ⟨by decide, by simp, by omega, by omega, by omega, by omega, by omega⟩⟩
    exact hfin _ (by repeat' first | with_reducible refine Fr.setCell ?_ ?_ _ | with_reducible exact Fr.refl _ _ | exact .inl (by simp))
  · go_wp2_with fail
    refine bodyPost_ret (v := .agg #[.string ⟨#[117, 110, 114, 101, 97, 100, 98, 121, 116, 101]⟩, .string ⟨#[]⟩, .int .u16 0, .int .i64 0, .int .i32 0]) (by simp [results, Tryd.results37, go_sem, hk1c0, hk1c1, hk1c2, hk1c3, hk1c4]) rfl ?_
    have hfin : ∀ W, Fr [w.heap.size] (w1.alloc (.cells #[.string ⟨#[117, 110, 114, 101, 97, 100, 98, 121, 116, 101]⟩, .string ⟨#[]⟩, .int .u16 0, .int .i64 0, .int .i32 0] 29)) W → OpPost r A n c l q w (.returned (.agg #[.string ⟨#[117, 110, 114, 101, 97, 100, 98, 121, 116, 101]⟩, .string ⟨#[]⟩, .int .u16 0, .int .i64 0, .int .i32 0])) W := fun W hW =>
      ⟨[117, 110, 114, 101, 97, 100, 98, 121, 116, 101], [], 0, 0, 0, rfl, ((HA1.out _).fr hW (by simp; omega) (fun h0 ad e => by have := HA.out h0 ad e; simp; omega)).mono (by omega), (hfw1.alloc _).trans_of hW (by simp), ⟨by decide, by simp, by omega, by omega, by omega, by omega, by omega⟩⟩
    exact hfin _ (by repeat' first | with_reducible refine Fr.setCell ?_ ?_ _ | with_reducible exact Fr.refl _ _ | exact .inl (by simp))
  · go_wp2_with fail
    refine bodyPost_ret (v := .agg #[.string ⟨#[110, 111, 110, 101]⟩, .string ⟨#[]⟩, .int .u16 0, .int .i64 0, .int .i32 0]) (by simp [results, Tryd.results37, go_sem, hk1c0, hk1c1, hk1c2, hk1c3, hk1c4]) rfl ?_
    have hfin : ∀ W, Fr [w.heap.size] (w1.alloc (.cells #[.string ⟨#[110, 111, 110, 101]⟩, .string ⟨#[]⟩, .int .u16 0, .int .i64 0, .int .i32 0] 29)) W → OpPost r A n c l q w (.returned (.agg #[.string ⟨#[110, 111, 110, 101]⟩, .string ⟨#[]⟩, .int .u16 0, .int .i64 0, .int .i32 0])) W := fun W hW =>
      ⟨[110, 111, 110, 101], [], 0, 0, 0, rfl, ((HA1.out _).fr hW (by simp; omega) (fun h0 ad e => by have := HA.out h0 ad e; simp; omega)).mono (by omega), (hfw1.alloc _).trans_of hW (by simp), ⟨by decide, by simp, by omega, by omega, by omega, by omega, by omega⟩⟩
    exact hfin _ (by repeat' first | with_reducible refine Fr.setCell ?_ ?_ _ | with_reducible exact Fr.refl _ _ | exact .inl (by simp))

end Go.Proofs.YtgjaeggpaomoaaaDoor
