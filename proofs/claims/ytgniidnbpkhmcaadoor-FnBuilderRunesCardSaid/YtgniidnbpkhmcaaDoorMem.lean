/- Plain facts about memory, no program in sight: a frame that names the blocks that may change, a slice that reads as bytes, a bytes.Buffer in a block of its own. -/
import Derived.Below
import Derived.Laws.OwnMore
import Derived.Deep.Draws
import Derived.Deep.AppendLies
import Derived.Laws.Rows
import Derived.Laws.IdiomStrings
import Derived.Laws.Slices
import Derived.Attr
import Derived.Deep.AppendSrc
import Derived.OwnWalk
import Derived.RegionTactic
import Derived.Lib.Hide
namespace Go.Proofs.YtgniidnbpkhmcaaDoor
open Go.RowKit
set_option linter.unusedVariables false

/-- Only the blocks of S, and new ones, may differ. -/
structure Fr (S : List Nat) (w w' : World) : Prop where
  os : w'.os = w.os
  tape : w'.tape = w.tape
  output : w'.output = w.output
  size : w.heap.size ≤ w'.heap.size
  block : ∀ k, k < w.heap.size → k ∉ S → w'.heap[k]? = w.heap[k]?

theorem Fr.refl (S : List Nat) (w : World) : Fr S w w := ⟨rfl, rfl, rfl, Nat.le_refl _, fun _ _ _ => rfl⟩
theorem Fr.trans {S : List Nat} {a b c : World} (h : Fr S a b) (k : Fr S b c) : Fr S a c :=
  ⟨k.os.trans h.os, k.tape.trans h.tape, k.output.trans h.output, Nat.le_trans h.size k.size, fun i hi hn => (k.block i (Nat.lt_of_lt_of_le hi h.size) hn).trans (h.block i hi hn)⟩
/-- Blocks that are new since a may be listed or not. -/
theorem Fr.trans_of {S T : List Nat} {a b c : World} (h : Fr S a b) (k : Fr T b c) (hT : ∀ i ∈ T, i ∈ S ∨ a.heap.size ≤ i) : Fr S a c :=
  ⟨k.os.trans h.os, k.tape.trans h.tape, k.output.trans h.output, Nat.le_trans h.size k.size, fun i hi hn => (k.block i (Nat.lt_of_lt_of_le hi h.size) (fun ht => by rcases hT i ht with h1 | h1; exact hn h1; omega)).trans (h.block i hi hn)⟩
theorem Fr.more {S T : List Nat} {a b : World} (h : Fr S a b) (hT : ∀ i ∈ S, i ∈ T) : Fr T a b := ⟨h.os, h.tape, h.output, h.size, fun i hi hn => h.block i hi fun hs => hn (hT i hs)⟩
theorem Fr.drew {S : List Nat} {a w : World} (h : Fr S a w) : Fr S a w.drew := ⟨h.os, h.tape, h.output, h.size, h.block⟩
theorem Fr.drewN {S : List Nat} {a w : World} (h : Fr S a w) (n : Nat) : Fr S a (w.drewN n) := ⟨h.os, h.tape, h.output, h.size, h.block⟩
theorem Fr.alloc {S : List Nat} {a w : World} (h : Fr S a w) (o : Obj) : Fr S a (w.alloc o) :=
  ⟨h.os, h.tape, h.output, Nat.le_trans h.size (by simp), fun i hi hn => (Below.heap_alloc w o i (Nat.lt_of_lt_of_le hi h.size)).trans (h.block i hi hn)⟩
theorem Fr.setCell {S : List Nat} {a w : World} (h : Fr S a w) {p : Addr} (hp : p.block ∈ S ∨ a.heap.size ≤ p.block) (u : Value) : Fr S a (w.setCell p u) :=
  ⟨h.os, h.tape, h.output, by simpa [World.setCell] using h.size, fun i hi hn => (Below.heap_setCell w p u i (by
    rintro rfl
    rcases hp with hp | hp
    · exact hn hp
    · omega)).trans (h.block i hi hn)⟩
theorem Fr.grown {S : List Nat} {a w w' : World} {row : Option Nat} (h : Fr S a w) (hg : w.grownBy w' row) (hr : ∀ k, row = some k → k ∈ S ∨ a.heap.size ≤ k) : Fr S a w' :=
  ⟨hg.os.trans h.os, hg.tape.trans h.tape, hg.output.trans h.output, Nat.le_trans h.size hg.size, fun i hi hn => (hg.block i (Nat.lt_of_lt_of_le hi h.size) (fun e => by
    rcases hr i e.symm with h1 | h1
    · exact hn h1
    · omega)).trans (h.block i hi hn)⟩
theorem Fr.of_grown {w w' : World} {row : Option Nat} (hg : w.grownBy w' row) : Fr row.toList w w' :=
  ⟨hg.os, hg.tape, hg.output, hg.size, fun i hi hn => hg.block i hi (fun e => hn (by rw [← e]; simp))⟩
theorem Fr.toGrown {w w' : World} {row : Option Nat} (h : Fr row.toList w w') : w.grownBy w' row :=
  ⟨h.os, h.tape, h.output, h.size, fun i hi hn => h.block i hi (fun e => hn (by cases row <;> simp_all))⟩
theorem Fr.below {S : List Nat} {w w' : World} (h : Fr S w w') {B : Nat} (hB : B ≤ w.heap.size) (hS : ∀ k ∈ S, B ≤ k) : Below B w w' :=
  ⟨h.os, h.tape, h.output, h.size, fun k hk => h.block k (by omega) (fun hs => by have := hS k hs; omega)⟩
theorem Fr.of_below {w w' : World} (h : Below w.heap.size w w') : Fr [] w w' := ⟨h.os, h.tape, h.output, h.size, fun k hk _ => h.block k hk⟩
theorem Fr.cell {S : List Nat} {w w' : World} (h : Fr S w w') {p : Addr} (hp : p.block < w.heap.size) (hn : p.block ∉ S) : w'.cell? p = w.cell? p := World.cell?_of_block (w := w) (h.block p.block hp hn)
theorem Fr.frozen {S : List Nat} {w w' : World} (h : Fr S w w') {p : Addr} (hp : p.block < w.heap.size) (hn : p.block ∉ S) : w'.frozen? p = w.frozen? p := World.frozen?_of_block (w := w) (h.block p.block hp hn)
theorem Fr.own {S : List Nat} {w w' : World} (h : Fr S w w') {base : Nat} {e : TypeId} {size : Nat} {v : Value} {n : Nat} {xs : List Value} (ho : w.ownsRow base e size v n xs) (hn : ∀ k, v.ownBlock = some k → k ∉ S) : w'.ownsRow base e size v n xs := by
  refine ⟨ho.1, ?_⟩
  rcases ho.2 with h2 | ⟨g, cap, cur, rfl, hb, hgg, rest⟩
  · exact .inl h2
  · refine .inr ⟨g, cap, cur, rfl, hb, ?_, rest⟩
    rw [h.block g (Array.getElem?_eq_some_iff.1 hgg).1 (hn g (by simp [Value.ownBlock]))]
    exact hgg

theorem heap_lt {w : World} {g : Nat} {o : Obj} (h : w.heap[g]? = some o) : g < w.heap.size := (Array.getElem?_eq_some_iff.1 h).1

/-- A block that is known whole. -/
def Blk (w : World) (g : Nat) (t : TypeId) (cs : Array Value) : Prop := w.heap[g]? = some (.cells cs t (0, 0))
section
variable {w w' : World} {g : Nat} {t : TypeId} {cs : Array Value}
theorem Blk.lt (h : Blk w g t cs) : g < w.heap.size := heap_lt h
theorem Blk.cell (h : Blk w g t cs) (i : Nat) : w.cell? ⟨g, i, none⟩ = cs[i]? := cell_of_row w g i cs t (0, 0) h
theorem Blk.frozen (h : Blk w g t cs) (i : Nat) : w.frozen? ⟨g, i, none⟩ = false := frozen_of_row w g i cs t h
theorem Blk.new (w : World) (t : TypeId) (cs : Array Value) : Blk (w.alloc (.cells cs t)) w.heap.size t cs := heap_alloc_new w _
theorem Blk.drew (h : Blk w g t cs) : Blk w.drew g t cs := h
theorem Blk.drewN (h : Blk w g t cs) (n : Nat) : Blk (w.drewN n) g t cs := h
theorem Blk.alloc (h : Blk w g t cs) (o : Obj) : Blk (w.alloc o) g t cs := (Below.heap_alloc w o g h.lt).trans h
theorem Blk.set_ (h : Blk w g t cs) (i : Nat) (u : Value) : Blk (w.setCell ⟨g, i, none⟩ u) g t (cs.setIfInBounds i u) := by
  unfold Blk at h ⊢
  simp [World.setCell, Array.getElem?_modify, h]
theorem Blk.far (h : Blk w g t cs) {p : Addr} (hp : g ≠ p.block) (u : Value) : Blk (w.setCell p u) g t cs := (Below.heap_setCell w p u g hp).trans h
theorem Blk.fr {S : List Nat} (h : Blk w g t cs) (hf : Fr S w w') (hn : g ∉ S) : Blk w' g t cs := (hf.block g h.lt hn).trans h
theorem Blk.ne_ {g' : Nat} {t' : TypeId} {cs' : Array Value} (h : Blk w g t cs) (h' : Blk w g' t' cs') (hne : t ≠ t') : g ≠ g' := by
  rintro rfl
  unfold Blk at h h'
  rw [h] at h'
  injection h' with h'
  injection h' with _ ht
  exact hne ht
end

/-- A byte as a cell. -/
def bv (b : UInt8) : Value := .int .u8 (b.toNat : Int)
/-- Bytes as cells. -/
def bvs (l : List UInt8) : Array Value := (l.map bv).toArray
theorem bvs_size (l : List UInt8) : (bvs l).size = l.length := by simp [bvs]
theorem bvs_get (l : List UInt8) (i : Nat) : (bvs l)[i]? = l[i]?.map bv := by simp [bvs]

/-- The slice at A, of l.length elements, reads as the bytes l. -/
def Rd (w : World) (A : Option Addr) (l : List UInt8) : Prop := ∀ j (hj : j < l.length), ∃ ad, A = some ad ∧ w.cell? (ad.add j) = some (bv l[j])

theorem Rd.keep {w w' : World} {A : Option Addr} {l : List UInt8} (h : Rd w A l) (hk : ∀ p : Addr, (∃ ad, A = some ad ∧ ad.block = p.block) → w'.cell? p = w.cell? p) : Rd w' A l := by
  intro j hj
  obtain ⟨ad, e, hc⟩ := h j hj
  exact ⟨ad, e, (hk _ ⟨ad, e, by unfold Addr.add; split <;> rfl⟩).trans hc⟩
theorem Rd.nil (w : World) (A : Option Addr) : Rd w A [] := fun j hj => absurd hj (by simp)
theorem block_add (a : Addr) (n : Nat) : (a.add n).block = a.block := by unfold Addr.add; split <;> rfl
theorem add_add (a : Addr) (i j : Nat) : (a.add i).add j = a.add (i + j) := by
  unfold Addr.add
  by_cases hi : i = 0 <;> by_cases hj : j = 0 <;> simp [hi, hj, Nat.add_assoc]
theorem add_at (g o j : Nat) : (⟨g, o, none⟩ : Addr).add j = ⟨g, o + j, none⟩ := by unfold Addr.add; split <;> simp_all

/-- 'string(p)' of a slice that reads as the bytes l. -/
theorem run_string_of {P : Program} (w : World) (src dst e : TypeId) (A : Option Addr) (n cap : Nat) (l : List UInt8) (hs : P.underlying src = some (.slice e)) (he : P.underlying e = some (.int .u8)) (hd : P.underlying dst = some .string)
    (hn : n = l.length) (h : Rd w A l) : (convert src dst (.slice A n cap)).run P w = .ok (.string ⟨l.toArray⟩) w := by
  subst hn
  cases A with
  | some ad =>
    refine run_convert_bytes_back w src dst e ad cap l hs he hd fun j hj => ?_
    obtain ⟨ad', e', hc⟩ := h j hj
    injection e' with e'
    subst e'
    exact hc
  | none =>
    have hl : l = [] := by
      cases l with
      | nil => rfl
      | cons x r => obtain ⟨_, e', _⟩ := h 0 (by simp); cases e'
    subst hl
    rw [run_convert_bytes_string w src dst e none _ cap hs he hd]
    simp [Conv.bytesToString]
    rfl

/-- The address of a slice expression: at the very end of the capacity the old one stays. -/
def cutA (A : Option Addr) (cap k : Nat) : Option Addr := if cap = k then A else A.map (·.add k)

section
variable {P : Program} (t e : TypeId) (ht : P.underlying t = some (.slice e)) (hsz : (P.info? e).map (fun i => i.size) = some 1) (A : Option Addr) (len cap : Nat) (W : World)
include ht hsz
theorem run_sizeOf_one : (sizeOf (P.elem t)).run P W = .ok 1 W := by
  have he : P.elem t = e := by unfold Program.elem; simp [ht]
  cases hi : P.info? e with
  | none => simp [hi] at hsz
  | some i => simp [hi] at hsz; simp [he, sizeOf, typeInfo, hi, hsz]
theorem run_cut_l (k : Nat) (hk : k ≤ len) : (Instr.slice t (.slice A len cap) (some (.int .i64 (k : Int))) none none).run P W = .ok (.slice (cutA A cap k) (len - k) (cap - k)) W := by
  have he : P.elem t = e := by unfold Program.elem; simp [ht]
  rw [run_slice_l (P := P) W t A len cap (by rw [he]; exact ht) .i64 k (by omega) (by omega), run_sizeOf_one t e ht hsz]
  simp [Result.andThen, sliced, cutA]
theorem run_cut_lh (k h : Nat) (hk : k ≤ h) (hh : h ≤ cap) : (Instr.slice t (.slice A len cap) (some (.int .i64 (k : Int))) (some (.int .i64 (h : Int))) none).run P W = .ok (.slice (cutA A cap k) (h - k) (cap - k)) W := by
  have he : P.elem t = e := by unfold Program.elem; simp [ht]
  rw [run_slice_lh (P := P) W t A len cap (by rw [he]; exact ht) .i64 .i64 k h (by omega) (by omega) (by omega), run_sizeOf_one t e ht hsz]
  simp [Result.andThen, sliced, cutA]
theorem run_cut_h (h : Nat) (hh : h ≤ cap) : (Instr.slice t (.slice A len cap) none (some (.int .i64 (h : Int))) none).run P W = .ok (.slice A h cap) W := by
  have he : P.elem t = e := by unfold Program.elem; simp [ht]
  rw [run_slice_h (P := P) W t A len cap (by rw [he]; exact ht) .i64 h (by omega) (by omega), run_sizeOf_one t e ht hsz]
  simp [Result.andThen, sliced]
  intro _
  cases A <;> simp [Addr.add]
end

/-- A slice of n bytes that reads as l. -/
def Sl (w : World) (A : Option Addr) (n : Nat) (l : List UInt8) : Prop := n = l.length ∧ Rd w A l
theorem Sl.keep {w w' : World} {A : Option Addr} {n : Nat} {l : List UInt8} (h : Sl w A n l) (hk : ∀ p : Addr, (∃ ad, A = some ad ∧ ad.block = p.block) → w'.cell? p = w.cell? p) : Sl w' A n l := ⟨h.1, h.2.keep hk⟩
theorem Sl.drewN {w : World} {A : Option Addr} {n : Nat} {l : List UInt8} (h : Sl w A n l) (k : Nat) : Sl (w.drewN k) A n l := h
theorem Sl.fr {S : List Nat} {w w' : World} {A : Option Addr} {n : Nat} {l : List UInt8} (h : Sl w A n l) (hf : Fr S w w') (hn : ∀ ad, A = some ad → ad.block ∉ S) : Sl w' A n l := by
  refine ⟨h.1, fun j hj => ?_⟩
  obtain ⟨ad, e, hc⟩ := h.2 j hj
  refine ⟨ad, e, ?_⟩
  have hlt := block_lt_of_cell hc
  rw [hf.cell hlt (by rw [block_add]; exact hn ad e)]
  exact hc
theorem Sl.fr' {S : List Nat} {w w' : World} {A : Option Addr} {n : Nat} {l : List UInt8} (h : Sl w A n l) (hf : Fr S w w') (hn : 0 < n → ∀ ad, A = some ad → ad.block ∉ S) : Sl w' A n l := by
  refine ⟨h.1, fun j hj => ?_⟩
  obtain ⟨ad, e, hc⟩ := h.2 j hj
  refine ⟨ad, e, ?_⟩
  have hlt := block_lt_of_cell hc
  have hl := h.1
  rw [hf.cell hlt (by rw [block_add]; exact hn (by omega) ad e)]
  exact hc
theorem Sl.old {w : World} {A : Option Addr} {n : Nat} {l : List UInt8} (h : Sl w A n l) (h0 : 0 < n) (ad : Addr) (e : A = some ad) : ad.block < w.heap.size := by
  obtain ⟨ad', e', hc⟩ := h.2 0 (by rw [← h.1]; exact h0)
  rw [e] at e'
  injection e' with e'
  have := block_lt_of_cell hc
  rw [block_add] at this
  rw [e']
  exact this
theorem run_string_sl {P : Program} {w : World} {A : Option Addr} {n : Nat} {l : List UInt8} (h : Sl w A n l) (src dst e : TypeId) (cap : Nat) (hs : P.underlying src = some (.slice e)) (he : P.underlying e = some (.int .u8)) (hd : P.underlying dst = some .string) :
    (convert src dst (.slice A n cap)).run P w = .ok (.string ⟨l.toArray⟩) w := run_string_of w src dst e A n cap l hs he hd h.1 h.2

/-- A row of bytes in a block: known whole, none of its cells frozen. -/
def Row (w : World) (g : Nat) (l : List UInt8) : Prop := ∃ lo hi, w.heap[g]? = some (.cells (bvs l) 5 (lo, hi)) ∧ (hi ≤ lo ∨ l.length ≤ lo)
section
variable {w w' : World} {g : Nat} {l : List UInt8}
theorem Row.lt (h : Row w g l) : g < w.heap.size := by obtain ⟨_, _, h, _⟩ := h; exact heap_lt h
theorem Row.cell (h : Row w g l) (i : Nat) : w.cell? ⟨g, i, none⟩ = l[i]?.map bv := by obtain ⟨_, _, h, _⟩ := h; rw [cell_of_row w g i _ _ _ h, bvs_get]
theorem Row.frozen (h : Row w g l) {i : Nat} (hi : i < l.length) : w.frozen? ⟨g, i, none⟩ = false := by
  obtain ⟨lo, hi', h, hf⟩ := h
  simp [World.frozen?, h]
  omega
theorem Row.drewN (h : Row w g l) (n : Nat) : Row (w.drewN n) g l := h
theorem Row.drew (h : Row w g l) : Row w.drew g l := h
theorem Row.fr {S : List Nat} (h : Row w g l) (hf : Fr S w w') (hn : g ∉ S) : Row w' g l := by
  obtain ⟨lo, hi, h1, h2⟩ := h
  exact ⟨lo, hi, (hf.block g (heap_lt h1) hn).trans h1, h2⟩
theorem Row.alloc (h : Row w g l) (o : Obj) : Row (w.alloc o) g l := h.fr ((Fr.refl [] w).alloc o) (by simp)
theorem Row.far (h : Row w g l) {p : Addr} (hp : p.block ≠ g) (u : Value) : Row (w.setCell p u) g l := h.fr ((Fr.refl [p.block] w).setCell (.inl (by simp)) u) (by simp; omega)
theorem bvs_set (l : List UInt8) (i : Nat) (c : UInt8) : (bvs l).setIfInBounds i (bv c) = bvs (l.set i c) := by
  apply Array.ext'
  simp [bvs, List.map_set]
theorem Row.set_ (h : Row w g l) (i : Nat) (c : UInt8) : Row (w.setCell ⟨g, i, none⟩ (bv c)) g (l.set i c) := by
  obtain ⟨lo, hi, h1, h2⟩ := h
  refine ⟨lo, hi, ?_, by simpa using h2⟩
  simp [World.setCell, Array.getElem?_modify, h1, bvs_set]
/-- What a part of a row reads as. -/
theorem Row.rd (h : Row w g l) (o n : Nat) : Rd w (some ⟨g, o, none⟩) ((l.drop o).take n) := by
  intro j hj
  refine ⟨_, rfl, ?_⟩
  have hj' : j < n ∧ o + j < l.length := by simp at hj; omega
  rw [add_at, h.cell, List.getElem?_eq_getElem hj'.2]
  simp
end

/-- A bytes.Buffer in block b: its row (if it has one), the row's bytes (as many as the capacity), the slice's length, the offset, the last read. -/
structure Buf (w : World) (b : Nat) (g : Option Nat) (row : List UInt8) (len off : Nat) (lr : Int) : Prop where
  blk : Blk w b 81 #[.slice (g.map fun g => ⟨g, 0, none⟩) len row.length, .int .i64 (off : Int), .int .i8 lr]
  off_le : off ≤ len
  len_le : len ≤ row.length
  cap_le : row.length ≤ 9223372036854775807
  none_ : g = none → row = []
  some_ : ∀ x, g = some x → x ≠ b ∧ Row w x row

section
variable {w w' : World} {b : Nat} {g : Option Nat} {row : List UInt8} {len off : Nat} {lr : Int}
theorem Buf.c0 (h : Buf w b g row len off lr) : w.cell? ⟨b, 0, none⟩ = some (.slice (g.map fun g => ⟨g, 0, none⟩) len row.length) := by rw [h.blk.cell]; rfl
theorem Buf.c1 (h : Buf w b g row len off lr) : w.cell? ⟨b, 1, none⟩ = some (.int .i64 (off : Int)) := by rw [h.blk.cell]; rfl
theorem Buf.c2 (h : Buf w b g row len off lr) : w.cell? ⟨b, 2, none⟩ = some (.int .i8 lr) := by rw [h.blk.cell]; rfl
theorem Buf.fz (h : Buf w b g row len off lr) (i : Nat) : w.frozen? ⟨b, i, none⟩ = false := h.blk.frozen i
theorem Buf.fr {S : List Nat} (h : Buf w b g row len off lr) (hf : Fr S w w') (hb : b ∉ S) (hg : ∀ x, g = some x → x ∉ S) : Buf w' b g row len off lr :=
  ⟨h.blk.fr hf hb, h.off_le, h.len_le, h.cap_le, h.none_, fun x e => ⟨(h.some_ x e).1, (h.some_ x e).2.fr hf (hg x e)⟩⟩
theorem Buf.drewN (h : Buf w b g row len off lr) (n : Nat) : Buf (w.drewN n) b g row len off lr := h.fr ((Fr.refl [] w).drewN n) (by simp) (by simp)
theorem Buf.drew (h : Buf w b g row len off lr) : Buf w.drew b g row len off lr := h.fr ((Fr.refl [] w).drew) (by simp) (by simp)
theorem Buf.alloc (h : Buf w b g row len off lr) (o : Obj) : Buf (w.alloc o) b g row len off lr := h.fr ((Fr.refl [] w).alloc o) (by simp) (by simp)
theorem Buf.set2 (h : Buf w b g row len off lr) (x : Int) : Buf (w.setCell ⟨b, 2, none⟩ (.int .i8 x)) b g row len off x :=
  ⟨h.blk.set_ 2 _, h.off_le, h.len_le, h.cap_le, h.none_, fun y e => ⟨(h.some_ y e).1, (h.some_ y e).2.far (by simpa using Ne.symm (h.some_ y e).1) _⟩⟩
theorem Buf.set1 (h : Buf w b g row len off lr) (x : Nat) (hx : x ≤ len) : Buf (w.setCell ⟨b, 1, none⟩ (.int .i64 (x : Int))) b g row len x lr :=
  ⟨h.blk.set_ 1 _, hx, h.len_le, h.cap_le, h.none_, fun y e => ⟨(h.some_ y e).1, (h.some_ y e).2.far (by simpa using Ne.symm (h.some_ y e).1) _⟩⟩
theorem Buf.set0 (h : Buf w b g row len off lr) (x : Nat) (hx : x ≤ row.length) (ho : off ≤ x) : Buf (w.setCell ⟨b, 0, none⟩ (.slice (g.map fun g => ⟨g, 0, none⟩) x row.length)) b g row x off lr :=
  ⟨h.blk.set_ 0 _, ho, hx, h.cap_le, h.none_, fun y e => ⟨(h.some_ y e).1, (h.some_ y e).2.far (by simpa using Ne.symm (h.some_ y e).1) _⟩⟩
/-- What lies in the row between two places. -/
theorem Buf.rd (h : Buf w b g row len off lr) (o n : Nat) : Rd w (g.map fun g => ⟨g, o, none⟩) ((row.drop o).take n) := by
  cases g with
  | none => rw [h.none_ rfl]; simp; exact Rd.nil _ _
  | some x => exact (h.some_ x rfl).2.rd o n
/-- .. in the spelling of a slice expression, which keeps the address at the very end of the row. -/
theorem Buf.rd_cut (h : Buf w b g row len off lr) (o n : Nat) : Rd w (cutA (g.map fun g => ⟨g, 0, none⟩) row.length o) ((row.drop o).take n) := by
  unfold cutA
  split
  · have : row.drop o = [] := List.drop_eq_nil_of_le (by omega)
    rw [this]
    simp
    exact Rd.nil _ _
  · have := h.rd o n
    rw [Option.map_map]
    have e : ((fun x : Addr => x.add o) ∘ fun g => (⟨g, 0, none⟩ : Addr)) = fun g => ⟨g, o, none⟩ := by
      funext g
      simp [add_at]
    rw [e]
    exact this
end
/-- The unread portion. -/
def unread (row : List UInt8) (len off : Nat) : List UInt8 := (row.take len).drop off
theorem unread_length {row : List UInt8} {len off : Nat} (h : len ≤ row.length) : (unread row len off).length = len - off := by simp [unread]; omega
theorem unread_pad (l pad : List UInt8) (off : Nat) : unread (l ++ pad) l.length off = l.drop off := by simp [unread]
theorem unread_eq (row : List UInt8) (len off : Nat) : unread row len off = (row.drop off).take (len - off) := by simp [unread, List.drop_take]


theorem bytesRow_eq (s : ByteArray) (c : Nat) : bytesRow s c = bvs (s.data.toList ++ List.replicate (c - s.size) 0) := by
  apply Array.ext'
  simp [bytesRow, bvs, bv]
theorem size_toList (s : ByteArray) : s.data.toList.length = s.size := by simp
theorem str_toList (l : List UInt8) : (⟨l.toArray⟩ : ByteArray).data.toList = l := by simp
theorem str_eq (s : ByteArray) : (⟨s.data.toList.toArray⟩ : ByteArray) = s := by cases s; simp
theorem str_size (l : List UInt8) : (⟨l.toArray⟩ : ByteArray).size = l.length := by simp [ByteArray.size]

/-- Strings as lists, for the walk. -/
@[go_sem] theorem str_extract (l : List UInt8) (a b : Nat) : (⟨l.toArray⟩ : ByteArray).extract a b = ⟨((l.take b).drop a).toArray⟩ := by
  have h : ((⟨l.toArray⟩ : ByteArray).extract a b).data = ((l.take b).drop a).toArray := by
    rw [ByteArray.data_extract]
    simp [List.drop_take]
  cases hx : (⟨l.toArray⟩ : ByteArray).extract a b with
  | mk d => rw [hx] at h; simp at h; rw [h]
@[go_sem] theorem str_append (a b : List UInt8) : (⟨a.toArray⟩ : ByteArray) ++ ⟨b.toArray⟩ = ⟨(a ++ b).toArray⟩ := by
  have h : ((⟨a.toArray⟩ : ByteArray) ++ ⟨b.toArray⟩).data = (a ++ b).toArray := by
    rw [ByteArray.data_append]
    simp
  cases hx : (⟨a.toArray⟩ : ByteArray) ++ ⟨b.toArray⟩ with
  | mk d => rw [hx] at h; simp at h; rw [h]

/-- A new buffer over a new row. -/
theorem Buf.made (w : World) (l : List UInt8) (n : Nat) (hn : n ≤ l.length) (hl : l.length ≤ 9223372036854775807) :
    Buf ((w.alloc (.cells (bvs l) 5 ((bvs l).size, (bvs l).size + 1))).alloc (.cells #[.slice (some ⟨w.heap.size, 0, none⟩) n l.length, .int .i64 0, .int .i8 0] 81)) (w.heap.size + 1) (some w.heap.size) l n 0 0 := by
  refine ⟨?_, Nat.zero_le _, hn, hl, by simp, ?_⟩
  · have := Blk.new (w.alloc (.cells (bvs l) 5 ((bvs l).size, (bvs l).size + 1))) 81 #[.slice (some ⟨w.heap.size, 0, none⟩) n l.length, .int .i64 0, .int .i8 0]
    simpa using this
  · rintro x ⟨⟩
    refine ⟨by omega, Row.alloc ⟨l.length, l.length + 1, ?_, .inr (Nat.le_refl _)⟩ _⟩
    rw [bvs_size]
    exact heap_alloc_new w _

/-- The slice at A reads as the cells vs. -/
def Rdv (w : World) (A : Option Addr) (vs : List Value) : Prop := ∀ j (hj : j < vs.length), ∃ ad, A = some ad ∧ w.cell? (ad.add j) = some vs[j]

theorem src_of_rdv {P : Program} {w : World} {size m : Nat} {tx e' : TypeId} (hk : P.underlying tx = some (.slice e')) {A : Option Addr} {c : Nat} {vs : List Value} (h : Rdv w A vs) (hl : vs.length = m * size) (hsz : 0 < size) (h1 : ∀ u ∈ vs, u.oneCell' = true) :
    Src P size tx (.slice A m c) m vs w := by
  cases A with
  | some ad =>
    refine Src.ofSlice w hk ad m c vs hl (fun j u hu => ?_) h1
    obtain ⟨hj, rfl⟩ := List.getElem?_eq_some_iff.1 hu
    obtain ⟨ad', e, hc⟩ := h j hj
    injection e with e
    rw [e]
    exact hc
  | none =>
    have hv : vs = [] := by
      cases vs with
      | nil => rfl
      | cons x r => obtain ⟨_, e, _⟩ := h 0 (by simp); cases e
    subst hv
    have hm : m = 0 := by
      rcases Nat.eq_zero_or_pos m with h0 | h0
      · exact h0
      · have := Nat.mul_pos h0 hsz
        simp at hl
        omega
    subst hm
    exact Src.ofNil w hk c

theorem nextcap_le (need old : Nat) (h : old < need) : Builtin.nextslicecap need old ≤ 2 * need + 768 := by
  unfold Builtin.nextslicecap
  split
  · omega
  · split
    · omega
    · have : ∀ r c, c ≤ need → Builtin.growBy need r c ≤ 2 * need + 768 := by
        intro r
        induction r with
        | zero => intro c hc; simp [Builtin.growBy]; omega
        | succ r ih =>
          intro c hc
          simp only [Builtin.growBy]
          split
          · omega
          · by_cases hle : c + (c + 768) / 4 ≤ need
            · exact ih _ hle
            · cases r with
              | zero => simp [Builtin.growBy]; omega
              | succ r =>
                simp only [Builtin.growBy]
                rw [if_pos (by omega)]
                omega
      exact this 4 old (by omega)

/-- A list with others written over it from a place on. -/
def over {α : Type} (l : List α) (o : Nat) (vs : List α) : List α := l.take o ++ vs ++ l.drop (o + vs.length)
theorem over_length {α : Type} (l : List α) (o : Nat) (vs : List α) (h : o + vs.length ≤ l.length) : (over l o vs).length = l.length := by simp [over]; omega
theorem over_map {α β : Type} (f : α → β) (l : List α) (o : Nat) (vs : List α) : (over l o vs).map f = over (l.map f) o (vs.map f) := by simp [over]
theorem over_nil {α : Type} (l : List α) (o : Nat) : over l o [] = l := by simp [over]
theorem over_set {α : Type} (l : List α) (o : Nat) (v : α) (vs : List α) (h : o < l.length) : over (l.set o v) (o + 1) vs = over l o (v :: vs) := by
  unfold over
  rw [List.take_set, List.drop_set_of_lt (by omega)]
  have e : (l.take (o + 1)).set o v = l.take o ++ [v] := by
    rw [List.take_succ_eq_append_getElem h, List.set_append]
    simp [show min o l.length = o by omega]
  rw [e]
  simp [Nat.add_assoc, Nat.add_comm 1]
theorem heap_setCells (g : Nat) (e : TypeId) (fr : Nat × Nat) : ∀ (vs : List Value) (o : Nat) (w : World) (cur : Array Value), w.heap[g]? = some (.cells cur e fr) → o + vs.length ≤ cur.size →
    (w.setCells g o vs).heap[g]? = some (.cells (over cur.toList o vs).toArray e fr)
  | [], o, w, cur, h, _ => by simp [World.setCells, over_nil, h]
  | v :: vs, o, w, cur, h, hl => by
    have h1 : (w.setCell ⟨g, o, none⟩ v).heap[g]? = some (.cells (cur.setIfInBounds o v) e fr) := by simp [World.setCell, Array.getElem?_modify, h]
    have := heap_setCells g e fr vs (o + 1) _ _ h1 (by simp at hl ⊢; omega)
    rw [show (w.setCells g o (v :: vs)) = (w.setCell ⟨g, o, none⟩ v).setCells g (o + 1) vs from rfl, this]
    simp at hl
    rw [Array.toList_setIfInBounds, over_set _ _ _ _ (by simp; omega)]
theorem fr_setCells (g : Nat) : ∀ (vs : List Value) (o : Nat) (w : World), Fr [g] w (w.setCells g o vs)
  | [], o, w => Fr.refl _ _
  | v :: vs, o, w => ((Fr.refl [g] w).setCell (p := ⟨g, o, none⟩) (.inl (by simp)) v).trans (fr_setCells g vs (o + 1) _)

/-- append onto a row of the call's own, from whatever source. -/
theorem run_app {P : Program} (w : World) (base : Nat) (t tx ty e : TypeId) (z : Value) (size bytes : Nat) (ht : P.underlying t = some (.slice e))
    (hinfo : (P.info? e).map (fun i => (i.zero, i.size, i.bytes)) = some (some z, size, bytes)) (hzs : z.cells.size = size) (hsz : 0 < size)
    (v : Value) (n : Nat) (xs : List Value) (hown : w.ownsRow base e size v n xs) (x : Value) (m : Nat) (news : List Value) (hs : Src P size tx x m news w)
    (h63 : n + m ≤ 9223372036854775807) (hbytes : (2 * (n + m) + 768) * bytes ≤ 281474976710656) (hbase : base ≤ w.heap.size) :
    ∃ v' w', (Builtin.append_ #[t, tx] ty #[v, x]).run P w = .ok v' w' ∧ w'.ownsRow base e size v' (n + m) (xs ++ news) ∧ w.grownBy w' v.ownBlock ∧ (v'.ownBlock = v.ownBlock ∨ v'.ownBlock = some w.heap.size) := by
  obtain ⟨i, hi, hz, rfl, rfl⟩ : ∃ i, P.info? e = some i ∧ i.zero = some z ∧ i.size = size ∧ i.bytes = bytes := by
    cases hi : P.info? e with
    | none => simp [hi] at hinfo
    | some i => simp [hi] at hinfo; exact ⟨i, rfl, hinfo.1, hinfo.2.1, hinfo.2.2⟩
  have hlen : (xs ++ news).length = (n + m) * i.size := by rw [List.length_append, hown.1, hs.newsLen, Nat.add_mul]
  have hgrow : ∀ (bs : Option Addr) (cap : Nat), v = .slice bs n cap → cap < n + m → (Builtin.firstCells i.size n (.slice bs n cap)).run P w.drew = .ok xs.toArray w.drew →
      ∃ v' w', (Builtin.append_ #[t, tx] ty #[v, x]).run P w = .ok v' w' ∧ w'.ownsRow base e i.size v' (n + m) (xs ++ news) ∧ w.grownBy w' v.ownBlock ∧ (v'.ownBlock = v.ownBlock ∨ v'.ownBlock = some w.heap.size) := by
    rintro bs cap rfl hc hold
    have hfit : Builtin.nextslicecap (n + m) cap * i.bytes ≤ 281474976710656 := Nat.le_trans (Nat.mul_le_mul_right _ (nextcap_le _ _ hc)) hbytes
    have hr := run_append_grow_src (P := P) w t tx ty e i z ht hi hz bs n cap xs hold x m news hs hc (by omega) hfit
    have hge := grownCap_ge w (n + m) cap e
    have hcm : grownCap w (n + m) cap e ≤ maxLen := grownCap_le_maxLen w (n + m) cap e h63
    refine ⟨_, _, hr, ⟨hlen, .inr ⟨w.heap.size, _, _, rfl, hbase, heap_alloc_new w.drew _, hge, hcm, ?_, ?_⟩⟩, ⟨rfl, rfl, rfl, by simp, fun k hk _ => heap_alloc_old w.drew _ k hk⟩, .inr rfl⟩
    · simp only [Array.size_append, List.size_toArray, size_zeroCells, hzs, hlen, ← Nat.add_mul]
      congr 1
      omega
    · simp only [Array.toList_append]
      rw [← hlen]
      exact List.take_left
  rcases hown.2 with ⟨rfl, rfl⟩ | ⟨g, cap, cur, rfl, hbg, hg, hnc, hcm, hcs, htake⟩
  · have hx : xs = [] := List.eq_nil_of_length_eq_zero (by simpa using hown.1)
    subst hx
    by_cases hm : m = 0
    · subst hm
      have hn : news = [] := List.eq_nil_of_length_eq_zero (by simpa using hs.newsLen)
      subst hn
      refine ⟨.slice none 0 0, w, ?_, World.ownsRow_nil w base e i.size, ⟨rfl, rfl, rfl, Nat.le_refl _, fun _ _ _ => rfl⟩, Or.inl rfl⟩
      have hc := hs.cells
      rcases hs.kind with ⟨e', hk⟩ | hk <;> simp [Builtin.append_, run_underlying ht, run_underlying hk, sizeOf, typeInfo, hi, hs.len, hc]
    · exact hgrow none 0 rfl (by omega) (by simp [Builtin.firstCells])
  · by_cases hroom : n + m ≤ cap
    · have hsz : n * i.size + news.length ≤ cur.size := by rw [hs.newsLen, hcs, ← Nat.add_mul]; exact Nat.mul_le_mul_right _ hroom
      have hr := run_append_room_src (P := P) w t tx ty e i ht hi g 0 n cap x m news hs hroom (fun j hj => by
        rw [cell_of_row w g _ cur e (0, 0) hg, Array.getElem?_eq_getElem (by omega)]
        rfl) (fun j hj => frozen_of_row w g _ cur e hg)
      rw [Nat.zero_add] at hr
      refine ⟨_, _, hr, ⟨hlen, .inr ⟨g, cap, _, rfl, hbg, heap_setCells g e (0, 0) news (n * i.size) w cur hg hsz, hroom, hcm, ?_, ?_⟩⟩, (fr_setCells g news _ w).toGrown (row := some g), Or.inl rfl⟩
      · rw [List.size_toArray, over_length _ _ _ (by simpa using hsz)]
        simpa using hcs
      · simp only [over]
        rw [htake, ← hlen]
        exact List.take_left
    · refine hgrow (some ⟨g, 0, none⟩) cap rfl (by omega) ?_
      have := run_firstCells_some (P := P) w.drew i.size n ⟨g, 0, none⟩ n cap xs hown.1 (fun j u hu => by
        rw [add_at, Nat.zero_add]
        rw [show w.drew.cell? ⟨g, j, none⟩ = w.cell? ⟨g, j, none⟩ from rfl, cell_of_row w g _ cur e (0, 0) hg]
        rw [← htake] at hu
        rw [List.getElem?_take] at hu
        split at hu
        · simpa using hu
        · cases hu)
      exact this

theorem Rd.rdv {w : World} {A : Option Addr} {l : List UInt8} (h : Rd w A l) : Rdv w A (l.map bv) := fun j hj => by
  have hj' : j < l.length := by simpa using hj
  obtain ⟨ad, e, hc⟩ := h j hj'
  exact ⟨ad, e, by simpa using hc⟩
theorem Rdv.rd {w : World} {A : Option Addr} {l : List UInt8} (h : Rdv w A (l.map bv)) : Rd w A l := fun j hj => by
  obtain ⟨ad, e, hc⟩ := h j (by simpa using hj)
  exact ⟨ad, e, by simpa using hc⟩
theorem bv_one (l : List UInt8) : ∀ u ∈ l.map bv, u.oneCell' = true := by
  intro u hu
  obtain ⟨_, _, rfl⟩ := List.mem_map.1 hu
  rfl
theorem Sl.src {P : Program} {w : World} {A : Option Addr} {n : Nat} {l : List UInt8} (h : Sl w A n l) {tx e' : TypeId} (hk : P.underlying tx = some (.slice e')) (c : Nat) : Src P 1 tx (.slice A n c) n (l.map bv) w :=
  src_of_rdv hk h.2.rdv (by simp [h.1]) (by decide) (bv_one _)
theorem own_sl {w : World} {base : Nat} {A : Option Addr} {n c k : Nat} {l : List UInt8} (h : w.ownsRow base 5 1 (.slice A n c) k (l.map bv)) : Sl w A n l := by
  have h1 := h.1
  have h2 : n = k := by rcases h.2 with ⟨hv, rfl⟩ | ⟨g, cap, cur, hv, _⟩ <;> (injection hv)
  simp at h1
  refine ⟨by omega, Rdv.rd ?_⟩
  intro j hj
  rcases h.2 with ⟨hv, rfl⟩ | ⟨g, cap, cur, hv, _⟩
  · simp at hj
    omega
  · injection hv with hA
    subst hA
    exact ⟨_, rfl, h.cells (g := g) (by simp [Value.ownBlock]) j _ (List.getElem?_eq_getElem hj)⟩
theorem own_empty (w : World) (e : TypeId) (size : Nat) : (w.alloc (.cells #[] e)).ownsRow w.heap.size e size (.slice (some ⟨w.heap.size, 0, none⟩) 0 0) 0 [] :=
  ⟨by simp, .inr ⟨w.heap.size, 0, #[], rfl, Nat.le_refl _, heap_alloc_new w _, Nat.le_refl _, Nat.zero_le _, by simp, by simp⟩⟩
theorem own_drewN {w : World} {base : Nat} {e : TypeId} {size : Nat} {v : Value} {n : Nat} {xs : List Value} (h : w.ownsRow base e size v n xs) (k : Nat) : (w.drewN k).ownsRow base e size v n xs := h
/-- What a row of the call's own reads as. -/
theorem own_rdv {w : World} {base : Nat} {e : TypeId} {size : Nat} {A : Option Addr} {n c k : Nat} {xs : List Value} (h : w.ownsRow base e size (.slice A n c) k xs) : Rdv w A xs := by
  intro j hj
  rcases h.2 with ⟨hv, rfl⟩ | ⟨g, cap, cur, hv, _⟩
  · have := h.1
    simp at this
    subst this
    simp at hj
  · injection hv with hA
    subst hA
    exact ⟨_, rfl, h.cells (g := g) (by simp [Value.ownBlock]) j _ (List.getElem?_eq_getElem hj)⟩
theorem own_form {w : World} {base : Nat} {e : TypeId} {size : Nat} {v : Value} {n : Nat} {xs : List Value} (h : w.ownsRow base e size v n xs) : ∃ A c, v = .slice A n c := by
  rcases h.2 with ⟨rfl, rfl⟩ | ⟨g, cap, cur, rfl, _⟩
  · exact ⟨_, _, rfl⟩
  · exact ⟨_, _, rfl⟩


/-- The builtin append where its run is known. -/
theorem wp_append_run {P : Program} {w w' : World} {o : Oper} {a : Act} {K : Act → World → Prop} {Q : Exit → Act → World → Prop} (s x : Operand) (t tx : TypeId)
    (ho : o.op = .call { callee := .builtin .append, args := #[s, x], argTypes := #[t, tx] }) {v u v' : Value} (hs : a.eval s = v) (hx : a.eval x = u)
    (hrun : (Builtin.append_ #[t, tx] o.type #[v, u]).run P w = .ok v' w') (h : K (a.put o.dst v') w') : o.wp P a w K Q := by
  unfold Oper.wp execOp
  simp only [ho, resolve, invoke, builtin, Sem.run_bind, Sem.run_pure, Result.andThen_ok, List.map_toArray, List.map_cons, List.map_nil, hs, hx, hrun]
  exact h
theorem wpList_append_run {P : Program} {w w' : World} {ops : Array Oper} {rest : List Oper} {o : Oper} {a : Act} {Q : Exit → Act → World → Prop} (hgd : o.guard = none) (s x : Operand) (t tx : TypeId)
    (ho : o.op = .call { callee := .builtin .append, args := #[s, x], argTypes := #[t, tx] }) {v u v' : Value} (hs : a.eval s = v) (hx : a.eval x = u)
    (hrun : (Builtin.append_ #[t, tx] o.type #[v, u]).run P w = .ok v' w') (h : wpList P ops Q rest (a.put o.dst v') w') : wpList P ops Q (o :: rest) a w :=
  wpList_plain hgd fun _ hK => wp_append_run s x t tx ho hs hx hrun (hK _ _ h)
theorem step_append_run {P : Program} {w w' : World} {ops : Array Oper} {o : Oper} {a : Act} {K : Act → World → Prop} {Q : Exit → Act → World → Prop} {E : Prop} (hgd : o.guard = none) (s x : Operand) (t tx : TypeId)
    (ho : o.op = .call { callee := .builtin .append, args := #[s, x], argTypes := #[t, tx] }) {v u v' : Value} (hs : a.eval s = v) (hx : a.eval x = u)
    (hrun : (Builtin.append_ #[t, tx] o.type #[v, u]).run P w = .ok v' w') (h : K (a.put o.dst v') w') :
    if Region.wanted o (yielded ops a.tmps) = true then Oper.wp P o a w K Q else E := by
  have hw : Region.wanted o (yielded ops a.tmps) = true := by simp [Region.wanted, hgd]
  rw [if_pos hw]
  exact wp_append_run s x t tx ho hs hx hrun h


theorem cutA_zero (A : Option Addr) (cap : Nat) : cutA A cap 0 = A := by
  unfold cutA
  split
  · rfl
  · cases A <;> simp [Addr.add]
/-- A byte of a buffer's row is written. -/
theorem Buf.setRow {w : World} {b g : Nat} {row : List UInt8} {len off : Nat} {lr : Int} (h : Buf w b (some g) row len off lr) (i : Nat) (c : UInt8) : Buf (w.setCell ⟨g, i, none⟩ (.int .u8 (c.toNat : Int))) b (some g) (row.set i c) len off lr := by
  obtain ⟨hne, hR⟩ := h.some_ g rfl
  refine ⟨?_, h.off_le, by simpa using h.len_le, by simpa using h.cap_le, by simp, ?_⟩
  · have := h.blk.far (p := ⟨g, i, none⟩) (Ne.symm hne) (.int .u8 (c.toNat : Int))
    simpa using this
  · rintro x ⟨⟩
    exact ⟨hne, hR.set_ i c⟩
theorem unread_set (l pad : List UInt8) (i : Nat) (c : UInt8) (h : i < l.length) : unread ((l ++ pad).set i c) l.length 0 = l.set i c := by
  simp [unread, h]

/-- A slice of n elements that reads as the cells vs. -/
def Slv (w : World) (A : Option Addr) (n : Nat) (vs : List Value) : Prop := n = vs.length ∧ Rdv w A vs
theorem Slv.fr {S : List Nat} {w w' : World} {A : Option Addr} {n : Nat} {vs : List Value} (h : Slv w A n vs) (hf : Fr S w w') (hn : ∀ ad, A = some ad → ad.block ∉ S) : Slv w' A n vs := by
  refine ⟨h.1, fun j hj => ?_⟩
  obtain ⟨ad, e, hc⟩ := h.2 j hj
  refine ⟨ad, e, ?_⟩
  have hlt := block_lt_of_cell hc
  rw [hf.cell hlt (by rw [block_add]; exact hn ad e)]
  exact hc
/-- .. and what is new since then does not matter. -/
theorem Slv.fr_old {S : List Nat} {w w' : World} {A : Option Addr} {n : Nat} {vs : List Value} (h : Slv w A n vs) (hf : Fr S w w') (hn : ∀ k ∈ S, w.heap.size ≤ k) : Slv w' A n vs := by
  refine ⟨h.1, fun j hj => ?_⟩
  obtain ⟨ad, e, hc⟩ := h.2 j hj
  refine ⟨ad, e, ?_⟩
  have hlt := block_lt_of_cell hc
  rw [hf.cell hlt (fun hs => by have := hn _ hs; omega)]
  exact hc
theorem Slv.at_ {w : World} {A : Option Addr} {n : Nat} {vs : List Value} (h : Slv w A n vs) {k : Nat} (hk : k < n) : ∃ ad u, A = some ad ∧ vs[k]? = some u ∧ w.cell? (ad.add k) = some u := by
  have hk' : k < vs.length := by rw [← h.1]; exact hk
  obtain ⟨ad, e, hc⟩ := h.2 k hk'
  exact ⟨ad, _, e, List.getElem?_eq_getElem hk', hc⟩
theorem Slv.src {P : Program} {w : World} {A : Option Addr} {n : Nat} {vs : List Value} (h : Slv w A n vs) {tx e' : TypeId} (hk : P.underlying tx = some (.slice e')) (c : Nat) (h1 : ∀ u ∈ vs, u.oneCell' = true) : Src P 1 tx (.slice A n c) n vs w :=
  src_of_rdv hk h.2 (by simp [h.1]) (by decide) h1
theorem own_slv {w : World} {base : Nat} {e : TypeId} {A : Option Addr} {n c k : Nat} {xs : List Value} (h : w.ownsRow base e 1 (.slice A n c) k xs) : Slv w A n xs := by
  have h1 := h.1
  have h2 : n = k := by rcases h.2 with ⟨hv, rfl⟩ | ⟨g, cap, cur, hv, _⟩ <;> (injection hv)
  exact ⟨by omega, own_rdv h⟩
/-- The source of 'append(out, u)': a new block of one cell. -/
theorem src_one {P : Program} (w : World) (u : Value) (e e' tx : TypeId) (hk : P.underlying tx = some (.slice e')) (h1 : u.oneCell' = true) (c : Nat) : Src P 1 tx (.slice (some ⟨w.heap.size, 0, none⟩) 1 c) 1 [u] (w.alloc (.cells #[u] e)) := by
  refine Src.ofSlice _ hk _ 1 c [u] (by simp) (World.news_of_block (cs := #[u]) (heap_alloc_new w _)) ?_
  intro x hx
  simp at hx
  rw [hx]
  exact h1
/-- Rows of other element types lie elsewhere. -/
theorem own_ne_blk {w : World} {base : Nat} {e t : TypeId} {size n g : Nat} {v : Value} {xs : List Value} {cs : Array Value} (h : w.ownsRow base e size v n xs) (hg : Blk w g t cs) (hne : e ≠ t) : ∀ x, v.ownBlock = some x → x ≠ g := by
  intro x hx
  rcases h.2 with ⟨rfl, _⟩ | ⟨g', cap, cur, rfl, _, hh, _⟩
  · simp [Value.ownBlock] at hx
  · simp [Value.ownBlock] at hx
    subst hx
    exact Blk.ne_ (t := e) hh hg hne
theorem own_ne_row {w : World} {base : Nat} {e : TypeId} {size n g : Nat} {v : Value} {xs : List Value} {l : List UInt8} (h : w.ownsRow base e size v n xs) (hg : Row w g l) (hne : e ≠ 5) : ∀ x, v.ownBlock = some x → x ≠ g := by
  rintro x hx rfl
  obtain ⟨lo, hi, hr, _⟩ := hg
  rcases h.2 with ⟨rfl, _⟩ | ⟨g', cap, cur, rfl, _, hh, _⟩
  · simp [Value.ownBlock] at hx
  · simp [Value.ownBlock] at hx
    subst hx
    rw [hr] at hh
    injection hh with hh
    injection hh with _ ht
    exact hne ht.symm


/-- A slice whose elements have several cells, at the head of a row: what it reads as. -/
def Rs (w : World) (A : Option Addr) (n size : Nat) (vs : List Value) : Prop := vs.length = n * size ∧ (0 < n → ∃ g, A = some ⟨g, 0, none⟩ ∧ ∀ j (hj : j < vs.length), w.cell? ⟨g, j, none⟩ = some vs[j])
theorem own_rs {w : World} {base : Nat} {e : TypeId} {size n c : Nat} {A : Option Addr} {xs : List Value} (h : w.ownsRow base e size (.slice A n c) n xs) : Rs w A n size xs := by
  refine ⟨h.1, fun hn => ?_⟩
  obtain ⟨g, cap, hv, _, _⟩ := h.form hn
  injection hv with hA
  subst hA
  refine ⟨g, rfl, fun j hj => ?_⟩
  have := h.cells (g := g) (by simp [Value.ownBlock]) j _ (List.getElem?_eq_getElem hj)
  rwa [add_at, Nat.zero_add] at this
theorem Rs.fr_old {S : List Nat} {w w' : World} {A : Option Addr} {n size : Nat} {vs : List Value} (h : Rs w A n size vs) (hf : Fr S w w') (hn : ∀ k ∈ S, w.heap.size ≤ k) : Rs w' A n size vs := by
  refine ⟨h.1, fun h0 => ?_⟩
  obtain ⟨g, rfl, hc⟩ := h.2 h0
  refine ⟨g, rfl, fun j hj => ?_⟩
  have hlt := block_lt_of_cell (hc j hj)
  rw [hf.cell hlt (fun hs => by have := hn _ hs; simp at hlt; simp at this; omega)]
  exact hc j hj
theorem Rs.drewN {w : World} {A : Option Addr} {n size : Nat} {vs : List Value} (h : Rs w A n size vs) (k : Nat) : Rs (w.drewN k) A n size vs := h
theorem Rs.get {w : World} {A : Option Addr} {n size : Nat} {vs : List Value} (h : Rs w A n size vs) (h0 : 0 < n) : ∃ g, A = some ⟨g, 0, none⟩ ∧ ∀ j u, vs[j]? = some u → w.cell? ⟨g, j, none⟩ = some u := by
  obtain ⟨g, rfl, hc⟩ := h.2 h0
  refine ⟨g, rfl, fun j u hu => ?_⟩
  obtain ⟨hj, rfl⟩ := List.getElem?_eq_some_iff.1 hu
  exact hc j hj
/-- The source of 'append(out, E)' where E has several cells: a new block. -/
theorem src_blk {P : Program} (w : World) (vs : Array Value) (e e' tx : TypeId) (hk : P.underlying tx = some (.slice e')) (size : Nat) (hs : vs.size = size) (h1 : ∀ u ∈ vs.toList, u.oneCell' = true) (c : Nat) : Src P size tx (.slice (some ⟨w.heap.size, 0, none⟩) 1 c) 1 vs.toList (w.alloc (.cells vs e)) :=
  Src.ofSlice _ hk _ 1 c vs.toList (by simp [hs]) (World.news_of_block (cs := vs) (heap_alloc_new w _)) h1


/-- A buffer behind an append to another row. -/
theorem Buf.app {w2 w' : World} {base : Nat} {e : TypeId} {size n : Nat} {v : Value} {xs : List Value} {o : Obj} {b : Nat} {g : Option Nat} {row : List UInt8} {len off : Nat} {lr : Int} (hB : Buf w2 b g row len off lr) (ho : w2.ownsRow base e size v n xs)
    (hg : (w2.alloc o).grownBy w' v.ownBlock) (he : e ≠ 81) (he5 : e ≠ 5) : Buf w' b g row len off lr := by
  have hbb := own_ne_blk (ho.alloc o) (hB.alloc _).blk he
  refine (hB.alloc _).fr (Fr.of_grown hg) ?_ ?_
  · intro hm
    simp only [Option.mem_toList] at hm
    exact hbb b hm rfl
  · intro y hy hm
    have hrr := own_ne_row (ho.alloc o) ((hB.alloc o).some_ y hy).2 he5
    simp only [Option.mem_toList] at hm
    exact hrr y hm rfl
/-- The frame behind an append to a row of the call's own. -/
theorem Fr.app {w w2 w' : World} {S : List Nat} {e : TypeId} {size n : Nat} {v : Value} {xs : List Value} {o : Obj} (hf : Fr S w w2) (ho : w2.ownsRow w.heap.size e size v n xs) (hg : (w2.alloc o).grownBy w' v.ownBlock) : Fr S w w' := by
  refine (hf.alloc o).grown hg ?_
  intro y hy
  exact .inr ((ho.alloc o).lt y hy).1

end Go.Proofs.YtgniidnbpkhmcaaDoor
