/- A strings.Builder in a block of its own: its row, whose head may be frozen; append onto such a row. The contracts of strings.Builder's functions. strings.Builder's Grow. Builders: written with strings, slices, single bytes. A builder written with code points. A builder that is grown, and the panic that is caught. The law on Next. Builders: reset, grown. -/
import Derived.Test.YtgjaeggpaomoaaaDoorBuf
import Derived.Lib.Builder
import Derived.Lib.UnsafeStr
import Derived.Lib.MakeNoZero
import Derived.Laws.Externs
import Derived.Deep.RegionWith
import Derived.Deep.DrawnRows
import Derived.WalkLawsBesides
import Derived.Test.YtgjaeggpaomoaaaDoorCopy
import Derived.Test.YtgjaeggpaomoaaaDoorNums
import Derived.Test.YtgjaeggpaomoaaaDoorRune
import Derived.Defers
import Derived.Recover
import Derived.Test.YtgjaeggpaomoaaaDoorSpec
import Derived.Test.YtgjaeggpaomoaaaDoorChunks
import Derived.LoopTactic
namespace Go.Proofs.YtgjaeggpaomoaaaDoor
open Go.RowKit
set_option linter.unusedVariables false

/-- A row of bytes of which at most the first n are frozen. -/
def RowF (w : World) (g : Nat) (l : List UInt8) (n : Nat) : Prop := ∃ lo hi, w.heap[g]? = some (.cells (bvs l) 5 (lo, hi)) ∧ hi ≤ n
section
variable {w w' : World} {g : Nat} {l : List UInt8} {n : Nat}
theorem RowF.lt (h : RowF w g l n) : g < w.heap.size := by obtain ⟨_, _, h, _⟩ := h; exact heap_lt h
theorem RowF.cell (h : RowF w g l n) (i : Nat) : w.cell? ⟨g, i, none⟩ = l[i]?.map bv := by obtain ⟨_, _, h, _⟩ := h; rw [cell_of_row w g i _ _ _ h, bvs_get]
theorem RowF.frozen (h : RowF w g l n) {i : Nat} (hi : n ≤ i) : w.frozen? ⟨g, i, none⟩ = false := by
  obtain ⟨lo, hi', h, hf⟩ := h
  simp [World.frozen?, h]
  omega
theorem RowF.fr {S : List Nat} (h : RowF w g l n) (hf : Fr S w w') (hn : g ∉ S) : RowF w' g l n := by
  obtain ⟨lo, hi, h1, h2⟩ := h
  exact ⟨lo, hi, (hf.block g (heap_lt h1) hn).trans h1, h2⟩
theorem RowF.more {m : Nat} (h : RowF w g l n) (hm : n ≤ m) : RowF w g l m := by
  obtain ⟨lo, hi, h1, h2⟩ := h
  exact ⟨lo, hi, h1, by omega⟩
theorem RowF.shape (h : RowF w g l n) : w.shape? g = some (5, l.length) := by
  obtain ⟨lo, hi, h1, h2⟩ := h
  simp [World.shape?, h1, bvs_size]
theorem RowF.rd (h : RowF w g l n) (o k : Nat) : Rd w (some ⟨g, o, none⟩) ((l.drop o).take k) := by
  intro j hj
  refine ⟨_, rfl, ?_⟩
  have hj' : j < k ∧ o + j < l.length := by simp at hj; omega
  rw [add_at, h.cell, List.getElem?_eq_getElem hj'.2]
  simp
theorem RowF.freeze (h : RowF w g l n) : RowF (w.freeze ⟨g, 0, none⟩ n) g l n := by
  obtain ⟨lo, hi, h1, h2⟩ := h
  unfold World.freeze
  split
  · exact ⟨lo, hi, h1, h2⟩
  · by_cases e : lo = hi
    · exact ⟨0, n, by simp [Array.getElem?_modify, h1, e], Nat.le_refl _⟩
    · exact ⟨min lo 0, max hi n, by simp [Array.getElem?_modify, h1, e], by omega⟩
end
theorem fr_freeze (g n : Nat) (w : World) : Fr [g] w (w.freeze ⟨g, 0, none⟩ n) := by
  unfold World.freeze
  split
  · exact Fr.refl _ _
  · refine ⟨rfl, rfl, rfl, by simp, fun k hk hn => ?_⟩
    simp only [Array.getElem?_modify]
    rw [if_neg (by simp at hn; omega)]

/-- A strings.Builder in block b: its first field, its row (if it has one), the row's bytes, the length. -/
structure BldP (w : World) (b : Nat) (p : Value) (g : Option Nat) (row : List UInt8) (len : Nat) : Prop where
  blk : Blk w b 62 #[p, .slice (g.map fun g => ⟨g, 0, none⟩) len row.length]
  len_le : len ≤ row.length
  cap_le : row.length ≤ 9223372036854775807
  none_ : g = none → row = []
  some_ : ∀ x, g = some x → x ≠ b ∧ RowF w x row len
section
variable {w w' : World} {b : Nat} {p : Value} {g : Option Nat} {row : List UInt8} {len : Nat}
theorem BldP.c0 (h : BldP w b p g row len) : w.cell? ⟨b, 0, none⟩ = some p := by rw [h.blk.cell]; rfl
theorem BldP.c1 (h : BldP w b p g row len) : w.cell? ⟨b, 1, none⟩ = some (.slice (g.map fun g => ⟨g, 0, none⟩) len row.length) := by rw [h.blk.cell]; rfl
theorem BldP.fz (h : BldP w b p g row len) (i : Nat) : w.frozen? ⟨b, i, none⟩ = false := h.blk.frozen i
theorem BldP.shape (h : BldP w b p g row len) : w.shape? b = some (62, 2) := by
  have := h.blk
  unfold Blk at this
  simp [World.shape?, this]
theorem BldP.fr {S : List Nat} (h : BldP w b p g row len) (hf : Fr S w w') (hb : b ∉ S) (hg : ∀ x, g = some x → x ∉ S) : BldP w' b p g row len :=
  ⟨h.blk.fr hf hb, h.len_le, h.cap_le, h.none_, fun x e => ⟨(h.some_ x e).1, (h.some_ x e).2.fr hf (hg x e)⟩⟩
theorem BldP.drewN (h : BldP w b p g row len) (n : Nat) : BldP (w.drewN n) b p g row len := h.fr ((Fr.refl [] w).drewN n) (by simp) (by simp)
theorem BldP.drew (h : BldP w b p g row len) : BldP w.drew b p g row len := h.fr ((Fr.refl [] w).drew) (by simp) (by simp)
theorem BldP.alloc (h : BldP w b p g row len) (o : Obj) : BldP (w.alloc o) b p g row len := h.fr ((Fr.refl [] w).alloc o) (by simp) (by simp)
theorem BldP.set0 (h : BldP w b p g row len) (q : Value) : BldP (w.setCell ⟨b, 0, none⟩ q) b q g row len :=
  ⟨h.blk.set_ 0 _, h.len_le, h.cap_le, h.none_, fun y e => ⟨(h.some_ y e).1, (h.some_ y e).2.fr ((Fr.refl [b] w).setCell (.inl (by simp)) _) (by simpa using (h.some_ y e).1)⟩⟩
theorem BldP.rd (h : BldP w b p g row len) (o n : Nat) : Rd w (g.map fun g => ⟨g, o, none⟩) ((row.drop o).take n) := by
  cases g with
  | none => rw [h.none_ rfl]; simp; exact Rd.nil _ _
  | some x => exact (h.some_ x rfl).2.rd o n
theorem BldP.sl (h : BldP w b p g row len) : Sl w (g.map fun g => ⟨g, 0, none⟩) len (row.take len) := by
  have := h.rd 0 len
  have hl := h.len_le
  exact ⟨by simp; omega, by simpa using this⟩
end
/-- A builder that may be written or not. -/
def Bld (w : World) (b : Nat) (g : Option Nat) (row : List UInt8) (len : Nat) : Prop := ∃ p, (p = .pointer none ∨ p = .pointer (some ⟨b, 0, none⟩)) ∧ BldP w b p g row len
section
variable {w w' : World} {b : Nat} {g : Option Nat} {row : List UInt8} {len : Nat}
theorem Bld.len_le (h : Bld w b g row len) : len ≤ row.length := by obtain ⟨p, _, h⟩ := h; exact h.len_le
theorem Bld.cap_le (h : Bld w b g row len) : row.length ≤ 9223372036854775807 := by obtain ⟨p, _, h⟩ := h; exact h.cap_le
theorem Bld.lt (h : Bld w b g row len) : b < w.heap.size := by obtain ⟨p, _, h⟩ := h; exact h.blk.lt
theorem Bld.fr {S : List Nat} (h : Bld w b g row len) (hf : Fr S w w') (hb : b ∉ S) (hg : ∀ x, g = some x → x ∉ S) : Bld w' b g row len := by obtain ⟨p, hp, h⟩ := h; exact ⟨p, hp, h.fr hf hb hg⟩
theorem Bld.alloc (h : Bld w b g row len) (o : Obj) : Bld (w.alloc o) b g row len := h.fr ((Fr.refl [] w).alloc o) (by simp) (by simp)
theorem Bld.drewN (h : Bld w b g row len) (n : Nat) : Bld (w.drewN n) b g row len := h.fr ((Fr.refl [] w).drewN n) (by simp) (by simp)
/-- A new one. -/
theorem Bld.made (w : World) : Bld (w.alloc (.cells #[.pointer none, .slice none 0 0] 62)) w.heap.size none [] 0 :=
  ⟨_, .inl rfl, Blk.new w _ _, Nat.le_refl _, by simp, by simp, by simp⟩
/-- A builder behind an append to another row. -/
theorem Bld.app {w2 w' : World} {base : Nat} {e : TypeId} {size n : Nat} {v : Value} {xs : List Value} {o : Obj} (hB : Bld w2 b g row len) (ho : w2.ownsRow base e size v n xs)
    (hg : (w2.alloc o).grownBy w' v.ownBlock) (he : e ≠ 62) (he5 : e ≠ 5) : Bld w' b g row len := by
  obtain ⟨p, hp, hB⟩ := hB
  have hbb := own_ne_blk (ho.alloc o) (hB.alloc _).blk he
  refine ⟨p, hp, (hB.alloc _).fr (Fr.of_grown hg) ?_ ?_⟩
  · intro hm
    simp only [Option.mem_toList] at hm
    exact hbb b hm rfl
  · intro y hy hm
    simp only [Option.mem_toList] at hm
    obtain ⟨lo, hi, hr, _⟩ := ((hB.alloc o).some_ y hy).2
    rcases (ho.alloc o).2 with ⟨rfl, _⟩ | ⟨g', cap, cur, rfl, _, hh, _⟩
    · simp [Value.ownBlock] at hm
    · simp [Value.ownBlock] at hm
      subst hm
      rw [hr] at hh
      injection hh with hh
      injection hh with _ ht
      exact he5 ht.symm
end

theorem bvs_app (a b : List UInt8) : ((a ++ b).map bv) = a.map bv ++ b.map bv := List.map_append
theorem bvs_zero (a : List UInt8) (k : Nat) : (a.map bv).toArray ++ Builtin.zeroCells (Value.int .u8 0).cells k = bvs (a ++ List.replicate k 0) := by
  apply Array.ext'
  simp [bvs, Builtin.zeroCells, Value.cells, bv, Nat.mod_one, List.map_const']

/-- The row behind an append. -/
structure Apped (w w' : World) (g g' : Option Nat) (row row' : List UInt8) (len m : Nat) (news : List UInt8) : Prop where
  row_ : ∀ x, g' = some x → RowF w' x row' (len + m)
  none_ : g' = none → row' = []
  len_le : len + m ≤ row'.length
  cap_le : row'.length ≤ 9223372036854775807
  reads : row'.take (len + m) = row.take len ++ news
  keeps : len + m ≤ row.length → row'.length = row.length
  fr : Fr g.toList w w'
  at_ : ∀ x, g' = some x → g = some x ∨ w.heap.size ≤ x

theorem run_app_f {P : Program} (w : World) (t tx ty : TypeId) (ht : P.underlying t = some (.slice 5)) (hinfo : (P.info? 5).map (fun i => (i.zero, i.size, i.bytes)) = some (some (.int .u8 0), 1, 1))
    (g : Option Nat) (row : List UInt8) (len : Nat) (hlen : len ≤ row.length) (hcap : row.length ≤ 9223372036854775807) (hnone : g = none → row = []) (hrow : ∀ x, g = some x → RowF w x row len)
    (x : Value) (m : Nat) (news : List UInt8) (hs : Src P 1 tx x m (news.map bv) w) (hb : len + m ≤ 140737488351232) :
    ∃ g' row' w', (Builtin.append_ #[t, tx] ty #[.slice (g.map fun g => ⟨g, 0, none⟩) len row.length, x]).run P w = .ok (.slice (g'.map fun g => ⟨g, 0, none⟩) (len + m) row'.length) w' ∧ Apped w w' g g' row row' len m news := by
  obtain ⟨i, hi, hz, hsz, hby⟩ : ∃ i, P.info? 5 = some i ∧ i.zero = some (.int .u8 0) ∧ i.size = 1 ∧ i.bytes = 1 := by
    cases hi : P.info? 5 with
    | none => simp [hi] at hinfo
    | some i => simp [hi] at hinfo; exact ⟨i, rfl, hinfo.1, hinfo.2.1, hinfo.2.2⟩
  have hnl : news.length = m := by simpa using hs.newsLen
  by_cases hroom : len + m ≤ row.length
  · cases g with
    | none =>
      obtain rfl := hnone rfl
      simp at hroom
      obtain ⟨rfl, rfl⟩ := hroom
      obtain rfl : news = [] := List.eq_nil_of_length_eq_zero hnl
      refine ⟨none, [], w, ?_, ⟨by simp, by simp, by simp, by simp, by simp, by simp, Fr.refl _ _, by simp⟩⟩
      have hc := hs.cells
      rcases hs.kind with ⟨e', hk⟩ | hk <;> simp [Builtin.append_, run_underlying ht, run_underlying hk, sizeOf, typeInfo, hi, hsz, hs.len, hc]
    | some y =>
      have hR := hrow y rfl
      have hr := run_append_room_src (P := P) w t tx ty 5 i ht hi y 0 len row.length x m (news.map bv) (by rw [hsz]; exact hs) hroom (fun j hj => by
        simp at hj
        rw [hsz, hR.cell, List.getElem?_eq_getElem (by omega)]
        rfl) (fun j hj => hR.frozen (by rw [hsz]; omega))
      rw [hsz, Nat.mul_one, Nat.zero_add] at hr
      have hol : (over row len news).length = row.length := over_length _ _ _ (by omega)
      refine ⟨some y, over row len news, _, by rw [hol]; exact hr, ⟨?_, by simp, by omega, by omega, ?_, fun _ => hol, fr_setCells y _ _ _, by simp⟩⟩
      · rintro z ⟨⟩
        obtain ⟨lo, hi', h1, h2⟩ := hR
        refine ⟨lo, hi', ?_, by omega⟩
        rw [heap_setCells y 5 (lo, hi') (news.map bv) len w _ h1 (by rw [bvs_size]; simp; omega)]
        simp [bvs, over_map]
      · unfold over
        rw [List.take_append_of_le_length (by simp; omega), List.take_of_length_le (by simp; omega)]
  · have hfit : Builtin.nextslicecap (len + m) row.length * i.bytes ≤ 281474976710656 := by
      rw [hby, Nat.mul_one]
      exact Nat.le_trans (nextcap_le _ _ (by omega)) (by omega)
    have hold : (Builtin.firstCells i.size len (.slice (g.map fun g => ⟨g, 0, none⟩) len row.length)).run P w.drew = .ok ((row.take len).map bv).toArray w.drew := by
      rw [hsz]
      cases g with
      | none =>
        obtain rfl := hnone rfl
        simp at hlen
        subst hlen
        simp [Builtin.firstCells]
      | some y =>
        have hR := hrow y rfl
        refine run_firstCells_some (P := P) w.drew 1 len ⟨y, 0, none⟩ len row.length _ (by simp; omega) (fun j u hu => ?_)
        rw [add_at, Nat.zero_add]
        rw [show w.drew.cell? ⟨y, j, none⟩ = w.cell? ⟨y, j, none⟩ from rfl, hR.cell]
        rw [List.getElem?_map, List.getElem?_take] at hu
        split at hu
        · exact hu
        · cases hu
    have hr := run_append_grow_src (P := P) w t tx ty 5 i (.int .u8 0) ht hi hz (g.map fun g => ⟨g, 0, none⟩) len row.length ((row.take len).map bv) hold x m (news.map bv) (by rw [hsz]; exact hs) (by omega) (by omega) hfit
    have hge := grownCap_ge w (len + m) row.length 5
    have hcm : grownCap w (len + m) row.length 5 ≤ maxLen := grownCap_le_maxLen w (len + m) row.length 5 (by unfold maxLen; omega)
    unfold maxLen at hcm
    generalize grownCap w (len + m) row.length 5 = c at *
    rw [← bvs_app, bvs_zero] at hr
    have hl : (row.take len ++ news ++ List.replicate (c - (len + m)) (0 : UInt8)).length = c := by simp; omega
    refine ⟨some w.heap.size, row.take len ++ news ++ List.replicate (c - (len + m)) 0, _, by rw [hl]; exact hr, ⟨?_, by simp, by omega, by omega, ?_, by omega, ?_, by simp⟩⟩
    · rintro z ⟨⟩
      exact ⟨0, 0, heap_alloc_new w.drew _, Nat.zero_le _⟩
    · exact List.take_left' (by simp; omega)
    · exact ((Fr.refl _ w).drew).alloc _

/-- The builder behind an append and the store of what it returns. -/
theorem BldP.put {w w' : World} {b : Nat} {p : Value} {g g' : Option Nat} {row row' : List UInt8} {len m : Nat} {news : List UInt8} (h : BldP w b p g row len) (ha : Apped w w' g g' row row' len m news) :
    BldP (w'.setCell ⟨b, 1, none⟩ (.slice (g'.map fun g => ⟨g, 0, none⟩) (len + m) row'.length)) b p g' row' (len + m) ∧ Fr (b :: g.toList) w (w'.setCell ⟨b, 1, none⟩ (.slice (g'.map fun g => ⟨g, 0, none⟩) (len + m) row'.length)) := by
  have hne : ∀ x, g = some x → x ≠ b := fun x e => (h.some_ x e).1
  have hb : b ∉ g.toList := fun hm => by simp only [Option.mem_toList] at hm; exact hne b hm rfl
  have hk : Blk w' b 62 _ := h.blk.fr ha.fr hb
  refine ⟨⟨hk.set_ 1 _, ha.len_le, ha.cap_le, ha.none_, fun x e => ?_⟩, ?_⟩
  · have hxb : x ≠ b := by
      rcases ha.at_ x e with h1 | h1
      · exact hne x h1
      · have := h.blk.lt; omega
    exact ⟨hxb, (ha.row_ x e).fr ((Fr.refl [b] w').setCell (.inl (by simp)) _) (by simpa using hxb)⟩
  · exact (ha.fr.more (fun i hi => List.mem_cons_of_mem _ hi)).setCell (.inl (by simp)) _
theorem Apped.blk {w w' : World} {g g' : Option Nat} {row row' : List UInt8} {len m : Nat} {news : List UInt8} {b : Nat} {p : Value} (ha : Apped w w' g g' row row' len m news) (h : BldP w b p g row len) : w'.cell? ⟨b, 1, none⟩ = w.cell? ⟨b, 1, none⟩ ∧ w'.frozen? ⟨b, 1, none⟩ = false := by
  have hne : ∀ x, g = some x → x ≠ b := fun x e => (h.some_ x e).1
  have hb : b ∉ g.toList := fun hm => by simp only [Option.mem_toList] at hm; exact hne b hm rfl
  exact ⟨ha.fr.cell (p := ⟨b, 1, none⟩) h.blk.lt hb, (h.blk.fr ha.fr hb).frozen 1⟩

/-- What MakeNoZero lays: some bytes. -/
theorem digits_bytes : ∀ (n t : Nat) (l : List UInt8), ∃ l' : List UInt8, Extern.BytealgMakeNoZero.digits n t (bvs l) = bvs l'
  | 0, t, l => ⟨l, rfl⟩
  | n + 1, t, l => by
    have e : (bvs l).push (.int .u8 (Int.ofNat (t % 256))) = bvs (l ++ [UInt8.ofNat (t % 256)]) := by
      apply Array.ext'
      simp [bvs, bv]
    rw [Extern.BytealgMakeNoZero.digits, e]
    exact digits_bytes n (t / 256) _
theorem run_makeNoZero_bytes {P : Program} (w : World) (ps : Array TypeId) (t : TypeId) (ht : P.underlying t = some (.slice 5)) (n : Nat) (hn : n ≤ 281474976710656) :
    ∃ l : List UInt8, (Extern.BytealgMakeNoZero.makeNoZero ps #[t] #[.int .i64 n]).run P w = .ok (.slice (some ⟨w.heap.size, 0, none⟩) n l.length) (w.drew.drew.alloc (.cells (bvs l) 5)) ∧ n ≤ l.length ∧ l.length ≤ 9223372036854775807 := by
  obtain ⟨cs, hrun, hge, hle⟩ := Lib.run_makeNoZero (P := P) w ps t 5 ht n hn
  have h1 : ¬ (n : Int) < 0 := by omega
  have h2 : ¬ (281474976710656 : Int) < (n : Int) := by omega
  have hr : Sem.run P (Bind.bind (underlying t) _ : Sem Value) w = .ok (Value.slice (some ⟨w.heap.size, 0, none⟩) n cs.size) (w.drew.drew.alloc (.cells cs 5)) := hrun
  simp [run_underlying ht, h1, h2, Question.forced, newRow] at hr
  have h3 := congrArg (fun W : World => W.heap[w.heap.size]?) hr.2
  have e1 : ∀ o, (w.drew.drew.alloc o).heap[w.heap.size]? = some o := fun o => heap_alloc_new w.drew.drew o
  simp only [e1] at h3
  injection h3 with h3
  injection h3 with h3
  obtain ⟨l, hl⟩ : ∃ l, cs = bvs l := by
    obtain ⟨l, hl⟩ := digits_bytes _ _ []
    exact ⟨l, h3.symm.trans hl⟩
  have hs : cs.size = l.length := by rw [hl, bvs_size]
  rw [hs] at hrun hge hle
  rw [hl] at hrun
  refine ⟨l, hrun, hge, ?_⟩
  have := hle (by unfold maxLen; omega)
  unfold maxLen at this
  exact this

end Go.Proofs.YtgjaeggpaomoaaaDoor

namespace Go.Proofs.YtgjaeggpaomoaaaDoor
open Go.RowKit
set_option linter.unusedVariables false
attribute [local go_sem ↓] Go.wp_at_zero Go.wp_at_succ

theorem info5b : (Tryd.prog.info? 5).map (fun i => (i.zero, i.size, i.bytes)) = some (some (.int .u8 0), 1, 1) := by kernel_rfl
theorem sizeB : (Tryd.prog.info? 62).map (·.size) = some 2 := by kernel_rfl
theorem liesB : liesAt Tryd.prog Tryd.prog.depth 62 (2 / Tryd.prog.cellsOf 62) 0 62 1 = true := by kernel_rfl

set_option maxHeartbeats 1000000 in
set_option maxRecDepth 100000 in
theorem Builder_copyCheck (w : World) {b : Nat} {g : Option Nat} {row : List UInt8} {len : Nat} (h : Bld w b g row len) :
    Calls Tryd.prog 72 #[.pointer (some ⟨b, 0, none⟩)] w fun e w' => e = .returned (.tuple #[]) ∧ BldP w' b (.pointer (some ⟨b, 0, none⟩)) g row len ∧ Fr [b] w w' := by
  obtain ⟨p, hp, h⟩ := h
  obtain ⟨j, hj, hjs⟩ := Option.map_eq_some_iff.1 sizeB
  have HB := Lib.hid h
  have h0 := h.c0
  have f0 := h.fz 0
  have hsh := h.shape
  clear h
  rcases hp with rfl | rfl
  · have H := Lib.hid hsh
    clear hsh
    go_enter Tryd.func72, Tryd.ntmps72
    go_wp2
    rw [Lib.run_to_unsafe w ⟨b, 0, none⟩ Tryd.underlying60 Tryd.underlying134 hj (by rw [hjs]; decide) H.out (Nat.zero_lt_succ 1)]
    simp only [Result.andThen]
    rw [Oper.upon_value]
    go_wp2
    rw [run_callFunc_extern Tryd.func89 (by kernel_rfl) (by kernel_rfl) (by kernel_rfl) (e := Extern.AbiNoEscape.same) (by kernel_rfl)]
    rw [Lib.run_noEscape]
    simp only [Result.andThen]
    rw [Oper.upon_value]
    go_wp2
    rw [Lib.run_from_unsafe w ⟨b, 0, none⟩ Tryd.underlying134 Tryd.underlying60 hj H.out liesB]
    simp only [Result.andThen]
    rw [Oper.upon_value]
    go_wp2
    go_end0
    exact ⟨rfl, HB.out.set0 _, (Fr.refl [b] w).setCell (.inl (by simp)) _⟩
  · go_enter Tryd.func72, Tryd.ntmps72
    go_wp2
    rw [Lib.run_neq_ptr_same w _ Tryd.underlying60 hj]
    go_wp2
    go_end0
    exact ⟨rfl, HB.out, Fr.refl _ _⟩

section
variable {b : Nat} {g : Option Nat} {row : List UInt8} {len : Nat} (w : World) (h : Bld w b g row len)
include h
theorem Builder_Len : Calls Tryd.prog 45 #[.pointer (some ⟨b, 0, none⟩)] w fun e w' => e = .returned (.int .i64 (len : Int)) ∧ w = w' := by
  obtain ⟨p, hp, h⟩ := h
  have c1 := h.c1
  clear h hp
  generalize (g.map fun g => (⟨g, 0, none⟩ : Addr)) = A at *
  generalize row.length = cap at *
  go_enter Tryd.func45, Tryd.ntmps45
  go_wp2
  go_ret
  exact ⟨rfl, rfl⟩
/-- What a write leaves. -/
structure Wrote (w w' : World) (b : Nat) (g : Option Nat) (row : List UInt8) (len : Nat) (news : List UInt8) (g' : Option Nat) (row' : List UInt8) (len' : Nat) : Prop where
  bld : Bld w' b g' row' len'
  len_ : len' = len + news.length
  reads : row'.take len' = row.take len ++ news
  keeps : len + news.length ≤ row.length → row'.length = row.length
  fr : Fr (b :: g.toList) w w'
  at_ : ∀ x, g' = some x → g = some x ∨ w.heap.size ≤ x

omit h in
theorem Wrote.of {w1 w2 : World} {g' : Option Nat} {row' : List UInt8} {m : Nat} {news : List UInt8} {w : World} {b : Nat} {g : Option Nat} {row : List UInt8} {len : Nat} {S : List Nat} (h : BldP w1 b (.pointer (some ⟨b, 0, none⟩)) g row len) (hf : Fr S w w1) (hS : ∀ i ∈ S, i = b ∨ w.heap.size ≤ i) (hg : ∀ x, g = some x → x < w.heap.size) (ha : Apped w1 w2 g g' row row' len m news) (hm : news.length = m) :
    Wrote w (w2.setCell ⟨b, 1, none⟩ (.slice (g'.map fun g => ⟨g, 0, none⟩) (len + m) row'.length)) b g row len news g' row' (len + m) := by
  obtain ⟨h1, h2⟩ := h.put ha
  subst hm
  refine ⟨⟨_, .inr rfl, h1⟩, rfl, ha.reads, ha.keeps, ?_, ?_⟩
  · have hf' : Fr (b :: g.toList) w w1 := ⟨hf.os, hf.tape, hf.output, hf.size, fun k hk hn => hf.block k hk (fun hs => by
      rcases hS k hs with h1 | h1
      · exact hn (by simp [h1])
      · omega)⟩
    exact hf'.trans h2
  · intro x e
    rcases ha.at_ x e with h3 | h3
    · exact .inl h3
    · exact .inr (Nat.le_trans hf.size h3)

set_option maxHeartbeats 1000000 in
theorem Builder_WriteString (l : List UInt8) (hl : len + l.length ≤ 140737488351232) : Calls Tryd.prog 40 #[.pointer (some ⟨b, 0, none⟩), .string ⟨l.toArray⟩] w fun e w' => ∃ g' row' len', e = .returned (.tuple #[.int .i64 (l.length : Int), .nilIface]) ∧ Wrote w w' b g row len l g' row' len' := by
  have hg : ∀ x, g = some x → x < w.heap.size := fun x e => by obtain ⟨p, _, h⟩ := h; exact (h.some_ x e).2.lt
  have HC := Lib.hid (Builder_copyCheck w h)
  clear h
  go_enter Tryd.func40, Tryd.ntmps40
  go_wp2_with fail
  refine HC.out.mono ?_
  rintro e w1 ⟨rfl, hB, hf⟩
  have hs := Src.ofString (P := Tryd.prog) w1 (tx := 9) Tryd.underlying9 ⟨l.toArray⟩
  rw [str_size] at hs
  have e1 : Go.byteCells ⟨l.toArray⟩ = l.map bv := by simp [Go.byteCells, bv]
  rw [e1] at hs
  obtain ⟨g', row', w2, hrun, ha⟩ := run_app_f (P := Tryd.prog) w1 22 9 22 Tryd.underlying22 info5b g row len hB.len_le hB.cap_le hB.none_ (fun x e => (hB.some_ x e).2) _ l.length l hs hl
  obtain ⟨d1, f1⟩ := ha.blk hB
  have c1 := hB.c1
  rw [c1] at d1
  go_wp2_with (at_builtin; refine wpList_append_run rfl _ _ _ _ rfl rfl rfl hrun ?_)
  go_ret2
  exact ⟨_, _, _, rfl, Wrote.of hB hf (by simp) hg ha rfl⟩

set_option maxHeartbeats 1000000 in
theorem Builder_Write (A : Option Addr) (n c : Nat) (l : List UInt8) (hS : Sl w A n l) (hA : 0 < n → ∀ ad, A = some ad → ad.block ≠ b) (hl : len + n ≤ 140737488351232) : Calls Tryd.prog 38 #[.pointer (some ⟨b, 0, none⟩), .slice A n c] w fun e w' => ∃ g' row' len', e = .returned (.tuple #[.int .i64 (n : Int), .nilIface]) ∧ Wrote w w' b g row len l g' row' len' := by
  have hg : ∀ x, g = some x → x < w.heap.size := fun x e => by obtain ⟨p, _, h⟩ := h; exact (h.some_ x e).2.lt
  have HC := Lib.hid (Builder_copyCheck w h)
  clear h
  go_enter Tryd.func38, Tryd.ntmps38
  go_wp2_with fail
  refine HC.out.mono ?_
  rintro e w1 ⟨rfl, hB, hf⟩
  have hS1 := hS.fr' hf (fun h0 ad e => by simpa using hA h0 ad e)
  obtain ⟨g', row', w2, hrun, ha⟩ := run_app_f (P := Tryd.prog) w1 22 22 22 Tryd.underlying22 info5b g row len hB.len_le hB.cap_le hB.none_ (fun x e => (hB.some_ x e).2) _ n l (hS1.src Tryd.underlying22 c) hl
  obtain ⟨d1, f1⟩ := ha.blk hB
  have c1 := hB.c1
  rw [c1] at d1
  have hn := Lib.hid hS.1
  clear hS hS1
  go_wp2_with (at_builtin; refine wpList_append_run rfl _ _ _ _ rfl rfl rfl hrun ?_)
  go_ret2
  exact ⟨_, _, _, rfl, Wrote.of hB hf (by simp) hg ha hn.out.symm⟩

set_option maxHeartbeats 1000000 in
theorem Builder_WriteByte (x : UInt8) (hl : len + 1 ≤ 140737488351232) : Calls Tryd.prog 41 #[.pointer (some ⟨b, 0, none⟩), .int .u8 (x.toNat : Int)] w fun e w' => ∃ g' row' len', e = .returned .nilIface ∧ Wrote w w' b g row len [x] g' row' len' := by
  have hg : ∀ x, g = some x → x < w.heap.size := fun x e => by obtain ⟨p, _, h⟩ := h; exact (h.some_ x e).2.lt
  have HC := Lib.hid (Builder_copyCheck w h)
  clear h
  go_enter Tryd.func41, Tryd.ntmps41
  go_wp2_with fail
  refine HC.out.mono ?_
  rintro e w1 ⟨rfl, hB, hf⟩
  have hB2 := hB.alloc (.cells #[.int .u8 (x.toNat : Int)] 5)
  obtain ⟨g', row', w2, hrun, ha⟩ := run_app_f (P := Tryd.prog) (w1.alloc (.cells #[.int .u8 (x.toNat : Int)] 5)) 22 22 22 Tryd.underlying22 info5b g row len hB2.len_le hB2.cap_le hB2.none_ (fun x e => (hB2.some_ x e).2) _ 1 [x] (src_one w1 _ 5 5 22 Tryd.underlying22 rfl 1) hl
  obtain ⟨d1, f1⟩ := ha.blk hB2
  have c1 := hB.c1
  rw [hB2.c1] at d1
  go_wp2_with (at_builtin; refine wpList_append_run rfl _ _ _ _ rfl rfl rfl hrun ?_)
  go_ret
  exact ⟨_, _, _, rfl, Wrote.of hB2 (hf.alloc _) (by simp) hg ha rfl⟩

end

set_option maxHeartbeats 2000000 in
set_option maxRecDepth 100000 in
theorem Builder_String_zero (w : World) {b : Nat} {p : Value} {g : Option Nat} {row : List UInt8} (h : BldP w b p g row 0) :
    Calls Tryd.prog 46 #[.pointer (some ⟨b, 0, none⟩)] w fun e w' => e = .returned (.string ⟨#[]⟩) ∧ Fr [] w w' := by
  have hUS := fun (W : World) (q : Option Addr) => Lib.run_unsafeString_none (P := Tryd.prog) W 123 3 9 q
  have c1 : w.drew.cell? ⟨b, 1, none⟩ = _ := h.drew.c1
  have c0 := h.c1
  have hlt := h.blk.lt
  cases g with
  | none =>
    obtain rfl := h.none_ rfl
    clear h
    have hSD : (Builtin.unsafeSliceData_ #[22] 123 #[.slice none 0 0]).run Tryd.prog w.drew = .ok (.pointer none) w.drew := rfl
    simp only [Option.map_none, List.length_nil] at c1 c0
    go_enter Tryd.func46, Tryd.ntmps46
    go_wp2
    go_region
    all_goals (go_wp2; go_ret; exact ⟨rfl, (Fr.refl [] w).drew⟩)
  | some g =>
    have hR := (h.some_ g rfl).2
    have hsh := hR.shape
    have h2 := Lib.hid (h.drew.alloc (.view ⟨g, 0, none⟩ 5)).c1
    clear h
    simp only [Option.map_some] at c1 c0 h2
    by_cases h0 : row.length = 0
    · have hSD : (Builtin.unsafeSliceData_ #[22] 123 #[.slice (some ⟨g, 0, none⟩) 0 0]).run Tryd.prog w.drew = .ok (.pointer (some ⟨w.drew.heap.size, 0, none⟩)) (w.drew.alloc (.view ⟨g, 0, none⟩ 5)) :=
        Lib.run_unsafeSliceData_zero w.drew _ _ 5 Tryd.underlying123 ⟨g, 0, none⟩ 0 (5, row.length) hsh
      rw [h0] at c1 c0 h2
      have c2 := h2.out
      have c3 : (w.alloc (.view ⟨g, 0, none⟩ 5)).drew.cell? ⟨b, 1, none⟩ = some (.slice (some ⟨g, 0, none⟩) 0 0) := c2
      clear h0 hR hsh
      go_enter Tryd.func46, Tryd.ntmps46
      go_wp2
      go_region
      all_goals (go_wp2; go_ret; exact ⟨rfl, ((Fr.refl [] w).drew).alloc _⟩)
    · have hSD : (Builtin.unsafeSliceData_ #[22] 123 #[.slice (some ⟨g, 0, none⟩) 0 row.length]).run Tryd.prog w.drew = .ok (.pointer (some ⟨g, 0, none⟩)) w.drew :=
        Lib.run_unsafeSliceData_row _ _ _ _ _ _ h0
      clear h0 hR hsh h2
      generalize row.length = cap at *
      go_enter Tryd.func46, Tryd.ntmps46
      go_wp2
      go_region
      all_goals (go_wp2; go_ret; exact ⟨rfl, (Fr.refl [] w).drew⟩)

set_option maxHeartbeats 2000000 in
set_option maxRecDepth 100000 in
theorem Builder_String_some (w : World) {b : Nat} {p : Value} {g : Nat} {row : List UInt8} {len : Nat} (h : BldP w b p (some g) row len) (h0 : 0 < len) :
    Calls Tryd.prog 46 #[.pointer (some ⟨b, 0, none⟩)] w fun e w' => e = .returned (.string ⟨(row.take len).toArray⟩) ∧ w' = w.drew.freeze ⟨g, 0, none⟩ len := by
  have c1 : w.drew.cell? ⟨b, 1, none⟩ = _ := h.drew.c1
  have hR := (h.some_ g rfl).2
  have hl := h.len_le
  have hcl := h.cap_le
  have hsh : w.drew.shape? g = some (5, row.length) := hR.shape
  have hSD : (Builtin.unsafeSliceData_ #[22] 123 #[.slice (some ⟨g, 0, none⟩) len row.length]).run Tryd.prog w.drew = .ok (.pointer (some ⟨g, 0, none⟩)) w.drew :=
    Lib.run_unsafeSliceData_row _ _ _ _ _ _ (by omega)
  have hlen : (row.take len).length = len := by simp; omega
  have hUS := Lib.run_unsafeString_row (P := Tryd.prog) w.drew 123 3 9 5 Tryd.underlying123 (by kernel_rfl) g row.length hsh (row.take len) (by intro e; rw [e] at hlen; simp at hlen; omega) (by omega) (by omega) (by
    intro j x hx
    rw [add_at, Nat.zero_add]
    have : w.drew.cell? ⟨g, j, none⟩ = row[j]?.map bv := hR.cell j
    rw [this]
    rw [List.getElem?_take] at hx
    split at hx
    · rw [hx]; rfl
    · cases hx)
  rw [hlen] at hUS
  simp only [Option.map_some] at c1
  clear h hR hsh hlen
  generalize row.length = cap at *
  generalize row.take len = l at *
  go_enter Tryd.func46, Tryd.ntmps46
  go_wp2
  go_region
  all_goals (go_wp2; go_ret; exact ⟨rfl, rfl⟩)

/-- What a builder holds. -/
theorem Builder_String (w : World) {b : Nat} {g : Option Nat} {row : List UInt8} {len : Nat} (h : Bld w b g row len) : Calls Tryd.prog 46 #[.pointer (some ⟨b, 0, none⟩)] w fun e w' => ∃ s, e = .returned (.string ⟨s.toArray⟩) ∧ Hid (s = row.take len) ∧ Bld w' b g row len ∧ Fr g.toList w w' := by
  obtain ⟨p, hp, h⟩ := h
  by_cases h0 : len = 0
  · subst h0
    refine (Builder_String_zero w h).mono ?_
    rintro e w' ⟨rfl, hf⟩
    exact ⟨[], rfl, by show _ = _; simp, ⟨p, hp, h.fr hf (by simp) (by simp)⟩, hf.more (by simp)⟩
  · cases g with
    | none =>
      have := h.none_ rfl
      subst this
      have := h.len_le
      simp at this
      omega
    | some g =>
      refine (Builder_String_some w h (by omega)).mono ?_
      rintro e w' ⟨rfl, rfl⟩
      have hf : Fr [g] w (w.drew.freeze ⟨g, 0, none⟩ len) := ((Fr.refl [g] w).drew).trans (fr_freeze g len w.drew)
      obtain ⟨hgb, hR⟩ := h.some_ g rfl
      refine ⟨_, rfl, rfl, ⟨p, hp, h.blk.fr hf (by simp; omega), h.len_le, h.cap_le, by simp, ?_⟩, hf⟩
      rintro x ⟨⟩
      exact ⟨hgb, (RowF.freeze (w := w.drew) hR)⟩

end Go.Proofs.YtgjaeggpaomoaaaDoor

namespace Go.Proofs.YtgjaeggpaomoaaaDoor
open Go.RowKit
set_option linter.unusedVariables false
attribute [local go_sem ↓] Go.wp_at_zero Go.wp_at_succ

theorem row_fresh (w : World) (l : List UInt8) : Row (w.alloc (.cells (bvs l) 5)) w.heap.size l := ⟨0, 0, heap_alloc_new w _, .inl (Nat.le_refl _)⟩

theorem rowF_setCells {w : World} {g : Nat} {row : List UInt8} {n : Nat} (hR : RowF w g row n) (o : Nat) (l : List UInt8) (h : o + l.length ≤ row.length) : RowF (w.setCells g o (l.map bv)) g (over row o l) n := by
  obtain ⟨lo, hi, h1, h2⟩ := hR
  refine ⟨lo, hi, ?_, h2⟩
  rw [heap_setCells g 5 (lo, hi) (l.map bv) o w (bvs row) h1 (by simpa [bvs] using h)]
  congr 2
  simp [bvs, over_map]
theorem over_head (l row : List UInt8) (len : Nat) (h : len ≤ row.length) : (over l 0 (row.take len)).take len = row.take len := by
  unfold over
  simp only [List.take_zero, List.nil_append, Nat.zero_add]
  rw [List.take_append_of_le_length (by simp; omega), List.take_take, Nat.min_self]

set_option maxHeartbeats 2000000 in
set_option maxRecDepth 1000000 in
theorem Builder_grow (w : World) {b : Nat} {p : Value} {g : Option Nat} {row : List UInt8} {len : Nat} (h : BldP w b p g row len) (n : Nat) (hn : 2 * row.length + n ≤ 281474976710656) :
    Calls Tryd.prog 91 #[.pointer (some ⟨b, 0, none⟩), .int .i64 (n : Int)] w fun e w' => ∃ g' row', e = .returned (.tuple #[]) ∧ BldP w' b p (some g') row' len ∧ Hid (row'.take len = row.take len ∧ 2 * row.length + n ≤ row'.length) ∧ Fr [b] w w' ∧ w.heap.size ≤ g' := by
  obtain ⟨l, hrun, hl1, hl2⟩ := run_makeNoZero_bytes (P := Tryd.prog) w.drew #[3] 22 Tryd.underlying22 (2 * row.length + n) hn
  have hlen := h.len_le
  have hw1 : IntKind.i64.wrap (2 * (row.length : Int)) = 2 * (row.length : Int) := IntWalk.i64_in _ (by omega)
  have hw2 : IntKind.i64.wrap (2 * (row.length : Int) + (n : Int)) = 2 * (row.length : Int) + (n : Int) := IntWalk.i64_in _ (by omega)
  have hcall : (callFunc 98 #[.int .i64 (2 * (row.length : Int) + (n : Int))]).run Tryd.prog w.drew = .ok (.value (.slice (some ⟨w.heap.size, 0, none⟩) (2 * row.length + n) l.length)) (w.drew.drew.drew.alloc (.cells (bvs l) 5)) := by
    rw [run_callFunc_extern Tryd.func98 (by kernel_rfl) (by kernel_rfl) (by kernel_rfl) (e := Extern.BytealgMakeNoZero.makeNoZero #[3] #[22]) (by kernel_rfl)]
    rw [show 2 * (row.length : Int) + (n : Int) = ((2 * row.length + n : Nat) : Int) by omega, hrun]
    rfl
  have hb := h.blk.lt
  have c1 := h.c1
  have hA := h.alloc (.cells (bvs l) 5)
  have c2 := hA.c1
  have f2 := hA.fz 1
  have hsl := fun W => run_cut_h (P := Tryd.prog) 22 5 Tryd.underlying22 size5 (some ⟨w.heap.size, 0, none⟩) (2 * row.length + n) l.length W len (by omega)
  have hcp := fun k => run_copy_sl (P := Tryd.prog) (w := (w.alloc (.cells (bvs l) 5)).drewN k) (row_fresh w l) (hA.drewN k).sl 22 22 3 Tryd.underlying22 size5 0 len l.length row.length (by omega)
  simp only [cutA_zero, Nat.min_self, List.take_take] at hcp
  have hcp3 := hcp 3
  have e3 : (w.alloc (.cells (bvs l) 5)).drewN 3 = (w.alloc (.cells (bvs l) 5)).drew.drew.drew := rfl
  rw [e3] at hcp3
  have hbw : b ≠ w.heap.size := by omega
  have hfs := fr_setCells w.heap.size (List.map bv (List.take len row)) 0 ((w.alloc (.cells (bvs l) 5)).drew.drew.drew)
  have hA3 : BldP ((w.alloc (.cells (bvs l) 5)).drew.drew.drew) b p g row len := hA.drewN 3
  have hR3 : RowF ((w.alloc (.cells (bvs l) 5)).drew.drew.drew) w.heap.size l 0 := ⟨0, 0, heap_alloc_new w _, Nat.le_refl _⟩
  have hne : ∀ x, g = some x → x ≠ w.heap.size := fun x e => by have := (h.some_ x e).2.lt; omega
  have hA4 := hA3.fr hfs (by simpa using hbw) (fun x e => by simpa using hne x e)
  have hR4 := rowF_setCells hR3 0 (List.take len row) (by simp; omega)
  have d1 := hA4.c1
  have g1 := hA4.fz 1
  have HB := Lib.hid hA4
  have HR := Lib.hid hR4
  have HF := Lib.hid ((((Fr.refl [b] w).alloc (.cells (bvs l) 5)).drewN 3).trans_of hfs (by simp))
  clear h hA hrun hcp hA3 hA4 hR3 hR4 hfs hne e3
  generalize (((w.alloc (.cells (bvs l) 5)).drew.drew.drew).setCells w.heap.size 0 (List.map bv (List.take len row))) = w4 at *
  generalize (g.map fun g => (⟨g, 0, none⟩ : Addr)) = A at *
  go_enter Tryd.func91, Tryd.ntmps91
  go_wp2
  go_region
  all_goals
    go_wp2
    go_end0
    have hol : (over l 0 (List.take len row)).length = l.length := over_length _ _ _ (by simp; omega)
    refine ⟨w.heap.size, over l 0 (List.take len row), rfl, ⟨?_, by omega, by omega, by simp, ?_⟩, ⟨?_, by omega⟩, HF.out.setCell (.inl (by simp)) _, Nat.le_refl _⟩
    · rw [hol]
      exact HB.out.blk.set_ 1 _
    · rintro x ⟨⟩
      refine ⟨Ne.symm hbw, ?_⟩
      exact (HR.out.more (Nat.zero_le _)).fr ((Fr.refl [b] w4).setCell (.inl (by simp)) _) (by simpa using Ne.symm hbw)
    · exact over_head _ _ _ hlen

set_option maxHeartbeats 1000000 in
theorem Builder_Grow (w : World) {b : Nat} {g : Option Nat} {row : List UInt8} {len : Nat} (h : Bld w b g row len) (n : Nat) (hn : 2 * (len + n) + n ≤ 281474976710656) :
    Calls Tryd.prog 75 #[.pointer (some ⟨b, 0, none⟩), .int .i64 (n : Int)] w fun e w' => ∃ g' row', e = .returned (.tuple #[]) ∧ Bld w' b g' row' len ∧ Hid (row'.take len = row.take len ∧ len + n ≤ row'.length) ∧ Fr [b] w w' ∧ (∀ x, g' = some x → g = some x ∨ w.heap.size ≤ x) := by
  have hlen := h.len_le
  have hcap := h.cap_le
  have HC := Lib.hid (Builder_copyCheck w h)
  clear h
  have hw1 : IntKind.i64.wrap ((row.length : Int) - (len : Int)) = (row.length : Int) - (len : Int) := IntWalk.i64_in _ (by omega)
  go_enter Tryd.func75, Tryd.ntmps75
  go_wp2_with fail
  refine HC.out.mono ?_
  rintro e w1 ⟨rfl, hB, hf⟩
  have c1 := hB.c1
  by_cases hc : len + n ≤ row.length
  · have hd : decide ((row.length : Int) - (len : Int) < (n : Int)) = false := by simp; omega
    have HB := Lib.hid hB
    clear hB
    generalize (g.map fun g => (⟨g, 0, none⟩ : Addr)) = A at *
    go_wp2_with fail
    go_quiet (fail)
    go_wp2_with fail
    go_end0
    exact ⟨_, _, rfl, ⟨_, .inr rfl, HB.out.drewN _⟩, ⟨rfl, hc⟩, hf.drewN _, fun x e => .inl e⟩
  · have hd : decide ((row.length : Int) - (len : Int) < (n : Int)) = true := by simp; omega
    have HG := Lib.hid fun k => Builder_grow (w1.drewN k) (hB.drewN k) n (by omega)
    clear hB
    generalize (g.map fun g => (⟨g, 0, none⟩ : Addr)) = A at *
    go_wp2_with fail
    go_quiet (fail)
    go_wp2_with fail
    refine (HG.out _).mono ?_
    rintro e w2 ⟨g', row', rfl, hB2, H2, hf2, hg2⟩
    go_wp2_with fail
    go_end0
    exact ⟨_, _, rfl, ⟨_, .inr rfl, hB2⟩, ⟨H2.out.1, by have := H2.out.2; omega⟩, (hf.drewN _).trans hf2, fun x e => .inr (by injection e with e; have := hf.size; simp at hg2; omega)⟩

end Go.Proofs.YtgjaeggpaomoaaaDoor

namespace Go.Proofs.YtgjaeggpaomoaaaDoor
open Go.RowKit
set_option linter.unusedVariables false
attribute [local go_sem ↓] Go.wp_at_zero Go.wp_at_succ

theorem Bld.own_ne {w : World} {b : Nat} {g : Option Nat} {row : List UInt8} {len : Nat} {base : Nat} {e : TypeId} {size n : Nat} {v : Value} {xs : List Value} (hB : Bld w b g row len) (ho : w.ownsRow base e size v n xs) (he : e ≠ 62) (he5 : e ≠ 5) : ∀ y, v.ownBlock = some y → y ∉ b :: g.toList := by
  obtain ⟨p, hp, hB⟩ := hB
  intro y hy
  have hbb := own_ne_blk ho hB.blk he y hy
  intro hm
  rcases List.mem_cons.1 hm with h1 | h1
  · exact hbb h1
  · simp only [Option.mem_toList] at h1
    obtain ⟨lo, hi, hr, _⟩ := (hB.some_ y h1).2
    rcases ho.2 with ⟨rfl, _⟩ | ⟨g', cap, cur, rfl, _, hh, _⟩
    · simp [Value.ownBlock] at hy
    · simp [Value.ownBlock] at hy
      subst hy
      rw [hr] at hh
      injection hh with hh
      injection hh with _ ht
      exact he5 ht.symm
theorem slv_new2 (w : World) (cs : Array Value) (e : TypeId) : Slv (w.alloc (.cells cs e)) (some ⟨w.heap.size, 0, none⟩) cs.size cs.toList := by
  refine ⟨by simp, fun j hj => ⟨_, rfl, ?_⟩⟩
  rw [add_at, Nat.zero_add, cell_of_row _ _ j cs e (0, 0) (heap_alloc_new w _)]
  simp at hj
  simp [hj]
theorem own_empty_at (w : World) (W : Nat) (e : TypeId) (size : Nat) (hW : W ≤ w.heap.size) : (w.alloc (.cells #[] e)).ownsRow W e size (.slice (some ⟨w.heap.size, 0, none⟩) 0 0) 0 [] :=
  ⟨by simp, .inr ⟨w.heap.size, 0, #[], rfl, hW, heap_alloc_new w _, Nat.le_refl _, Nat.zero_le _, by simp, by simp⟩⟩
/-- A builder that the call has made, with what it holds. -/
structure Bs (W : Nat) (wr : World) (b : Nat) (s : List UInt8) (g : Option Nat) (row : List UInt8) (len : Nat) : Prop where
  bld : Bld wr b g row len
  reads : row.take len = s
  new_ : ∀ x, g = some x → W ≤ x
  b_ : W ≤ b
theorem Bs.len {W : Nat} {wr : World} {b : Nat} {s : List UInt8} {g : Option Nat} {row : List UInt8} {len : Nat} (h : Bs W wr b s g row len) : len = s.length := by
  have := h.bld.len_le
  rw [← h.reads]
  simp
  omega
theorem Bs.made (w : World) : Bs w.heap.size (w.alloc (.cells #[.pointer none, .slice none 0 0] 62)) w.heap.size [] none [] 0 := ⟨Bld.made w, rfl, by simp, Nat.le_refl _⟩
theorem Bs.wrote {W : Nat} {wr w2 : World} {b : Nat} {s l : List UInt8} {g g2 : Option Nat} {row row2 : List UInt8} {len len2 : Nat} (h : Bs W wr b s g row len) (hW : W ≤ wr.heap.size) (hw : Wrote wr w2 b g row len l g2 row2 len2) : Bs W w2 b (s ++ l) g2 row2 len2 :=
  ⟨hw.bld, by rw [hw.reads, h.reads], fun x e => by
    rcases hw.at_ x e with h1 | h1
    · exact h.new_ x h1
    · omega, h.b_⟩
theorem Bs.frs {W : Nat} {wr w2 : World} {b : Nat} {s l : List UInt8} {g g2 : Option Nat} {row row2 : List UInt8} {len len2 : Nat} (h : Bs W wr b s g row len) {S : List Nat} {w : World} (hf : Fr S w wr) (hW : w.heap.size = W) (hw : Wrote wr w2 b g row len l g2 row2 len2) : Fr S w w2 :=
  hf.trans_of hw.fr (fun i hi => by
    rcases List.mem_cons.1 hi with h1 | h1
    · have := h.b_; exact .inr (by omega)
    · simp only [Option.mem_toList] at h1; have := h.new_ i h1; exact .inr (by omega))

/-- The loop of BuildStrings. -/
def BstRel (w : World) (ls : List (List UInt8)) (v i : Value) (wr : World) : Prop :=
  ∃ k g row len, k ≤ ls.length ∧ i = .int .i64 (k : Int) ∧ wr.ownsRow w.heap.size 3 1 v k (((ls.take k).map List.length).map iv) ∧ Bs w.heap.size wr w.heap.size ((ls.take k).flatten) g row len ∧ Fr [] w wr

theorem bst_round {w wr w2 w' : World} {ls : List (List UInt8)} {k : Nat} {x : List UInt8} {g g2 : Option Nat} {row row2 : List UInt8} {len len2 : Nat} {v v' : Value} {o : Obj} (hk : k < ls.length) (hx : ls[k]? = some x) (hB : Bs w.heap.size wr w.heap.size ((ls.take k).flatten) g row len) (hf : Fr [] w wr)
    (hw : Wrote wr w2 w.heap.size g row len x g2 row2 len2) (ho : w2.ownsRow w.heap.size 3 1 v k (((ls.take k).map List.length).map iv)) (ho' : w'.ownsRow w.heap.size 3 1 v' (k + 1) (((ls.take k).map List.length).map iv ++ [.int .i64 (x.length : Int)])) (hg : (w2.alloc o).grownBy w' v.ownBlock) :
    BstRel w ls v' (.int .i64 ((k + 1 : Nat) : Int)) w' := by
  have hf2 := hB.frs hf rfl hw
  refine ⟨k + 1, g2, row2, len2, by omega, rfl, ?_, ?_, Fr.app hf2 ho hg⟩
  · rw [take_next ls k x hx, List.map_append, List.map_append]
    exact ho'
  · have hB2 := hB.wrote hf.size hw
    rw [flat_next ls k x hx]
    exact ⟨hB2.bld.app ho hg (by decide) (by decide), hB2.reads, hB2.new_, hB2.b_⟩

end Go.Proofs.YtgjaeggpaomoaaaDoor

namespace Go.Proofs.YtgjaeggpaomoaaaDoor
open Go.RowKit
set_option linter.unusedVariables false
attribute [local go_sem ↓] Go.wp_at_zero Go.wp_at_succ

theorem rune_bv (r : Int) : Lib.runeCells r = (Lib.encodeRune r).map bv := (Lib.byteCells_encodeRune r).symm
theorem rune_len (r : Int) : 1 ≤ (Lib.encodeRune r).length ∧ (Lib.encodeRune r).length ≤ 4 := by
  have := Lib.runeCells_le r
  rw [Lib.runeCells_length] at this
  exact this

set_option maxHeartbeats 1600000 in
theorem Builder_WriteRune {b : Nat} {g : Option Nat} {row : List UInt8} {len : Nat} (w : World) (h : Bld w b g row len) (r : Int) (hr0 : -2147483648 ≤ r) (hr1 : r ≤ 2147483647) (hl : len + 4 ≤ 140737488351232) :
    Calls Tryd.prog 42 #[.pointer (some ⟨b, 0, none⟩), .int .i32 r] w fun e w' => ∃ (g' : Option Nat) (row' : List UInt8) (len' k : Nat), e = .returned (.tuple #[.int .i64 (k : Int), .nilIface]) ∧ Hid (k = (Lib.encodeRune r).length) ∧ Wrote w w' b g row len (Lib.encodeRune r) g' row' len' := by
  have hg : ∀ x, g = some x → x < w.heap.size := fun x e => by obtain ⟨p, _, h⟩ := h; exact (h.some_ x e).2.lt
  have HC := Lib.hid (Builder_copyCheck w h)
  have hrl := rune_len r
  clear h
  go_enter Tryd.func42, Tryd.ntmps42
  go_wp2_with fail
  refine HC.out.mono ?_
  rintro e w1 ⟨rfl, hB, hf⟩
  have hB2 := hB.alloc (.cells (Lib.runeCells r).toArray 5)
  have hsrc : Src Tryd.prog 1 22 (.slice (some ⟨w1.heap.size, 0, none⟩) (Lib.runeCells r).length (Lib.runeCells r).length) (Lib.runeCells r).length ((Lib.encodeRune r).map bv) (w1.alloc (.cells (Lib.runeCells r).toArray 5)) := by
    rw [← rune_bv]
    refine Src.ofSlice _ Tryd.underlying22 _ _ _ _ (by simp) (World.news_of_block (cs := (Lib.runeCells r).toArray) (heap_alloc_new w1 _)) ?_
    intro u hu
    rw [rune_bv] at hu
    exact bv_one _ u hu
  obtain ⟨g', row', w2, hrun, ha⟩ := run_app_f (P := Tryd.prog) (w1.alloc (.cells (Lib.runeCells r).toArray 5)) 22 22 22 Tryd.underlying22 info5b g row len hB2.len_le hB2.cap_le hB2.none_ (fun x e => (hB2.some_ x e).2) _ (Lib.runeCells r).length (Lib.encodeRune r) hsrc (by rw [Lib.runeCells_length]; omega)
  have har := Lib.hid (utf8_AppendRune w1 _ _ _ r _ _ _ w2 hr0 hr1 hrun)
  obtain ⟨d1, f1⟩ := ha.blk hB2
  have c1 := hB.c1
  rw [hB2.c1] at d1
  have HW := Lib.hid (Wrote.of hB2 (hf.alloc _) (by simp) hg ha (by rw [Lib.runeCells_length]))
  have hkl : (Lib.runeCells r).length = (Lib.encodeRune r).length := Lib.runeCells_length r
  generalize (Lib.runeCells r).length = k at *
  have HK := Lib.hid hkl
  have hk4 : k ≤ 4 := by omega
  clear hkl hrun hsrc hB hB2 ha
  go_wp2_with fail
  refine har.out.mono ?_
  rintro e w3 ⟨rfl, rfl⟩
  go_wp2_with fail
  go_ret2
  exact ⟨_, _, _, k, by simp; omega, HK, HW.out⟩

end Go.Proofs.YtgjaeggpaomoaaaDoor

namespace Go.Proofs.YtgjaeggpaomoaaaDoor
open Go.RowKit
set_option linter.unusedVariables false
attribute [local go_sem ↓] Go.wp_at_zero Go.wp_at_succ

theorem Builder_Grow_bad (w : World) {b : Nat} {g : Option Nat} {row : List UInt8} {len : Nat} (h : Bld w b g row len) (a : Int) (ha : a < 0) :
    Calls Tryd.prog 75 #[.pointer (some ⟨b, 0, none⟩), .int .i64 a] w fun e w' => ∃ v, e = .panicked [{ v := .iface 9 v, recovered := false }] ∧ Bld w' b g row len ∧ Fr [b] w w' := by
  have HC := Lib.hid (Builder_copyCheck w h)
  clear h
  go_enter Tryd.func75, Tryd.ntmps75
  go_wp2_with fail
  refine HC.out.mono ?_
  rintro e w1 ⟨rfl, hB, hf⟩
  have HB := Lib.hid hB
  clear hB
  go_wp2_with fail
  exact ⟨rfl, _, rfl, ⟨_, .inr rfl, HB.out⟩, hf⟩

theorem growBuilder_catch_panicking (p : Addr) (x : Bool) (u : TypeId) (pv : Value) (older : List PanicEntry) (w : World) (hc : w.cell? p = some (.bool x)) (hz : w.frozen? p = false) :
    CallsD Tryd.prog 74 #[.pointer (some p)] (.panicking ({ v := .iface u pv, recovered := false } :: older)) w fun e u' w' =>
      e = .returned (.tuple #[]) ∧ u' = .panicking ({ v := .iface u pv, recovered := true } :: older) ∧ w' = w.setCell p (.bool false) := by
  refine callsD_of_wpS Tryd.func74 rfl fun c₀ cs hu => ?_
  apply wpS_seq
  apply wpS_region
  simp [wpOpsS, go_sem, recoverD, hu, Tryd.ntmps74, Exit.thenS]
  refine wpS_cond (t := true) (by simp [Act.eval, Array.replicate]) ?_
  simp only [if_true]
  apply wpS_region
  simp [wpOpsS, go_sem, hc, hz, bodyPostS, results, Tryd.results74]

theorem growBuilder_catch_idle (p : Addr) (w : World) :
    CallsD Tryd.prog 74 #[.pointer (some p)] .returning w fun e u' w' => e = .returned (.tuple #[]) ∧ u' = .returning ∧ w' = w := by
  refine callsD_of_wpS Tryd.func74 rfl fun c₀ cs hu => ?_
  apply wpS_seq
  apply wpS_region
  simp [wpOpsS, go_sem, recoverD, hu, Tryd.ntmps74, Exit.thenS]
  refine wpS_cond (t := false) (by simp [Act.eval, Array.replicate]) ?_
  simp only [Bool.false_eq_true, if_false]
  refine wpS_of_wp (wp_skip ?_)
  cases c₀
  simp_all [bodyPostS, results, Tryd.results74]

section
variable {b : Nat} {g : Option Nat} {row : List UInt8} {len : Nat} (w : World) (h : Bld w b g row len)
include h
theorem impl_growBuilder_bad (a : Int) (ha : a < 0) : Calls Tryd.prog 43 #[.pointer (some ⟨b, 0, none⟩), .int .i64 a] w fun e w' => e = .returned (.bool false) ∧ Bld w' b g row len ∧ Fr [b] w w' := by
  have hmf : ∀ (fn : Fn) (first cap : Array Value) (w : World), (Instr.makeFunc fn first cap).run Tryd.prog w = .ok (.func fn first cap) w := fun _ _ _ _ => rfl
  have hT := Lib.hid fun o => Builder_Grow_bad _ (h.alloc o) a ha
  have hb := h.lt
  have hg : ∀ x, g = some x → x < w.heap.size := fun x e => by obtain ⟨p, _, h⟩ := h; exact (h.some_ x e).2.lt
  clear h ha
  go_enter_defers Tryd.func43, Tryd.ntmps43
  go_wp2_with fail
  refine (hT.out _).mono ?_
  rintro e w1 ⟨v, rfl, hB, hf⟩
  have hk := (Blk.new w 4 #[.bool false]).fr hf (by simp; omega)
  have hc := hk.cell 0
  have hz := hk.frozen 0
  have HB := Lib.hid (hB.fr ((Fr.refl [w.heap.size] w1).setCell (p := ⟨w.heap.size, 0, none⟩) (.inl (by simp)) (.bool false)) (by simp; omega) (fun x e => by have := hg x e; simp; omega))
  clear hB
  go_wp2_with fail
  refine leaves_cons (f := 74) (args := #[.pointer (some ⟨w.heap.size, 0, none⟩)]) (by simp) (by simp [go_sem]) ?_
  refine (growBuilder_catch_panicking ⟨w.heap.size, 0, none⟩ false 9 _ [] _ hc hz).mono ?_
  rintro e u' w'' ⟨rfl, rfl, rfl⟩
  have hfin := (((Fr.refl [b] w).alloc (.cells #[.bool false] 4)).trans_of hf (by simp)).setCell (p := ⟨w.heap.size, 0, none⟩) (.inr (Nat.le_refl _)) (.bool false)
  have hall := And.intro HB.out hfin
  simp at hc
  simpa [Leaves, settle, results, Tryd.results43, go_sem, hc, hz] using hall

theorem impl_growBuilder_ok (n : Nat) (hn : 2 * (len + n) + n ≤ 281474976710656) : Calls Tryd.prog 43 #[.pointer (some ⟨b, 0, none⟩), .int .i64 (n : Int)] w fun e w' => ∃ g' row', e = .returned (.bool true) ∧ Bld w' b g' row' len ∧ Hid (row'.take len = row.take len ∧ len + n ≤ row'.length) ∧ Fr [b] w w' ∧ (∀ x, g' = some x → g = some x ∨ w.heap.size ≤ x) := by
  have hmf : ∀ (fn : Fn) (first cap : Array Value) (w : World), (Instr.makeFunc fn first cap).run Tryd.prog w = .ok (.func fn first cap) w := fun _ _ _ _ => rfl
  have hT := Lib.hid fun o => Builder_Grow _ (h.alloc o) n hn
  have hb := h.lt
  have hg : ∀ x, g = some x → x < w.heap.size := fun x e => by obtain ⟨p, _, h⟩ := h; exact (h.some_ x e).2.lt
  clear h hn
  go_enter_defers Tryd.func43, Tryd.ntmps43
  go_wp2_with fail
  refine (hT.out _).mono ?_
  rintro e w1 ⟨g1, row1, rfl, hB, H, hf, hg1⟩
  simp only [World.size_alloc] at hg1
  have hk := (Blk.new w 4 #[.bool false]).fr hf (by simp; omega)
  have hc := hk.cell 0
  have hz := hk.frozen 0
  simp at hc
  have HB := Lib.hid (hB.fr ((Fr.refl [w.heap.size] w1).setCell (p := ⟨w.heap.size, 0, none⟩) (.inl (by simp)) (.bool true)) (by simp; omega) (fun x e => by
    rcases hg1 x e with h1 | h1
    · have := hg x h1; simp; omega
    · simp; omega))
  have hfin := Lib.hid ((((Fr.refl [b] w).alloc (.cells #[.bool false] 4)).trans_of hf (by simp)).setCell (p := ⟨w.heap.size, 0, none⟩) (.inr (Nat.le_refl _)) (.bool true))
  clear hB
  go_wp2_with fail
  refine leaves_cons (f := 74) (args := #[.pointer (some ⟨w.heap.size, 0, none⟩)]) (by simp) (by simp [go_sem]) ?_
  refine (growBuilder_catch_idle ⟨w.heap.size, 0, none⟩ _).mono ?_
  rintro e u' w'' ⟨rfl, rfl, rfl⟩
  refine ⟨.bool true, by simp [results, Tryd.results43, go_sem, hc], ?_⟩
  exact ⟨_, _, rfl, HB.out, H, hfin.out, fun x e => by
    rcases hg1 x e with h1 | h1
    · exact .inl h1
    · exact .inr (by omega)⟩
end
end Go.Proofs.YtgjaeggpaomoaaaDoor

namespace Go.Proofs.YtgjaeggpaomoaaaDoor
open Go.RowKit
set_option linter.unusedVariables false
attribute [local go_sem ↓] Go.wp_at_zero Go.wp_at_succ

theorem infoSc : (Tryd.prog.info? 9).map (fun i => (i.zero, i.size, i.bytes)) = some (some (.string ByteArray.empty), 1, 16) := by kernel_rfl

/-- The loop of NextChunks. -/
def NextRel (w : World) (l : List UInt8) (zs : List Nat) (pad : List UInt8) (b g : Nat) (v i : Value) (wr : World) : Prop :=
  ∃ k off lr, k ≤ zs.length ∧ i = .int .i64 (k : Int) ∧ wr.ownsRow w.heap.size 9 1 v k ((chunks l zs k).map sv) ∧ Buf wr b (some g) (l ++ pad) l.length off lr ∧ off = min (tot zs k) l.length ∧ Fr [] w wr

/-- The loop of the reference's NextChunks. -/
def NextSRel (w : World) (l : List UInt8) (zs : List Nat) (s v i : Value) (wr : World) : Prop :=
  ∃ k, k ≤ zs.length ∧ i = .int .i64 (k : Int) ∧ s = .string ⟨(l.drop (tot zs k)).toArray⟩ ∧ wr.ownsRow w.heap.size 9 1 v k ((chunks l zs k).map sv) ∧ Fr [] w wr

end Go.Proofs.YtgjaeggpaomoaaaDoor

namespace Go.Proofs.YtgjaeggpaomoaaaDoor
open Go.RowKit
set_option linter.unusedVariables false
attribute [local go_sem ↓] Go.wp_at_zero Go.wp_at_succ

theorem Builder_Reset {b : Nat} {g : Option Nat} {row : List UInt8} {len : Nat} (w : World) (h : Bld w b g row len) : Calls Tryd.prog 44 #[.pointer (some ⟨b, 0, none⟩)] w fun e w' => e = .returned (.tuple #[]) ∧ Bld w' b none [] 0 ∧ Fr [b] w w' := by
  obtain ⟨p, hp, h⟩ := h
  have c0 := h.c0
  have c1 := h.c1
  have f0 := h.fz 0
  have f1 := h.fz 1
  have hk := Lib.hid h.blk
  clear h hp
  generalize (g.map fun g => (⟨g, 0, none⟩ : Addr)) = A at *
  generalize row.length = cap at *
  go_enter Tryd.func44, Tryd.ntmps44
  go_wp2
  go_end0
  exact ⟨rfl, ⟨_, .inl rfl, (hk.out.set_ 0 _).set_ 1 _, Nat.le_refl _, by simp, by simp, by simp⟩, ((Fr.refl [b] w).setCell (.inl (by simp)) _).setCell (.inl (by simp)) _⟩

/-- Each text, and nothing behind it. -/
def twice (ls : List (List UInt8)) : List (List UInt8) := (ls.map fun x => [x, []]).flatten
theorem twice_length (ls : List (List UInt8)) : (twice ls).length = 2 * ls.length := by
  induction ls with
  | nil => rfl
  | cons x r ih => simp only [twice, List.map_cons, List.flatten_cons, List.length_append, List.length_cons, List.length_nil] at ih ⊢; omega
theorem twice_next (ls : List (List UInt8)) (k : Nat) (x : List UInt8) (h : ls[k]? = some x) : twice (ls.take (k + 1)) = twice (ls.take k) ++ [x] ++ [[]] := by
  rw [take_next ls k x h]
  simp [twice]

/-- The loop of RebuildStrings. -/
def RebRel (w : World) (ls : List (List UInt8)) (v i : Value) (wr : World) : Prop :=
  ∃ k g row len, k ≤ ls.length ∧ i = .int .i64 (k : Int) ∧ wr.ownsRow w.heap.size 9 1 v (2 * k) ((twice (ls.take k)).map sv) ∧ Bs w.heap.size wr w.heap.size [] g row len ∧ Fr [] w wr

theorem Fr.bs {W : Nat} {w wr w2 : World} {b : Nat} {s : List UInt8} {g : Option Nat} {row : List UInt8} {len : Nat} {S T : List Nat} (hB : Bs W wr b s g row len) (hf : Fr S w wr) (hW : w.heap.size = W) (hf2 : Fr T wr w2) (hT : ∀ i ∈ T, i ∈ b :: g.toList) : Fr S w w2 :=
  hf.trans_of hf2 (fun i hi => by
    rcases List.mem_cons.1 (hT i hi) with h1 | h1
    · have := hB.b_; exact .inr (by omega)
    · simp only [Option.mem_toList] at h1; have := hB.new_ i h1; exact .inr (by omega))

/-- The loop of the law. -/
def WantRel (w : World) (ls : List (List UInt8)) (v i : Value) (wr : World) : Prop :=
  ∃ k, k ≤ ls.length ∧ i = .int .i64 (k : Int) ∧ wr.ownsRow w.heap.size 9 1 v (2 * k) ((twice (ls.take k)).map sv) ∧ Fr [] w wr

end Go.Proofs.YtgjaeggpaomoaaaDoor
