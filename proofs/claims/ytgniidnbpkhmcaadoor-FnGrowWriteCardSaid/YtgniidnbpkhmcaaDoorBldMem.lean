/- A strings.Builder in a block of its own: its row, whose head may be frozen; append onto such a row. -/
import Derived.Test.YtgniidnbpkhmcaaDoorBuf
import Derived.Lib.Builder
import Derived.Lib.UnsafeStr
import Derived.Lib.MakeNoZero
import Derived.Laws.Externs
namespace Go.Proofs.YtgniidnbpkhmcaaDoor
open Go.RowKit
set_option linter.unusedVariables false

/-- A row of bytes of which at most the first n are frozen. -/
def RowF (w : World) (g : Nat) (l : List UInt8) (n : Nat) : Prop := ∃ lo hi, w.heap[g]? = some (.cells (bvs l) 5 (lo, hi)) ∧ hi ≤ n
section
variable {w w' : World} {g : Nat} {l : List UInt8} {n : Nat}
theorem RowF.lt (h : RowF w g l n) : g < w.heap.size := by obtain ⟨_, _, h, _⟩ := h; exact heap_lt h
theorem RowF.cell (h : RowF w g l n) (i : Nat) : w.cell? ⟨g, i, none⟩ = l[i]?.map bv := by obtain ⟨_, _, h, _⟩ := h; rw [cell_of_row w g i _ _ _ h, bvs_get]
theorem RowF.frozen (h : RowF w g l n) {i : Nat} (hi : n ≤ i) : w.frozen? ⟨g, i, none⟩ = false := by
  obtain ⟨lo, hi', h, hf⟩ := h
  simp [World.frozen?, h]
  omega
theorem RowF.fr {S : List Nat} (h : RowF w g l n) (hf : Fr S w w') (hn : g ∉ S) : RowF w' g l n := by
  obtain ⟨lo, hi, h1, h2⟩ := h
  exact ⟨lo, hi, (hf.block g (heap_lt h1) hn).trans h1, h2⟩
theorem RowF.more {m : Nat} (h : RowF w g l n) (hm : n ≤ m) : RowF w g l m := by
  obtain ⟨lo, hi, h1, h2⟩ := h
  exact ⟨lo, hi, h1, by omega⟩
theorem RowF.shape (h : RowF w g l n) : w.shape? g = some (5, l.length) := by
  obtain ⟨lo, hi, h1, h2⟩ := h
  simp [World.shape?, h1, bvs_size]
theorem RowF.rd (h : RowF w g l n) (o k : Nat) : Rd w (some ⟨g, o, none⟩) ((l.drop o).take k) := by
  intro j hj
  refine ⟨_, rfl, ?_⟩
  have hj' : j < k ∧ o + j < l.length := by simp at hj; omega
  rw [add_at, h.cell, List.getElem?_eq_getElem hj'.2]
  simp
theorem RowF.freeze (h : RowF w g l n) : RowF (w.freeze ⟨g, 0, none⟩ n) g l n := by
  obtain ⟨lo, hi, h1, h2⟩ := h
  unfold World.freeze
  split
  · exact ⟨lo, hi, h1, h2⟩
  · by_cases e : lo = hi
    · exact ⟨0, n, by simp [Array.getElem?_modify, h1, e], Nat.le_refl _⟩
    · exact ⟨min lo 0, max hi n, by simp [Array.getElem?_modify, h1, e], by omega⟩
end
theorem fr_freeze (g n : Nat) (w : World) : Fr [g] w (w.freeze ⟨g, 0, none⟩ n) := by
  unfold World.freeze
  split
  · exact Fr.refl _ _
  · refine ⟨rfl, rfl, rfl, by simp, fun k hk hn => ?_⟩
    simp only [Array.getElem?_modify]
    rw [if_neg (by simp at hn; omega)]

/-- A strings.Builder in block b: its first field, its row (if it has one), the row's bytes, the length. -/
structure BldP (w : World) (b : Nat) (p : Value) (g : Option Nat) (row : List UInt8) (len : Nat) : Prop where
  blk : Blk w b 59 #[p, .slice (g.map fun g => ⟨g, 0, none⟩) len row.length]
  len_le : len ≤ row.length
  cap_le : row.length ≤ 9223372036854775807
  none_ : g = none → row = []
  some_ : ∀ x, g = some x → x ≠ b ∧ RowF w x row len
section
variable {w w' : World} {b : Nat} {p : Value} {g : Option Nat} {row : List UInt8} {len : Nat}
theorem BldP.c0 (h : BldP w b p g row len) : w.cell? ⟨b, 0, none⟩ = some p := by rw [h.blk.cell]; rfl
theorem BldP.c1 (h : BldP w b p g row len) : w.cell? ⟨b, 1, none⟩ = some (.slice (g.map fun g => ⟨g, 0, none⟩) len row.length) := by rw [h.blk.cell]; rfl
theorem BldP.fz (h : BldP w b p g row len) (i : Nat) : w.frozen? ⟨b, i, none⟩ = false := h.blk.frozen i
theorem BldP.shape (h : BldP w b p g row len) : w.shape? b = some (59, 2) := by
  have := h.blk
  unfold Blk at this
  simp [World.shape?, this]
theorem BldP.fr {S : List Nat} (h : BldP w b p g row len) (hf : Fr S w w') (hb : b ∉ S) (hg : ∀ x, g = some x → x ∉ S) : BldP w' b p g row len :=
  ⟨h.blk.fr hf hb, h.len_le, h.cap_le, h.none_, fun x e => ⟨(h.some_ x e).1, (h.some_ x e).2.fr hf (hg x e)⟩⟩
theorem BldP.drewN (h : BldP w b p g row len) (n : Nat) : BldP (w.drewN n) b p g row len := h.fr ((Fr.refl [] w).drewN n) (by simp) (by simp)
theorem BldP.drew (h : BldP w b p g row len) : BldP w.drew b p g row len := h.fr ((Fr.refl [] w).drew) (by simp) (by simp)
theorem BldP.alloc (h : BldP w b p g row len) (o : Obj) : BldP (w.alloc o) b p g row len := h.fr ((Fr.refl [] w).alloc o) (by simp) (by simp)
theorem BldP.set0 (h : BldP w b p g row len) (q : Value) : BldP (w.setCell ⟨b, 0, none⟩ q) b q g row len :=
  ⟨h.blk.set_ 0 _, h.len_le, h.cap_le, h.none_, fun y e => ⟨(h.some_ y e).1, (h.some_ y e).2.fr ((Fr.refl [b] w).setCell (.inl (by simp)) _) (by simpa using (h.some_ y e).1)⟩⟩
theorem BldP.rd (h : BldP w b p g row len) (o n : Nat) : Rd w (g.map fun g => ⟨g, o, none⟩) ((row.drop o).take n) := by
  cases g with
  | none => rw [h.none_ rfl]; simp; exact Rd.nil _ _
  | some x => exact (h.some_ x rfl).2.rd o n
theorem BldP.sl (h : BldP w b p g row len) : Sl w (g.map fun g => ⟨g, 0, none⟩) len (row.take len) := by
  have := h.rd 0 len
  have hl := h.len_le
  exact ⟨by simp; omega, by simpa using this⟩
end
/-- A builder that may be written or not. -/
def Bld (w : World) (b : Nat) (g : Option Nat) (row : List UInt8) (len : Nat) : Prop := ∃ p, (p = .pointer none ∨ p = .pointer (some ⟨b, 0, none⟩)) ∧ BldP w b p g row len
section
variable {w w' : World} {b : Nat} {g : Option Nat} {row : List UInt8} {len : Nat}
theorem Bld.len_le (h : Bld w b g row len) : len ≤ row.length := by obtain ⟨p, _, h⟩ := h; exact h.len_le
theorem Bld.cap_le (h : Bld w b g row len) : row.length ≤ 9223372036854775807 := by obtain ⟨p, _, h⟩ := h; exact h.cap_le
theorem Bld.lt (h : Bld w b g row len) : b < w.heap.size := by obtain ⟨p, _, h⟩ := h; exact h.blk.lt
theorem Bld.fr {S : List Nat} (h : Bld w b g row len) (hf : Fr S w w') (hb : b ∉ S) (hg : ∀ x, g = some x → x ∉ S) : Bld w' b g row len := by obtain ⟨p, hp, h⟩ := h; exact ⟨p, hp, h.fr hf hb hg⟩
theorem Bld.alloc (h : Bld w b g row len) (o : Obj) : Bld (w.alloc o) b g row len := h.fr ((Fr.refl [] w).alloc o) (by simp) (by simp)
theorem Bld.drewN (h : Bld w b g row len) (n : Nat) : Bld (w.drewN n) b g row len := h.fr ((Fr.refl [] w).drewN n) (by simp) (by simp)
/-- A new one. -/
theorem Bld.made (w : World) : Bld (w.alloc (.cells #[.pointer none, .slice none 0 0] 59)) w.heap.size none [] 0 :=
  ⟨_, .inl rfl, Blk.new w _ _, Nat.le_refl _, by simp, by simp, by simp⟩
/-- A builder behind an append to another row. -/
theorem Bld.app {w2 w' : World} {base : Nat} {e : TypeId} {size n : Nat} {v : Value} {xs : List Value} {o : Obj} (hB : Bld w2 b g row len) (ho : w2.ownsRow base e size v n xs)
    (hg : (w2.alloc o).grownBy w' v.ownBlock) (he : e ≠ 59) (he5 : e ≠ 5) : Bld w' b g row len := by
  obtain ⟨p, hp, hB⟩ := hB
  have hbb := own_ne_blk (ho.alloc o) (hB.alloc _).blk he
  refine ⟨p, hp, (hB.alloc _).fr (Fr.of_grown hg) ?_ ?_⟩
  · intro hm
    simp only [Option.mem_toList] at hm
    exact hbb b hm rfl
  · intro y hy hm
    simp only [Option.mem_toList] at hm
    obtain ⟨lo, hi, hr, _⟩ := ((hB.alloc o).some_ y hy).2
    rcases (ho.alloc o).2 with ⟨rfl, _⟩ | ⟨g', cap, cur, rfl, _, hh, _⟩
    · simp [Value.ownBlock] at hm
    · simp [Value.ownBlock] at hm
      subst hm
      rw [hr] at hh
      injection hh with hh
      injection hh with _ ht
      exact he5 ht.symm
end

theorem bvs_app (a b : List UInt8) : ((a ++ b).map bv) = a.map bv ++ b.map bv := List.map_append
theorem bvs_zero (a : List UInt8) (k : Nat) : (a.map bv).toArray ++ Builtin.zeroCells (Value.int .u8 0).cells k = bvs (a ++ List.replicate k 0) := by
  apply Array.ext'
  simp [bvs, Builtin.zeroCells, Value.cells, bv, Nat.mod_one, List.map_const']

/-- The row behind an append. -/
structure Apped (w w' : World) (g g' : Option Nat) (row row' : List UInt8) (len m : Nat) (news : List UInt8) : Prop where
  row_ : ∀ x, g' = some x → RowF w' x row' (len + m)
  none_ : g' = none → row' = []
  len_le : len + m ≤ row'.length
  cap_le : row'.length ≤ 9223372036854775807
  reads : row'.take (len + m) = row.take len ++ news
  keeps : len + m ≤ row.length → row'.length = row.length
  fr : Fr g.toList w w'
  at_ : ∀ x, g' = some x → g = some x ∨ w.heap.size ≤ x

theorem run_app_f {P : Program} (w : World) (t tx ty : TypeId) (ht : P.underlying t = some (.slice 5)) (hinfo : (P.info? 5).map (fun i => (i.zero, i.size, i.bytes)) = some (some (.int .u8 0), 1, 1))
    (g : Option Nat) (row : List UInt8) (len : Nat) (hlen : len ≤ row.length) (hcap : row.length ≤ 9223372036854775807) (hnone : g = none → row = []) (hrow : ∀ x, g = some x → RowF w x row len)
    (x : Value) (m : Nat) (news : List UInt8) (hs : Src P 1 tx x m (news.map bv) w) (hb : len + m ≤ 140737488351232) :
    ∃ g' row' w', (Builtin.append_ #[t, tx] ty #[.slice (g.map fun g => ⟨g, 0, none⟩) len row.length, x]).run P w = .ok (.slice (g'.map fun g => ⟨g, 0, none⟩) (len + m) row'.length) w' ∧ Apped w w' g g' row row' len m news := by
  obtain ⟨i, hi, hz, hsz, hby⟩ : ∃ i, P.info? 5 = some i ∧ i.zero = some (.int .u8 0) ∧ i.size = 1 ∧ i.bytes = 1 := by
    cases hi : P.info? 5 with
    | none => simp [hi] at hinfo
    | some i => simp [hi] at hinfo; exact ⟨i, rfl, hinfo.1, hinfo.2.1, hinfo.2.2⟩
  have hnl : news.length = m := by simpa using hs.newsLen
  by_cases hroom : len + m ≤ row.length
  · cases g with
    | none =>
      obtain rfl := hnone rfl
      simp at hroom
      obtain ⟨rfl, rfl⟩ := hroom
      obtain rfl : news = [] := List.eq_nil_of_length_eq_zero hnl
      refine ⟨none, [], w, ?_, ⟨by simp, by simp, by simp, by simp, by simp, by simp, Fr.refl _ _, by simp⟩⟩
      have hc := hs.cells
      rcases hs.kind with ⟨e', hk⟩ | hk <;> simp [Builtin.append_, run_underlying ht, run_underlying hk, sizeOf, typeInfo, hi, hsz, hs.len, hc]
    | some y =>
      have hR := hrow y rfl
      have hr := run_append_room_src (P := P) w t tx ty 5 i ht hi y 0 len row.length x m (news.map bv) (by rw [hsz]; exact hs) hroom (fun j hj => by
        simp at hj
        rw [hsz, hR.cell, List.getElem?_eq_getElem (by omega)]
        rfl) (fun j hj => hR.frozen (by rw [hsz]; omega))
      rw [hsz, Nat.mul_one, Nat.zero_add] at hr
      have hol : (over row len news).length = row.length := over_length _ _ _ (by omega)
      refine ⟨some y, over row len news, _, by rw [hol]; exact hr, ⟨?_, by simp, by omega, by omega, ?_, fun _ => hol, fr_setCells y _ _ _, by simp⟩⟩
      · rintro z ⟨⟩
        obtain ⟨lo, hi', h1, h2⟩ := hR
        refine ⟨lo, hi', ?_, by omega⟩
        rw [heap_setCells y 5 (lo, hi') (news.map bv) len w _ h1 (by rw [bvs_size]; simp; omega)]
        simp [bvs, over_map]
      · unfold over
        rw [List.take_append_of_le_length (by simp; omega), List.take_of_length_le (by simp; omega)]
  · have hfit : Builtin.nextslicecap (len + m) row.length * i.bytes ≤ 281474976710656 := by
      rw [hby, Nat.mul_one]
      exact Nat.le_trans (nextcap_le _ _ (by omega)) (by omega)
    have hold : (Builtin.firstCells i.size len (.slice (g.map fun g => ⟨g, 0, none⟩) len row.length)).run P w.drew = .ok ((row.take len).map bv).toArray w.drew := by
      rw [hsz]
      cases g with
      | none =>
        obtain rfl := hnone rfl
        simp at hlen
        subst hlen
        simp [Builtin.firstCells]
      | some y =>
        have hR := hrow y rfl
        refine run_firstCells_some (P := P) w.drew 1 len ⟨y, 0, none⟩ len row.length _ (by simp; omega) (fun j u hu => ?_)
        rw [add_at, Nat.zero_add]
        rw [show w.drew.cell? ⟨y, j, none⟩ = w.cell? ⟨y, j, none⟩ from rfl, hR.cell]
        rw [List.getElem?_map, List.getElem?_take] at hu
        split at hu
        · exact hu
        · cases hu
    have hr := run_append_grow_src (P := P) w t tx ty 5 i (.int .u8 0) ht hi hz (g.map fun g => ⟨g, 0, none⟩) len row.length ((row.take len).map bv) hold x m (news.map bv) (by rw [hsz]; exact hs) (by omega) (by omega) hfit
    have hge := grownCap_ge w (len + m) row.length 5
    have hcm : grownCap w (len + m) row.length 5 ≤ maxLen := grownCap_le_maxLen w (len + m) row.length 5 (by unfold maxLen; omega)
    unfold maxLen at hcm
    generalize grownCap w (len + m) row.length 5 = c at *
    rw [← bvs_app, bvs_zero] at hr
    have hl : (row.take len ++ news ++ List.replicate (c - (len + m)) (0 : UInt8)).length = c := by simp; omega
    refine ⟨some w.heap.size, row.take len ++ news ++ List.replicate (c - (len + m)) 0, _, by rw [hl]; exact hr, ⟨?_, by simp, by omega, by omega, ?_, by omega, ?_, by simp⟩⟩
    · rintro z ⟨⟩
      exact ⟨0, 0, heap_alloc_new w.drew _, Nat.zero_le _⟩
    · exact List.take_left' (by simp; omega)
    · exact ((Fr.refl _ w).drew).alloc _

/-- The builder behind an append and the store of what it returns. -/
theorem BldP.put {w w' : World} {b : Nat} {p : Value} {g g' : Option Nat} {row row' : List UInt8} {len m : Nat} {news : List UInt8} (h : BldP w b p g row len) (ha : Apped w w' g g' row row' len m news) :
    BldP (w'.setCell ⟨b, 1, none⟩ (.slice (g'.map fun g => ⟨g, 0, none⟩) (len + m) row'.length)) b p g' row' (len + m) ∧ Fr (b :: g.toList) w (w'.setCell ⟨b, 1, none⟩ (.slice (g'.map fun g => ⟨g, 0, none⟩) (len + m) row'.length)) := by
  have hne : ∀ x, g = some x → x ≠ b := fun x e => (h.some_ x e).1
  have hb : b ∉ g.toList := fun hm => by simp only [Option.mem_toList] at hm; exact hne b hm rfl
  have hk : Blk w' b 59 _ := h.blk.fr ha.fr hb
  refine ⟨⟨hk.set_ 1 _, ha.len_le, ha.cap_le, ha.none_, fun x e => ?_⟩, ?_⟩
  · have hxb : x ≠ b := by
      rcases ha.at_ x e with h1 | h1
      · exact hne x h1
      · have := h.blk.lt; omega
    exact ⟨hxb, (ha.row_ x e).fr ((Fr.refl [b] w').setCell (.inl (by simp)) _) (by simpa using hxb)⟩
  · exact (ha.fr.more (fun i hi => List.mem_cons_of_mem _ hi)).setCell (.inl (by simp)) _
theorem Apped.blk {w w' : World} {g g' : Option Nat} {row row' : List UInt8} {len m : Nat} {news : List UInt8} {b : Nat} {p : Value} (ha : Apped w w' g g' row row' len m news) (h : BldP w b p g row len) : w'.cell? ⟨b, 1, none⟩ = w.cell? ⟨b, 1, none⟩ ∧ w'.frozen? ⟨b, 1, none⟩ = false := by
  have hne : ∀ x, g = some x → x ≠ b := fun x e => (h.some_ x e).1
  have hb : b ∉ g.toList := fun hm => by simp only [Option.mem_toList] at hm; exact hne b hm rfl
  exact ⟨ha.fr.cell (p := ⟨b, 1, none⟩) h.blk.lt hb, (h.blk.fr ha.fr hb).frozen 1⟩

/-- What MakeNoZero lays: some bytes. -/
theorem digits_bytes : ∀ (n t : Nat) (l : List UInt8), ∃ l' : List UInt8, Extern.BytealgMakeNoZero.digits n t (bvs l) = bvs l'
  | 0, t, l => ⟨l, rfl⟩
  | n + 1, t, l => by
    have e : (bvs l).push (.int .u8 (Int.ofNat (t % 256))) = bvs (l ++ [UInt8.ofNat (t % 256)]) := by
      apply Array.ext'
      simp [bvs, bv]
    rw [Extern.BytealgMakeNoZero.digits, e]
    exact digits_bytes n (t / 256) _
theorem run_makeNoZero_bytes {P : Program} (w : World) (ps : Array TypeId) (t : TypeId) (ht : P.underlying t = some (.slice 5)) (n : Nat) (hn : n ≤ 281474976710656) :
    ∃ l : List UInt8, (Extern.BytealgMakeNoZero.makeNoZero ps #[t] #[.int .i64 n]).run P w = .ok (.slice (some ⟨w.heap.size, 0, none⟩) n l.length) (w.drew.drew.alloc (.cells (bvs l) 5)) ∧ n ≤ l.length ∧ l.length ≤ 9223372036854775807 := by
  obtain ⟨cs, hrun, hge, hle⟩ := Lib.run_makeNoZero (P := P) w ps t 5 ht n hn
  have h1 : ¬ (n : Int) < 0 := by omega
  have h2 : ¬ (281474976710656 : Int) < (n : Int) := by omega
  have hr : Sem.run P (Bind.bind (underlying t) _ : Sem Value) w = .ok (Value.slice (some ⟨w.heap.size, 0, none⟩) n cs.size) (w.drew.drew.alloc (.cells cs 5)) := hrun
  simp [run_underlying ht, h1, h2, Question.forced, newRow] at hr
  have h3 := congrArg (fun W : World => W.heap[w.heap.size]?) hr.2
  have e1 : ∀ o, (w.drew.drew.alloc o).heap[w.heap.size]? = some o := fun o => heap_alloc_new w.drew.drew o
  simp only [e1] at h3
  injection h3 with h3
  injection h3 with h3
  obtain ⟨l, hl⟩ : ∃ l, cs = bvs l := by
    obtain ⟨l, hl⟩ := digits_bytes _ _ []
    exact ⟨l, h3.symm.trans hl⟩
  have hs : cs.size = l.length := by rw [hl, bvs_size]
  rw [hs] at hrun hge hle
  rw [hl] at hrun
  refine ⟨l, hrun, hge, ?_⟩
  have := hle (by unfold maxLen; omega)
  unfold maxLen at this
  exact this

end Go.Proofs.YtgniidnbpkhmcaaDoor
