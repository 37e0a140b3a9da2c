/- A source that is read. -/
import Derived.Test.YtgjaeggpaomoaaaDoorNums
import Derived.Test.YtgjaeggpaomoaaaDoorCopy
import Derived.Test.YtgjaeggpaomoaaaDoorEof
import Derived.Deep.RegionWith
import Derived.Deep.DrawnRows
import Derived.Deep.RegionLaw
namespace Go.Proofs.YtgjaeggpaomoaaaDoor
open Go.RowKit
set_option linter.unusedVariables false
set_option linter.unusedSectionVars false
attribute [local go_sem ↓] Go.wp_at_zero Go.wp_at_succ

theorem sizeStr : (Tryd.prog.info? 9).map (fun i => i.size) = some 1 := by kernel_rfl
/-- copy(p, s), s a string that is longer than p: as copy of the string's head. -/
theorem run_copy_head {P : Program} (w : World) (dT sT ty : TypeId) (A : Option Addr) (dl dc : Nat) (l : List UInt8) (hu : P.underlying dT = some (.slice 5)) (h : dl ≤ l.length) :
    (Builtin.copy_ #[dT, sT] ty #[.slice A dl dc, .string ⟨l.toArray⟩]).run P w = (Builtin.copy_ #[dT, sT] ty #[.slice A dl dc, .string ⟨(l.take dl).toArray⟩]).run P w := by
  have e1 : Nat.min l.length dl = dl := Nat.min_eq_right h
  have e2 : Nat.min (l.take dl).length dl = dl := by
    rw [List.length_take, Nat.min_eq_left h]
    exact Nat.min_self dl
  have hl : ∀ x : List UInt8, (Builtin.lenOf (.string ⟨x.toArray⟩)).run P w = .ok x.length w := fun x => by simp [Builtin.lenOf, str_size]
  have hf : ∀ s : Nat, Builtin.firstCells s dl (.string ⟨l.toArray⟩) = Builtin.firstCells s dl (.string ⟨(l.take dl).toArray⟩) := fun s => by
    simp only [Builtin.firstCells, str_extract, List.take_take, Nat.min_self]
  simp only [Builtin.copy_, run_underlying hu, Sem.run_bind, Result.andThen_ok, hl, List.getElem?_toArray, List.getElem?_cons_zero, List.getElem?_cons_succ, e1, e2, hf]

/-- The chunks that a source has left. -/
structure Chks (w : World) (gs : Nat) (A : Option Addr) (n c : Nat) (cs : List (List UInt8)) : Prop where
  len : n = cs.length
  cap : n ≤ c
  blk : 0 < n → ∃ o arr, A = some ⟨gs, o, none⟩ ∧ Blk w gs 9 arr ∧ ∀ j x, cs[j]? = some x → arr[o + j]? = some (sv x)
theorem Chks.fr {S : List Nat} {w w' : World} {gs : Nat} {A : Option Addr} {n c : Nat} {cs : List (List UInt8)} (h : Chks w gs A n c cs) (hf : Fr S w w') (hn : ∀ arr, Blk w gs 9 arr → gs ∉ S) : Chks w' gs A n c cs :=
  ⟨h.len, h.cap, fun h0 => by obtain ⟨o, arr, e, hb, hc⟩ := h.blk h0; exact ⟨o, arr, e, hb.fr hf (hn arr hb), hc⟩⟩
/-- The error at the end of a source. -/
def endV (a : Addr) (f : Bool) : Value := if f then .iface 75 (.agg #[]) else .iface 137 (.pointer (some a))
/-- A source in block k. -/
def Srce (w : World) (k gs : Nat) (f h : Bool) (cs : List (List UInt8)) : Prop := ∃ A n c, Blk w k 73 #[.slice A n c, .bool f, .bool h] ∧ Chks w gs A n c cs

theorem source_end (w : World) (k : Nat) (v : Value) (f h : Bool) (a : Addr) (hk : Blk w k 73 #[v, .bool f, .bool h]) (hE : Eof w a) :
    Calls Tryd.prog 116 #[.pointer (some ⟨k, 0, none⟩)] w fun e w' => e = .returned (endV a f) ∧ w = w' := by
  have c1 : w.cell? ⟨k, 1, none⟩ = some (.bool f) := hk.cell 1
  unfold Eof at hE
  clear hk
  cases f
  · go_enter Tryd.func116, Tryd.ntmps116
    go_wp2_with fail
    go_ret
    exact ⟨rfl, rfl⟩
  · go_enter Tryd.func116, Tryd.ntmps116
    go_wp2_with fail
    go_ret
    exact ⟨rfl, rfl⟩

theorem source_Read_none (w : World) (k gs : Nat) (f h : Bool) (a : Addr) (hS : Srce w k gs f h []) (hE : Eof w a) (B : Option Addr) (m c : Nat) :
    Calls Tryd.prog 115 #[.pointer (some ⟨k, 0, none⟩), .slice B m c] w fun e w' => e = .returned (.tuple #[.int .i64 0, endV a f]) ∧ w = w' := by
  obtain ⟨A, n, c', hk, hC⟩ := hS
  obtain rfl : n = 0 := hC.len
  have c0 : w.cell? ⟨k, 0, none⟩ = some (.slice A 0 c') := hk.cell 0
  have HE := Lib.hid (source_end w k _ f h a hk hE)
  clear hk hC hE
  go_enter Tryd.func115, Tryd.ntmps115
  go_wp2_with fail
  refine HE.out.mono ?_
  rintro e w1 ⟨rfl, rfl⟩
  go_wp2_with fail
  go_ret2
  exact ⟨rfl, rfl⟩

/-- What a read of a source leaves. -/
structure SRead (w w' : World) (k gs g : Nat) (f h : Bool) (cs' : List (List UInt8)) (row row' : List UInt8) : Prop where
  srce : Srce w' k gs f h cs'
  row : Row w' g row'
  fr : Fr [k, gs, g] w w'

theorem SRead.drew {w w' : World} {k gs g : Nat} {f h : Bool} {cs' : List (List UInt8)} {row row' : List UInt8} (H : SRead w w' k gs g f h cs' row row') : SRead w w'.drew k gs g f h cs' row row' := by
  obtain ⟨⟨A, n, c, hk, hC⟩, hR, hf⟩ := H
  have hd : Fr [] w' w'.drew := (Fr.refl [] w').drew
  exact ⟨⟨A, n, c, hk.fr hd (by simp), hC.fr hd (by simp)⟩, hR.fr hd (by simp), hf.drew⟩
theorem Eof.ne_row {w : World} {a : Addr} {g : Nat} {row : List UInt8} (hE : Eof w a) (hR : Row w g row) : 1 ≠ g := by
  intro e
  have h1 : w.cell? ⟨1, 0, none⟩ = some (.iface 137 (.pointer (some a))) := hE
  rw [e, hR.cell] at h1
  cases h : row[0]? with
  | none => rw [h] at h1; cases h1
  | some x => rw [h] at h1; simp [bv] at h1
theorem Eof.ne_blk {w : World} {a : Addr} {k : Nat} {t : TypeId} {cs : Array Value} (hE : Eof w a) (hk : Blk w k t cs) (h0 : ∀ u v, cs[0]? ≠ some (.iface u v)) : 1 ≠ k := by
  intro e
  have h1 : w.cell? ⟨1, 0, none⟩ = some (.iface 137 (.pointer (some a))) := hE
  rw [e, hk.cell] at h1
  exact h0 _ _ h1
theorem chk_cut {arr : Array Value} {o : Nat} {x y : List UInt8} {cs : List (List UInt8)} (h : ∀ j z, (x :: cs)[j]? = some z → arr[o + j]? = some (sv z)) : ∀ j z, (y :: cs)[j]? = some z → (arr.setIfInBounds o (sv y))[o + j]? = some (sv z) := by
  intro j z hz
  have h0 := h 0 x rfl
  have ho : o < arr.size := by simpa using (Array.getElem?_eq_some_iff.1 h0).1
  cases j with
  | zero => simp at hz; subst hz; simp [ho]
  | succ j =>
    have := h (j + 1) z (by simpa using hz)
    rw [Array.getElem?_setIfInBounds_ne (by omega)]
    exact this
theorem row_ne_blk {w : World} {g k : Nat} {row : List UInt8} {t : TypeId} {cs : Array Value} (hR : Row w g row) (hk : Blk w k t cs) (ht : t ≠ 5) : g ≠ k := by
  rintro rfl
  obtain ⟨lo, hi, hr, _⟩ := hR
  unfold Blk at hk
  rw [hr] at hk
  injection hk with hk
  injection hk with _ h
  exact ht h.symm

section
variable (w : World) (k gs g : Nat) (f h : Bool) (a : Addr) (x : List UInt8) (cs : List (List UInt8)) (hS : Srce w k gs f h (x :: cs)) (hE : Eof w a) (row : List UInt8) (hR : Row w g row) (i m : Nat) (hm : i + m = row.length) 
include hS hE hR hm

set_option maxHeartbeats 1600000 in
set_option maxRecDepth 100000 in
/-- The chunk does not fit. -/
theorem source_Read_cut (hx : m < x.length) (hxl : x.length ≤ 9223372036854775807) :
    Calls Tryd.prog 115 #[.pointer (some ⟨k, 0, none⟩), .slice (cutA (some ⟨g, 0, none⟩) row.length i) m m] w fun e w' => e = .returned (.tuple #[.int .i64 (m : Int), .nilIface]) ∧ SRead w w' k gs g f h (x.drop m :: cs) row (over row i (x.take m)) := by
  obtain ⟨A, n, c', hk, hC⟩ := hS
  have hnl : n = cs.length + 1 := by have := hC.len; simpa using this
  obtain ⟨o, arr, rfl, hb, hcell⟩ := hC.blk (by omega)
  have hne : gs ≠ k := Blk.ne_ hb hk (by decide)
  have hgk : g ≠ k := row_ne_blk hR hk (by decide)
  have hgg : g ≠ gs := row_ne_blk hR hb (by decide)
  have hx0 := hcell 0 x rfl
  simp only [Nat.add_zero] at hx0
  have c0 : w.cell? ⟨k, 0, none⟩ = some (.slice (some ⟨gs, o, none⟩) n c') := hk.cell 0
  have d0 : w.cell? ⟨gs, o, none⟩ = some (sv x) := (hb.cell o).trans hx0
  have htl : (x.take m).length = m := by simp; omega
  have hcp := run_copy_str (P := Tryd.prog) hR (x.take m) 22 9 3 Tryd.underlying22 size5 i m m (by omega) (by omega)
  rw [← run_copy_head (P := Tryd.prog) w 22 9 3 _ m m x Tryd.underlying22 (by omega), htl] at hcp
  have hR2 := row_setCells hR i (x.take m) (by omega)
  have hf2 := fr_setCells g ((x.take m).map bv) i w
  have HR := Lib.hid hR2
  have HF := Lib.hid hf2
  have hk2 := hk.fr hf2 (by simpa using Ne.symm hgk)
  have hb2 := hb.fr hf2 (by simpa using Ne.symm hgg)
  have e0 := hk2.cell 0
  have e1 := (hb2.cell o).trans hx0
  have e2 := hb2.frozen o
  simp only [List.getElem?_toArray, List.getElem?_cons_zero] at e0
  have HK2 := Lib.hid hk2
  have HB2 := Lib.hid hb2
  have HC := Lib.hid hcell
  have hcap := hC.cap
  unfold sv at d0 e1
  clear hk hC hb hR hR2 hf2 hk2 hb2 hcell hx0
  generalize (w.setCells g i ((x.take m).map bv)) = w2 at *
  have hlt : decide ((m : Int) < (x.length : Int)) = true := by simp; omega
  go_enter Tryd.func115, Tryd.ntmps115
  go_wp2_with fail
  go_region
  all_goals
    go_wp2_with fail
    go_ret2
    refine ⟨rfl, SRead.drew ?_⟩
    exact ⟨⟨_, n, c', HK2.out.far (by simpa using Ne.symm hne) _, ⟨by simpa using hnl, hcap, fun _ => ⟨o, _, rfl, HB2.out.set_ o _, chk_cut HC.out⟩⟩⟩, HR.out.far (by simpa using Ne.symm hgg) _, (HF.out.more (by simp)).setCell (.inl (by simp)) _⟩

set_option maxHeartbeats 3200000 in
set_option maxRecDepth 100000 in
/-- The chunk fits. -/
theorem source_Read_fit (hx : x.length ≤ m) :
    Calls Tryd.prog 115 #[.pointer (some ⟨k, 0, none⟩), .slice (cutA (some ⟨g, 0, none⟩) row.length i) m m] w fun e w' => e = .returned (.tuple #[.int .i64 (x.length : Int), if h && cs.isEmpty then endV a f else .nilIface]) ∧ SRead w w' k gs g f h cs row (over row i x) := by
  obtain ⟨A, n, c', hk, hC⟩ := hS
  obtain ⟨q, rfl⟩ : ∃ q, n = q + 1 := ⟨cs.length, by have := hC.len; simpa using this⟩
  have hq : q = cs.length := by have := hC.len; simpa using this
  obtain ⟨o, arr, rfl, hb, hcell⟩ := hC.blk (by omega)
  have hne : gs ≠ k := Blk.ne_ hb hk (by decide)
  have hgk : g ≠ k := row_ne_blk hR hk (by decide)
  have hgg : g ≠ gs := row_ne_blk hR hb (by decide)
  have hEg := hE.ne_row hR
  have hEk := hE.ne_blk hk (by simp)
  have hx0 := hcell 0 x rfl
  simp only [Nat.add_zero] at hx0
  have c0 : w.cell? ⟨k, 0, none⟩ = some (.slice (some ⟨gs, o, none⟩) (q + 1) c') := hk.cell 0
  have d0 : w.cell? ⟨gs, o, none⟩ = some (sv x) := (hb.cell o).trans hx0
  have hcp := run_copy_str (P := Tryd.prog) hR x 22 9 3 Tryd.underlying22 size5 i m m (by omega) hx
  have hR2 := row_setCells hR i x (by omega)
  have hf2 := fr_setCells g (x.map bv) i w
  have HR := Lib.hid hR2
  have HF := Lib.hid hf2
  have hk2 := hk.fr hf2 (by simpa using Ne.symm hgk)
  have hb2 := hb.fr hf2 (by simpa using Ne.symm hgg)
  have hE2 := hE.fr hf2 (by simpa using hEg)
  have e0 := hk2.cell 0
  have e4 := hk2.cell 2
  have e1 := (hb2.cell o).trans hx0
  have e3 := hk2.frozen 0
  simp only [List.getElem?_toArray, List.getElem?_cons_zero, List.getElem?_cons_succ] at e0 e4
  have HK2 := Lib.hid hk2
  have HB2 := Lib.hid hb2
  have HC := Lib.hid hcell
  have HQ := Lib.hid hq
  have hcap := hC.cap
  unfold sv at d0 e1
  clear hk hC hb hR hR2 hf2 hk2 hb2 hcell hx0 hq
  generalize (w.setCells g i (x.map bv)) = w2 at *
  have hsl := fun W => run_cut_l (P := Tryd.prog) 37 9 Tryd.underlying37 sizeStr (some ⟨gs, o, none⟩) (q + 1) c' W 1 (by omega)
  simp only [Int.natCast_one, Nat.add_sub_cancel] at hsl
  have hset : Hid (∀ v, v = cutA (some ⟨gs, o, none⟩) c' 1 → SRead w (w2.setCell ⟨k, 0, none⟩ (.slice v q (c' - 1))) k gs g f h cs row (over row i x)) := by
    rintro v rfl
    have hfs : Fr [k] w2 (w2.setCell ⟨k, 0, none⟩ (.slice (cutA (some ⟨gs, o, none⟩) c' 1) q (c' - 1))) := (Fr.refl [k] w2).setCell (.inl (by simp)) _
    refine ⟨⟨_, q, c' - 1, HK2.out.set_ 0 _, ⟨HQ.out, by omega, fun h0 => ⟨o + 1, arr, ?_, HB2.out.fr hfs (by simpa using hne), fun j z hz => ?_⟩⟩⟩, HR.out.fr hfs (by simpa using hgk), (HF.out.more (by simp)).trans (hfs.more (by simp))⟩
    · unfold cutA
      rw [if_neg (by omega)]
      simp [add_at]
    · have := HC.out (j + 1) z (by simpa using hz)
      rw [show o + 1 + j = o + (j + 1) by omega]
      exact this
  have HE := Lib.hid (source_end (w2.setCell ⟨k, 0, none⟩ (.slice (cutA (some ⟨gs, o, none⟩) c' 1) q (c' - 1))) k _ f h a (HK2.out.set_ 0 _) (hE2.fr ((Fr.refl [k] w2).setCell (.inl (by simp)) _) (by simpa using hEk)))
  have hlt : decide ((x.length : Int) < (x.length : Int)) = false := by simp
  clear hE hE2 hEg hEk
  cases h
  · go_enter Tryd.func115, Tryd.ntmps115
    go_wp2_with fail
    go_ret2
    exact ⟨rfl, hset.out _ rfl⟩
  · by_cases h0 : cs = []
    · have hq0 : q = 0 := by rw [HQ.out, h0]; rfl
      have hemp : (true && cs.isEmpty) = true := by rw [h0]; rfl
      rw [hemp]
      subst hq0
      clear hemp h0
      go_enter Tryd.func115, Tryd.ntmps115
      go_wp2_with fail
      refine HE.out.mono ?_
      rintro e w3 ⟨rfl, rfl⟩
      go_wp2_with fail
      go_ret2
      exact ⟨rfl, hset.out _ rfl⟩
    · have hq0 : 0 < q := by rw [HQ.out]; exact List.length_pos_iff.2 h0
      have hqb : ((q : Int) == 0) = false := by simp; omega
      have hemp : (true && cs.isEmpty) = false := by cases cs with | nil => exact absurd rfl h0 | cons y r => rfl
      rw [hemp]
      clear hemp h0
      go_enter Tryd.func115, Tryd.ntmps115
      go_wp2_with fail
      go_ret2
      exact ⟨rfl, hset.out _ rfl⟩

end
theorem Srce.fr {S : List Nat} {w w' : World} {k gs : Nat} {f h : Bool} {cs : List (List UInt8)} (H : Srce w k gs f h cs) (hf : Fr S w w') (hk : k ∉ S) (hn : ∀ arr, Blk w gs 9 arr → gs ∉ S) : Srce w' k gs f h cs := by
  obtain ⟨A, n, c, h1, h2⟩ := H
  exact ⟨A, n, c, h1.fr hf hk, h2.fr hf hn⟩
/-- How many chunks a source has, by its block. -/
def lenAt (w : World) (k : Nat) : Nat := match w.cell? ⟨k, 0, none⟩ with
  | some (.slice _ n _) => n
  | _ => 0
theorem Srce.lenAt {w : World} {k gs : Nat} {f h : Bool} {cs : List (List UInt8)} (H : Srce w k gs f h cs) : lenAt w k = cs.length := by
  obtain ⟨A, n, c, h1, h2⟩ := H
  have := h1.cell 0
  simp only [List.getElem?_toArray, List.getElem?_cons_zero] at this
  unfold Go.Proofs.YtgjaeggpaomoaaaDoor.lenAt
  rw [this]
  exact h2.len
/-- A read of a source: it goes on, or it is at its end. -/
theorem source_Read (w : World) (k gs g : Nat) (f h : Bool) (a : Addr) (cs : List (List UInt8)) (hS : Srce w k gs f h cs) (hE : Eof w a) (row : List UInt8) (hR : Row w g row) (i m : Nat) (hm : i + m = row.length) (hm0 : 0 < m) (hcl : ∀ x ∈ cs, x.length ≤ 9223372036854775807) :
    (∃ d cs', (d.length ≤ m ∧ d ++ cs'.flatten = cs.flatten ∧ (cs'.length < cs.length ∨ (cs'.length = cs.length ∧ 0 < d.length)) ∧ ∀ x ∈ cs', x.length ≤ 9223372036854775807) ∧ Calls Tryd.prog 115 #[.pointer (some ⟨k, 0, none⟩), .slice (cutA (some ⟨g, 0, none⟩) row.length i) m m] w fun e w' => e = .returned (.tuple #[.int .i64 (d.length : Int), .nilIface]) ∧ SRead w w' k gs g f h cs' row (over row i d)) ∨
    (∃ d, (d.length ≤ m ∧ d = cs.flatten) ∧ Calls Tryd.prog 115 #[.pointer (some ⟨k, 0, none⟩), .slice (cutA (some ⟨g, 0, none⟩) row.length i) m m] w fun e w' => e = .returned (.tuple #[.int .i64 (d.length : Int), endV a f]) ∧ SRead w w' k gs g f h [] row (over row i d)) := by
  cases cs with
  | nil =>
    refine .inr ⟨[], ⟨by simp, by simp⟩, (source_Read_none w k gs f h a hS hE _ m m).mono ?_⟩
    rintro e w' ⟨rfl, rfl⟩
    exact ⟨rfl, hS, by rw [over_nil]; exact hR, Fr.refl _ _⟩
  | cons x r =>
    by_cases hx : x.length ≤ m
    · have hc := source_Read_fit w k gs g f h a x r hS hE row hR i m hm hx
      by_cases he : (h && r.isEmpty) = true
      · rw [he] at hc
        have hr : r = [] := by simp at he; exact he.2
        subst hr
        refine .inr ⟨x, ⟨hx, by simp⟩, ?_⟩
        exact hc
      · have he' : (h && r.isEmpty) = false := by simpa using he
        rw [he'] at hc
        refine .inl ⟨x, r, ⟨hx, by simp, .inl (by simp), fun y hy => hcl y (by simp [hy])⟩, ?_⟩
        exact hc
    · have hc := source_Read_cut w k gs g f h a x r hS hE row hR i m hm (by omega) (hcl x (by simp))
      have hl : (x.take m).length = m := by simp; omega
      refine .inl ⟨x.take m, x.drop m :: r, ⟨by omega, by rw [List.flatten_cons, List.flatten_cons, ← List.append_assoc, List.take_append_drop], .inr ⟨rfl, by omega⟩, fun y hy => ?_⟩, ?_⟩
      · rcases List.mem_cons.1 hy with e | e
        · have := hcl x (by simp)
          rw [e, List.length_drop]
          omega
        · exact hcl y (by simp [e])
      · rw [hl]
        exact hc
end Go.Proofs.YtgjaeggpaomoaaaDoor
