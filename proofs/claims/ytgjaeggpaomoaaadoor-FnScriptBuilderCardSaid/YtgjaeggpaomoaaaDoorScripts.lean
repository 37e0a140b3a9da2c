/- Scripts of known calls. -/
import Derived.Test.YtgjaeggpaomoaaaDoorRun
namespace Go.Proofs.YtgjaeggpaomoaaaDoor
open Go.RowKit
set_option linter.unusedVariables false
attribute [local go_sem ↓] Go.wp_at_zero Go.wp_at_succ

theorem rs_fresh (W : World) (cs : List Value) (t : TypeId) (n s : Nat) (hn : cs.length = n * s) : Rs (W.alloc (.cells cs.toArray t)) (some ⟨W.heap.size, 0, none⟩) n s cs := by
  refine ⟨hn, fun _ => ⟨W.heap.size, rfl, fun j hj => ?_⟩⟩
  rw [cell_of_row _ _ j cs.toArray t (0, 0) (heap_alloc_new W _)]
  simp [hj]
/-- RunBuffer on a script in a new row all of whose results are known. -/
theorem run_script (l : List UInt8) (ops : List OpV) (sts : List StV) (W0 : Nat) (W : World) (a c : Addr) (hW : W0 ≤ W.heap.size) (hV : Env W0 W a c) (hN : l.length + tsum ops + ops.length ≤ 1048576) (hok : ∀ o ∈ ops, o.Ok ∧ o.n ≤ 1048576 ∧ o.kind ∈ kinds) (h1 : okM (sta0 l) ops = true) (h2 : runM (sta0 l) ops = sts) :
    Calls Tryd.prog 15 #[.string ⟨l.toArray⟩, .slice (some ⟨W.heap.size, 0, none⟩) ops.length ops.length] (W.alloc (.cells (ops.flatMap OpV.cells).toArray 59)) fun e w' => ∃ (B : Option Addr) (d : Nat), e = .returned (.slice B sts.length d) ∧ Rs w' B sts.length 4 (sts.flatMap StV.cells) ∧ Fr [] W w' := by
  have hV2 := hV.fr ((Fr.refl [] W).alloc (.cells (ops.flatMap OpV.cells).toArray 59)) (by simp)
  have hlow : Env (W.alloc (.cells (ops.flatMap OpV.cells).toArray 59)).heap.size (W.alloc (.cells (ops.flatMap OpV.cells).toArray 59)) a c :=
    ⟨hV2.tabs, hV2.eof, hV2.unr, hV2.ne, hV2.ba, hV2.bc, by have := hV2.low; simp only [World.size_alloc]; omega⟩
  refine (impl_RunBuffer l _ ops.length ops.length ops _ a c hlow (rs_fresh W _ _ _ 5 (recs_length OpV.cells 5 (fun _ => rfl) ops)) rfl hN hok).mono ?_
  rintro e w' ⟨B, m, d, sts', rfl, hR, hm, _, H, hf⟩
  have h3 := H.out.2 h1
  rw [h2] at h3
  subst h3
  subst hm
  exact ⟨B, d, rfl, hR, ((Fr.refl [] W).alloc _).trans hf⟩

def opS (k : List UInt8) (z : Nat) : OpV := ⟨k, [], z, 0, 0⟩
theorem opS_ok (k : List UInt8) (z : Nat) (hz : z ≤ 65535) : (opS k z).Ok := ⟨hz, by show (_ : Int) ≤ 0; omega, by show (0 : Int) ≤ _; omega, by show (_ : Int) ≤ 0; omega, by show (0 : Int) ≤ _; omega⟩

/-- What unreading behind a read of m bytes gives. -/
def ubStep (m : Nat) : StV := if m = 0 then est e_error else zst
def ubText (l : List UInt8) (m : Nat) : List UInt8 := if m = 0 then l else l.drop (m - 1)

theorem run_ub (l : List UInt8) (o : OpV) (m : Nat) (st : StV) (hm : m ≤ l.length) (h : callM (sta0 l) o = ((sta0 l).rd m 1, st, true)) (hp : st.err ≠ e_panic) :
    runM (sta0 l) [o, opS k_unreadbyte 0, opS k_string 0] = [st, ubStep m, ⟨ubText l m, 0, 0, []⟩] ∧ okM (sta0 l) [o, opS k_unreadbyte 0, opS k_string 0] = true := by
  rw [runM_next _ _ _ _ _ h hp, okM_next _ _ _ _ _ h hp]
  have hz : (est e_error).err ≠ e_panic := by decide
  have hz2 : zst.err ≠ e_panic := by decide
  have hnil : ([] : List UInt8) ≠ e_panic := by decide
  by_cases h0 : m = 0
  · subst h0
    have c2 : callM ((sta0 l).rd 0 1) (opS k_unreadbyte 0) = ((sta0 l).rd 0 1, est e_error, true) := by
      rw [callM_unreadbyte _ _ rfl]; rfl
    have c3 : callM ((sta0 l).rd 0 1) (opS k_string 0) = ((sta0 l).rd 0 1, ⟨l, 0, 0, []⟩, true) := by
      rw [callM_string _ _ rfl]; rfl
    rw [runM_next _ _ _ _ _ c2 hz, okM_next _ _ _ _ _ c2 hz, runM_next _ _ _ _ _ c3 hnil, okM_next _ _ _ _ _ c3 hnil]
    exact ⟨rfl, rfl⟩
  · have e1 : (sta0 l).rd m 1 = ⟨l.drop m, 1, (l.take m).drop (m - 1), true⟩ := by simp [Sta.rd, sta0, h0]
    have e2 : (l.take m).drop (m - 1) ++ l.drop m = l.drop (m - 1) := by
      rw [List.drop_take, show m - (m - 1) = 1 by omega]
      have := List.take_append_drop 1 (l.drop (m - 1))
      rw [List.drop_drop, show m - 1 + 1 = m by omega] at this
      exact this
    rw [e1]
    have c2 : callM ⟨l.drop m, 1, (l.take m).drop (m - 1), true⟩ (opS k_unreadbyte 0) = (⟨l.drop (m - 1), 6, [], true⟩, zst, true) := by
      rw [callM_unreadbyte _ _ rfl, if_pos rfl]
      simp only [Sta.oth, e2]
    have c3 : callM ⟨l.drop (m - 1), 6, [], true⟩ (opS k_string 0) = (⟨l.drop (m - 1), 6, [], true⟩, ⟨l.drop (m - 1), 0, 0, []⟩, true) := callM_string _ _ rfl
    rw [runM_next _ _ _ _ _ c2 hz2, okM_next _ _ _ _ _ c2 hz2, runM_next _ _ _ _ _ c3 hnil, okM_next _ _ _ _ _ c3 hnil]
    simp only [ubStep, ubText, h0, if_false]
    exact ⟨rfl, rfl⟩

end Go.Proofs.YtgjaeggpaomoaaaDoor
