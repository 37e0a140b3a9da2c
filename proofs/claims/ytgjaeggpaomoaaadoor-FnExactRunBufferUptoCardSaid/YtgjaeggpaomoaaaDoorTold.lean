/- A script's call: the word of an error; the call's result. -/
import Derived.Test.YtgjaeggpaomoaaaDoorScr
import Derived.Test.YtgjaeggpaomoaaaDoorRdRune
import Derived.Test.YtgjaeggpaomoaaaDoorRecs
import Derived.Deep.RegionWith
import Derived.Deep.DrawnRows
namespace Go.Proofs.YtgjaeggpaomoaaaDoor
open Go.RowKit
set_option linter.unusedVariables false
attribute [local go_sem ↓] Go.wp_at_zero Go.wp_at_succ

theorem told_nil (w : World) : Calls Tryd.prog 39 #[.nilIface] w fun e w' => e = .returned (.string ⟨#[]⟩) ∧ w = w' := by
  go_enter Tryd.func39, Tryd.ntmps39
  go_wp2_with fail
  go_ret
  exact ⟨rfl, rfl⟩
theorem told_end (w : World) (a : Addr) (hE : Eof w a) : Calls Tryd.prog 39 #[.iface 137 (.pointer (some a))] w fun e w' => e = .returned (.string ⟨#[101, 110, 100]⟩) ∧ w = w' := by
  have he1 := run_eql_eof a
  unfold Eof at hE
  go_enter Tryd.func39, Tryd.ntmps39
  go_wp2_with fail
  go_ret
  exact ⟨rfl, rfl⟩
theorem run_eql_other (a c : Addr) (h : c ≠ a) (w : World) {ca cc : Array Value} {ta tc : TypeId} (hc0 : w.heap[c.block]? = some (.cells cc tc (0, 0))) (ha0 : w.heap[a.block]? = some (.cells ca ta (0, 0))) : (binOp .eql 68 (.iface 137 (.pointer (some c))) (.iface 137 (.pointer (some a)))).run Tryd.prog w = .ok (.bool false) w := by
  obtain ⟨i, hi⟩ : ∃ i, Tryd.prog.info? 137 = some i := by
    cases h : Tryd.prog.info? 137 with
    | some i => exact ⟨i, rfl⟩
    | none => exact absurd (show (Tryd.prog.info? 137).isSome = true by kernel_rfl) (by simp [h])
  obtain ⟨j, hj⟩ : ∃ i, Tryd.prog.info? 139 = some i := by
    cases h : Tryd.prog.info? 139 with
    | some i => exact ⟨i, rfl⟩
    | none => exact absurd (show (Tryd.prog.info? 139).isSome = true by kernel_rfl) (by simp [h])
  have hc : i.comparable = true := by
    have : (Tryd.prog.info? 137).map (·.comparable) = some true := by kernel_rfl
    simpa [hi] using this
  have hz : j.size ≠ 0 := by
    have : (Tryd.prog.info? 139).map (·.size) = some 1 := by kernel_rfl
    simp [hj] at this
    omega
  exact run_eql_iface_ptr_other (P := Tryd.prog) w Tryd.underlying68 Tryd.underlying137 hi hc hj hz h hc0 ha0

/-- What a script's calls ask of the variables: they lie below W, and the two errors are two. -/
structure Env (W : Nat) (w : World) (a c : Addr) : Prop where
  tabs : Tabs w
  eof : Eof w a
  unr : Unr w c
  ne : c ≠ a
  ba : ∃ cs t, w.heap[a.block]? = some (.cells cs t (0, 0))
  bc : ∃ cs t, w.heap[c.block]? = some (.cells cs t (0, 0))
  low : 1 < W ∧ 2 < W ∧ 4 < W ∧ 5 < W ∧ a.block < W ∧ c.block < W
theorem Env.fr {W : Nat} {w w' : World} {a c : Addr} {S : List Nat} (h : Env W w a c) (hf : Fr S w w') (hS : ∀ i ∈ S, W ≤ i) : Env W w' a c := by
  have hl := h.low
  obtain ⟨cs, t, hba⟩ := h.ba
  obtain ⟨cs2, t2, hbc⟩ := h.bc
  exact ⟨h.tabs.fr hf (fun hs => by have := hS _ hs; omega) (fun hs => by have := hS _ hs; omega), h.eof.fr hf (fun hs => by have := hS _ hs; omega), h.unr.fr hf (fun hs => by have := hS _ hs; omega), h.ne,
    ⟨cs, t, (hf.block _ (heap_lt hba) (fun hs => by have := hS _ hs; omega)).trans hba⟩, ⟨cs2, t2, (hf.block _ (heap_lt hbc) (fun hs => by have := hS _ hs; omega)).trans hbc⟩, hl⟩
theorem told_other (w : World) (a c : Addr) (hE : Eof w a) (hne : c ≠ a) (hc0 : ∃ cs t, w.heap[c.block]? = some (.cells cs t (0, 0))) (ha0 : ∃ cs t, w.heap[a.block]? = some (.cells cs t (0, 0))) :
    Calls Tryd.prog 39 #[.iface 137 (.pointer (some c))] w fun e w' => e = .returned (.string ⟨#[101, 114, 114, 111, 114]⟩) ∧ w = w' := by
  obtain ⟨_, _, hc0⟩ := hc0
  obtain ⟨_, _, ha0⟩ := ha0
  have he1 := run_eql_other a c hne w hc0 ha0
  clear hc0 ha0
  unfold Eof at hE
  go_enter Tryd.func39, Tryd.ntmps39
  go_wp2_with fail
  go_ret
  exact ⟨rfl, rfl⟩
/-- The word of io.EOF, or of none. -/
def eword (eo : Bool) : List UInt8 := if eo then [101, 110, 100] else []
theorem told_ev (w : World) (a : Addr) (hE : Eof w a) (eo : Bool) : Calls Tryd.prog 39 #[ev a eo] w fun e w' => e = .returned (.string ⟨(eword eo).toArray⟩) ∧ w = w' := by
  cases eo
  · exact told_nil w
  · exact told_end w a hE

/-- What a call of a script on a buffer leaves. -/
def CallPost (W b : Nat) (s : Sta) (o : OpV) (g : Option Nat) (len : Nat) (w : World) (e : Ending) (w' : World) : Prop :=
  ∃ st : StV, e = .returned (.agg #[.string ⟨st.text.toArray⟩, .int .i64 st.n, .int .i32 st.char, .string ⟨st.err.toArray⟩]) ∧ Hid ((callM s o).2.2 = true → st = (callM s o).2.1) ∧ Fr (b :: g.toList) w w' ∧
    Hid (st.err = e_panic ∨ ∃ s' g' row' len' off' lr', Scr W w' b s' g' row' len' off' lr' ∧ ((callM s o).2.2 = true → s' = (callM s o).1) ∧ len' ≤ len + o.text.length + 4)

end Go.Proofs.YtgjaeggpaomoaaaDoor
