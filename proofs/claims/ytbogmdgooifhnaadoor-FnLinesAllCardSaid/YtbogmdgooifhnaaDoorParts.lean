/- Parts: what calls returned, as data and a mark. -/
import Derived.Test.YtbogmdgooifhnaaDoorEof
import Derived.Test.YtbogmdgooifhnaaDoorChunks
import Derived.LoopTactic
namespace Go.Proofs.YtbogmdgooifhnaaDoor
open Go.RowKit
set_option linter.unusedVariables false
attribute [local go_sem ↓] Go.wp_at_zero Go.wp_at_succ

/-- Parts of the package, as cells. -/
def pcells : List (List UInt8 × Bool) → List Value
  | [] => []
  | (t, e) :: r => sv t :: .bool e :: .bool false :: pcells r
/-- Parts of the reference, as cells. -/
def scells : List (List UInt8 × Bool) → List Value
  | [] => []
  | (t, e) :: r => sv t :: .bool e :: scells r
theorem pcells_length : ∀ ps, (pcells ps).length = ps.length * 3
  | [] => rfl
  | _ :: r => by simp [pcells, pcells_length r]; omega
theorem scells_length : ∀ ps, (scells ps).length = ps.length * 2
  | [] => rfl
  | _ :: r => by simp [scells, scells_length r]; omega
theorem pcells_append : ∀ ps qs, pcells (ps ++ qs) = pcells ps ++ pcells qs
  | [], _ => rfl
  | x :: r, qs => by simp [pcells, pcells_append r qs]
theorem scells_append : ∀ ps qs, scells (ps ++ qs) = scells ps ++ scells qs
  | [], _ => rfl
  | x :: r, qs => by simp [scells, scells_append r qs]
theorem pcells_get : ∀ (ps : List (List UInt8 × Bool)) (k : Nat) (t : List UInt8) (e : Bool), ps[k]? = some (t, e) → (pcells ps)[k * 3]? = some (.string ⟨t.toArray⟩) ∧ (pcells ps)[k * 3 + 1]? = some (.bool e) ∧ (pcells ps)[k * 3 + 2]? = some (.bool false)
  | [], k, t, e, h => by simp at h
  | (t', e') :: r, 0, t, e, h => by simp at h; obtain ⟨rfl, rfl⟩ := h; simp [pcells, sv]
  | (t', e') :: r, k + 1, t, e, h => by
    have := pcells_get r k t e (by simpa using h)
    rw [show (k + 1) * 3 = k * 3 + 3 by omega]
    simpa [pcells] using this
theorem scells_get : ∀ (ps : List (List UInt8 × Bool)) (k : Nat) (t : List UInt8) (e : Bool), ps[k]? = some (t, e) → (scells ps)[k * 2]? = some (.string ⟨t.toArray⟩) ∧ (scells ps)[k * 2 + 1]? = some (.bool e)
  | [], k, t, e, h => by simp at h
  | (t', e') :: r, 0, t, e, h => by simp at h; obtain ⟨rfl, rfl⟩ := h; simp [scells, sv]
  | (t', e') :: r, k + 1, t, e, h => by
    have := scells_get r k t e (by simpa using h)
    rw [show (k + 1) * 2 = k * 2 + 2 by omega]
    simpa [scells] using this

theorem impl_part_eof (A : Option Addr) (n c : Nat) (l : List UInt8) (a : Addr) (w : World) (hS : Sl w A n l) (hE : Eof w a) :
    Calls Tryd.prog 35 #[.slice A n c, .iface 87 (.pointer (some a))] w fun e w' => e = .returned (.agg #[.string ⟨l.toArray⟩, .bool true, .bool false]) ∧ Fr [] w w' := by
  have hst := run_string_sl (P := Tryd.prog) (hS.fr ((Fr.refl [] w).alloc (.cells #[.string ⟨#[]⟩, .bool false, .bool false] 35)).drew (by simp)) 22 9 5 c Tryd.underlying22 Tryd.underlying5 Tryd.underlying9
  have he1 := run_eql_eof a
  have he2 := run_neq_eof a
  have hE' := (hE.fr ((Fr.refl [] w).alloc (.cells #[.string ⟨#[]⟩, .bool false, .bool false] 35)) (by simp))
  unfold Eof at hE hE'
  go_enter Tryd.func35, Tryd.ntmps35
  go_wp2_with fail
  go_region
  go_wp2
  refine bodyPost_ret (v := .agg #[.string ⟨l.toArray⟩, .bool true, .bool false]) (by simp [results, Tryd.results35, go_sem]) rfl ⟨rfl, ((Fr.refl [] w).alloc _).drew⟩

theorem impl_part_nil (A : Option Addr) (n c : Nat) (l : List UInt8) (a : Addr) (w : World) (hS : Sl w A n l) (hE : Eof w a) :
    Calls Tryd.prog 35 #[.slice A n c, .nilIface] w fun e w' => e = .returned (.agg #[.string ⟨l.toArray⟩, .bool false, .bool false]) ∧ Fr [] w w' := by
  have hst := run_string_sl (P := Tryd.prog) (hS.fr ((Fr.refl [] w).alloc (.cells #[.string ⟨#[]⟩, .bool false, .bool false] 35)).drew (by simp)) 22 9 5 c Tryd.underlying22 Tryd.underlying5 Tryd.underlying9
  have he1 := fun W => run_eql_iface_nil_left (P := Tryd.prog) W 87 (.pointer (some a)) Tryd.underlying56
  have hE' := (hE.fr ((Fr.refl [] w).alloc (.cells #[.string ⟨#[]⟩, .bool false, .bool false] 35)) (by simp))
  unfold Eof at hE hE'
  go_enter Tryd.func35, Tryd.ntmps35
  go_wp2_with fail
  go_region
  go_wp2
  refine bodyPost_ret (v := .agg #[.string ⟨l.toArray⟩, .bool false, .bool false]) (by simp [results, Tryd.results35, go_sem]) rfl ⟨rfl, ((Fr.refl [] w).alloc _).drew⟩

/-- The first k of a sequence of parts. -/
def parts (f : Nat → List UInt8 × Bool) (k : Nat) : List (List UInt8 × Bool) := (List.range k).map f
theorem parts_succ (f : Nat → List UInt8 × Bool) (k : Nat) : parts f (k + 1) = parts f k ++ [f k] := by simp [parts, List.range_succ]
theorem parts_get (f : Nat → List UInt8 × Bool) (n k : Nat) (h : k < n) : (parts f n)[k]? = some (f k) := by simp [parts, h]
theorem parts_length (f : Nat → List UInt8 × Bool) (n : Nat) : (parts f n).length = n := by simp [parts]

theorem infoP : (Tryd.prog.info? 35).map (fun i => (i.zero, i.size, i.bytes)) = some (some (.agg #[.string ByteArray.empty, .bool false, .bool false]), 3, 24) := by kernel_rfl
theorem infoQ : (Tryd.prog.info? 62).map (fun i => (i.zero, i.size, i.bytes)) = some (some (.agg #[.string ByteArray.empty, .bool false]), 2, 24) := by kernel_rfl

set_option maxHeartbeats 800000 in
theorem sameParts_true (A B : Option Addr) (n c d : Nat) (f : Nat → List UInt8 × Bool) (w : World) (hA : Rs w A n 3 (pcells (parts f n))) (hB : Rs w B n 2 (scells (parts f n))) (hn : n ≤ 1048576) :
    Calls Tryd.prog 17 #[.slice A n c, .slice B n d] w fun e w' => e = .returned (.bool true) ∧ Fr [] w w' := by
  go_enter Tryd.func17, Tryd.ntmps17
  go_wp2_with fail
  go_loopw [5, 13] (fun _ i wr => ∃ k, k ≤ n ∧ i = .int .i64 (k : Int) ∧ ∃ q, wr = w.drewN q) (fun _ i _ => n - (intOf i).toNat)
  case atStart => exact ⟨0, Nat.zero_le _, rfl, 0, rfl⟩
  case round =>
    obtain ⟨k, hk, rfl, q, rfl⟩ := hrel
    by_cases hlt : k < n
    · obtain ⟨ga, rfl, ca⟩ := hA.get (by omega)
      obtain ⟨gb, rfl, cb⟩ := hB.get (by omega)
      obtain ⟨a0, a1, a2⟩ := pcells_get (parts f n) k (f k).1 (f k).2 (parts_get f n k hlt)
      obtain ⟨b0, b1⟩ := scells_get (parts f n) k (f k).1 (f k).2 (parts_get f n k hlt)
      have x0 := ca _ _ a0
      have x1 := ca _ _ a1
      have x2 := ca _ _ a2
      have y0 := cb _ _ b0
      have y1 := cb _ _ b1
      clear ca cb a0 a1 a2 b0 b1
      generalize (f k).1 = t at *
      generalize (f k).2 = e at *
      go_wp2_with fail
      go_quiet (fail)
      go_wp2
      go_roundw
      case rel => exact ⟨k + 1, by omega, by go_num, _, rfl⟩
      case measure => simp [intOf]; omega
    · go_wp2_with fail
      go_ret
      exact ⟨rfl, (Fr.refl [] w).drewN _⟩

end Go.Proofs.YtbogmdgooifhnaaDoor
