/- Scripts whose calls depend on the unread bytes alone: plain facts. -/
import Derived.Test.YtgjaeggpaomoaaaDoorRun
namespace Go.Proofs.YtgjaeggpaomoaaaDoor
set_option linter.unusedVariables false

/-- The kinds of calls whose result depends on the unread bytes alone. -/
def tkinds : List (List UInt8) := [k_write, k_writestring, k_writebyte, k_writerune, k_len, k_string, k_reset, k_grow, k_read, k_next, k_readbyte, k_readbytes, k_readstring, k_readrune]
/-- What a call returns, and what is unread then. -/
def stepT (t : List UInt8) (o : OpV) : StV := (callM (sta0 t) o).2.1
def nextT (t : List UInt8) (o : OpV) : List UInt8 := (callM (sta0 t) o).1.text
theorem wr_text' (s : Sta) (d : List UInt8) : (s.wr d).text = s.text ++ d := by
  unfold Sta.wr
  split <;> rfl
theorem callM_text (s : Sta) (o : OpV) (h : o.kind ∈ tkinds) : (callM s o).2.1 = stepT s.text o ∧ (callM s o).1.text = nextT s.text o ∧ (callM s o).2.2 = true := by
  unfold stepT nextT
  unfold tkinds at h
  simp only [List.mem_cons, List.not_mem_nil, or_false] at h
  rcases h with e | e | e | e | e | e | e | e | e | e | e | e | e | e
  · rw [callM_write _ _ e, callM_write _ _ e]; exact ⟨rfl, (wr_text' s _).trans (wr_text' (sta0 s.text) _).symm, rfl⟩
  · rw [callM_writestring _ _ e, callM_writestring _ _ e]; exact ⟨rfl, (wr_text' s _).trans (wr_text' (sta0 s.text) _).symm, rfl⟩
  · rw [callM_writebyte _ _ e, callM_writebyte _ _ e]; exact ⟨rfl, (wr_text' s _).trans (wr_text' (sta0 s.text) _).symm, rfl⟩
  · rw [callM_writerune _ _ e, callM_writerune _ _ e]; exact ⟨rfl, (wr_text' s _).trans (wr_text' (sta0 s.text) _).symm, rfl⟩
  · rw [callM_len _ _ e, callM_len _ _ e]; exact ⟨rfl, rfl, rfl⟩
  · rw [callM_string _ _ e, callM_string _ _ e]; exact ⟨rfl, rfl, rfl⟩
  · rw [callM_reset _ _ e, callM_reset _ _ e]; exact ⟨rfl, rfl, rfl⟩
  · rw [callM_grow _ _ e, callM_grow _ _ e]; split <;> exact ⟨rfl, rfl, rfl⟩
  · rw [callM_read _ _ e, callM_read _ _ e]; exact ⟨rfl, (rd_text _ _ _).trans (rd_text _ _ _).symm, rfl⟩
  · rw [callM_next _ _ e, callM_next _ _ e]; exact ⟨rfl, (rd_text _ _ _).trans (rd_text _ _ _).symm, rfl⟩
  · rw [callM_readbyte _ _ e, callM_readbyte _ _ e]
    by_cases h0 : s.text = []
    · rw [if_pos h0, if_pos (show (sta0 s.text).text = [] from h0)]; exact ⟨rfl, (rd_text s _ 1).trans (rd_text (sta0 s.text) _ 1).symm, rfl⟩
    · rw [if_neg h0, if_neg (show ¬ (sta0 s.text).text = [] from h0)]; exact ⟨rfl, (rd_text s _ 1).trans (rd_text (sta0 s.text) _ 1).symm, rfl⟩
  · rw [callM_readbytes _ _ e, callM_readbytes _ _ e]
    by_cases h0 : misses s.text (UInt8.ofNat o.size) = true
    · rw [if_pos h0, if_pos (show misses (sta0 s.text).text _ = true from h0)]; exact ⟨rfl, rfl, rfl⟩
    · rw [if_neg h0, if_neg (show ¬ misses (sta0 s.text).text _ = true from h0)]; exact ⟨rfl, (rd_text _ _ _).trans (rd_text _ _ _).symm, rfl⟩
  · rw [callM_readstring _ _ e, callM_readstring _ _ e]
    by_cases h0 : misses s.text (UInt8.ofNat o.size) = true
    · rw [if_pos h0, if_pos (show misses (sta0 s.text).text _ = true from h0)]; exact ⟨rfl, rfl, rfl⟩
    · rw [if_neg h0, if_neg (show ¬ misses (sta0 s.text).text _ = true from h0)]; exact ⟨rfl, (rd_text _ _ _).trans (rd_text _ _ _).symm, rfl⟩
  · rw [callM_readrune _ _ e, callM_readrune _ _ e]
    by_cases h0 : s.text = []
    · rw [if_pos h0, if_pos (show (sta0 s.text).text = [] from h0)]; exact ⟨rfl, (rd_text s _ 2).trans (rd_text (sta0 s.text) _ 2).symm, rfl⟩
    · rw [if_neg h0, if_neg (show ¬ (sta0 s.text).text = [] from h0)]; exact ⟨rfl, (rd_text s _ 2).trans (rd_text (sta0 s.text) _ 2).symm, rfl⟩

/-- What a script's calls return, up to a panic. -/
def runT (t : List UInt8) : List OpV → List StV
  | [] => []
  | o :: r => stepT t o :: (if (stepT t o).err = e_panic then [] else runT (nextT t o) r)
theorem runM_text : ∀ (ops : List OpV) (s : Sta), (∀ o ∈ ops, o.kind ∈ tkinds) → runM s ops = runT s.text ops ∧ okM s ops = true
  | [], s, _ => ⟨rfl, rfl⟩
  | o :: r, s, h => by
    obtain ⟨h1, h2, h3⟩ := callM_text s o (h o (by simp))
    have ih := runM_text r (callM s o).1 (fun x hx => h x (by simp [hx]))
    rw [h2] at ih
    constructor
    · show (if (callM s o).2.2 then _ else _) = stepT s.text o :: _
      rw [if_pos h3, h1, ih.1]
    · show ((callM s o).2.2 && (decide ((callM s o).2.1.err = e_panic) || okM (callM s o).1 r)) = true
      rw [h3, ih.2]
      simp
/-- Where the calls up to a panic end. -/
theorem runT_end : ∀ (ops : List OpV) (t : List UInt8), (runT t ops).length ≤ ops.length ∧ ((runT t ops).length = ops.length ∨ ∃ (k : Nat) (st : StV), (runT t ops).length = k + 1 ∧ (runT t ops)[k]? = some st ∧ st.err = e_panic)
  | [], t => ⟨Nat.le_refl _, .inl rfl⟩
  | o :: r, t => by
    by_cases hp : (stepT t o).err = e_panic
    · have e : runT t (o :: r) = [stepT t o] := by simp [runT, hp]
      rw [e]
      exact ⟨by simp, .inr ⟨0, stepT t o, rfl, rfl, hp⟩⟩
    · have e : runT t (o :: r) = stepT t o :: runT (nextT t o) r := by simp [runT, hp]
      obtain ⟨h1, h2⟩ := runT_end r (nextT t o)
      rw [e]
      refine ⟨by simp only [List.length_cons]; omega, ?_⟩
      rcases h2 with h2 | ⟨k, st, h2, h3, h4⟩
      · exact .inl (by simp only [List.length_cons, h2])
      · exact .inr ⟨k + 1, st, by simp only [List.length_cons, h2], by simpa using h3, h4⟩

/-- The kinds of calls of FnScriptSplit. -/
def skinds : List (List UInt8) := [k_read, k_next, k_readbyte, k_readbytes, k_readstring, k_readrune, k_write, k_writestring, k_writebyte, k_reset]
theorem skinds_t (k : List UInt8) (h : k ∈ skinds) : k ∈ tkinds := by
  revert h
  unfold skinds tkinds
  simp only [List.mem_cons, List.not_mem_nil, or_false]
  intro h
  rcases h with e | e | e | e | e | e | e | e | e | e <;> simp [e]
theorem skinds_k (k : List UInt8) (h : k ∈ skinds) : k ∈ kinds := by
  revert h
  unfold skinds kinds
  simp only [List.mem_cons, List.not_mem_nil, or_false]
  intro h
  rcases h with e | e | e | e | e | e | e | e | e | e <;> simp [e]
theorem step_calm (t : List UInt8) (o : OpV) (h : o.kind ∈ skinds) : (stepT t o).err ≠ e_panic := by
  have hnil : ([] : List UInt8) ≠ e_panic := by decide
  have hend : e_end ≠ e_panic := by decide
  unfold stepT
  unfold skinds at h
  simp only [List.mem_cons, List.not_mem_nil, or_false] at h
  rcases h with e | e | e | e | e | e | e | e | e | e
  · rw [callM_read _ _ e]; show (if _ then _ else _) ≠ _; split; exact hend; exact hnil
  · rw [callM_next _ _ e]; exact hnil
  · rw [callM_readbyte _ _ e]; split; exact hend; exact hnil
  · rw [callM_readbytes _ _ e]; split; exact hend; exact hnil
  · rw [callM_readstring _ _ e]; split; exact hend; exact hnil
  · rw [callM_readrune _ _ e]; split; exact hend; exact hnil
  · rw [callM_write _ _ e]; exact hnil
  · rw [callM_writestring _ _ e]; exact hnil
  · rw [callM_writebyte _ _ e]; exact hnil
  · rw [callM_reset _ _ e]; exact hnil
/-- What is unread behind a script. -/
def afterT (t : List UInt8) : List OpV → List UInt8
  | [] => t
  | o :: r => afterT (nextT t o) r
theorem afterT_snoc : ∀ (ops : List OpV) (t : List UInt8) (o : OpV), afterT t (ops ++ [o]) = nextT (afterT t ops) o
  | [], t, o => rfl
  | x :: r, t, o => afterT_snoc r (nextT t x) o
/-- What calls return that do not panic. -/
def stepsT (t : List UInt8) : List OpV → List StV
  | [] => []
  | o :: r => stepT t o :: stepsT (nextT t o) r
theorem stepsT_length : ∀ (ops : List OpV) (t : List UInt8), (stepsT t ops).length = ops.length
  | [], t => rfl
  | o :: r, t => by simp [stepsT, stepsT_length r]
theorem stepsT_get : ∀ (ops : List OpV) (t : List UInt8) (k : Nat) (o : OpV), ops[k]? = some o → (stepsT t ops)[k]? = some (stepT (afterT t (ops.take k)) o)
  | [], t, k, o, h => by simp at h
  | x :: r, t, 0, o, h => by simp at h; subst h; rfl
  | x :: r, t, k + 1, o, h => stepsT_get r (nextT t x) k o (by simpa using h)
theorem runT_calm : ∀ (ops : List OpV) (t : List UInt8), (∀ t o, o ∈ ops → (stepT t o).err ≠ e_panic) → runT t ops = stepsT t ops
  | [], t, _ => rfl
  | o :: r, t, h => by
    have := runT_calm r (nextT t o) (fun t x hx => h t x (by simp [hx]))
    simp [runT, stepsT, h t o (by simp), this]
/-- The length of what is unread. -/
theorem nextT_le (t : List UInt8) (o : OpV) (h : o.kind ∈ skinds) : (nextT t o).length ≤ t.length + o.text.length + 4 := by
  unfold nextT
  unfold skinds at h
  simp only [List.mem_cons, List.not_mem_nil, or_false] at h
  rcases h with e | e | e | e | e | e | e | e | e | e
  · rw [callM_read _ _ e]; simp only [rd_text, List.length_drop, sta0]; omega
  · rw [callM_next _ _ e]; simp only [rd_text, List.length_drop, sta0]; omega
  · rw [callM_readbyte _ _ e]; split <;> (simp only [rd_text, List.length_drop, sta0]; omega)
  · rw [callM_readbytes _ _ e]; split
    · exact Nat.zero_le _
    · simp only [rd_text, List.length_drop, sta0]; omega
  · rw [callM_readstring _ _ e]; split
    · exact Nat.zero_le _
    · simp only [rd_text, List.length_drop, sta0]; omega
  · rw [callM_readrune _ _ e]; split <;> (simp only [rd_text, List.length_drop, sta0]; omega)
  · rw [callM_write _ _ e]; simp only [wr_text', List.length_append, sta0]; omega
  · rw [callM_writestring _ _ e]; simp only [wr_text', List.length_append, sta0]; omega
  · rw [callM_writebyte _ _ e]; simp only [wr_text', List.length_append, sta0, List.length_cons, List.length_nil]; omega
  · rw [callM_reset _ _ e]; exact Nat.zero_le _
theorem afterT_le (ops : List OpV) (h : ∀ o ∈ ops, o.kind ∈ skinds) : ∀ t : List UInt8, (afterT t ops).length ≤ t.length + tsum ops := by
  induction ops with
  | nil => intro t; exact Nat.le_refl _
  | cons o r ih =>
    intro t
    have h1 := ih (fun x hx => h x (by simp [hx])) (nextT t o)
    have h2 := nextT_le t o (h o (by simp))
    have e : tsum (o :: r) = o.text.length + 4 + tsum r := by simp [tsum]
    show (afterT (nextT t o) r).length ≤ _
    omega

end Go.Proofs.YtgjaeggpaomoaaaDoor
