/- A script of calls on a buffer. -/
import Derived.Test.YtgjaeggpaomoaaaDoorCall4
namespace Go.Proofs.YtgjaeggpaomoaaaDoor
open Go.RowKit
set_option linter.unusedVariables false
attribute [local go_sem ↓] Go.wp_at_zero Go.wp_at_succ

theorem infoS : (Tryd.prog.info? 36).map (fun i => (i.zero, i.size, i.bytes)) = some (some (.agg #[.string ByteArray.empty, .int .i64 0, .int .i32 0, .string ByteArray.empty]), 4, 48) := by kernel_rfl
def tsum (ops : List OpV) : Nat := (ops.map fun o => o.text.length + 4).sum
theorem tsum_take (ops : List OpV) (k : Nat) (o : OpV) (h : ops[k]? = some o) : tsum (ops.take (k + 1)) = tsum (ops.take k) + (o.text.length + 4) := by
  unfold tsum
  rw [take_next ops k o h]
  simp
theorem tsum_le (ops : List OpV) (k : Nat) (o : OpV) (h : ops[k]? = some o) : tsum (ops.take k) + (o.text.length + 4) ≤ tsum ops := by
  rw [← tsum_take ops k o h]
  have h2 : tsum (ops.take (k + 1) ++ ops.drop (k + 1)) = tsum (ops.take (k + 1)) + tsum (ops.drop (k + 1)) := by
    unfold tsum
    rw [List.map_append, List.sum_append]
  rw [List.take_append_drop] at h2
  omega
def sta0 (l : List UInt8) : Sta := ⟨l, 0, [], false⟩
/-- Where a script stands: k calls are done. -/
def Stands (s0 : Sta) (ops : List OpV) (k : Nat) (s : Sta) (sts : List StV) : Prop :=
  (runM s0 ops = sts ++ runM s (ops.drop k) ∧ okM s0 ops = okM s (ops.drop k)) ∨ (runM s0 ops <+: sts ∧ okM s0 ops = false)
theorem Stands.next {s0 s s' : Sta} {ops : List OpV} {k : Nat} {sts : List StV} {o : OpV} {st : StV} (h : Stands s0 ops k s sts) (hk : ops[k]? = some o) (hst : (callM s o).2.2 = true → st = (callM s o).2.1) (hs : (callM s o).2.2 = true → s' = (callM s o).1) (hp : st.err ≠ e_panic) : Stands s0 ops (k + 1) s' (sts ++ [st]) := by
  have hd : ops.drop k = o :: ops.drop (k + 1) := by
    obtain ⟨hlt, rfl⟩ := List.getElem?_eq_some_iff.1 hk
    exact List.drop_eq_getElem_cons hlt
  rcases h with ⟨h1, h2⟩ | ⟨h1, h2⟩
  · rw [hd] at h1 h2
    by_cases hok : (callM s o).2.2 = true
    · have hc : callM s o = (s', st, true) := by rw [hst hok, hs hok, ← hok]
      rw [runM_next s o _ s' st hc hp] at h1
      rw [okM_next s o _ s' st hc hp] at h2
      exact .inl ⟨by rw [h1]; simp, h2⟩
    · have hf : (callM s o).2.2 = false := by simpa using hok
      rw [runM_free s o _ hf] at h1
      rw [okM_free s o _ hf] at h2
      exact .inr ⟨by rw [h1]; simp, h2⟩
  · exact .inr ⟨h1.trans (List.prefix_append _ _), h2⟩
theorem Stands.panic {s0 s : Sta} {ops : List OpV} {k : Nat} {sts : List StV} {o : OpV} {st : StV} (h : Stands s0 ops k s sts) (hk : ops[k]? = some o) (hst : (callM s o).2.2 = true → st = (callM s o).2.1) (hp : st.err = e_panic) : runM s0 ops <+: sts ++ [st] ∧ (okM s0 ops = true → sts ++ [st] = runM s0 ops) := by
  have hd : ops.drop k = o :: ops.drop (k + 1) := by
    obtain ⟨hlt, rfl⟩ := List.getElem?_eq_some_iff.1 hk
    exact List.drop_eq_getElem_cons hlt
  rcases h with ⟨h1, h2⟩ | ⟨h1, h2⟩
  · rw [hd] at h1 h2
    by_cases hok : (callM s o).2.2 = true
    · have hc : callM s o = ((callM s o).1, st, true) := by rw [hst hok, ← hok]
      rw [runM_panic s o _ _ st hc hp] at h1
      rw [h1]
      exact ⟨List.prefix_refl _, fun _ => rfl⟩
    · have hf : (callM s o).2.2 = false := by simpa using hok
      rw [runM_free s o _ hf] at h1
      rw [okM_free s o _ hf] at h2
      exact ⟨by rw [h1]; simp, fun e => by rw [h2] at e; cases e⟩
  · exact ⟨h1.trans (List.prefix_append _ _), fun e => by rw [h2] at e; cases e⟩
theorem Stands.done {s0 s : Sta} {ops : List OpV} {k : Nat} {sts : List StV} (h : Stands s0 ops k s sts) (hk : ops.length ≤ k) : runM s0 ops <+: sts ∧ (okM s0 ops = true → sts = runM s0 ops) := by
  rcases h with ⟨h1, h2⟩ | ⟨h1, h2⟩
  · rw [List.drop_eq_nil_of_le hk] at h1
    simp only [runM, List.append_nil] at h1
    rw [h1]
    exact ⟨List.prefix_refl _, fun _ => rfl⟩
  · exact ⟨h1, fun e => by rw [h2] at e; cases e⟩

/-- The loop of RunBuffer. -/
def RunBRel (w : World) (b : Nat) (l : List UInt8) (ops : List OpV) (v i : Value) (wr : World) : Prop :=
  ∃ k s sts g row len off lr, k ≤ ops.length ∧ i = .int .i64 (k : Int) ∧ wr.ownsRow w.heap.size 36 4 v k (sts.flatMap StV.cells) ∧ Hid (sts.length = k) ∧ Scr w.heap.size wr b s g row len off lr ∧ Hid (len ≤ l.length + tsum (ops.take k)) ∧ Hid (Stands (sta0 l) ops k s sts) ∧ Fr [] w wr

set_option maxHeartbeats 4000000 in
set_option maxRecDepth 100000 in
theorem impl_RunBuffer (l : List UInt8) (A : Option Addr) (n c0 : Nat) (ops : List OpV) (w : World) (a c : Addr) (hV : Env w.heap.size w a c) (hS : Rs w A n 5 (ops.flatMap OpV.cells)) (hn : n = ops.length) (hN : l.length + tsum ops + n ≤ 1048576)
    (hok : ∀ o ∈ ops, o.Ok ∧ o.n ≤ 1048576 ∧ o.kind ∈ kinds) :
    Calls Tryd.prog 15 #[.string ⟨l.toArray⟩, .slice A n c0] w fun e w' => ∃ (B : Option Addr) (m d : Nat) (sts : List StV), e = .returned (.slice B m d) ∧ Rs w' B m 4 (sts.flatMap StV.cells) ∧ m = sts.length ∧ m ≤ n ∧ Hid (runM (sta0 l) ops <+: sts ∧ (okM (sta0 l) ops = true → sts = runM (sta0 l) ops)) ∧ Fr [] w w' := by
  have HN := Lib.hid hn
  have HV := Lib.hid hV
  have HOK := Lib.hid hok
  clear hn hV hok
  go_enter Tryd.func15, Tryd.ntmps15
  go_wp2_with fail
  refine (NewBufferString _ _ (by omega)).mono ?_
  rintro e w1 ⟨b, g, pad, rfl, hB, hf, hb, hg⟩
  go_wp2_with fail
  go_loopw [6, 15] (fun v i wr => RunBRel w b l ops v i wr) (fun _ i _ => n - (intOf i).toNat)
  case atStart =>
    refine ⟨0, sta0 l, [], _, _, _, _, _, Nat.zero_le _, rfl, own_empty_from w1 w.heap.size 36 4 hf.size, rfl, ⟨⟨hB.alloc _, by rw [unread_pad]; rfl, fun x e => by injection e with e; omega, hb⟩, by simp [RecOk, sta0]⟩, ?_, .inl ⟨by simp, by simp⟩, hf.alloc _⟩
    show _ ≤ _
    omega
  case round =>
    obtain ⟨k, s, sts, g, row, len, off, lr, hk, rfl, ho, HL, hSc, HLE, HST, hf1⟩ := hrel
    obtain ⟨A', c', rfl⟩ := own_form ho
    by_cases hlt : k < n
    · obtain ⟨o, hox⟩ : ∃ o, ops[k]? = some o := ⟨_, List.getElem?_eq_getElem (by have := HN.out; omega)⟩
      obtain ⟨gg, rfl, cg⟩ := (hS.fr_old hf1 (by simp)).get (by omega)
      have g5 := fun j h => recs_get OpV.cells 5 (fun _ => rfl) ops k j o hox h
      have x0 := cg _ _ ((g5 0 (by omega)).trans rfl)
      have x1 := cg _ _ ((g5 1 (by omega)).trans rfl)
      have x2 := cg _ _ ((g5 2 (by omega)).trans rfl)
      have x3 := cg _ _ ((g5 3 (by omega)).trans rfl)
      have x4 := cg _ _ ((g5 4 (by omega)).trans rfl)
      simp only [Nat.add_zero] at x0
      have ht := tsum_le ops k o hox
      have hle := HLE.out
      obtain ⟨ok1, ok2, ok3⟩ := HOK.out o (List.mem_of_getElem? hox)
      have hcall := Lib.hid fun ob => impl_call (wr.alloc ob) (hSc.alloc ob) (by have := hf1.size; simp; omega) o a c (HV.out.fr (hf1.alloc ob) (by simp)) ok1 (by omega) ok2 ok3
      have HSC := Lib.hid hSc
      have hne := hSc.bw.own_ne ho (by decide) (by decide)
      have HOX := Lib.hid hox
      have HT := Lib.hid ht
      clear cg g5 ok1 ok2 ok3 hox hSc ht hle
      unfold OpV.val at hcall
      go_wp2_with fail
      refine (hcall.out _).mono ?_
      rintro e w2 ⟨st, rfl, HS2, hf2, HS3⟩
      have hf02 : Fr (b :: g.toList) wr w2 := ((Fr.refl _ wr).alloc _).trans hf2
      have hfw : Fr [] w w2 := HSC.out.bw.fr_ hf1 rfl hf02 (fun _ h => h)
      have ho2 := hf02.own ho hne
      have hsz : w.heap.size ≤ w2.heap.size := hfw.size
      obtain ⟨v', w', hrun, ho', hg', hb'⟩ := run_app (P := Tryd.prog) ((w2.alloc (.cells #[.string ⟨st.text.toArray⟩, .int .i64 st.n, .int .i32 st.char, .string ⟨st.err.toArray⟩] 36)).alloc (.cells #[.string ⟨st.text.toArray⟩, .int .i64 st.n, .int .i32 st.char, .string ⟨st.err.toArray⟩] 36)) w.heap.size 32 32 32 36 _ 4 48 Tryd.underlying32 infoS rfl (by decide) _ _ _ ((ho2.alloc _).alloc _) _ 1 _
        (src_blk (w2.alloc (.cells #[.string ⟨st.text.toArray⟩, .int .i64 st.n, .int .i32 st.char, .string ⟨st.err.toArray⟩] 36)) #[.string ⟨st.text.toArray⟩, .int .i64 st.n, .int .i32 st.char, .string ⟨st.err.toArray⟩] 36 36 32 Tryd.underlying32 4 rfl (by simp [Value.oneCell']) 1) (by omega) (by omega) (by simp; omega)
      rw [show (w2.alloc (.cells #[.string ⟨st.text.toArray⟩, .int .i64 st.n, .int .i32 st.char, .string ⟨st.err.toArray⟩] 36)).heap.size = w2.heap.size + 1 by simp] at hrun
      have hk9 := ((Blk.new w2 36 #[.string ⟨st.text.toArray⟩, .int .i64 st.n, .int .i32 st.char, .string ⟨st.err.toArray⟩]).alloc (.cells #[.string ⟨st.text.toArray⟩, .int .i64 st.n, .int .i32 st.char, .string ⟨st.err.toArray⟩] 36)).fr (Fr.of_grown hg') (by simp only [Option.mem_toList]; intro hm; have := (ho2.lt _ hm).2; omega)
      have hc9 : w'.cell? ⟨w2.heap.size, 3, none⟩ = some (.string ⟨st.err.toArray⟩) := hk9.cell 3
      have hfr' : Fr [] w w' := ((hfw.alloc _).alloc _).grown hg' (fun y hy => .inr ((ho2.lt y hy).1))
      obtain ⟨A2, c2, rfl⟩ := own_form ho'
      have ho3 : w'.ownsRow w.heap.size 36 4 (.slice A2 (k + 1) c2) (k + 1) ((sts ++ [st]).flatMap StV.cells) := by rw [recs_snoc]; exact ho'
      have HO3 := Lib.hid ho3
      have HO2 := Lib.hid ho2
      clear hk9 ho' ho3 ho2 hb'
      by_cases hp : st.err = e_panic
      · have hpb : (st.err == [112, 97, 110, 105, 99]) = true := by rw [hp]; rfl
        have HP := Lib.hid hp
        clear hp
        go_wp2_with (at_builtin; refine wpList_append_run rfl _ _ _ _ rfl rfl rfl hrun ?_)
        go_ret
        have hd := HST.out.panic HOX.out HS2.out HP.out
        exact ⟨_, _, _, sts ++ [st], rfl, own_rs HO3.out, by simp [HL.out], by omega, hd, hfr'⟩
      · have hpb : (st.err == [112, 97, 110, 105, 99]) = false := by simpa using hp
        have HP := Lib.hid hp
        clear hp
        go_wp2_with (at_builtin; refine wpList_append_run rfl _ _ _ _ rfl rfl rfl hrun ?_)
        go_roundw
        case rel =>
          rcases HS3.out with h1 | ⟨s', g', row', len', off', lr', h1, h2, h3⟩
          · exact absurd h1 HP.out
          · refine ⟨k + 1, s', sts ++ [st], g', row', len', off', lr', by have := HN.out; omega, by go_num, HO3.out, by show _ = _; simp [HL.out], ⟨(h1.bw.alloc _).app (HO2.out.alloc _) hg' (by decide) (by decide), h1.rec_⟩, ?_, HST.out.next HOX.out HS2.out h2 HP.out, hfr'⟩
            show _ ≤ _
            have := HLE.out
            rw [tsum_take ops k o HOX.out]
            omega
        case measure => simp [intOf]; omega
    · go_wp2_with fail
      go_ret
      have hkn : k = n := by have := HN.out; omega
      subst hkn
      have hd := HST.out.done (by have := HN.out; omega)
      exact ⟨_, _, _, sts, rfl, own_rs ho, HL.out.symm, Nat.le_refl _, hd, hf1⟩

end Go.Proofs.YtgjaeggpaomoaaaDoor
