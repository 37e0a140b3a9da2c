/- Slices of slices of bytes. -/
import Derived.Test.YtgniidnbpkhmcaaDoorNums
import Derived.Deep.RegionWith
namespace Go.Proofs.YtgniidnbpkhmcaaDoor
open Go.RowKit
set_option linter.unusedVariables false
attribute [local go_sem ↓] Go.wp_at_zero Go.wp_at_succ

theorem infoSl : (Tryd.prog.info? 22).map (fun i => (i.zero, i.size, i.bytes)) = some (some (.slice none 0 0), 1, 24) := by kernel_rfl

/-- A slice of bytes at the head of a row of its own. -/
def SlR (W : Nat) (wr : World) (u : Value) (l : List UInt8) : Prop := ∃ x pad, u = .slice (some ⟨x, 0, none⟩) l.length (l ++ pad).length ∧ Row wr x (l ++ pad) ∧ W ≤ x
theorem SlR.sl {W : Nat} {wr : World} {u : Value} {l : List UInt8} (h : SlR W wr u l) : ∃ B m c, u = Value.slice B m c ∧ Sl wr B m l := by
  obtain ⟨x, pad, rfl, hR, _⟩ := h
  refine ⟨_, _, _, rfl, rfl, ?_⟩
  have := hR.rd 0 l.length
  simpa using this
theorem SlR.fr {S : List Nat} {W : Nat} {wr w' : World} {u : Value} {l : List UInt8} (h : SlR W wr u l) (hf : Fr S wr w') (hS : ∀ x r, Row wr x r → x ∉ S) : SlR W w' u l := by
  obtain ⟨x, pad, rfl, hR, hx⟩ := h
  exact ⟨x, pad, rfl, hR.fr hf (hS x _ hR), hx⟩

/-- 'string to bytes', for the walk. -/
theorem run_bytes_row (w : World) (l : List UInt8) (hl : l.length ≤ 9223372036854775807) :
    ∃ (pad : List UInt8) (c : Nat) (w1 : World), (convert 9 22 (.string ⟨l.toArray⟩)).run Tryd.prog w = .ok (.slice (some ⟨w.heap.size, 0, none⟩) l.length c) w1 ∧ Hid (c = (l ++ pad).length) ∧ Row w1 w.heap.size (l ++ pad) ∧ Fr [] w w1 := by
  have hcv := run_bytes_of_string (P := Tryd.prog) w 9 22 5 ⟨l.toArray⟩ Tryd.underlying9 Tryd.underlying22 Tryd.underlying5
  simp only [str_size] at hcv
  have h1 := grownCap_ge w l.length 0 5
  generalize grownCap w l.length 0 5 = c at *
  rw [bytesRow_eq, str_toList, str_size] at hcv
  have hlc : (l ++ List.replicate (c - l.length) (0 : UInt8)).length = c := by simp; omega
  refine ⟨List.replicate (c - l.length) 0, c, _, hcv, hlc.symm, ?_, ?_⟩
  · exact ⟨_, _, heap_alloc_new w.drew _, .inr (by rw [bvs_size]; exact Nat.le_refl _)⟩
  · exact ((Fr.refl [] w).drew).alloc _

/-- The loop of slices. -/
def SlsRel (w : World) (ls : List (List UInt8)) (v i : Value) (wr : World) : Prop :=
  ∃ k us, k ≤ ls.length ∧ i = .int .i64 (k : Int) ∧ us.length = k ∧ wr.ownsRow w.heap.size 22 1 v k us ∧ (∀ (j : Nat) (u : Value) (l : List UInt8), us[j]? = some u → ls[j]? = some l → SlR w.heap.size wr u l) ∧ (∀ u ∈ us, u.oneCell' = true) ∧ Fr [] w wr

set_option maxHeartbeats 800000 in
set_option maxRecDepth 100000 in
theorem laws_slices (A : Option Addr) (n c : Nat) (ls : List (List UInt8)) (w : World) (hS : Slv w A n (ls.map sv)) (hN : n ≤ 2097152) (hls : ∀ x ∈ ls, x.length ≤ 2097152) :
    Calls Tryd.prog 12 #[.slice A n c] w fun e w' => ∃ A' c', e = .returned (.slice A' n c') ∧ Sls w' A' n ls ∧ Fr [] w w' := by
  have hn : n = ls.length := by have := hS.1; simpa using this
  have HN := Lib.hid hn
  clear hn
  go_enter Tryd.func12, Tryd.ntmps12
  go_wp2_with fail
  go_loopw [3, 9] (fun v i wr => SlsRel w ls v i wr) (fun _ i _ => n - (intOf i).toNat)
  case atStart => exact ⟨0, [], Nat.zero_le _, rfl, rfl, own_empty w 22 1, by simp, by simp, (Fr.refl [] w).alloc _⟩
  case round =>
    obtain ⟨k, us, hk, rfl, hul, ho, hus, hone, hf1⟩ := hrel
    obtain ⟨A', c', rfl⟩ := own_form ho
    by_cases hlt : k < n
    · obtain ⟨ad, x, rfl, hx, hc⟩ := (hS.fr_old hf1 (by simp)).text hlt
      have hxl := hls x (List.mem_of_getElem? hx)
      have HX := Lib.hid hx
      clear hx
      obtain ⟨pad, cx, w2, hcv, HCX, hR2, hf2⟩ := run_bytes_row wr x (by omega)
      have ho2 := hf2.own ho (by simp)
      have hsz2 := hf2.size
      have hsz : w.heap.size ≤ wr.heap.size := hf1.size
      obtain ⟨v', w', hrun, ho', hg', hb'⟩ := run_app (P := Tryd.prog) (w2.alloc (.cells #[.slice (some ⟨wr.heap.size, 0, none⟩) x.length cx] 22)) w.heap.size 32 32 32 22 _ 1 24 Tryd.underlying32 infoSl rfl (by decide) _ _ _ (ho2.alloc _) _ 1 _
        (src_one w2 (.slice (some ⟨wr.heap.size, 0, none⟩) x.length cx) 22 22 32 Tryd.underlying32 rfl 1) (by omega) (by omega) (by simp; omega)
      have HR := Lib.hid hR2
      have HU := Lib.hid hus
      have HL := Lib.hid hul
      have HO := Lib.hid hone
      clear hR2 hus hul hone
      go_wp2_with (at_builtin; refine wpList_append_run rfl _ _ _ _ rfl rfl rfl hrun ?_)
      go_roundw
      case rel =>
        have hfa : Fr (Value.slice A' k c').ownBlock.toList w2 w' := ((Fr.refl _ w2).alloc _).trans (Fr.of_grown hg')
        have hro : ∀ y r, Row w2 y r → y ∉ (Value.slice A' k c').ownBlock.toList := fun y r hr hm => by
          simp only [Option.mem_toList] at hm
          exact own_ne_row ho2 hr (by decide) y hm rfl
        refine ⟨k + 1, us ++ [.slice (some ⟨wr.heap.size, 0, none⟩) x.length cx], by have := HN.out; omega, by go_num, by simp [HL.out], ho', ?_, ?_, Fr.app (hf1.trans hf2) ho2 hg'⟩
        · intro j u l hu hl
          by_cases hj : j < k
          · rw [List.getElem?_append_left (by rw [HL.out]; exact hj)] at hu
            exact ((HU.out j u l hu hl).fr hf2 (by simp)).fr hfa hro
          · have hj2 : j = k := by
              have := (List.getElem?_eq_some_iff.1 hu).1
              simp [HL.out] at this
              omega
            subst hj2
            rw [List.getElem?_append_right (by rw [HL.out]; exact Nat.le_refl _), HL.out] at hu
            simp at hu
            subst hu
            rw [HX.out] at hl
            injection hl with hl
            subst hl
            exact ⟨wr.heap.size, pad, by rw [HCX.out], HR.out.fr hfa (hro _ _ HR.out), hsz⟩
        · intro u hu
          rcases List.mem_append.1 hu with h1 | h1
          · exact HO.out u h1
          · simp at h1
            subst h1
            rfl
      case measure => simp [intOf]; omega
    · go_wp2_with fail
      go_ret
      obtain rfl : k = n := by have := HN.out; omega
      exact ⟨_, _, rfl, ⟨us, own_slv ho, by rw [hul]; exact HN.out, fun j u l h1 h2 => (hus j u l h1 h2).sl⟩, hf1⟩

end Go.Proofs.YtgniidnbpkhmcaaDoor
