/- Code points below 128 written as single bytes. -/
import Derived.Test.YtjppokaeepapmaaDoorLawNN
import Derived.Test.YtjppokaeepapmaaDoorLawZ
import Derived.Test.YtjppokaeepapmaaDoorLawOO
import Derived.Test.YtjppokaeepapmaaDoorDraw4
namespace Go.Proofs.YtjppokaeepapmaaDoor
open Go.RowKit
set_option linter.unusedVariables false
attribute [local go_sem ↓] Go.wp_at_zero Go.wp_at_succ

theorem DrawWriteSingles (A : Option Addr) (n c : Nat) (l : List UInt8) (w : World) (hS : Sl w A n l) (hn : n ≤ 1048576) :
    Calls Tryd.prog 31 #[.slice A n c] w fun e w' => ∃ (g : Nat) (s pad : List UInt8) (d : Nat), e = .returned (.slice (some ⟨g, 0, none⟩) s.length d) ∧ s.length ≤ 4096 ∧ Row w' g (s ++ pad) ∧ Hid (d = (s ++ pad).length) ∧ w.heap.size ≤ g ∧ Fr [] w w' := by
  go_enter Tryd.func31, Tryd.ntmps31
  go_wp2_with fail
  refine (rd_long _ w.heap.size A n c l 0 (Dr.made hS hn) (by omega)).mono ?_
  rintro e w1 ⟨s, rfl, hs, hD1, hf1⟩
  have hf01 := ((Fr.refl [] w).alloc (.cells #[.slice A n c, .int .i64 0] 79)).trans_of hf1 (by simp)
  obtain ⟨pad, cx, w2, hcv, HCX, hR, hf2⟩ := run_bytes_row w1 s (by omega)
  have hsz := hf01.size
  go_wp2_with fail
  go_ret
  exact ⟨_, s, pad, _, rfl, hs, hR, HCX, hsz, hf01.trans hf2⟩

def asciiZ (t : List UInt8) : List Int := t.map fun x => (x.toNat : Int)
theorem encs_ascii (t : List UInt8) (h : ∀ x ∈ t, x.toNat < 128) : encs (asciiZ t) = t.map fun x => [x] := by
  simp only [encs, asciiZ, List.map_map]
  refine List.map_congr_left fun x hx => ?_
  show Lib.encodeRune (x.toNat : Int) = [x]
  have := h x hx
  unfold Lib.encodeRune
  rw [Lib.encodeRuneZ_one (by omega) (by omega)]
  simp
theorem flat_ascii (t : List UInt8) : (t.map fun x => [x]).flatten = t := by
  induction t with
  | nil => rfl
  | cons x r ih => simp [ih]

/-- The loop that lays the list. -/
def AsciiRel (w : World) (g : Nat) (pad : List UInt8) (m : Nat) (v i : Value) (wr : World) : Prop :=
  ∃ (k : Nat) (t : List UInt8), k ≤ m ∧ i = .int .i64 (k : Int) ∧ t.length = m ∧ Row wr g (t ++ pad) ∧ Hid (∀ x ∈ t.take k, x.toNat < 128) ∧ wr.ownsRow w.heap.size 21 1 v k ((asciiZ (t.take k)).map rv) ∧ Fr [] w wr

set_option maxHeartbeats 1600000 in
set_option maxRecDepth 100000 in
theorem FnRunesAscii_walk (A : Option Addr) (n c : Nat) (l : List UInt8) (w : World) (hS : Sl w A n l) :
    Calls Tryd.prog 9 #[.slice A n c] w fun e w' => e = .returned (.bool true) ∧ Below w.heap.size w w' := by
  go_enter Tryd.func9, Tryd.ntmps9
  go_wp2_with fail
  by_cases hn : n ≤ 1048576
  · refine (large_no A n c w hn).mono ?_
    rintro e w1 ⟨rfl, rfl⟩
    go_wp2_with fail
    refine (DrawWriteSingles A n c l w hS hn).mono ?_
    rintro e w1 ⟨g, s, pad, d, rfl, hs, hR, HD, hg, hf1⟩
    have hsz1 := hf1.size
    have hglt := hR.lt
    generalize hm : s.length = m at hs
    go_wp2_with fail
    go_loopw [4, 19] (fun v i wr => AsciiRel w g pad m v i wr) (fun _ i _ => m - (intOf i).toNat)
    case atStart =>
      refine ⟨0, s, Nat.zero_le _, rfl, hm, hR.alloc _, fun x hx => by simp at hx, own_empty_from w1 w.heap.size 21 1 hsz1, hf1.alloc _⟩
    case round =>
      obtain ⟨k, t, hk, rfl, htl, hRk, HT, ho, hf⟩ := hrel
      obtain ⟨A', c', rfl⟩ := own_form ho
      by_cases hlt : k < m
      · obtain ⟨x, hx⟩ : ∃ x, t[k]? = some x := ⟨_, List.getElem?_eq_getElem (by omega)⟩
        have hc := hRk.cell k
        have hz := hRk.frozen (i := k) (by simp; omega)
        rw [List.getElem?_append_left (by omega), hx] at hc
        simp only [Option.map_some, bv] at hc
        have hrem : (x.toNat : Int) % 128 = ((x % 128).toNat : Int) := by
          rw [UInt8.toNat_mod]
          simp
        have hR2 := hRk.set_ k (x % 128)
        simp only [bv] at hR2
        rw [← hrem, List.set_append_left _ _ (by omega)] at hR2
        have hfs : Fr [g] wr (wr.setCell ⟨g, k, none⟩ (.int .u8 ((x.toNat : Int) % 128))) := (Fr.refl [g] wr).setCell (.inl (by simp)) _
        have hne := own_ne_row ho hRk (by decide)
        have ho2 := hfs.own ho (fun y hy => by have := hne y hy; simpa using this)
        have hf2 : Fr [] w (wr.setCell ⟨g, k, none⟩ (.int .u8 ((x.toNat : Int) % 128))) := hf.trans_of hfs (by simp; omega)
        have hsz2 := hf2.size
        have hsz := hf.size
        obtain ⟨v', w', hrun, ho', hg', hb'⟩ := run_app (P := Tryd.prog) ((wr.setCell ⟨g, k, none⟩ (.int .u8 ((x.toNat : Int) % 128))).alloc (.cells #[.int .i32 ((x.toNat : Int) % 128)] 21)) w.heap.size 37 37 37 21 _ 1 4 Tryd.underlying37 infoR rfl (by decide) _ _ _ (ho2.alloc _) _ 1 _
          (src_one (wr.setCell ⟨g, k, none⟩ (.int .u8 ((x.toNat : Int) % 128))) (.int .i32 ((x.toNat : Int) % 128)) 21 21 37 Tryd.underlying37 rfl 1) (by omega) (by omega) (by simp; omega)
        have hwsz : (wr.setCell ⟨g, k, none⟩ (.int .u8 ((x.toNat : Int) % 128))).heap.size = wr.heap.size := by simp
        rw [hwsz] at hrun
        have HR : Hid (AsciiRel w g pad m v' (.int .i64 ((k + 1 : Nat) : Int)) w') := by
          have hlt' : (x % 128).toNat < 128 := by rw [UInt8.toNat_mod]; exact Nat.mod_lt _ (by decide)
          have htk : (t.set k (x % 128)).take (k + 1) = t.take k ++ [x % 128] := by
            rw [take_next (t.set k (x % 128)) k (x % 128) (by rw [List.getElem?_set_self (by omega)]), List.take_set_of_le (Nat.le_refl _)]
          refine ⟨k + 1, t.set k (x % 128), by omega, rfl, by simp [htl], ?_, ?_, ?_, Fr.app hf2 ho2 hg'⟩
          · have hne2 := own_ne_row (ho2.alloc (.cells #[.int .i32 ((x.toNat : Int) % 128)] 21)) (hR2.alloc _) (by decide)
            exact (hR2.alloc _).fr (Fr.of_grown hg') (fun hm => by
              simp only [Option.mem_toList] at hm
              exact hne2 g hm rfl)
          · show ∀ y ∈ _, _
            rw [htk]
            intro y hy
            rcases List.mem_append.1 hy with h | h
            · exact HT.out y h
            · simp at h
              subst h
              exact hlt'
          · rw [htk]
            simp only [asciiZ, List.map_append, List.map_cons, List.map_nil, rv]
            rw [← hrem]
            exact ho'
        clear ho' hg' hb' hR2 ho2 hfs hf2 hrem hsz2 hne hwsz
        go_wp2_with (at_builtin; refine wpList_append_run rfl _ _ _ _ rfl rfl rfl hrun ?_)
        go_roundw
        case rel => exact HR.out
        case measure => simp [intOf]; omega
      · obtain rfl : k = m := by omega
        have ht := HT.out
        rw [List.take_of_length_le (by omega)] at ht ho
        have hv := own_slv ho
        have hSt : Sl wr (some ⟨g, 0, none⟩) k t := by
          have := hRk.sl k (by simp; omega)
          rwa [List.take_append_of_le_length (by omega), List.take_of_length_le (by omega)] at this
        have h2 := Lib.hid (impl_WriteSingles (some ⟨g, 0, none⟩) k d t wr hSt (by omega))
        go_wp2_with fail
        refine h2.out.mono ?_
        rintro e w2 ⟨s2, rfl, H2, hf2⟩
        have hv2 : Slv w2 A' k ((asciiZ t).map fun z => Value.int .i32 z) := hv.fr_old hf2 (by simp)
        have h3 := Lib.hid (impl_WriteRunes A' k c' (asciiZ t) w2 hv2 (fun z hz => by
          simp only [asciiZ, List.mem_map] at hz
          obtain ⟨y, hy, rfl⟩ := hz
          have := ht y hy
          omega) (by omega))
        go_wp2_with fail
        refine h3.out.mono ?_
        rintro e w3 ⟨A3, c3, s3, rfl, hS3, H3, hf3⟩
        rw [encs_ascii t ht] at hS3 H3
        obtain rfl : t = s2 := H2.out.symm
        obtain rfl : t = s3 := by rw [H3.out, flat_ascii]
        have hst := run_string_sl (P := Tryd.prog) (hSt.fr_old' (hf2.trans hf3)) 27 9 5 d Tryd.underlying27 Tryd.underlying5 Tryd.underlying9
        have hone : ∀ j, j < k → ∃ ad, A3 = some ad ∧ w3.cell? (ad.add j) = some (.int .i64 1) := by
          intro j hj
          obtain ⟨ad, u, rfl, hu, hc⟩ := hS3.at_ hj
          refine ⟨ad, rfl, ?_⟩
          rw [hc]
          simp only [List.map_map, List.getElem?_map] at hu
          rw [List.getElem?_eq_getElem (by omega)] at hu
          simp at hu
          rw [← hu]
          rfl
        have hff := ((hf.trans hf2).trans hf3).below (Nat.le_refl _) (by simp)
        have HFF := Lib.hid hff
        clear hff hS3 H3 H2 hv hv2 ht HT hSt ho
        go_wp2_with fail
        go_loop [51] (fun i => ∃ j : Nat, j ≤ k ∧ i = .int .i64 (j : Int)) (fun i => k - (intOf i).toNat)
        case atStart => exact ⟨0, Nat.zero_le _, rfl⟩
        case round =>
          obtain ⟨j, hj, rfl⟩ := hrel
          by_cases hjl : j < k
          · obtain ⟨ad, rfl, hc⟩ := hone j hjl
            go_wp2_with fail
            go_round
            case rel => exact ⟨j + 1, by omega, by go_num⟩
            case measure => simp [intOf]; omega
          · obtain rfl : j = k := by omega
            go_wp2_with fail
            go_ret
            exact ⟨ret_true (by simp), HFF.out⟩
  · refine (large_yes A n c w (by omega)).mono ?_
    rintro e w1 ⟨rfl, rfl⟩
    go_wp2_with fail
    go_ret
    exact ⟨rfl, Below.refl _ _⟩

end Go.Proofs.YtjppokaeepapmaaDoor
