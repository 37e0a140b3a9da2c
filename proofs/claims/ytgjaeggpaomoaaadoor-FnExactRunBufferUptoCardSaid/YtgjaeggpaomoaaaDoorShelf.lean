/- The library's contract for unicode/utf8.DecodeRune at this program (laid by the kit's lay-plain), in this seat's words; bytes.Buffer's reads of code points, and what unreads. -/
import Derived.Test.YtgjaeggpaomoaaaDoorBuf
import Derived.Test.YtgjaeggpaomoaaaDoorRead
import Derived.Test.YtgjaeggpaomoaaaDoorDecP
import Derived.Shelf.Spec.DecodeRune
namespace Go.Proofs.YtgjaeggpaomoaaaDoor
open Go.RowKit Go.Shelf
set_option linter.unusedVariables false

def lays32_ren : Go.Shelf.Ren := ⟨fun | 32 => 78 | 49 => 93 | n => n, fun | 30 => 22 | 21 => 21 | 3 => 3 | 0 => 0 | 5 => 5 | 4 => 4 | 33 => 126 | 66 => 145 | 25 => 144 | 69 => 148 | 68 => 147 | n => n, fun | 2 => 4 | 3 => 5 | n => n⟩
theorem lays32 : Go.Proofs.Lays7.n32 Tryd.prog lays32_ren := {
  mixed := by kernel_rfl
  f32 := Tryd.func78.trans (congrArg some (by kernel_rfl))
  f49 := Tryd.func93.trans (congrArg some (by kernel_rfl))
  t0 := Tryd.underlying0
  a0 := Tryd.isAgg0
  z0 := Tryd.sizeOf0
  v0 := Tryd.zeroValue0
  i0 := by kernel_rfl
  t3 := Tryd.underlying3
  a3 := Tryd.isAgg3
  z3 := Tryd.sizeOf3
  v3 := Tryd.zeroValue3
  i3 := by kernel_rfl
  t4 := Tryd.underlying4
  a4 := Tryd.isAgg4
  z4 := Tryd.sizeOf4
  v4 := Tryd.zeroValue4
  i4 := by kernel_rfl
  t5 := Tryd.underlying5
  a5 := Tryd.isAgg5
  z5 := Tryd.sizeOf5
  v5 := Tryd.zeroValue5
  i5 := by kernel_rfl
  t21 := Tryd.underlying21
  a21 := Tryd.isAgg21
  z21 := Tryd.sizeOf21
  v21 := Tryd.zeroValue21
  i21 := by kernel_rfl
  t25 := Tryd.underlying144
  a25 := Tryd.isAgg144
  z25 := Tryd.sizeOf144
  v25 := Tryd.zeroValue144
  i25 := by kernel_rfl
  t30 := Tryd.underlying22
  a30 := Tryd.isAgg22
  z30 := Tryd.sizeOf22
  v30 := Tryd.zeroValue22
  i30 := by kernel_rfl
  t33 := Tryd.underlying126
  a33 := Tryd.isAgg126
  z33 := Tryd.sizeOf126
  v33 := Tryd.zeroValue126
  i33 := by kernel_rfl
  t66 := Tryd.underlying145
  a66 := Tryd.isAgg145
  z66 := Tryd.sizeOf145
  t68 := Tryd.underlying147
  a68 := Tryd.isAgg147
  z68 := Tryd.sizeOf147
  v68 := Tryd.zeroValue147
  i68 := by kernel_rfl
  t69 := Tryd.underlying148
  a69 := Tryd.isAgg148
  z69 := Tryd.sizeOf148
  v69 := Tryd.zeroValue148
  i69 := by kernel_rfl
  g2 := by kernel_rfl
  g3 := by kernel_rfl }

/-- unicode/utf8's two tables lie in their variables. -/
def Tabs (w : World) : Prop := Lib.Utf8Tabs 4 5 w
theorem Tabs.fr {S : List Nat} {w w' : World} (h : Tabs w) (hf : Fr S w w') (h1 : 4 ∉ S) (h2 : 5 ∉ S) : Tabs w' := by
  have c1 := h.1 0 (by decide)
  have c2 := (h.2 0 (by decide)).1
  have l1 : 4 < w.heap.size := block_lt_of_cell c1
  have l2 : 5 < w.heap.size := block_lt_of_cell c2
  refine ⟨fun c hc => ?_, fun i hi => ⟨?_, ?_⟩⟩
  · exact (hf.cell (p := ⟨4, c, none⟩) l1 h1).trans (h.1 c hc)
  · exact (hf.cell (p := ⟨5, 2 * i, none⟩) l2 h2).trans (h.2 i hi).1
  · exact (hf.cell (p := ⟨5, 2 * i + 1, none⟩) l2 h2).trans (h.2 i hi).2
theorem Tabs.lt {w : World} (h : Tabs w) : 4 < w.heap.size ∧ 5 < w.heap.size := ⟨block_lt_of_cell (h.1 0 (by decide)), block_lt_of_cell (h.2 0 (by decide)).1⟩
theorem Tabs.fr_old {S : List Nat} {w w' : World} (h : Tabs w) (hf : Fr S w w') (hn : ∀ k ∈ S, w.heap.size ≤ k) : Tabs w' :=
  h.fr hf (fun hs => by have := hn _ hs; have := h.lt; omega) (fun hs => by have := hn _ hs; have := h.lt; omega)

theorem get_at (l : List UInt8) (j : Nat) : ((⟨l.toArray⟩ : ByteArray).get! j).toNat = byteAt l j := by
  unfold byteAt ByteArray.get!
  simp [List.getD_eq_getElem?_getD, getElem!_def]
  cases l[j]? <;> rfl
theorem decodeGo_eq (l : List UInt8) (h0 : 0 < l.length) : Lib.decodeGo ⟨l.toArray⟩ = dec l := by
  have hz : ¬ (⟨l.toArray⟩ : ByteArray).size = 0 := by rw [str_size]; omega
  simp only [Lib.decodeGo, hz, if_false]
  rw [Lib.decode_at, Nat.sub_zero, Nat.zero_add, Nat.zero_add, Nat.zero_add, get_at, get_at, get_at, get_at, str_size]
  rfl

theorem utf8_DecodeRune (w : World) (g off cap : Nat) (l : List UInt8) (h0 : 0 < l.length) (hT : Tabs w) (hp : ∀ j (hj : j < l.length), w.cell? ⟨g, off + j, none⟩ = some (.int .u8 ((l[j]).toNat : Int))) :
    Calls Tryd.prog 78 #[.slice (some ⟨g, off, none⟩) l.length cap] w fun e w' => ∃ r k : Nat, e = .returned (.tuple #[.int .i32 (r : Int), .int .i64 (k : Int)]) ∧ Hid ((r, k) = dec l) ∧ Fr [] w w' := by
  have h := Any7.utf8_DecodeRune lays32 ⟨l.toArray⟩ g off cap w hT (fun j hj => by
    rw [str_size] at hj
    rw [get_at, byteAt_get l j hj]
    exact hp j hj)
  rw [str_size] at h
  refine Calls.mono h ?_
  rintro e w' ⟨rfl, hb⟩
  exact ⟨_, _, rfl, (decodeGo_eq l h0).symm ▸ rfl, Fr.of_below hb⟩

end Go.Proofs.YtgjaeggpaomoaaaDoor
