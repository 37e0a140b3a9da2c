/- A script's calls on a buffer: all kinds. -/
import Derived.Test.YtgjaeggpaomoaaaDoorCall3
namespace Go.Proofs.YtgjaeggpaomoaaaDoor
open Go.RowKit
set_option linter.unusedVariables false

def kinds : List (List UInt8) := [k_write, k_writestring, k_writebyte, k_writerune, k_len, k_bytes, k_string, k_truncate, k_reset, k_grow, k_read, k_next, k_peek, k_readbyte, k_readbytes, k_readstring, k_readrune, k_unreadbyte, k_unreadrune]

theorem impl_call {W b : Nat} {s : Sta} {g : Option Nat} {row : List UInt8} {len off : Nat} {lr : Int} (w : World) (h : Scr W w b s g row len off lr) (hWw : W ≤ w.heap.size) (o : OpV) (a c : Addr) (hV : Env W w a c) (ho : o.Ok)
    (hlim : len + o.text.length + 4 ≤ 1048576) (hgrow : o.n ≤ 1048576) (hk : o.kind ∈ kinds) : Calls Tryd.prog 29 #[.pointer (some ⟨b, 0, none⟩), o.val] w (CallPost W b s o g len w) := by
  have hl := h.bw.len_
  unfold kinds at hk
  simp only [List.mem_cons, List.not_mem_nil, or_false] at hk
  rcases hk with e | e | e | e | e | e | e | e | e | e | e | e | e | e | e | e | e | e | e
  · exact call_write w h hWw o e ho (by omega)
  · exact call_writestring w h hWw o e ho (by omega)
  · exact call_writebyte w h hWw o e ho (by omega)
  · exact call_writerune w h hWw o e ho (by omega)
  · exact call_len w h hWw o e
  · exact call_bytes w h hWw o e
  · exact call_string w h hWw o e
  · by_cases hb : o.n < 0 ∨ (s.text.length : Int) < o.n
    · exact call_truncate_bad w h hWw o e hb
    · exact call_truncate_ok w h hWw o e hb
  · exact call_reset w h hWw o e
  · by_cases hb : o.n < 0
    · exact call_grow_bad w h hWw o e hb
    · exact call_grow_ok w h hWw o e hb (by omega)
  · exact call_read w h hWw o e a c hV ho
  · exact call_next w h hWw o e ho
  · exact call_peek w h hWw o e a c hV ho
  · by_cases hb : s.text = []
    · exact call_readbyte_eof w h hWw o e a c hV hb
    · exact call_readbyte_some w h hWw o e a c hV hb
  · exact call_readbytes w h hWw o e a c hV ho (by omega)
  · exact call_readstring w h hWw o e a c hV ho
  · by_cases hb : s.text = []
    · exact call_readrune_eof w h hWw o e a c hV hb
    · exact call_readrune_some w h hWw o e a c hV hb
  · by_cases hb : lr = 0
    · exact call_unreadbyte_no w h hWw o e a c hV hb
    · exact call_unreadbyte_yes w h hWw o e hb
  · by_cases hb : lr ≤ 0
    · exact call_unreadrune_no w h hWw o e a c hV hb
    · obtain ⟨q, hq⟩ : ∃ q : Nat, lr = (q : Int) := ⟨lr.toNat, by omega⟩
      have h4 := h.rec_.le4
      exact call_unreadrune_yes w h hWw o e q hq (by omega) (by omega)

end Go.Proofs.YtgjaeggpaomoaaaDoor
