/- Scripts of calls, in plain words: what a buffer is known to have, what a call makes of it, and what it returns. -/
import Derived.Test.YtgjaeggpaomoaaaDoorLawW
import Derived.Test.YtgjaeggpaomoaaaDoorLines
import Derived.Lib.RuneBytes
import Derived.Test.YtgjaeggpaomoaaaDoorDecP
namespace Go.Proofs.YtgjaeggpaomoaaaDoor
open Go.RowKit
set_option linter.unusedVariables false

abbrev k_write : List UInt8 := [119, 114, 105, 116, 101]
abbrev k_writestring : List UInt8 := [119, 114, 105, 116, 101, 115, 116, 114, 105, 110, 103]
abbrev k_writebyte : List UInt8 := [119, 114, 105, 116, 101, 98, 121, 116, 101]
abbrev k_writerune : List UInt8 := [119, 114, 105, 116, 101, 114, 117, 110, 101]
abbrev k_len : List UInt8 := [108, 101, 110]
abbrev k_bytes : List UInt8 := [98, 121, 116, 101, 115]
abbrev k_string : List UInt8 := [115, 116, 114, 105, 110, 103]
abbrev k_truncate : List UInt8 := [116, 114, 117, 110, 99, 97, 116, 101]
abbrev k_reset : List UInt8 := [114, 101, 115, 101, 116]
abbrev k_grow : List UInt8 := [103, 114, 111, 119]
abbrev k_read : List UInt8 := [114, 101, 97, 100]
abbrev k_next : List UInt8 := [110, 101, 120, 116]
abbrev k_peek : List UInt8 := [112, 101, 101, 107]
abbrev k_readbyte : List UInt8 := [114, 101, 97, 100, 98, 121, 116, 101]
abbrev k_readbytes : List UInt8 := [114, 101, 97, 100, 98, 121, 116, 101, 115]
abbrev k_readstring : List UInt8 := [114, 101, 97, 100, 115, 116, 114, 105, 110, 103]
abbrev k_readrune : List UInt8 := [114, 101, 97, 100, 114, 117, 110, 101]
abbrev k_unreadbyte : List UInt8 := [117, 110, 114, 101, 97, 100, 98, 121, 116, 101]
abbrev k_unreadrune : List UInt8 := [117, 110, 114, 101, 97, 100, 114, 117, 110, 101]
abbrev e_end : List UInt8 := [101, 110, 100]
abbrev e_error : List UInt8 := [101, 114, 114, 111, 114]
abbrev e_panic : List UInt8 := [112, 97, 110, 105, 99]

/-- A call of a script. -/
structure OpV where
  kind : List UInt8
  text : List UInt8
  size : Nat
  n : Int
  char : Int
/-- What a call returned. -/
structure StV where
  text : List UInt8
  n : Int
  char : Int
  err : List UInt8
def OpV.val (o : OpV) : Value := .agg #[.string ⟨o.kind.toArray⟩, .string ⟨o.text.toArray⟩, .int .u16 (o.size : Int), .int .i64 o.n, .int .i32 o.char]
def OpV.cells (o : OpV) : List Value := [.string ⟨o.kind.toArray⟩, .string ⟨o.text.toArray⟩, .int .u16 (o.size : Int), .int .i64 o.n, .int .i32 o.char]
def StV.val (s : StV) : Value := .agg #[.string ⟨s.text.toArray⟩, .int .i64 s.n, .int .i32 s.char, .string ⟨s.err.toArray⟩]
def StV.cells (s : StV) : List Value := [.string ⟨s.text.toArray⟩, .int .i64 s.n, .int .i32 s.char, .string ⟨s.err.toArray⟩]
structure OpV.Ok (o : OpV) : Prop where
  size : o.size ≤ 65535
  n0 : -9223372036854775808 ≤ o.n
  n1 : o.n ≤ 9223372036854775807
  c0 : -2147483648 ≤ o.char
  c1 : o.char ≤ 2147483647
/-- What is known of a buffer: the unread bytes, the most recent call (0: none or writes alone; 1: a read; 2: a read of a code point; 3: a read that failed; 4: a write behind a read; 5: a read up to a delimiter that was not found; 6: another one), what this returned last, and whether anything was read. -/
structure Sta where
  text : List UInt8
  recent : Nat
  last : List UInt8
  begun : Bool
def zst : StV := ⟨[], 0, 0, []⟩
def est (e : List UInt8) : StV := ⟨[], 0, 0, e⟩
def Sta.rd (s : Sta) (n kind : Nat) : Sta := if n = 0 then ⟨s.text, 3, [], true⟩ else ⟨s.text.drop n, kind, if kind = 2 then s.text.take n else (s.text.take n).drop (n - 1), true⟩
def Sta.wr (s : Sta) (d : List UInt8) : Sta := if s.begun then ⟨s.text ++ d, 4, [], true⟩ else ⟨s.text ++ d, 0, [], false⟩
def Sta.oth (s : Sta) (t : List UInt8) : Sta := ⟨t, 6, [], s.begun⟩
/-- The state behind a call, what it returns, and whether both are known. -/
def callM (s : Sta) (o : OpV) : Sta × StV × Bool :=
  if o.kind = k_write ∨ o.kind = k_writestring then (s.wr o.text, ⟨[], o.text.length, 0, []⟩, true)
  else if o.kind = k_writebyte then (s.wr [UInt8.ofNat o.size], zst, true)
  else if o.kind = k_writerune then (s.wr (Lib.encodeRune o.char), ⟨[], (Lib.encodeRune o.char).length, 0, []⟩, true)
  else if o.kind = k_len then (s, ⟨[], s.text.length, 0, []⟩, true)
  else if o.kind = k_bytes ∨ o.kind = k_string then (s, ⟨s.text, 0, 0, []⟩, true)
  else if o.kind = k_truncate then (if o.n < 0 ∨ (s.text.length : Int) < o.n then (s, est e_panic, true) else (s.oth (s.text.take o.n.toNat), zst, true))
  else if o.kind = k_reset then (s.oth [], zst, true)
  else if o.kind = k_grow then (if o.n < 0 then (s, est e_panic, true) else (s.oth s.text, zst, true))
  else if o.kind = k_read then (s.rd (min o.size s.text.length) 1, ⟨s.text.take o.size, min o.size s.text.length, 0, if s.text = [] ∧ 0 < o.size then e_end else []⟩, true)
  else if o.kind = k_next then (s.rd (min o.size s.text.length) 1, ⟨s.text.take o.size, 0, 0, []⟩, true)
  else if o.kind = k_peek then (s.oth s.text, ⟨s.text.take o.size, 0, 0, if s.text.length < o.size then e_end else []⟩, true)
  else if o.kind = k_readbyte then (if s.text = [] then (s.rd 0 1, est e_end, true) else (s.rd 1 1, ⟨[], byteAt s.text 0, 0, []⟩, true))
  else if o.kind = k_readbytes ∨ o.kind = k_readstring then
    (if misses s.text (UInt8.ofNat o.size) then (⟨[], 5, [], true⟩, ⟨s.text, 0, 0, e_end⟩, true) else (s.rd (s.text.idxOf (UInt8.ofNat o.size) + 1) 1, ⟨line s.text (UInt8.ofNat o.size), 0, 0, []⟩, true))
  else if o.kind = k_readrune then (if s.text = [] then (s.rd 0 2, est e_end, true) else (s.rd (dec s.text).2 2, ⟨[], (dec s.text).2, (dec s.text).1, []⟩, true))
  else if o.kind = k_unreadbyte then
    (if s.recent = 1 then (s.oth (s.last ++ s.text), zst, true) else if s.recent = 2 then (s.oth (s.last.drop (s.last.length - 1) ++ s.text), zst, true)
     else if s.recent = 3 ∨ s.recent = 4 then (s, est e_error, true) else (s, zst, false))
  else if o.kind = k_unreadrune then
    (if s.recent = 2 then (s.oth (s.last ++ s.text), zst, true) else if s.recent = 6 ∨ s.recent = 0 then (s, zst, false) else (s, est e_error, true))
  else (s, zst, false)
def runM (s : Sta) : List OpV → List StV
  | [] => []
  | o :: r => if (callM s o).2.2 then (callM s o).2.1 :: (if (callM s o).2.1.err = e_panic then [] else runM (callM s o).1 r) else []
/-- Whether all calls up to a panic are known. -/
def okM (s : Sta) : List OpV → Bool
  | [] => true
  | o :: r => (callM s o).2.2 && (decide ((callM s o).2.1.err = e_panic) || okM (callM s o).1 r)

theorem callM_write (s : Sta) (o : OpV) (h : o.kind = k_write) : callM s o = (s.wr o.text, ⟨[], o.text.length, 0, []⟩, true) := by
  unfold callM
  rw [h]
  rfl
theorem callM_writestring (s : Sta) (o : OpV) (h : o.kind = k_writestring) : callM s o = (s.wr o.text, ⟨[], o.text.length, 0, []⟩, true) := by
  unfold callM
  rw [h]
  rfl
theorem callM_writebyte (s : Sta) (o : OpV) (h : o.kind = k_writebyte) : callM s o = (s.wr [UInt8.ofNat o.size], zst, true) := by
  unfold callM
  rw [h]
  rfl
theorem callM_writerune (s : Sta) (o : OpV) (h : o.kind = k_writerune) : callM s o = (s.wr (Lib.encodeRune o.char), ⟨[], (Lib.encodeRune o.char).length, 0, []⟩, true) := by
  unfold callM
  rw [h]
  rfl
theorem callM_len (s : Sta) (o : OpV) (h : o.kind = k_len) : callM s o = (s, ⟨[], s.text.length, 0, []⟩, true) := by
  unfold callM
  rw [h]
  rfl
theorem callM_bytes (s : Sta) (o : OpV) (h : o.kind = k_bytes) : callM s o = (s, ⟨s.text, 0, 0, []⟩, true) := by
  unfold callM
  rw [h]
  rfl
theorem callM_string (s : Sta) (o : OpV) (h : o.kind = k_string) : callM s o = (s, ⟨s.text, 0, 0, []⟩, true) := by
  unfold callM
  rw [h]
  rfl
theorem callM_truncate (s : Sta) (o : OpV) (h : o.kind = k_truncate) : callM s o = (if o.n < 0 ∨ (s.text.length : Int) < o.n then (s, est e_panic, true) else (s.oth (s.text.take o.n.toNat), zst, true)) := by
  unfold callM
  rw [h]
  rfl
theorem callM_reset (s : Sta) (o : OpV) (h : o.kind = k_reset) : callM s o = (s.oth [], zst, true) := by
  unfold callM
  rw [h]
  rfl
theorem callM_grow (s : Sta) (o : OpV) (h : o.kind = k_grow) : callM s o = (if o.n < 0 then (s, est e_panic, true) else (s.oth s.text, zst, true)) := by
  unfold callM
  rw [h]
  rfl
theorem callM_read (s : Sta) (o : OpV) (h : o.kind = k_read) : callM s o = (s.rd (min o.size s.text.length) 1, ⟨s.text.take o.size, min o.size s.text.length, 0, if s.text = [] ∧ 0 < o.size then e_end else []⟩, true) := by
  unfold callM
  rw [h]
  rfl
theorem callM_next (s : Sta) (o : OpV) (h : o.kind = k_next) : callM s o = (s.rd (min o.size s.text.length) 1, ⟨s.text.take o.size, 0, 0, []⟩, true) := by
  unfold callM
  rw [h]
  rfl
theorem callM_peek (s : Sta) (o : OpV) (h : o.kind = k_peek) : callM s o = (s.oth s.text, ⟨s.text.take o.size, 0, 0, if s.text.length < o.size then e_end else []⟩, true) := by
  unfold callM
  rw [h]
  rfl
theorem callM_readbyte (s : Sta) (o : OpV) (h : o.kind = k_readbyte) : callM s o = (if s.text = [] then (s.rd 0 1, est e_end, true) else (s.rd 1 1, ⟨[], byteAt s.text 0, 0, []⟩, true)) := by
  unfold callM
  rw [h]
  rfl
theorem callM_readbytes (s : Sta) (o : OpV) (h : o.kind = k_readbytes) : callM s o = (if misses s.text (UInt8.ofNat o.size) then (⟨[], 5, [], true⟩, ⟨s.text, 0, 0, e_end⟩, true) else (s.rd (s.text.idxOf (UInt8.ofNat o.size) + 1) 1, ⟨line s.text (UInt8.ofNat o.size), 0, 0, []⟩, true)) := by
  unfold callM
  rw [h]
  rfl
theorem callM_readstring (s : Sta) (o : OpV) (h : o.kind = k_readstring) : callM s o = (if misses s.text (UInt8.ofNat o.size) then (⟨[], 5, [], true⟩, ⟨s.text, 0, 0, e_end⟩, true) else (s.rd (s.text.idxOf (UInt8.ofNat o.size) + 1) 1, ⟨line s.text (UInt8.ofNat o.size), 0, 0, []⟩, true)) := by
  unfold callM
  rw [h]
  rfl
theorem callM_readrune (s : Sta) (o : OpV) (h : o.kind = k_readrune) : callM s o = (if s.text = [] then (s.rd 0 2, est e_end, true) else (s.rd (dec s.text).2 2, ⟨[], (dec s.text).2, (dec s.text).1, []⟩, true)) := by
  unfold callM
  rw [h]
  rfl
theorem callM_unreadbyte (s : Sta) (o : OpV) (h : o.kind = k_unreadbyte) : callM s o = (if s.recent = 1 then (s.oth (s.last ++ s.text), zst, true) else if s.recent = 2 then (s.oth (s.last.drop (s.last.length - 1) ++ s.text), zst, true) else if s.recent = 3 ∨ s.recent = 4 then (s, est e_error, true) else (s, zst, false)) := by
  unfold callM
  rw [h]
  rfl
theorem callM_unreadrune (s : Sta) (o : OpV) (h : o.kind = k_unreadrune) : callM s o = (if s.recent = 2 then (s.oth (s.last ++ s.text), zst, true) else if s.recent = 6 ∨ s.recent = 0 then (s, zst, false) else (s, est e_error, true)) := by
  unfold callM
  rw [h]
  rfl
theorem callM_none (s : Sta) (o : OpV) (h0 : o.kind ≠ k_write) (h1 : o.kind ≠ k_writestring) (h2 : o.kind ≠ k_writebyte) (h3 : o.kind ≠ k_writerune) (h4 : o.kind ≠ k_len) (h5 : o.kind ≠ k_bytes) (h6 : o.kind ≠ k_string) (h7 : o.kind ≠ k_truncate) (h8 : o.kind ≠ k_reset) (h9 : o.kind ≠ k_grow) (h10 : o.kind ≠ k_read) (h11 : o.kind ≠ k_next) (h12 : o.kind ≠ k_peek) (h13 : o.kind ≠ k_readbyte) (h14 : o.kind ≠ k_readbytes) (h15 : o.kind ≠ k_readstring) (h16 : o.kind ≠ k_readrune) (h17 : o.kind ≠ k_unreadbyte) (h18 : o.kind ≠ k_unreadrune) : callM s o = (s, zst, false) := by
  unfold callM
  simp only [h0, h1, h2, h3, h4, h5, h6, h7, h8, h9, h10, h11, h12, h13, h14, h15, h16, h17, h18, or_self, if_false]

/-- What the last read has left in the buffer's row. -/
def RecOk (s : Sta) (row : List UInt8) (off : Nat) (lr : Int) : Prop :=
  (s.recent = 1 → lr = -1 ∧ s.last.length = 1 ∧ ∃ pre, row.take off = pre ++ s.last) ∧ (s.recent = 2 → lr = (s.last.length : Int) ∧ 1 ≤ s.last.length ∧ s.last.length ≤ 4 ∧ ∃ pre, row.take off = pre ++ s.last) ∧
  (s.recent = 3 ∨ s.recent = 4 → lr = 0) ∧ (s.recent = 5 → lr = -1) ∧ s.recent ≤ 6 ∧ lr ≤ 4
/-- A buffer that the call has made, with what is known of it. -/
structure Scr (W : Nat) (wr : World) (b : Nat) (s : Sta) (g : Option Nat) (row : List UInt8) (len off : Nat) (lr : Int) : Prop where
  bw : Bw W wr b s.text g row len off lr
  rec_ : RecOk s row off lr
theorem RecOk.le4 {s : Sta} {row : List UInt8} {off : Nat} {lr : Int} (h : RecOk s row off lr) : lr ≤ 4 := h.2.2.2.2.2
theorem RecOk.oth (s : Sta) (t row : List UInt8) (off : Nat) (lr : Int) (h4 : lr ≤ 4 := by omega) : RecOk (s.oth t) row off lr := by simp [RecOk, Sta.oth, h4]
theorem RecOk.wr (s : Sta) (d row : List UInt8) (off : Nat) : RecOk (s.wr d) row off 0 := by
  unfold Sta.wr
  split <;> simp [RecOk]
theorem take_unread (row : List UInt8) (len off k : Nat) (h : off + k ≤ len) : row.take (off + k) = row.take off ++ (unread row len off).take k := by
  rw [unread_eq, List.take_take, Nat.min_eq_left (by omega), List.take_add]
theorem RecOk.rd1 (s : Sta) (row : List UInt8) (len off k : Nat) (hu : unread row len off = s.text) (hk : k ≤ s.text.length) (h : off + k ≤ len) : RecOk (s.rd k 1) row (off + k) (if k = 0 then 0 else -1) := by
  unfold Sta.rd
  by_cases h0 : k = 0
  · simp [RecOk, h0]
  · refine ⟨fun _ => ?_, ?_, ?_, ?_, ?_, ?_⟩
    · simp only [h0, if_false]
      refine ⟨trivial, ?_, row.take off ++ (s.text.take k).take (k - 1), ?_⟩
      · simp; omega
      · rw [take_unread row len off k h, hu, List.append_assoc]
        simp
    all_goals simp [h0]
theorem RecOk.rd2 (s : Sta) (row : List UInt8) (len off k : Nat) (hu : unread row len off = s.text) (hk : k ≤ s.text.length) (h : off + k ≤ len) (h1 : 1 ≤ k) (h4 : k ≤ 4) : RecOk (s.rd k 2) row (off + k) (k : Int) := by
  have h0 : ¬ k = 0 := by omega
  unfold Sta.rd
  simp only [h0, if_false, if_true, RecOk]
  refine ⟨by simp, fun _ => ⟨?_, ?_, ?_, row.take off, ?_⟩, by simp, by simp, by simp, by omega⟩
  · simp; omega
  · simp; omega
  · simp; omega
  · rw [take_unread row len off k h, hu]
theorem rd_text (s : Sta) (k m : Nat) : (s.rd k m).text = s.text.drop k := by
  unfold Sta.rd
  split
  · rename_i h; simp [h]
  · rfl

theorem runM_next (s : Sta) (o : OpV) (r : List OpV) (s' : Sta) (st : StV) (h : callM s o = (s', st, true)) (hp : st.err ≠ e_panic) : runM s (o :: r) = st :: runM s' r := by simp [runM, h, hp]
theorem runM_panic (s : Sta) (o : OpV) (r : List OpV) (s' : Sta) (st : StV) (h : callM s o = (s', st, true)) (hp : st.err = e_panic) : runM s (o :: r) = [st] := by simp [runM, h, hp]
theorem runM_free (s : Sta) (o : OpV) (r : List OpV) (h : (callM s o).2.2 = false) : runM s (o :: r) = [] := by simp [runM, h]
theorem okM_next (s : Sta) (o : OpV) (r : List OpV) (s' : Sta) (st : StV) (h : callM s o = (s', st, true)) (hp : st.err ≠ e_panic) : okM s (o :: r) = okM s' r := by simp [okM, h, hp]
theorem okM_free (s : Sta) (o : OpV) (r : List OpV) (h : (callM s o).2.2 = false) : okM s (o :: r) = false := by simp [okM, h]

end Go.Proofs.YtgjaeggpaomoaaaDoor
