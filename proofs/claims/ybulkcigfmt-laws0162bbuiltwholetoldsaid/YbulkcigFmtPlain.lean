/-
  THE PLAIN PART: how many characters a string has by a range over it, and of a text built of pieces.
-/
import Derived.WalkKit
namespace Go.Proofs.YbulkcigFmt.Plain
set_option linter.unusedSimpArgs false

/-- The rounds of a range over s from 'pos' on ('b': a bound on the rounds). -/
def cnt (s : ByteArray) : Nat → Nat → Nat
  | 0, _ => 0
  | b + 1, pos => if pos < s.size then cnt s b (pos + (Utf8.decode s pos).2) + 1 else 0

theorem width_pos (s : ByteArray) (pos : Nat) (h : pos < s.size) : 1 ≤ (Utf8.decode s pos).2 := by
  by_cases ha : (s[pos]'h).toNat < 128
  · rw [decode_ascii s pos h ha]
    exact Nat.le_refl _
  · exact (decode_high s pos h (by omega)).2

theorem cnt_end (s : ByteArray) (b pos : Nat) (h : ¬ pos < s.size) : cnt s b pos = 0 := by
  cases b with
  | zero => rfl
  | succ b => simp [cnt, h]

theorem cnt_le (s : ByteArray) (b : Nat) : ∀ pos, cnt s b pos ≤ b := by
  induction b with
  | zero => intro pos; simp [cnt]
  | succ b ih =>
    intro pos
    have := ih (pos + (Utf8.decode s pos).2)
    simp only [cnt]
    split <;> omega

theorem cnt_step (s : ByteArray) (b pos : Nat) (h : pos < s.size) : cnt s (b + 1) pos = cnt s b (pos + (Utf8.decode s pos).2) + 1 := by
  simp [cnt, h]

/-! ### Pieces -/
/-- The bytes of the piece of number k. -/
def pieceL (k : Int) : List UInt8 :=
  if k % 5 = 0 then [97] else if k % 5 = 1 then [195, 169] else if k % 5 = 2 then [255] else if k % 5 = 3 then [230, 151, 165] else [98]

theorem pieceL_len (k : Int) : 1 ≤ (pieceL k).length ∧ (pieceL k).length ≤ 3 := by
  unfold pieceL; repeat' split
  all_goals simp

def textL (ks : List Int) : List UInt8 := ks.flatMap pieceL

theorem textL_snoc (ks : List Int) (k : Int) : textL (ks ++ [k]) = textL ks ++ pieceL k := by simp [textL]

theorem textL_len (ks : List Int) : (textL ks).length ≤ 3 * ks.length := by
  induction ks with
  | nil => simp [textL]
  | cons k ks ih =>
    have := (pieceL_len k).2
    have e : textL (k :: ks) = pieceL k ++ textL ks := by simp [textL]
    rw [e]; simp; omega

theorem get_of (s : ByteArray) (l r : List UInt8) (h : s.data.toList = l ++ r) (j : Nat) (hj : j < r.length) : s.get! (l.length + j) = r[j] := by
  have hs : s.size = l.length + r.length := by
    have := congrArg List.length h
    simpa using this
  have e : s.get! (l.length + j) = s.data.toList[l.length + j]! := by
    show s.data[l.length + j]! = _
    simp [getElem!_def]
  rw [e, h]
  simp [List.getElem!_eq_getElem?_getD, List.getElem?_append_right, hj]

theorem size_of (s : ByteArray) (l r : List UInt8) (h : s.data.toList = l ++ r) : s.size = l.length + r.length := by
  have := congrArg List.length h
  simpa using this

/-- At a piece's head the range takes the whole piece. -/
theorem decode_piece (s : ByteArray) (l r : List UInt8) (k : Int) (h : s.data.toList = l ++ (pieceL k ++ r)) : (Utf8.decode s l.length).2 = (pieceL k).length := by
  have hs := size_of s _ _ h
  have hg := get_of s _ _ h
  unfold pieceL at h hs hg ⊢
  by_cases h0 : k % 5 = 0
  · simp only [h0, if_true] at hs hg ⊢
    have g0 := hg 0 (by simp)
    simp at g0
    simp [Utf8.decode, g0]
  by_cases h1 : k % 5 = 1
  · simp only [h0, h1, if_true, if_false] at hs hg ⊢
    have g0 := hg 0 (by simp)
    have g1 := hg 1 (by simp)
    simp at g0 g1 hs
    simp [Utf8.decode, g0, g1, hs]
  by_cases h2 : k % 5 = 2
  · simp only [h0, h1, h2, if_true, if_false] at hs hg ⊢
    have g0 := hg 0 (by simp)
    simp at g0
    simp [Utf8.decode, g0]
  by_cases h3 : k % 5 = 3
  · simp only [h0, h1, h2, h3, if_true, if_false] at hs hg ⊢
    have g0 := hg 0 (by simp)
    have g1 := hg 1 (by simp)
    have g2 := hg 2 (by simp)
    simp at g0 g1 g2 hs
    simp [Utf8.decode, g0, g1, g2, hs, Utf8.valid]
  · simp only [h0, h1, h2, h3, if_false] at hs hg ⊢
    have g0 := hg 0 (by simp)
    simp at g0
    simp [Utf8.decode, g0]

/-- A text of n pieces has at most n characters. -/
theorem cnt_text (s : ByteArray) : ∀ (ks : List Int) (l : List UInt8) (b : Nat), s.data.toList = l ++ textL ks → cnt s b l.length ≤ ks.length := by
  intro ks
  induction ks with
  | nil =>
    intro l b h
    have hs := size_of s _ _ h
    rw [cnt_end s b l.length (by simp [textL] at hs; omega)]
    exact Nat.zero_le _
  | cons k ks ih =>
    intro l b h
    have e : textL (k :: ks) = pieceL k ++ textL ks := by simp [textL]
    rw [e] at h
    cases b with
    | zero => simp [cnt]
    | succ b =>
      have hd := decode_piece s l (textL ks) k h
      have hs := size_of s _ _ h
      have hp := pieceL_len k
      rw [cnt_step s b l.length (by simp at hs; omega), hd]
      have := ih (l ++ pieceL k) b (by rw [h]; simp)
      simp at this ⊢
      exact this

end Go.Proofs.YbulkcigFmt.Plain
