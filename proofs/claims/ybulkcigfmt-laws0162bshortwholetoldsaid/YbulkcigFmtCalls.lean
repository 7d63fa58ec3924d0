/-
  THE CONTRACTS: zzs0162bchars (5), excerpt (8), Excerpt (6), zzs0162bpiece (7).
-/
import Derived.Test.YbulkcigFmtFacts
import Derived.Test.YbulkcigFmtPlain
namespace Go.Proofs.YbulkcigFmt
open Go.RowKit Go.Extern.Stop Go.Stop Go.Extern
open Go.Proofs.YbulkcigFmt.Plain
set_option linter.unusedVariables false

set_option maxHeartbeats 400000 in
theorem chars_any (s : ByteArray) (w : World) (hs : s.size ≤ 4096) :
    Calls Ybaf.prog 5 #[.string s] w fun e w' => e = .returned (.int .i64 (cnt s s.size 0)) ∧ ∃ pos, w' = w.iter s pos := by
  have htot := cnt_le s s.size 0
  obtain ⟨tot, HT⟩ : ∃ tot, Hid (cnt s s.size 0 = tot) := ⟨_, rfl⟩
  rw [HT.out] at htot ⊢
  go_enter Ybaf.func5, Ybaf.ntmps5
  go_wp2
  go_loopw [3] (fun n w' => ∃ (pos b k : Nat), w' = w.iter s pos ∧ n = .int .i64 k ∧ k + cnt s b pos = tot ∧ s.size ≤ pos + b) (fun _ w' => s.size - w'.iterPos w.heap.size)
  case atStart => exact ⟨0, s.size, 0, rfl, rfl, by rw [HT.out]; omega, by omega⟩
  case round =>
    obtain ⟨pos, b, k, rfl, rfl, hc, hb⟩ := hrel
    have hk : k ≤ 4096 := by omega
    have HC : Hid _ := hc
    clear hc
    by_cases hp : pos < s.size
    · have hnx : ∀ ty, (Instr.next (.pointer (some ⟨w.heap.size, 0, none⟩)) true ty).run Ybaf.prog (w.iter s pos) = _ := fun ty => run_next_any w s pos ty hp
      go_wp2
      have hwd := width_pos s pos hp
      go_roundw
      case rel =>
        cases b with
        | zero => omega
        | succ b =>
          have hc := HC.out
          rw [cnt_step s b pos hp] at hc
          exact ⟨pos + (Utf8.decode s pos).2, b, k + 1, rfl, by go_num, by omega, by omega⟩
      case measure =>
        simp
        omega
    · have hnx : ∀ ty, (Instr.next (.pointer (some ⟨w.heap.size, 0, none⟩)) true ty).run Ybaf.prog (w.iter s pos) = _ := fun ty => run_next_end w s pos ty hp
      go_wp2
      go_ret
      have hc := HC.out
      rw [cnt_end s b pos hp] at hc
      exact ⟨by rw [← hc]; rfl, _, rfl⟩

set_option maxHeartbeats 400000 in
theorem excerpt_any (s : ByteArray) (w : World) (hs : s.size ≤ 4096) :
    Calls Ybaf.prog 8 #[.string s] w fun e w' => ((cnt s s.size 0 ≤ 64 ∧ e = .returned (.tuple #[.string s, .bool false])) ∨ (64 < cnt s s.size 0 ∧ ∃ t : ByteArray, t.size ≤ s.size ∧ e = .returned (.tuple #[.string t, .bool true]))) ∧ ∃ pos, w' = w.iter s pos := by
  have htot := cnt_le s s.size 0
  obtain ⟨tot, HT⟩ : ∃ tot, Hid (cnt s s.size 0 = tot) := ⟨_, rfl⟩
  rw [HT.out] at htot ⊢
  go_enter Ybaf.func8, Ybaf.ntmps8
  go_wp2
  go_loopw [4] (fun n w' => ∃ (pos b k : Nat), w' = w.iter s pos ∧ n = .int .i64 k ∧ k ≤ 64 ∧ k + cnt s b pos = tot ∧ s.size ≤ pos + b) (fun _ w' => s.size - w'.iterPos w.heap.size)
  case atStart => exact ⟨0, s.size, 0, rfl, rfl, by omega, by rw [HT.out]; omega, by omega⟩
  case round =>
    obtain ⟨pos, b, k, rfl, rfl, hk, hc, hb⟩ := hrel
    have HC : Hid _ := hc
    clear hc
    by_cases hp : pos < s.size
    · have hnx : ∀ ty, (Instr.next (.pointer (some ⟨w.heap.size, 0, none⟩)) true ty).run Ybaf.prog (w.iter s pos) = _ := fun ty => run_next_any w s pos ty hp
      by_cases h64 : k < 64
      · go_wp2
        have hwd := width_pos s pos hp
        go_roundw
        case rel =>
          cases b with
          | zero => omega
          | succ b =>
            have hc := HC.out
            rw [cnt_step s b pos hp] at hc
            exact ⟨pos + (Utf8.decode s pos).2, b, k + 1, rfl, by go_num, by omega, by omega, by omega⟩
        case measure =>
          simp
          omega
      · have hk' : 64 ≤ k := by omega
        go_wp2
        go_ret2
        have hc := HC.out
        have hcp : 1 ≤ cnt s b pos := by
          cases b with
          | zero => omega
          | succ b => rw [cnt_step s b pos hp]; omega
        refine ⟨.inr ⟨by omega, _, ?_, rfl⟩, _, rfl⟩
        rw [ByteArray.size_extract]
        omega
    · have hnx : ∀ ty, (Instr.next (.pointer (some ⟨w.heap.size, 0, none⟩)) true ty).run Ybaf.prog (w.iter s pos) = _ := fun ty => run_next_end w s pos ty hp
      go_wp2
      go_ret2
      have hc := HC.out
      rw [cnt_end s b pos hp] at hc
      exact ⟨.inl ⟨by omega, rfl⟩, _, rfl⟩

/-- At most 64 characters: the text whole. -/
theorem excerpt_whole (s : ByteArray) (w : World) (hs : s.size ≤ 4096) (h : cnt s s.size 0 ≤ 64) :
    Calls Ybaf.prog 6 #[.string s] w fun e w' => e = .returned (.string s) ∧ Below w.heap.size w w' := by
  have hc : Calls Ybaf.prog 8 #[.string s] w fun e w' => e = .returned (.tuple #[.string s, .bool false]) ∧ ∃ pos, w' = w.iter s pos := by
    refine (excerpt_any s w hs).mono ?_
    rintro e w' ⟨h1 | h1, h2⟩
    · exact ⟨h1.2, h2⟩
    · omega
  clear h
  go_enter Ybaf.func6, Ybaf.ntmps6
  go_wp2_with (go_at_call 8; refine hc.mono ?_; rintro e w' ⟨rfl, pos, rfl⟩)
  go_ret
  exact ⟨rfl, (Below.refl _ _).alloc (Nat.le_refl _) _⟩

/-- More: some text, made by fmt. -/
theorem excerpt_cut (F : Interp) (s : ByteArray) (w : World) (hF : F.answers w.tape) (hs : s.size ≤ 4096) (h : 64 < cnt s s.size 0) :
    Calls Ybaf.prog 6 #[.string s] w fun e w' => (∃ t : ByteArray, e = .returned (.string t)) ∧ Below w.heap.size w w' := by
  have hc : Calls Ybaf.prog 8 #[.string s] w fun e w' => (∃ t : ByteArray, t.size ≤ s.size ∧ e = .returned (.tuple #[.string t, .bool true])) ∧ ∃ pos, w' = w.iter s pos := by
    refine (excerpt_any s w hs).mono ?_
    rintro e w' ⟨h1 | h1, h2⟩
    · omega
    · exact ⟨h1.2, h2⟩
  clear h
  have hF' := answers_open hF
  go_enter Ybaf.func6, Ybaf.ntmps6
  go_wp2_with fail
  refine hc.mono ?_
  rintro e w' ⟨⟨t, ht, rfl⟩, pos, rfl⟩
  clear hc
  unfold World.iter
  go_wp2
  go_ret
  exact ⟨⟨_, rfl⟩, (((Below.refl _ _).alloc (Nat.le_refl _) _).alloc (by simp) _).drew⟩

theorem piece_any (x : Int) (w : World) (h0 : 0 ≤ x) (h1 : x ≤ 255) :
    Calls Ybaf.prog 7 #[.int .u8 x] w fun e w' => e = .returned (.string ⟨(pieceL x).toArray⟩) ∧ w' = w := by
  have h5 : 0 ≤ x % 5 ∧ x % 5 < 5 := by omega
  obtain ⟨m, HM⟩ : ∃ m, Hid (x % 5 = m) := ⟨_, rfl⟩
  unfold pieceL
  rcases (show x % 5 = 0 ∨ x % 5 = 1 ∨ x % 5 = 2 ∨ x % 5 = 3 ∨ x % 5 = 4 by omega) with h | h | h | h | h
  all_goals
    rw [h]
    go_enter Ybaf.func7, Ybaf.ntmps7
    go_wp2
    go_ret
    exact ⟨rfl, rfl⟩

/-- ████ THE WALK OF LawS0162BShortWhole. -/
theorem short_any (F : Interp) (s : ByteArray) (w : World) (hF : F.answers w.tape) (hs : s.size ≤ maxLen) :
    Calls Ybaf.prog 3 #[.string s] w fun e w' => e = .returned (.bool true) ∧ Below w.heap.size w w' := by
  unfold maxLen at hs
  by_cases hbig : 4096 < s.size
  · go_enter Ybaf.func3, Ybaf.ntmps3
    go_wp2
    go_ret
    exact ⟨rfl, Below.refl _ _⟩
  · have hle : s.size ≤ 4096 := by omega
    have hch := chars_any s w hle
    have hcut := fun (pos : Nat) h => excerpt_cut F s (w.iter s pos) hF hle h
    have hwh := fun (pos : Nat) h => excerpt_whole s (w.iter s pos) hle h
    obtain ⟨tot, HT⟩ : ∃ tot, Hid (cnt s s.size 0 = tot) := ⟨_, rfl⟩
    rw [HT.out] at hch hcut hwh
    by_cases h64 : tot ≤ 64
    · clear hcut hF
      go_enter Ybaf.func3, Ybaf.ntmps3
      go_wp2_with fail
      refine hch.mono ?_
      rintro e w' ⟨rfl, pos, rfl⟩
      go_wp2_with fail
      refine (hwh pos h64).mono ?_
      rintro e w' ⟨rfl, hb⟩
      clear hwh hch
      go_wp2
      go_ret
      exact ⟨rfl, ((Below.refl _ w).alloc (Nat.le_refl _) (.stringIter s pos)).trans (hb.mono (by simp [World.iter]))⟩
    · clear hwh
      have h64' : 64 < tot := by omega
      go_enter Ybaf.func3, Ybaf.ntmps3
      go_wp2_with fail
      refine hch.mono ?_
      rintro e w' ⟨rfl, pos, rfl⟩
      go_wp2_with fail
      refine (hcut pos h64').mono ?_
      rintro e w' ⟨⟨t, rfl⟩, hb⟩
      clear hcut hch
      go_wp2
      go_ret
      exact ⟨rfl, ((Below.refl _ w).alloc (Nat.le_refl _) (.stringIter s pos)).trans (hb.mono (by simp [World.iter]))⟩

/-- What the walk is told of the argument: it is empty, or its cells lie from an address on; each number is a byte. -/
def Fed (w : World) (a : Option Addr) (n : Nat) (zs : List Int) : Prop :=
  n ≤ zs.length ∧ (∀ i, 0 ≤ zs.getD i 0 ∧ zs.getD i 0 ≤ 255) ∧ (n = 0 ∨ ∃ b off, a = some ⟨b, off, none⟩ ∧ b < w.heap.size ∧ ∀ i, i < n → w.cell? ⟨b, off + i, none⟩ = some (.int .u8 (zs.getD i 0)))

def txt (ks : List Int) : ByteArray := ⟨(textL ks).toArray⟩

theorem txt_size (ks : List Int) : (txt ks).size = (textL ks).length := by simp [txt, ByteArray.size]

theorem txt_snoc (zs : List Int) (k : Nat) (h : k < zs.length) : txt (zs.take k) ++ ⟨(pieceL (zs.getD k 0)).toArray⟩ = txt (zs.take (k + 1)) := by
  have e : zs.getD k 0 = zs[k] := by simp [List.getD, h]
  rw [e]
  apply ByteArray.ext
  apply Array.toList_inj.1
  rw [List.take_succ_eq_append_getElem h]
  simp only [txt, textL_snoc, ByteArray.data_append, Array.toList_append]

theorem cnt_txt (ks : List Int) : cnt (txt ks) (txt ks).size 0 ≤ ks.length := by
  have := cnt_text (txt ks) ks [] (txt ks).size (by simp [txt])
  simpa using this

set_option maxHeartbeats 400000 in
/-- ████ THE WALK OF LawS0162BBuiltWhole. -/
theorem built_any (F : Interp) (a0 : Option Addr) (n cap : Nat) (zs : List Int) (w : World) (hF : F.answers w.tape) (hm : n ≤ maxLen) (hfed : Fed w a0 n zs) :
    Calls Ybaf.prog 4 #[.slice a0 n cap] w fun e w' => e = .returned (.bool true) ∧ Below w.heap.size w w' := by
  unfold maxLen at hm
  by_cases hbig : 1024 < n
  · clear hfed
    go_enter Ybaf.func4, Ybaf.ntmps4
    go_wp2
    go_ret
    exact ⟨rfl, Below.refl _ _⟩
  · have hle : n ≤ 1024 := by omega
    obtain ⟨hzn, hbd, hfed⟩ := hfed
    go_enter Ybaf.func4, Ybaf.ntmps4
    go_wp2
    go_loop [3, 4] (fun t i => ∃ k : Nat, k ≤ n ∧ i = .int .i64 k ∧ t = .string (txt (zs.take k))) (fun _ i => n - (intOf i).toNat)
    case atStart => exact ⟨0, Nat.zero_le _, rfl, rfl⟩
    case round =>
      obtain ⟨k, hk, rfl, rfl⟩ := hrel
      by_cases hlt : k < n
      · rcases hfed with h0 | ⟨b, off, rfl, hbl, hcell⟩
        · omega
        · have hcx := hcell k hlt
          have hb := hbd k
          have hsz := textL_len (zs.take k)
          have hl3 := (pieceL_len (zs.getD k 0)).2
          rw [← txt_size] at hsz
          have hl : (zs.take k).length ≤ k := List.length_take_le _ _
          have HS : Hid _ := txt_snoc zs k (by omega)
          obtain ⟨x, HX⟩ : ∃ x, Hid (zs.getD k 0 = x) := ⟨_, rfl⟩
          rw [HX.out] at hcx hb hl3 HS
          obtain ⟨t0, HT⟩ : ∃ x, Hid (txt (zs.take k) = x) := ⟨_, rfl⟩
          rw [HT.out] at hsz HS ⊢
          obtain ⟨p0, HP⟩ : ∃ p : ByteArray, Hid (⟨(pieceL x).toArray⟩ = p) := ⟨_, rfl⟩
          have hps : p0.size ≤ 3 := by rw [← HP.out]; simpa [ByteArray.size] using hl3
          have hpc : ∀ w : World, Calls Ybaf.prog 7 #[.int .u8 x] w fun e w' => e = .returned (.string p0) ∧ w' = w := by rw [← HP.out]; exact fun w => piece_any x w hb.1 hb.2
          rw [HP.out] at HS
          clear hcell hbd
          go_wp2_with (go_at_call 7; refine (hpc _).mono ?_; rintro e w' ⟨rfl, rfl⟩)
          go_round
          case rel => exact ⟨k + 1, by omega, by go_num, by rw [HS.out]⟩
          case measure => simp [intOf]; omega
      · have hkn : k = n := by omega
        subst hkn
        have hct := cnt_txt (zs.take k)
        have hsz := textL_len (zs.take k)
        rw [← txt_size] at hsz
        have hl : (zs.take k).length ≤ k := List.length_take_le _ _
        obtain ⟨t0, HT⟩ : ∃ x, Hid (txt (zs.take k) = x) := ⟨_, rfl⟩
        rw [HT.out] at hsz hct ⊢
        have hs4 : t0.size ≤ 4096 := by omega
        clear hbd hfed
        by_cases h64 : cnt t0 t0.size 0 ≤ 64
        · have hwh := excerpt_whole t0 w hs4 h64
          clear h64 hct
          go_wp2_with (go_at_call 6; refine hwh.mono ?_; rintro e w' ⟨rfl, hb⟩)
          all_goals
            go_ret
            exact ⟨rfl, hb⟩
        · have hcut := excerpt_cut F t0 w hF hs4 (by omega)
          have hk64 : 64 < k := by omega
          clear h64 hct
          go_wp2_with fail
          refine hcut.mono ?_
          rintro e w' ⟨⟨t, rfl⟩, hb⟩
          clear hcut
          go_wp2
          go_ret
          exact ⟨rfl, hb⟩

end Go.Proofs.YbulkcigFmt
