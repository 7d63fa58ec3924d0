/-
  stableCmpFunc (15) and SortStableFunc (8).
-/
import Derived.Test.YbulkckkFmtMergeC
import Derived.Test.YbulkckkFmtBlocks
namespace Go.Proofs.YbulkckkFmt.st
open Go.RowKit
set_option linter.unusedVariables false
set_option linter.unusedSimpArgs false

section
variable {w0 w : World} {g n cap p1 p2 : Nat} {T : Nat → Int} {V : Nat → Prop} {xs : List Nat}

/-- The blocks of 20, and an increasing rest. -/
def Ph1 (w0 w : World) (g n cap : Nat) (T : Nat → Int) (xs : List Nat) (a b : Nat) : Prop :=
  ∃ (dl : List (List Nat)) (rest : List Nat), a = dl.length * 20 ∧ b = a + 20 ∧ n = a + rest.length ∧ Mix T xs 20 0 dl [] rest ∧ rest.Pairwise (· < ·) ∧ RowAt w0 w g n cap (dl.flatten ++ rest)
/-- Between two passes. -/
def Ph2 (w0 w : World) (g n cap : Nat) (T : Nat → Int) (xs : List Nat) (bs : Nat) : Prop :=
  ∃ (dl : List (List Nat)) (tail : List Nat) (z : Nat), Mix T xs bs z dl [] tail ∧ tail.length < bs ∧ Sorted T tail ∧ RowAt w0 w g n cap (dl.flatten ++ tail)
/-- Within a pass. -/
def Ph3 (w0 w : World) (g n cap : Nat) (T : Nat → Int) (xs : List Nat) (bs a b : Nat) : Prop :=
  ∃ (dl rl : List (List Nat)) (tail : List Nat), a = dl.length * (2 * bs) ∧ b = a + 2 * bs ∧ n = a + (rl.length * bs + tail.length) ∧ Mix T xs (2 * bs) bs dl rl tail ∧ tail.length < bs ∧ Sorted T tail ∧ RowAt w0 w g n cap (dl.flatten ++ rl.flatten ++ tail)

theorem Ph1.start (hx : xs.Pairwise (· < ·)) (hl : xs.length = n) (h : RowAt w0 w g n cap xs) : Ph1 w0 w g n cap T xs 0 20 :=
  ⟨[], xs, by simp, by simp, by simp [hl], Mix.start T xs 20 0, hx, by simpa using h⟩

theorem Ph1.next {a b : Nat} (h : Ph1 w0 w g n cap T xs a b) (hn : n ≤ 1024) (hb : b ≤ n) (hV : ∀ x ∈ xs, V x) (hcmp : CmpOk w0 g p1 p2 T V) :
    Calls Ybaf.prog 19 #[.slice (some ⟨g, 0, none⟩) n cap, .int .i64 (a : Int), .int .i64 (b : Int), .func (.func 9) #[] #[.pointer (some ⟨p1, 0, none⟩), .pointer (some ⟨p2, 0, none⟩)]] w fun e w' => e = .returned (.tuple #[]) ∧ Ph1 w0 w' g n cap T xs b (b + 20) := by
  obtain ⟨dl, rest, ha, hb', hn', hm, hinc, hr⟩ := h
  have e : rest.take 20 ++ rest.drop 20 = rest := List.take_append_drop _ _
  have hl : (rest.take 20).length = 20 := by rw [List.length_take]; omega
  rw [← e] at hm hinc hr
  refine (insert19 w0 w g n cap a b p1 p2 T V dl.flatten (rest.take 20) (rest.drop 20) hn ?_ (by omega) (List.pairwise_append.1 hinc).1 ?_ hcmp (by simpa using hr)).mono ?_
  · rw [flat_len dl 20 hm.len2, ha]
  · intro x hx
    refine hV x (hm.perm.mem_iff.1 ?_)
    simp only [List.mem_append]
    exact .inr (.inl hx)
  · rintro e' w' ⟨rfl, S, hp, hs, hr'⟩
    refine ⟨rfl, dl ++ [S], rest.drop 20, by simp; omega, rfl, by simp; omega, hm.next hinc hp hs hl, (List.pairwise_append.1 hinc).2.1, by simpa using hr'⟩

theorem Ph1.last {a b : Nat} (h : Ph1 w0 w g n cap T xs a b) (hn : n ≤ 1024) (hb : n < b) (hV : ∀ x ∈ xs, V x) (hcmp : CmpOk w0 g p1 p2 T V) :
    Calls Ybaf.prog 19 #[.slice (some ⟨g, 0, none⟩) n cap, .int .i64 (a : Int), .int .i64 (n : Int), .func (.func 9) #[] #[.pointer (some ⟨p1, 0, none⟩), .pointer (some ⟨p2, 0, none⟩)]] w fun e w' => e = .returned (.tuple #[]) ∧ Ph2 w0 w' g n cap T xs 20 := by
  obtain ⟨dl, rest, ha, hb', hn', hm, hinc, hr⟩ := h
  refine (insert19 w0 w g n cap a n p1 p2 T V dl.flatten rest [] hn ?_ (by omega) hinc ?_ hcmp (by simpa using hr)).mono ?_
  · rw [flat_len dl 20 hm.len2, ha]
  · intro x hx
    refine hV x (hm.perm.mem_iff.1 ?_)
    simp only [List.mem_append]
    exact .inr hx
  · rintro e' w' ⟨rfl, S, hp, hs, hr'⟩
    refine ⟨rfl, dl, S, 0, hm.rest hp, by rw [hp.length_eq]; omega, hs, by simpa using hr'⟩

theorem Ph2.turn {bs : Nat} (h : Ph2 w0 w g n cap T xs bs) : Ph3 w0 w g n cap T xs bs 0 (2 * bs) := by
  obtain ⟨dl, tail, z, hm, ht, hs, hr⟩ := h
  refine ⟨[], dl, tail, by simp, by simp, ?_, hm.turn _, ht, hs, by simpa using hr⟩
  have := hr.len
  rw [List.length_append, flat_len dl bs hm.len2] at this
  omega

theorem Ph2.done {bs : Nat} (h : Ph2 w0 w g n cap T xs bs) (hb : n ≤ bs) (h1 : 1 ≤ bs) (hx : xs.length = n) : ∃ S, S.Perm xs ∧ Sorted T S ∧ RowAt w0 w g n cap S := by
  obtain ⟨dl, tail, z, hm, ht, hs, hr⟩ := h
  exact ⟨dl.flatten ++ tail, by simpa using hm.perm, hm.done hs (by omega) h1, hr⟩

theorem Ph3.next {bs a b : Nat} (h : Ph3 w0 w g n cap T xs bs a b) (hn : n ≤ 1024) (hb : b ≤ n) (h1 : 1 ≤ bs) (hV : ∀ x ∈ xs, V x) (hcmp : CmpOk w0 g p1 p2 T V) :
    Calls Ybaf.prog 20 #[.slice (some ⟨g, 0, none⟩) n cap, .int .i64 (a : Int), .int .i64 ((a + bs : Nat) : Int), .int .i64 (b : Int), .func (.func 9) #[] #[.pointer (some ⟨p1, 0, none⟩), .pointer (some ⟨p2, 0, none⟩)]] w fun e w' => e = .returned (.tuple #[]) ∧ Ph3 w0 w' g n cap T xs bs b (b + 2 * bs) := by
  obtain ⟨dl, rl, tail, ha, hb', hn', hm, ht, hs, hr⟩ := h
  match rl, hn', hm, hr with
  | [], hn', hm, hr => exfalso; simp at hn'; omega
  | [B], hn', hm, hr => exfalso; simp at hn'; omega
  | B1 :: B2 :: rl, hn', hm, hr =>
    have l1 := hm.len1 B1 (by simp)
    have l2 := hm.len1 B2 (by simp)
    have hV' : ∀ B ∈ B1 :: B2 :: rl, ∀ x ∈ B, V x := by
      intro B hB x hx
      refine hV x (hm.perm.mem_iff.1 ?_)
      simp only [List.mem_append]
      exact .inl (.inr (List.mem_flatten.2 ⟨B, hB, hx⟩))
    have hap : Apart B1 B2 := (List.pairwise_cons.1 (List.pairwise_append.1 hm.apart).2.1).1 B2 (by simp)
    refine (merge_all (B1.length + B2.length) w0 w g n cap a (a + bs) b p1 p2 T V dl.flatten B1 B2 (rl.flatten ++ tail) (Nat.le_refl _) hn ?_ (by omega) (by omega) (by omega) (by omega) (hm.srt1 B1 (by simp)) (hm.srt1 B2 (by simp)) hap (hV' B1 (by simp)) (hV' B2 (by simp)) hcmp (by simpa using hr)).mono ?_
    · rw [flat_len dl (2 * bs) hm.len2, ha]
    · rintro e' w' ⟨rfl, S, hp, hs', hr'⟩
      refine ⟨rfl, dl ++ [S], rl, tail, ?_, rfl, ?_, hm.merge hp hs' (by omega), ht, hs, by simpa using hr'⟩
      · simp only [List.length_append, List.length_cons, List.length_nil, Nat.add_mul, Nat.zero_add, Nat.one_mul]; omega
      · simp only [List.length_cons, Nat.add_mul, Nat.one_mul] at hn'; omega

theorem Ph3.last {bs a b : Nat} (h : Ph3 w0 w g n cap T xs bs a b) (hn : n ≤ 1024) (hb : n < b) (hm' : a + bs < n) (h1 : 1 ≤ bs) (hV : ∀ x ∈ xs, V x) (hcmp : CmpOk w0 g p1 p2 T V) :
    Calls Ybaf.prog 20 #[.slice (some ⟨g, 0, none⟩) n cap, .int .i64 (a : Int), .int .i64 ((a + bs : Nat) : Int), .int .i64 (n : Int), .func (.func 9) #[] #[.pointer (some ⟨p1, 0, none⟩), .pointer (some ⟨p2, 0, none⟩)]] w fun e w' => e = .returned (.tuple #[]) ∧ Ph2 w0 w' g n cap T xs (bs + bs) := by
  obtain ⟨dl, rl, tail, ha, hb', hn', hm, ht, hs, hr⟩ := h
  match rl, hn', hm, hr with
  | [], hn', hm, hr => exfalso; simp at hn'; omega
  | B1 :: B2 :: rl, hn', hm, hr => exfalso; simp only [List.length_cons, Nat.add_mul, Nat.one_mul] at hn'; omega
  | [B], hn', hm, hr =>
    have l1 := hm.len1 B (by simp)
    simp at hn'
    have hV1 : ∀ x ∈ B, V x := by
      intro x hx
      refine hV x (hm.perm.mem_iff.1 ?_)
      simp only [List.mem_append]
      exact .inl (.inr (List.mem_flatten.2 ⟨B, by simp, hx⟩))
    have hV2 : ∀ x ∈ tail, V x := by
      intro x hx
      refine hV x (hm.perm.mem_iff.1 ?_)
      simp only [List.mem_append]
      exact .inr hx
    refine (merge_all (B.length + tail.length) w0 w g n cap a (a + bs) n p1 p2 T V dl.flatten B tail [] (Nat.le_refl _) hn ?_ (by omega) (by omega) (by omega) (by omega) (hm.srt1 B (by simp)) hs (hm.tl B (by simp)) hV1 hV2 hcmp (by simpa using hr)).mono ?_
    · rw [flat_len dl (2 * bs) hm.len2, ha]
    · rintro e' w' ⟨rfl, S, hp, hs', hr'⟩
      refine ⟨rfl, dl, S, bs, ?_, ?_, hs', by simpa using hr'⟩
      · rw [show bs + bs = 2 * bs by omega]; exact hm.last hp
      · rw [hp.length_eq, List.length_append]; omega

theorem Ph3.over {bs a b : Nat} (h : Ph3 w0 w g n cap T xs bs a b) (hb : n < b) (hm' : n ≤ a + bs) (h1 : 1 ≤ bs) : Ph2 w0 w g n cap T xs (bs + bs) := by
  obtain ⟨dl, rl, tail, ha, hb', hn', hm, ht, hs, hr⟩ := h
  rw [show bs + bs = 2 * bs by omega]
  match rl, hn', hm, hr with
  | [], hn', hm, hr => exact ⟨dl, tail, bs, hm, by omega, hs, by simpa using hr⟩
  | B1 :: B2 :: rl, hn', hm, hr => exfalso; simp only [List.length_cons, Nat.add_mul, Nat.one_mul] at hn'; omega
  | [B], hn', hm, hr =>
    have l1 := hm.len1 B (by simp)
    simp at hn'
    have : tail = [] := List.eq_nil_of_length_eq_zero (by omega)
    subst this
    exact ⟨dl, B, bs, hm.last (by simp), by omega, hm.srt1 B (by simp), by simpa using hr⟩
end

set_option maxHeartbeats 4000000 in
theorem stable15 (w0 w : World) (g n cap p1 p2 : Nat) (T : Nat → Int) (V : Nat → Prop) (xs : List Nat) (hn : n ≤ 1024) (hx : xs.Pairwise (· < ·)) (hl : xs.length = n) (hV : ∀ x ∈ xs, V x) (hcmp : CmpOk w0 g p1 p2 T V) (h : RowAt w0 w g n cap xs) :
    Calls Ybaf.prog 15 #[.slice (some ⟨g, 0, none⟩) n cap, .int .i64 (n : Int), .func (.func 9) #[] #[.pointer (some ⟨p1, 0, none⟩), .pointer (some ⟨p2, 0, none⟩)]] w fun e w' => e = .returned (.tuple #[]) ∧ ∃ S, S.Perm xs ∧ Sorted T S ∧ RowAt w0 w' g n cap S := by
  have H1 : Hid (Ph1 w0 w g n cap T xs 0 20) := Ph1.start hx hl h
  have HV : Hid _ := hV
  have HC : Hid _ := hcmp
  have HL : Hid _ := hl
  clear hx hl hV hcmp h
  go_enter Ybaf.func15, Ybaf.ntmps15
  go_wp2
  go_loopw [7, 8] (fun av bv wr => ∃ a b : Nat, av = .int .i64 (a : Int) ∧ bv = .int .i64 (b : Int) ∧ b = a + 20 ∧ a ≤ n ∧ Hid (Ph1 w0 wr g n cap T xs a b)) (fun av _ _ => n - (intOf av).toNat)
  case atStart => exact ⟨0, 20, rfl, rfl, rfl, Nat.zero_le _, H1⟩
  case round =>
    obtain ⟨a, b, rfl, rfl, hab, han, hp⟩ := hrel
    by_cases hlt : b ≤ n
    · have hltI : (b : Int) ≤ (n : Int) := by omega
      have hcall := hp.out.next hn hlt HV.out HC.out
      have HAB : Hid _ := hab
      clear hab
      go_wp2_with fail
      refine hcall.mono ?_
      rintro e w1 ⟨rfl, hp1⟩
      have HP1 : Hid (Ph1 w0 w1 g n cap T xs b (b + 20)) := hp1
      clear hp1 hcall
      go_wp2
      go_roundw
      case rel => exact ⟨b, b + 20, rfl, by go_num, rfl, hlt, HP1⟩
      case measure => have := HAB.out; simp [intOf]; omega
    · have hltI : (n : Int) < (b : Int) := by omega
      have hcall := hp.out.last hn (by omega) HV.out HC.out
      clear hab
      go_wp2_with fail
      refine hcall.mono ?_
      rintro e w1 ⟨rfl, hp1⟩
      have HP1 : Hid _ := hp1
      clear hp1 hcall
      go_wp2
      go_loopw [6, 7, 8] (fun sv av bv wr => ∃ bs : Nat, sv = .int .i64 (bs : Int) ∧ 1 ≤ bs ∧ bs ≤ 2048 ∧ Hid (Ph2 w0 wr g n cap T xs bs)) (fun sv _ _ _ => 4096 - (intOf sv).toNat)
      case atStart => exact ⟨20, rfl, by omega, by omega, HP1⟩
      case round =>
        obtain ⟨bs, rfl, h1, h2, hp2⟩ := hrel
        by_cases hbn : bs < n
        · have hbnI : (bs : Int) < (n : Int) := by omega
          have HP3 : Hid (Ph3 w0 wr g n cap T xs bs 0 (2 * bs)) := hp2.out.turn
          go_wp2
          go_loopw [7, 8] (fun av bv wr => ∃ a b : Nat, av = .int .i64 (a : Int) ∧ bv = .int .i64 (b : Int) ∧ b = a + 2 * bs ∧ a ≤ n ∧ Hid (Ph3 w0 wr g n cap T xs bs a b)) (fun av _ _ => n - (intOf av).toNat)
          case atStart => exact ⟨0, 2 * bs, rfl, by go_num, by omega, Nat.zero_le _, HP3⟩
          case round =>
            obtain ⟨a, b, rfl, rfl, hab, han, hp⟩ := hrel
            by_cases hlt : b ≤ n
            · have hltI : (b : Int) ≤ (n : Int) := by omega
              have hcall := hp.out.next hn hlt h1 HV.out HC.out
              have HAB : Hid _ := hab
              have ew : ((a + bs : Nat) : Int) = (a : Int) + (bs : Int) := by omega
              rw [ew] at hcall
              clear hab ew
              go_wp2_with fail
              refine hcall.mono ?_
              rintro e w2 ⟨rfl, hp1⟩
              have HP4 : Hid (Ph3 w0 w2 g n cap T xs bs b (b + 2 * bs)) := hp1
              clear hp1 hcall
              go_wp2
              go_roundw
              case rel => exact ⟨b, b + 2 * bs, rfl, by go_num, rfl, hlt, HP4⟩
              case measure => have := HAB.out; simp [intOf]; omega
            · have hltI : (n : Int) < (b : Int) := by omega
              by_cases hmn : a + bs < n
              · have hmnI : (a : Int) + (bs : Int) < (n : Int) := by omega
                have hcall := hp.out.last hn (by omega) hmn h1 HV.out HC.out
                have ew : ((a + bs : Nat) : Int) = (a : Int) + (bs : Int) := by omega
                rw [ew] at hcall
                clear hab ew
                go_wp2_with fail
                refine hcall.mono ?_
                rintro e w2 ⟨rfl, hp1⟩
                have HP4 : Hid _ := hp1
                clear hp1 hcall
                go_wp2
                go_roundw
                case rel => exact ⟨bs + bs, by go_num, by omega, by omega, HP4⟩
                case measure => simp [intOf]; omega
              · have hmnI : (n : Int) ≤ (a : Int) + (bs : Int) := by omega
                have HP4 : Hid _ := hp.out.over (by omega) (by omega) h1
                clear hab
                go_wp2
                go_roundw
                case rel => exact ⟨bs + bs, by go_num, by omega, by omega, HP4⟩
                case measure => simp [intOf]; omega
        · have hbnI : (n : Int) ≤ (bs : Int) := by omega
          have hd := hp2.out.done (by omega) h1 HL.out
          go_wp2
          go_end0
          exact ⟨rfl, hd⟩

set_option maxHeartbeats 1000000 in
theorem sort8 (w0 w : World) (g n cap p1 p2 : Nat) (T : Nat → Int) (V : Nat → Prop) (xs : List Nat) (hn : n ≤ 1024) (hx : xs.Pairwise (· < ·)) (hl : xs.length = n) (hV : ∀ x ∈ xs, V x) (hcmp : CmpOk w0 g p1 p2 T V) (h : RowAt w0 w g n cap xs) :
    Calls Ybaf.prog 8 #[.slice (some ⟨g, 0, none⟩) n cap, .func (.func 9) #[] #[.pointer (some ⟨p1, 0, none⟩), .pointer (some ⟨p2, 0, none⟩)]] w fun e w' => e = .returned (.tuple #[]) ∧ ∃ S, S.Perm xs ∧ Sorted T S ∧ RowAt w0 w' g n cap S := by
  have hcall := stable15 w0 w g n cap p1 p2 T V xs hn hx hl hV hcmp h
  clear hx hl hV hcmp h
  go_enter Ybaf.func8, Ybaf.ntmps8
  go_wp2_with fail
  refine hcall.mono ?_
  rintro e w1 ⟨rfl, hp1⟩
  go_wp2
  go_end0
  exact ⟨rfl, hp1⟩

end Go.Proofs.YbulkckkFmt.st
