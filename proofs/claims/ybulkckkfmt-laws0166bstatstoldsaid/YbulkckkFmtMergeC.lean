/-
  symMergeCmpFunc (20): the walk of its long way; the contract, by induction on the number of elements.
-/
import Derived.Test.YbulkckkFmtMergeP
namespace Go.Proofs.YbulkckkFmt.st
open Go.RowKit
set_option linter.unusedVariables false
set_option linter.unusedSimpArgs false

set_option maxRecDepth 100000 in
set_option maxHeartbeats 8000000 in
theorem merge20c (k : Nat) (ih : MergeTo k) (w0 w : World) (g n cap a m b p1 p2 : Nat) (T : Nat → Int) (V : Nat → Prop) (P A B Q : List Nat) (hk : A.length + B.length ≤ k + 1) (hn : n ≤ 1024) (hP : P.length = a) (hm : m = a + A.length) (hb : b = m + B.length) (hA1 : 2 ≤ A.length) (hB1 : 2 ≤ B.length)
    (hA : Sorted T A) (hB : Sorted T B) (hap : Apart A B) (hvA : ∀ x ∈ A, V x) (hvB : ∀ x ∈ B, V x) (hcmp : CmpOk w0 g p1 p2 T V) (h : RowAt w0 w g n cap (P ++ A ++ B ++ Q)) :
    Calls Ybaf.prog 20 #[.slice (some ⟨g, 0, none⟩) n cap, .int .i64 (a : Int), .int .i64 (m : Int), .int .i64 (b : Int), .func (.func 9) #[] #[.pointer (some ⟨p1, 0, none⟩), .pointer (some ⟨p2, 0, none⟩)]] w fun e w' => e = .returned (.tuple #[]) ∧ ∃ S, S.Perm (A ++ B) ∧ Sorted T S ∧ RowAt w0 w' g n cap (P ++ S ++ Q) := by
  have hlen := h.len
  have hbn : b ≤ n := by simp at hlen; omega
  obtain ⟨mid, hmid⟩ : ∃ mid, mid = (a + b) / 2 := ⟨_, rfl⟩
  have hmida : a + 2 ≤ mid := by omega
  have hmidb : mid + 2 ≤ b := by omega
  have hmide : Hid (((a : Int) + (b : Int)) / 2 = (mid : Int)) := by show ((a : Int) + (b : Int)) / 2 = (mid : Int); omega
  obtain ⟨L0, HL0⟩ : ∃ L0, Hid (P ++ A ++ B ++ Q = L0) := ⟨_, rfl⟩
  have HQ : Hid (∀ s lo hi, ((m ≤ mid ∧ lo = a ∧ hi = m ∧ mid + m - a ≤ b) ∨ (mid < m ∧ lo = mid + m - b ∧ hi = mid ∧ a + b ≤ mid + m)) → BinC T L0 (mid + m - 1) lo hi s s → Quarters T V A B (A.take (s - a)) (A.drop (s - a)) (B.take (mid - s)) (B.drop (mid - s))) := by
    intro s lo hi hc hbn'
    rw [← HL0.out] at hbn'
    exact quarters_of (Q := Q) hP hm hb hA hB hap hvA hvB (by omega) hc hbn' (by omega)
  have HVA : Hid (∀ q, a ≤ q → q < m → ∀ x, L0.getD q 0 = x → V x) := by
    intro q h1 h2 x hx
    obtain ⟨v, rfl⟩ : ∃ v, q = a + v := ⟨q - a, by omega⟩
    have hv : v < A.length := by omega
    have := getD_in P A (B ++ Q) v hv
    rw [hP, ← List.append_assoc A, ← List.append_assoc P, ← List.append_assoc P, HL0.out] at this
    rw [← hx, this]
    exact hvA _ (List.getElem_mem hv)
  have HVB : Hid (∀ q, m ≤ q → q < b → ∀ x, L0.getD q 0 = x → V x) := by
    intro q h1 h2 x hx
    obtain ⟨v, rfl⟩ : ∃ v, q = m + v := ⟨q - m, by omega⟩
    have hv : v < B.length := by omega
    have := getD_in (P ++ A) B Q v hv
    rw [show (P ++ A).length = m by simp; omega, ← List.append_assoc, HL0.out] at this
    rw [← hx, this]
    exact hvB _ (List.getElem_mem hv)
  rw [HL0.out] at h
  have HC : Hid _ := hcmp
  have HP : Hid _ := hP
  have HM : Hid _ := hm
  have HBb : Hid _ := hb
  have HK : Hid _ := hk
  have HIH : Hid _ := ih
  have ham : a + 2 ≤ m := by omega
  have hmb : m + 2 ≤ b := by omega
  have HMID : Hid _ := hmid
  have hmab : ((m : Int) - (a : Int) == 1) = false := beq_eq_false_iff_ne.2 (by omega)
  have hbmb : ((b : Int) - (m : Int) == 1) = false := beq_eq_false_iff_ne.2 (by omega)
  clear hlen hcmp hP hb hm hA hB hap hvA hvB hk ih hmid hA1 hB1
  obtain ⟨lo, hi, HCASE, hlo1, hhi1, hlohi, hhib, hlob⟩ : ∃ lo hi : Nat, Hid ((m ≤ mid ∧ lo = a ∧ hi = m ∧ mid + m - a ≤ b) ∨ (mid < m ∧ lo = mid + m - b ∧ hi = mid ∧ a + b ≤ mid + m)) ∧ a ≤ lo ∧ hi ≤ m ∧ lo ≤ hi ∧ hi ≤ mid ∧ mid + m ≤ b + lo := by
    have := HMID.out
    by_cases hc : m ≤ mid
    · exact ⟨a, m, .inl ⟨hc, rfl, rfl, by omega⟩, by omega, by omega, by omega, by omega, by omega⟩
    · exact ⟨mid + m - b, mid, .inr ⟨by omega, rfl, rfl, by omega⟩, by omega, by omega, by omega, by omega, by omega⟩
  have HSTART : Hid ((m ≤ mid ∧ lo = a ∧ hi = m) ∨ (mid < m ∧ lo = mid + m - b ∧ hi = mid)) := by
    rcases HCASE.out with ⟨h1, h2, h3, _⟩ | ⟨h1, h2, h3, _⟩
    · exact .inl ⟨h1, h2, h3⟩
    · exact .inr ⟨h1, h2, h3⟩
  by_cases hmm : mid < m
  · have hI : ((a : Int) + (b : Int)) / 2 < (m : Int) := by rw [hmide.out]; omega
    have hI2 : (a : Int) + (b : Int) ≤ ((a : Int) + (b : Int)) / 2 + (m : Int) := by omega
    have hI3 : ((a : Int) + (b : Int)) / 2 ≤ (b : Int) := by omega
    have hIb : decide (((a : Int) + (b : Int)) / 2 < (m : Int)) = true := decide_eq_true hI
    go_enter Ybaf.func20, Ybaf.ntmps20
    go_wp2
    rw [hmide.out]
    clear hI hI2 hI3 hIb
    go_loopw [20, 21] (fun sv rv wr => ∃ s r : Nat, sv = .int .i64 (s : Int) ∧ rv = .int .i64 (r : Int) ∧ BinC T L0 (mid + m - 1) lo hi s r ∧ RowAt w0 wr g n cap L0) (fun sv rv _ => (intOf rv).toNat - (intOf sv).toNat)
    case atStart =>
      rcases HCASE.out with hh | hh
      · exfalso; omega
      · exact ⟨lo, hi, by rw [hh.2.1]; have := hh.2.2.2; go_num, by rw [hh.2.2.1], ⟨Nat.le_refl _, hlohi, Nat.le_refl _, .inl rfl, .inl rfl⟩, h⟩
    case round =>
      obtain ⟨s, r, rfl, rfl, ⟨hs1, hsr, hr1, hslo, hshi⟩, hrow⟩ := hrel
      by_cases hlt : s < r
      · have hltI : (s : Int) < (r : Int) := by omega
        have HLO : Hid _ := hslo
        have HHI : Hid _ := hshi
        clear hslo hshi
        go_wp2
        obtain ⟨c, hc⟩ : ∃ c : Nat, ((s : Int) + (r : Int)) / 2 = (c : Int) := ⟨(s + r) / 2, by omega⟩
        have hsc : s ≤ c := by omega
        have hcr : c < r := by omega
        rw [hc]
        clear hc
        obtain ⟨q, hq⟩ : ∃ q : Nat, q = mid + m - 1 - c := ⟨_, rfl⟩
        have HQ2 : Hid _ := hq
        have hq1 : m ≤ q := by omega
        have hq2 : q < b := by omega
        have hqw : IntKind.i64.wrap ((mid : Int) + (m : Int) - 1 - (c : Int)) = (q : Int) := by rw [IntKind.wrap_i64]; omega
        clear hq
        obtain ⟨x, HX⟩ : ∃ x, Hid (L0.getD q 0 = x) := ⟨_, rfl⟩
        obtain ⟨y, HY⟩ : ∃ y, Hid (L0.getD c 0 = y) := ⟨_, rfl⟩
        have c1 := hrow.cell q (by omega)
        have c2 := hrow.cell c (by omega)
        rw [HX.out] at c1
        rw [HY.out] at c2
        have hvx : V x := HVB.out q hq1 hq2 x HX.out
        have hvy : V y := HVA.out c (by omega) (by omega) y HY.out
        have hcall := fun w' hg => HC.out w' x y hg hvx hvy
        have hgr := hrow.2
        have hgl := hrow.lt
        have b1 : (0 : Int) ≤ (q : Int) := by omega
        have b2 : (q : Int) < (n : Int) := by omega
        have b3 : (0 : Int) ≤ (c : Int) := by omega
        have b4 : (c : Int) < (n : Int) := by omega
        have HR : Hid _ := hrow
        clear hrow h
        go_region_held3 (fun w' => w'.cell? ⟨g, q, none⟩ = some (.int .i64 (x : Int)) ∧ w'.cell? ⟨g, c, none⟩ = some (.int .i64 (y : Int))) (first | exact ⟨c1, c2⟩ | exact ⟨(hb1.cell (by exact hgl)).trans c1, (hb1.cell (by exact hgl)).trans c2⟩)
          (first | (go_at_call 9; refine (hcall _ (grown_drew hgr)).mono ?_; rintro e w1 ⟨cc, rfl, hcc, hb1⟩))
        have hrw : RowAt w0 w1 g n cap L0 := RowAt.below (RowAt.below HR.out (Below.refl _ _).drew) hb1
        by_cases hcl : cc < 0
        · have HB2 : Hid (BinC T L0 (mid + m - 1) lo hi s c) := by
            refine ⟨hs1, hsc, by omega, HLO.out, .inr ?_⟩
            rw [show mid + m - 1 - c = q from HQ2.out.symm, HX.out, HY.out]
            exact hcc.out.1 hcl
          clear c1 c2 hb1 hcall hgr hqw
          go_wp2
          · exfalso
            have hx : (!decide (cc < 0)) = true := by assumption
            rw [decide_eq_true hcl] at hx
            cases hx
          · go_roundw
            case rel => exact ⟨s, c, rfl, rfl, HB2.out, hrw⟩
            case measure => simp [intOf]; omega
        · have HB2 : Hid (BinC T L0 (mid + m - 1) lo hi (c + 1) r) := by
            refine ⟨by omega, by omega, hr1, .inr ?_, HHI.out⟩
            rw [show mid + m - 1 + 1 - (c + 1) = q by have := HQ2.out; omega, Nat.add_sub_cancel, HX.out, HY.out]
            have : ¬ T x < T y := fun hh => hcl (hcc.out.2 hh)
            omega
          have hcl' : 0 ≤ cc := by omega
          clear c1 c2 hb1 hcall hgr hcl hqw
          go_wp2
          · go_roundw
            case rel => exact ⟨c + 1, r, by go_num, rfl, HB2.out, hrw⟩
            case measure => simp [intOf]; omega
          · exfalso
            have hx : (!decide (cc < 0)) = false := by assumption
            rw [decide_eq_false (by omega)] at hx
            cases hx
      · have hsr' : r = s := by omega
        subst hsr'
        have hq := HQ.out r lo hi HCASE.out ⟨hs1, hsr, hr1, hslo, hshi⟩
        have hmA := HM.out
        have hbB := HBb.out
        have l1 : (A.take (r - a)).length = r - a := by simp; omega
        have l2 : (A.drop (r - a)).length = m - r := by simp; omega
        have l3 : (B.take (mid - r)).length = mid - r := by simp; omega
        have l4 : (B.drop (mid - r)).length = b - (mid + m - r) := by simp; omega
        have eI : ((mid + m - r : Nat) : Int) = (mid : Int) + (m : Int) - (r : Int) := by omega
        generalize A.take (r - a) = A1 at hq l1
        generalize A.drop (r - a) = A2 at hq l2
        generalize B.take (mid - r) = B1 at hq l3
        generalize B.drop (mid - r) = B2 at hq l4
        rw [← HL0.out] at hrow
        have hkk := HK.out
        have hpp := HP.out
        have HD1 : Hid (r < m → r < mid → ∀ w', RowAt w0 w' g n cap (P ++ A ++ B ++ Q) → Calls Ybaf.prog 22 #[.slice (some ⟨g, 0, none⟩) n cap, .int .i64 (r : Int), .int .i64 (m : Int), .int .i64 ((mid : Int) + (m : Int) - (r : Int)), .func (.func 9) #[] #[.pointer (some ⟨p1, 0, none⟩), .pointer (some ⟨p2, 0, none⟩)]] w' fun e w'' => e = .returned (.tuple #[]) ∧ RowAt w0 w'' g n cap (P ++ A1 ++ B1 ++ (A2 ++ B2) ++ Q)) := by
          intro h1 h2 w' hw'
          have := do1 hq hn (.func (.func 9) #[] #[.pointer (some ⟨p1, 0, none⟩), .pointer (some ⟨p2, 0, none⟩)]) r m (mid + m - r) (by omega) (by omega) (by omega) (by omega) (by omega) hw'
          rw [eI] at this
          exact this
        have HD2 : Hid (a < r → r < mid → ∀ w', RowAt w0 w' g n cap (P ++ A1 ++ B1 ++ (A2 ++ B2) ++ Q) → Calls Ybaf.prog 20 #[.slice (some ⟨g, 0, none⟩) n cap, .int .i64 (a : Int), .int .i64 (r : Int), .int .i64 (mid : Int), .func (.func 9) #[] #[.pointer (some ⟨p1, 0, none⟩), .pointer (some ⟨p2, 0, none⟩)]] w' fun e w'' => e = .returned (.tuple #[]) ∧ Stage2 w0 w'' g n cap T P A1 A2 B1 B2 Q) := by
          intro h1 h2 w' hw'
          exact do2 HIH.out HC.out hq hn a r mid hpp (by omega) (by omega) (by omega) (by omega) (by omega) hw'
        have HD3 : Hid (r < m → mid + m - r < b → ∀ w', Stage2 w0 w' g n cap T P A1 A2 B1 B2 Q → Calls Ybaf.prog 20 #[.slice (some ⟨g, 0, none⟩) n cap, .int .i64 (mid : Int), .int .i64 ((mid : Int) + (m : Int) - (r : Int)), .int .i64 (b : Int), .func (.func 9) #[] #[.pointer (some ⟨p1, 0, none⟩), .pointer (some ⟨p2, 0, none⟩)]] w' fun e w'' => e = .returned (.tuple #[]) ∧ Stage3 w0 w'' g n cap T P A B Q) := by
          intro h1 h2 w' hw'
          have := do3 HIH.out HC.out hq hn mid (mid + m - r) b (by omega) (by omega) (by omega) (by omega) (by omega) (by omega) hw'
          rw [eI] at this
          exact this
        have HSK1 : Hid ((m ≤ r ∨ mid ≤ r) → ∀ w', RowAt w0 w' g n cap (P ++ A ++ B ++ Q) → RowAt w0 w' g n cap (P ++ A1 ++ B1 ++ (A2 ++ B2) ++ Q)) := fun hh w' hw' => skip1 hq (hh.imp (fun _ => List.eq_nil_of_length_eq_zero (by omega)) (fun _ => List.eq_nil_of_length_eq_zero (by omega))) hw'
        have HSK2 : Hid ((r ≤ a ∨ mid ≤ r) → ∀ w', RowAt w0 w' g n cap (P ++ A1 ++ B1 ++ (A2 ++ B2) ++ Q) → Stage2 w0 w' g n cap T P A1 A2 B1 B2 Q) := fun hh w' hw' => skip2 hq (hh.imp (fun _ => List.eq_nil_of_length_eq_zero (by omega)) (fun _ => List.eq_nil_of_length_eq_zero (by omega))) hw'
        have HSK3 : Hid ((m ≤ r ∨ b ≤ mid + m - r) → ∀ w', Stage2 w0 w' g n cap T P A1 A2 B1 B2 Q → Stage3 w0 w' g n cap T P A B Q) := fun hh w' hw' => skip3 hq (hh.imp (fun _ => List.eq_nil_of_length_eq_zero (by omega)) (fun _ => List.eq_nil_of_length_eq_zero (by omega))) hw'
        clear hslo hshi hq l1 l2 l3 l4 hmA hbB hkk hpp h eI
        rcases Nat.lt_or_ge r m with hA2 | hA2 <;> rcases Nat.lt_or_ge r mid with hB1 | hB1 <;> rcases Nat.lt_or_ge a r with hA1 | hA1 <;> rcases Nat.lt_or_ge (mid + m - r) b with hB2 | hB2
        · have hr1I : (r : Int) < (m : Int) := by omega
          have hr2I : (r : Int) < (mid : Int) := by omega
          have hr3I : (a : Int) < (r : Int) := by omega
          have hr4I : (mid : Int) + (m : Int) - (r : Int) < (b : Int) := by omega
          go_wp2_with fail
          refine (HD1.out hA2 hB1 _ hrow).mono ?_
          rintro e w1 ⟨rfl, hrow1⟩
          go_wp2_with fail
          refine (HD2.out hA1 hB1 _ hrow1).mono ?_
          rintro e w2 ⟨rfl, hst⟩
          go_wp2_with fail
          refine (HD3.out hA2 hB2 _ hst).mono ?_
          rintro e w3 ⟨rfl, hfin⟩
          go_wp2
          go_end0
          obtain ⟨S, hp, hs, hr⟩ := hfin
          exact ⟨rfl, S, hp, hs, by simpa using hr⟩
        · have hr1I : (r : Int) < (m : Int) := by omega
          have hr2I : (r : Int) < (mid : Int) := by omega
          have hr3I : (a : Int) < (r : Int) := by omega
          have hr4I : (mid : Int) + (m : Int) - (r : Int) ≥ (b : Int) := by omega
          go_wp2_with fail
          refine (HD1.out hA2 hB1 _ hrow).mono ?_
          rintro e w1 ⟨rfl, hrow1⟩
          go_wp2_with fail
          refine (HD2.out hA1 hB1 _ hrow1).mono ?_
          rintro e w2 ⟨rfl, hst⟩
          have hfin := HSK3.out (by omega) _ hst
          go_wp2
          go_end0
          obtain ⟨S, hp, hs, hr⟩ := hfin
          exact ⟨rfl, S, hp, hs, by simpa using hr⟩
        · have hr1I : (r : Int) < (m : Int) := by omega
          have hr2I : (r : Int) < (mid : Int) := by omega
          have hr3I : (a : Int) ≥ (r : Int) := by omega
          have hr4I : (mid : Int) + (m : Int) - (r : Int) < (b : Int) := by omega
          go_wp2_with fail
          refine (HD1.out hA2 hB1 _ hrow).mono ?_
          rintro e w1 ⟨rfl, hrow1⟩
          have hst := HSK2.out (by omega) _ hrow1
          go_wp2_with fail
          refine (HD3.out hA2 hB2 _ hst).mono ?_
          rintro e w3 ⟨rfl, hfin⟩
          go_wp2
          go_end0
          obtain ⟨S, hp, hs, hr⟩ := hfin
          exact ⟨rfl, S, hp, hs, by simpa using hr⟩
        · have hr1I : (r : Int) < (m : Int) := by omega
          have hr2I : (r : Int) < (mid : Int) := by omega
          have hr3I : (a : Int) ≥ (r : Int) := by omega
          have hr4I : (mid : Int) + (m : Int) - (r : Int) ≥ (b : Int) := by omega
          go_wp2_with fail
          refine (HD1.out hA2 hB1 _ hrow).mono ?_
          rintro e w1 ⟨rfl, hrow1⟩
          have hst := HSK2.out (by omega) _ hrow1
          have hfin := HSK3.out (by omega) _ hst
          go_wp2
          go_end0
          obtain ⟨S, hp, hs, hr⟩ := hfin
          exact ⟨rfl, S, hp, hs, by simpa using hr⟩
        · have hr1I : (r : Int) < (m : Int) := by omega
          have hr2I : (r : Int) ≥ (mid : Int) := by omega
          have hr3I : (a : Int) < (r : Int) := by omega
          have hr4I : (mid : Int) + (m : Int) - (r : Int) < (b : Int) := by omega
          have hrow1 := HSK1.out (by omega) _ hrow
          have hst := HSK2.out (by omega) _ hrow1
          go_wp2_with fail
          refine (HD3.out hA2 hB2 _ hst).mono ?_
          rintro e w3 ⟨rfl, hfin⟩
          go_wp2
          go_end0
          obtain ⟨S, hp, hs, hr⟩ := hfin
          exact ⟨rfl, S, hp, hs, by simpa using hr⟩
        · exfalso; omega
        · exfalso; omega
        · exfalso; omega
        · exfalso; omega
        · exfalso; omega
        · exfalso; omega
        · exfalso; omega
        · exfalso; omega
        · exfalso; omega
        · exfalso; omega
        · exfalso; omega
  · have hmm' : m ≤ mid := by omega
    have hI : (m : Int) ≤ ((a : Int) + (b : Int)) / 2 := by rw [hmide.out]; omega
    have hI3 : ((a : Int) + (b : Int)) / 2 ≤ (b : Int) := by omega
    have hIb : decide (((a : Int) + (b : Int)) / 2 < (m : Int)) = false := decide_eq_false (by omega)
    go_enter Ybaf.func20, Ybaf.ntmps20
    go_wp2
    rw [hmide.out]
    clear hI hI3 hIb
    go_loopw [20, 21] (fun sv rv wr => ∃ s r : Nat, sv = .int .i64 (s : Int) ∧ rv = .int .i64 (r : Int) ∧ BinC T L0 (mid + m - 1) lo hi s r ∧ RowAt w0 wr g n cap L0) (fun sv rv _ => (intOf rv).toNat - (intOf sv).toNat)
    case atStart =>
      rcases HCASE.out with hh | hh
      · exact ⟨lo, hi, by rw [hh.2.1], by rw [hh.2.2.1], ⟨Nat.le_refl _, hlohi, Nat.le_refl _, .inl rfl, .inl rfl⟩, h⟩
      · exfalso; omega
    case round =>
      obtain ⟨s, r, rfl, rfl, ⟨hs1, hsr, hr1, hslo, hshi⟩, hrow⟩ := hrel
      by_cases hlt : s < r
      · have hltI : (s : Int) < (r : Int) := by omega
        have HLO : Hid _ := hslo
        have HHI : Hid _ := hshi
        clear hslo hshi
        go_wp2
        obtain ⟨c, hc⟩ : ∃ c : Nat, ((s : Int) + (r : Int)) / 2 = (c : Int) := ⟨(s + r) / 2, by omega⟩
        have hsc : s ≤ c := by omega
        have hcr : c < r := by omega
        rw [hc]
        clear hc
        obtain ⟨q, hq⟩ : ∃ q : Nat, q = mid + m - 1 - c := ⟨_, rfl⟩
        have HQ2 : Hid _ := hq
        have hq1 : m ≤ q := by omega
        have hq2 : q < b := by omega
        have hqw : IntKind.i64.wrap ((mid : Int) + (m : Int) - 1 - (c : Int)) = (q : Int) := by rw [IntKind.wrap_i64]; omega
        clear hq
        obtain ⟨x, HX⟩ : ∃ x, Hid (L0.getD q 0 = x) := ⟨_, rfl⟩
        obtain ⟨y, HY⟩ : ∃ y, Hid (L0.getD c 0 = y) := ⟨_, rfl⟩
        have c1 := hrow.cell q (by omega)
        have c2 := hrow.cell c (by omega)
        rw [HX.out] at c1
        rw [HY.out] at c2
        have hvx : V x := HVB.out q hq1 hq2 x HX.out
        have hvy : V y := HVA.out c (by omega) (by omega) y HY.out
        have hcall := fun w' hg => HC.out w' x y hg hvx hvy
        have hgr := hrow.2
        have hgl := hrow.lt
        have b1 : (0 : Int) ≤ (q : Int) := by omega
        have b2 : (q : Int) < (n : Int) := by omega
        have b3 : (0 : Int) ≤ (c : Int) := by omega
        have b4 : (c : Int) < (n : Int) := by omega
        have HR : Hid _ := hrow
        clear hrow h
        go_region_held3 (fun w' => w'.cell? ⟨g, q, none⟩ = some (.int .i64 (x : Int)) ∧ w'.cell? ⟨g, c, none⟩ = some (.int .i64 (y : Int))) (first | exact ⟨c1, c2⟩ | exact ⟨(hb1.cell (by exact hgl)).trans c1, (hb1.cell (by exact hgl)).trans c2⟩)
          (first | (go_at_call 9; refine (hcall _ (grown_drew hgr)).mono ?_; rintro e w1 ⟨cc, rfl, hcc, hb1⟩))
        have hrw : RowAt w0 w1 g n cap L0 := RowAt.below (RowAt.below HR.out (Below.refl _ _).drew) hb1
        by_cases hcl : cc < 0
        · have HB2 : Hid (BinC T L0 (mid + m - 1) lo hi s c) := by
            refine ⟨hs1, hsc, by omega, HLO.out, .inr ?_⟩
            rw [show mid + m - 1 - c = q from HQ2.out.symm, HX.out, HY.out]
            exact hcc.out.1 hcl
          clear c1 c2 hb1 hcall hgr hqw
          go_wp2
          · exfalso
            have hx : (!decide (cc < 0)) = true := by assumption
            rw [decide_eq_true hcl] at hx
            cases hx
          · go_roundw
            case rel => exact ⟨s, c, rfl, rfl, HB2.out, hrw⟩
            case measure => simp [intOf]; omega
        · have HB2 : Hid (BinC T L0 (mid + m - 1) lo hi (c + 1) r) := by
            refine ⟨by omega, by omega, hr1, .inr ?_, HHI.out⟩
            rw [show mid + m - 1 + 1 - (c + 1) = q by have := HQ2.out; omega, Nat.add_sub_cancel, HX.out, HY.out]
            have : ¬ T x < T y := fun hh => hcl (hcc.out.2 hh)
            omega
          have hcl' : 0 ≤ cc := by omega
          clear c1 c2 hb1 hcall hgr hcl hqw
          go_wp2
          · go_roundw
            case rel => exact ⟨c + 1, r, by go_num, rfl, HB2.out, hrw⟩
            case measure => simp [intOf]; omega
          · exfalso
            have hx : (!decide (cc < 0)) = false := by assumption
            rw [decide_eq_false (by omega)] at hx
            cases hx
      · have hsr' : r = s := by omega
        subst hsr'
        have hq := HQ.out r lo hi HCASE.out ⟨hs1, hsr, hr1, hslo, hshi⟩
        have hmA := HM.out
        have hbB := HBb.out
        have l1 : (A.take (r - a)).length = r - a := by simp; omega
        have l2 : (A.drop (r - a)).length = m - r := by simp; omega
        have l3 : (B.take (mid - r)).length = mid - r := by simp; omega
        have l4 : (B.drop (mid - r)).length = b - (mid + m - r) := by simp; omega
        have eI : ((mid + m - r : Nat) : Int) = (mid : Int) + (m : Int) - (r : Int) := by omega
        generalize A.take (r - a) = A1 at hq l1
        generalize A.drop (r - a) = A2 at hq l2
        generalize B.take (mid - r) = B1 at hq l3
        generalize B.drop (mid - r) = B2 at hq l4
        rw [← HL0.out] at hrow
        have hkk := HK.out
        have hpp := HP.out
        have HD1 : Hid (r < m → r < mid → ∀ w', RowAt w0 w' g n cap (P ++ A ++ B ++ Q) → Calls Ybaf.prog 22 #[.slice (some ⟨g, 0, none⟩) n cap, .int .i64 (r : Int), .int .i64 (m : Int), .int .i64 ((mid : Int) + (m : Int) - (r : Int)), .func (.func 9) #[] #[.pointer (some ⟨p1, 0, none⟩), .pointer (some ⟨p2, 0, none⟩)]] w' fun e w'' => e = .returned (.tuple #[]) ∧ RowAt w0 w'' g n cap (P ++ A1 ++ B1 ++ (A2 ++ B2) ++ Q)) := by
          intro h1 h2 w' hw'
          have := do1 hq hn (.func (.func 9) #[] #[.pointer (some ⟨p1, 0, none⟩), .pointer (some ⟨p2, 0, none⟩)]) r m (mid + m - r) (by omega) (by omega) (by omega) (by omega) (by omega) hw'
          rw [eI] at this
          exact this
        have HD2 : Hid (a < r → r < mid → ∀ w', RowAt w0 w' g n cap (P ++ A1 ++ B1 ++ (A2 ++ B2) ++ Q) → Calls Ybaf.prog 20 #[.slice (some ⟨g, 0, none⟩) n cap, .int .i64 (a : Int), .int .i64 (r : Int), .int .i64 (mid : Int), .func (.func 9) #[] #[.pointer (some ⟨p1, 0, none⟩), .pointer (some ⟨p2, 0, none⟩)]] w' fun e w'' => e = .returned (.tuple #[]) ∧ Stage2 w0 w'' g n cap T P A1 A2 B1 B2 Q) := by
          intro h1 h2 w' hw'
          exact do2 HIH.out HC.out hq hn a r mid hpp (by omega) (by omega) (by omega) (by omega) (by omega) hw'
        have HD3 : Hid (r < m → mid + m - r < b → ∀ w', Stage2 w0 w' g n cap T P A1 A2 B1 B2 Q → Calls Ybaf.prog 20 #[.slice (some ⟨g, 0, none⟩) n cap, .int .i64 (mid : Int), .int .i64 ((mid : Int) + (m : Int) - (r : Int)), .int .i64 (b : Int), .func (.func 9) #[] #[.pointer (some ⟨p1, 0, none⟩), .pointer (some ⟨p2, 0, none⟩)]] w' fun e w'' => e = .returned (.tuple #[]) ∧ Stage3 w0 w'' g n cap T P A B Q) := by
          intro h1 h2 w' hw'
          have := do3 HIH.out HC.out hq hn mid (mid + m - r) b (by omega) (by omega) (by omega) (by omega) (by omega) (by omega) hw'
          rw [eI] at this
          exact this
        have HSK1 : Hid ((m ≤ r ∨ mid ≤ r) → ∀ w', RowAt w0 w' g n cap (P ++ A ++ B ++ Q) → RowAt w0 w' g n cap (P ++ A1 ++ B1 ++ (A2 ++ B2) ++ Q)) := fun hh w' hw' => skip1 hq (hh.imp (fun _ => List.eq_nil_of_length_eq_zero (by omega)) (fun _ => List.eq_nil_of_length_eq_zero (by omega))) hw'
        have HSK2 : Hid ((r ≤ a ∨ mid ≤ r) → ∀ w', RowAt w0 w' g n cap (P ++ A1 ++ B1 ++ (A2 ++ B2) ++ Q) → Stage2 w0 w' g n cap T P A1 A2 B1 B2 Q) := fun hh w' hw' => skip2 hq (hh.imp (fun _ => List.eq_nil_of_length_eq_zero (by omega)) (fun _ => List.eq_nil_of_length_eq_zero (by omega))) hw'
        have HSK3 : Hid ((m ≤ r ∨ b ≤ mid + m - r) → ∀ w', Stage2 w0 w' g n cap T P A1 A2 B1 B2 Q → Stage3 w0 w' g n cap T P A B Q) := fun hh w' hw' => skip3 hq (hh.imp (fun _ => List.eq_nil_of_length_eq_zero (by omega)) (fun _ => List.eq_nil_of_length_eq_zero (by omega))) hw'
        clear hslo hshi hq l1 l2 l3 l4 hmA hbB hkk hpp h eI
        rcases Nat.lt_or_ge r m with hA2 | hA2 <;> rcases Nat.lt_or_ge r mid with hB1 | hB1 <;> rcases Nat.lt_or_ge a r with hA1 | hA1 <;> rcases Nat.lt_or_ge (mid + m - r) b with hB2 | hB2
        · have hr1I : (r : Int) < (m : Int) := by omega
          have hr2I : (r : Int) < (mid : Int) := by omega
          have hr3I : (a : Int) < (r : Int) := by omega
          have hr4I : (mid : Int) + (m : Int) - (r : Int) < (b : Int) := by omega
          go_wp2_with fail
          refine (HD1.out hA2 hB1 _ hrow).mono ?_
          rintro e w1 ⟨rfl, hrow1⟩
          go_wp2_with fail
          refine (HD2.out hA1 hB1 _ hrow1).mono ?_
          rintro e w2 ⟨rfl, hst⟩
          go_wp2_with fail
          refine (HD3.out hA2 hB2 _ hst).mono ?_
          rintro e w3 ⟨rfl, hfin⟩
          go_wp2
          go_end0
          obtain ⟨S, hp, hs, hr⟩ := hfin
          exact ⟨rfl, S, hp, hs, by simpa using hr⟩
        · have hr1I : (r : Int) < (m : Int) := by omega
          have hr2I : (r : Int) < (mid : Int) := by omega
          have hr3I : (a : Int) < (r : Int) := by omega
          have hr4I : (mid : Int) + (m : Int) - (r : Int) ≥ (b : Int) := by omega
          go_wp2_with fail
          refine (HD1.out hA2 hB1 _ hrow).mono ?_
          rintro e w1 ⟨rfl, hrow1⟩
          go_wp2_with fail
          refine (HD2.out hA1 hB1 _ hrow1).mono ?_
          rintro e w2 ⟨rfl, hst⟩
          have hfin := HSK3.out (by omega) _ hst
          go_wp2
          go_end0
          obtain ⟨S, hp, hs, hr⟩ := hfin
          exact ⟨rfl, S, hp, hs, by simpa using hr⟩
        · have hr1I : (r : Int) < (m : Int) := by omega
          have hr2I : (r : Int) < (mid : Int) := by omega
          have hr3I : (a : Int) ≥ (r : Int) := by omega
          have hr4I : (mid : Int) + (m : Int) - (r : Int) < (b : Int) := by omega
          go_wp2_with fail
          refine (HD1.out hA2 hB1 _ hrow).mono ?_
          rintro e w1 ⟨rfl, hrow1⟩
          have hst := HSK2.out (by omega) _ hrow1
          go_wp2_with fail
          refine (HD3.out hA2 hB2 _ hst).mono ?_
          rintro e w3 ⟨rfl, hfin⟩
          go_wp2
          go_end0
          obtain ⟨S, hp, hs, hr⟩ := hfin
          exact ⟨rfl, S, hp, hs, by simpa using hr⟩
        · have hr1I : (r : Int) < (m : Int) := by omega
          have hr2I : (r : Int) < (mid : Int) := by omega
          have hr3I : (a : Int) ≥ (r : Int) := by omega
          have hr4I : (mid : Int) + (m : Int) - (r : Int) ≥ (b : Int) := by omega
          go_wp2_with fail
          refine (HD1.out hA2 hB1 _ hrow).mono ?_
          rintro e w1 ⟨rfl, hrow1⟩
          have hst := HSK2.out (by omega) _ hrow1
          have hfin := HSK3.out (by omega) _ hst
          go_wp2
          go_end0
          obtain ⟨S, hp, hs, hr⟩ := hfin
          exact ⟨rfl, S, hp, hs, by simpa using hr⟩
        · exfalso; omega
        · exfalso; omega
        · exfalso; omega
        · exfalso; omega
        · have hr1I : (r : Int) ≥ (m : Int) := by omega
          have hr2I : (r : Int) < (mid : Int) := by omega
          have hr3I : (a : Int) < (r : Int) := by omega
          have hr4I : (mid : Int) + (m : Int) - (r : Int) < (b : Int) := by omega
          have hrow1 := HSK1.out (by omega) _ hrow
          go_wp2_with fail
          refine (HD2.out hA1 hB1 _ hrow1).mono ?_
          rintro e w2 ⟨rfl, hst⟩
          have hfin := HSK3.out (by omega) _ hst
          go_wp2
          go_end0
          obtain ⟨S, hp, hs, hr⟩ := hfin
          exact ⟨rfl, S, hp, hs, by simpa using hr⟩
        · exfalso; omega
        · exfalso; omega
        · exfalso; omega
        · have hr1I : (r : Int) ≥ (m : Int) := by omega
          have hr2I : (r : Int) ≥ (mid : Int) := by omega
          have hr3I : (a : Int) < (r : Int) := by omega
          have hr4I : (mid : Int) + (m : Int) - (r : Int) < (b : Int) := by omega
          have hrow1 := HSK1.out (by omega) _ hrow
          have hst := HSK2.out (by omega) _ hrow1
          have hfin := HSK3.out (by omega) _ hst
          go_wp2
          go_end0
          obtain ⟨S, hp, hs, hr⟩ := hfin
          exact ⟨rfl, S, hp, hs, by simpa using hr⟩
        · exfalso; omega
        · exfalso; omega
        · exfalso; omega

/-- ████ THE MERGE. -/
theorem merge_all : ∀ k, MergeTo k := by
  intro k
  induction k with
  | zero =>
    intro w0 w g n cap a m b p1 p2 T V P A B Q hk
    intros
    omega
  | succ k ih =>
    intro w0 w g n cap a m b p1 p2 T V P A B Q hk hn hP hm hb hA1 hB1 hA hB hap hvA hvB hcmp h
    by_cases h1 : A.length = 1
    · obtain ⟨x, rfl⟩ := List.length_eq_one_iff.1 h1
      refine (merge20a w0 w g n cap a m b p1 p2 T V P B Q x hn hP (by simpa using hm) hb hB1 hB (fun y hy => hap x (by simp) y hy) (hvA x (by simp)) hvB hcmp (by simpa using h)).mono ?_
      rintro e w' ⟨he, S, p, s, hr⟩
      exact ⟨he, S, by simpa using p, s, hr⟩
    · by_cases h2 : B.length = 1
      · obtain ⟨y, rfl⟩ := List.length_eq_one_iff.1 h2
        exact merge20b w0 w g n cap a m b p1 p2 T V P A Q y hn hP hm (by simpa using hb) (by omega) hA (fun x hx => hap x hx y (by simp)) (hvB y (by simp)) hvA hcmp (by simpa using h)
      · exact merge20c k ih w0 w g n cap a m b p1 p2 T V P A B Q hk hn hP hm hb (by omega) (by omega) hA hB hap hvA hvB hcmp h

end Go.Proofs.YbulkckkFmt.st
