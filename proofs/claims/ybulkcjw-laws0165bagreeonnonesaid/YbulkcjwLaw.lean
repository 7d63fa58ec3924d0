/-
  THE WALK of LawS0165BAgreeOnNone (3).
-/
import Derived.Test.YbulkcjwMaps
namespace Go.Proofs.Ybulkcjw.sim
open Go.RowKit Go.Maps Go.WideMaps
set_option linter.unusedVariables false
set_option linter.unusedSimpArgs false

theorem size9 : (Yba.prog.info? 9).map (·.size) = some 1 := by kernel_rfl

/-- The strings as cells. -/
def strL (ss : List ByteArray) (m : Nat) : List Value := (List.range m).map (fun i => Value.string (st ss i))
theorem strL_len (ss : List ByteArray) (m : Nat) : (strL ss m).length = m := by simp [strL]
theorem strL_at (ss : List ByteArray) (m j : Nat) (h : j < m) : (strL ss m)[j]? = some (.string (st ss j)) := by simp [strL, h]
theorem strL_one (ss : List ByteArray) (m : Nat) : ∀ v ∈ strL ss m, v.oneCell' = true := by
  intro v hv
  obtain ⟨_, _, rfl⟩ := List.mem_map.1 hv
  rfl
theorem strL_src {w : World} {a : Option Addr} {m : Nat} {ss : List ByteArray} (h : Fed w a m ss) (h0 : 0 < m) : ∃ ad, a = some ad ∧ ∀ j v, (strL ss m)[j]? = some v → w.cell? (ad.add j) = some v := by
  rcases h with h | ⟨b, off, rfl, _, hc⟩
  · omega
  · refine ⟨_, rfl, fun j v hj => ?_⟩
    have hjm : j < m := by
      have := (List.getElem?_eq_some_iff.1 hj).1
      rwa [strL_len] at this
    rw [strL_at ss m j hjm] at hj
    rw [Addr.add_lit, hc j hjm]
    exact hj

set_option maxRecDepth 100000 in
set_option maxHeartbeats 4000000 in
theorem law3 (a0 : Option Addr) (n c0 : Nat) (a1 : Option Addr) (m c1 : Nat) (put : Bool) (x : Int) (ss : List ByteArray) (w : World) (hn : n ≤ maxLen) (hm : m ≤ maxLen) (hx0 : 0 ≤ x) (hx1 : x ≤ 255) (hup : FedB w a0 n) (hids : Fed w a1 m ss) (hss : ∀ i, (st ss i).size ≤ maxLen) :
    Calls Yba.prog 3 #[.slice a0 n c0, .slice a1 m c1, .bool put, .int .u8 x] w fun e w' => e = .returned (.bool true) ∧ Below w.heap.size w w' := by
  unfold maxLen at hn hm
  by_cases hbig : 1024 < n
  · clear hup hids hss
    go_enter Yba.func3, Yba.ntmps3
    go_wp2
    go_ret
    exact ⟨rfl, Below.refl _ _⟩
  by_cases hbig2 : 1024 < m
  · clear hup hids hss
    go_enter Yba.func3, Yba.ntmps3
    go_wp2
    go_ret
    exact ⟨rfl, Below.refl _ _⟩
  have hn4 : n ≤ 1024 := by omega
  have hm4 : m ≤ 1024 := by omega
  have HIDS : Hid _ := hids
  have HSS : Hid _ := hss
  clear hbig hbig2 hids hss
  obtain ⟨i0, hi, hz0, hz1, hz2⟩ := info_parts info25
  obtain ⟨Z78, hZ78, hb78⟩ := run_built built78
  obtain ⟨Z48, hZ48, hb48⟩ := run_built built48
  simp only [Prod.mk.injEq] at hZ78
  obtain ⟨hZ10, hZ74⟩ := hZ78
  go_enter Yba.func3, Yba.ntmps3
  go_wp2_with (at_make; refine wpList_make_own _ rfl _ _ 24 rfl w.heap.size 25 i0 (.pointer none) 1 Yba.underlying24 hi hz0 hz1 _ _ _ (n + 1) rfl rfl (by omega) (by rw [hz2]; omega) (by unfold maxLen; omega) (Nat.le_refl _) ?_)
  intro w1 hown1 hgrow1
  have hb1 : Below w.heap.size w w1 := (Below.refl _ _).grown hgrow1 (Nat.le_refl _) (fun k h => by cases h)
  have hsz1 := (hown1.lt w.heap.size rfl).2
  have hZ15 : 15 < Z48.size := (Array.getElem?_eq_some_iff.1 hZ48).1
  clear hgrow1
  go_wp2
  go_loopw [9, 10] (fun t i wr => ∃ (k : Nat) (vs : List Value), k ≤ n ∧ i = .int .i64 k ∧ t = .slice (some ⟨w.heap.size, 0, none⟩) k (n + 1) ∧ wr.ownsRow w.heap.size 25 1 (.slice (some ⟨w.heap.size, 0, none⟩) k (n + 1)) k vs ∧ (∀ v ∈ vs, NodeOk wr w.heap.size v) ∧ Below w.heap.size w wr) (fun _ i _ => n - (intOf i).toNat)
  case atStart => exact ⟨0, [], Nat.zero_le _, rfl, rfl, hown1, fun v h => absurd h (by simp), hb1⟩
  case round =>
    obtain ⟨k, vs, hk, rfl, rfl, hown, hvs, hb⟩ := hrel
    have hsz := (hown.lt w.heap.size rfl).2
    by_cases hlt : k < n
    · rcases hup with h | ⟨b, off, rfl, hbl, hc⟩
      · omega
      obtain ⟨xv, hcx⟩ := hc k hlt
      have hcx' : wr.cell? ⟨b, off + k, none⟩ = some (.bool xv) := (hb.cell (by exact hbl)).trans hcx
      have hblt : b < wr.heap.size := by omega
      clear hc hcx hown1 hb1
      cases xv
      · go_wp2_with (first | (refine wpList_build 48 #[] rfl rfl #[] rfl Z48 hb48 ?_) | (at_builtin; go_must (refine wpList_append_fits _ rfl _ _ 24 rfl w.heap.size 25 i0 1 Yba.underlying24 hi hz1 w.heap.size k (n + 1) vs rfl ((hown.alloc _).alloc _) ⟨wr.heap.size + 1, 0, none⟩ 1 1 [.pointer (some ⟨wr.heap.size, 0, none⟩)] rfl rfl (one_cell1 _ _ _ _) (by simp [Value.oneCell']) (by omega) ?_)))
        intro w2 hown2 hgrow2
        have HV : Hid _ := nodes_down hZ48 hgrow2 hsz hvs
        have HB : Hid (Below w.heap.size w w2) := ((hb.alloc (by omega) _).alloc (by simp; omega) _).grown hgrow2 (by simp; omega) (fun j hj => by cases hj; exact Nat.le_refl _)
        have HO : Hid _ := hown2
        clear hown2 hgrow2 hown hvs hb
        go_wp2
        go_roundw
        case rel => exact ⟨k + 1, _, by omega, by go_num, rfl, HO.out, HV.out, HB.out⟩
        case measure => simp [intOf]; omega
      · go_wp2_with (first | (refine wpList_build 48 #[] rfl rfl #[] rfl Z48 hb48 ?_) | (refine wpList_build 78 #[] rfl rfl #[] rfl Z78 hb78 ?_) | (at_builtin; go_must (refine wpList_append_fits _ rfl _ _ 24 rfl w.heap.size 25 i0 1 Yba.underlying24 hi hz1 w.heap.size k (n + 1) vs rfl (((hown.alloc _).alloc _).alloc _) ⟨wr.heap.size + 1 + 1, 0, none⟩ 1 1 [.pointer (some ⟨wr.heap.size, 0, none⟩)] rfl rfl (one_cell2 _ _ _ _ _) (by simp [Value.oneCell']) (by omega) ?_)))
        intro w2 hown2 hgrow2
        have HV : Hid _ := nodes_up (by simp [hZ15]) hZ10 hZ74 hgrow2 hsz hvs
        have HB : Hid (Below w.heap.size w w2) := (((hb.alloc (by omega) _).alloc (by simp; omega) _).alloc (by simp; omega) _).grown hgrow2 (by simp; omega) (fun j hj => by cases hj; exact Nat.le_refl _)
        have HO : Hid _ := hown2
        clear hown2 hgrow2 hown hvs hb
        go_wp2
        go_roundw
        case rel => exact ⟨k + 1, _, by omega, by go_num, rfl, HO.out, HV.out, HB.out⟩
        case measure => simp [intOf]; omega
    · have hkn : k = n := by omega
      subst hkn
      obtain ⟨ZP, hZP, hbP⟩ := run_built (built48p wr.heap.size)
      obtain ⟨i9, hi9, hz90, hz91, hz92⟩ := info_parts info9
      have hmm := @run_makeMap Yba.prog
      clear hown1 hb1 hup hb48 hZ48 hZ15
      go_wp2_with (first | (refine wpList_build 78 #[] rfl rfl #[] rfl Z78 hb78 ?_) | (refine wpList_build 48 #[(1, .tmp 55)] rfl rfl #[(1, .pointer (some ⟨wr.heap.size, 0, none⟩))] rfl ZP hbP ?_) | (at_builtin; go_must (refine wpList_append_fits _ rfl _ _ 24 rfl w.heap.size 25 i0 1 Yba.underlying24 hi hz1 w.heap.size k (k + 1) vs rfl (((hown.alloc _).alloc _).alloc _) ⟨wr.heap.size + 1 + 1, 0, none⟩ 1 1 [.pointer (some ⟨wr.heap.size + 1, 0, none⟩)] rfl rfl (one_cell2 _ _ _ _ _) (by simp [Value.oneCell']) (by omega) ?_)))
      intro w4 hown4 hgrow4
      have hB4 : Below w.heap.size w w4 := (((hb.alloc (by omega) _).alloc (by simp; omega) _).alloc (by simp; omega) _).grown hgrow4 (by simp; omega) (fun j hj => by cases hj; exact Nat.le_refl _)
      have hup4 := last_up hZP hZ10 hZ74 hgrow4 hsz
      have hlen4 : (vs ++ [Value.pointer (some ⟨wr.heap.size + 1, 0, none⟩)]).length = k + 1 := by simpa using hown4.1
      have HV4 : Hid (∀ j, j < k + 1 → ∃ v, w4.cell? ⟨w.heap.size, j, none⟩ = some v ∧ NodeOk w4 w.heap.size v) := by
        intro j hj
        refine ⟨(vs ++ [Value.pointer (some ⟨wr.heap.size + 1, 0, none⟩)])[j]'(by omega), ?_, ?_⟩
        · rw [hown4.cellAt j (by omega)]
          exact List.getElem?_eq_getElem _
        · have hmem := List.getElem_mem (l := vs ++ [Value.pointer (some ⟨wr.heap.size + 1, 0, none⟩)]) (n := j) (by omega)
          rcases List.mem_append.1 hmem with hm' | hm'
          · exact ((((hvs _ hm').alloc _).alloc _).alloc _).grown hgrow4
          · rw [List.mem_singleton.1 hm']
            exact hup4.1
      have HL4 : Hid (∃ v, w4.cell? ⟨w.heap.size, (k + 1) - 1, none⟩ = some v ∧ UpOk w4 v) := by
        refine ⟨_, ?_, hup4.2⟩
        rw [Nat.add_sub_cancel, hown4.cellAt k (by omega)]
        have : vs.length = k := by simpa using hlen4
        rw [List.getElem?_append_right (by omega)]
        simp [this]
      have HB4 : Hid _ := hB4
      have hs4 := hB4.size
      clear hown4 hgrow4 hup4 hlen4 hvs hown hb hB4 hZP hbP hZ10 hZ74 hb78 hi hz0 hz1 hz2
      go_wp2_with (first | (at_make; go_must (refine wpList_make_full _ rfl _ _ 23 rfl w4.heap.size 9 i9 (.string ⟨#[]⟩) 1 Yba.underlying23 hi9 hz90 hz91 _ _ _ _ m rfl rfl rfl rfl (by rw [hz92]; omega) (by unfold maxLen; omega) (Nat.le_refl _) ?_)))
      intro w5 hown5 hgrow5
      have hB5 : Below w4.heap.size w4 w5 := (Below.refl _ _).grown hgrow5 (Nat.le_refl _) (fun k h => by cases h)
      have HF5 : Hid (Fed w5 a1 m ss) := Fed.below HIDS.out (HB4.out.trans (hB5.mono hs4))
      obtain ⟨cur, hcs, hg5⟩ : ∃ cur : List Value, cur.length = m ∧ w5.heap[w4.heap.size]? = some (.cells cur.toArray 9 (0, 0)) := by
        rcases hown5.2 with ⟨h, _⟩ | ⟨g, c, cur, h, _, hg, _, _, hsz, _⟩
        · cases h
        · simp only [Value.slice.injEq, Option.some.injEq, Addr.mk.injEq, and_true, true_and] at h
          obtain ⟨rfl, rfl⟩ := h
          exact ⟨cur.toList, by simpa using hsz, by simpa using hg⟩
      have HG5 : Hid _ := hg5
      clear hown5 hgrow5 hi9 hz90 hz91 hz92 i9 hg5
      go_wp2_with (first | (refine wpList_copy_splice rfl (.tmp 63) (.tmp 64) 23 23 rfl 9 Yba.underlying23 size9 (some ⟨w4.heap.size, 0, none⟩) a1 m m m c1 rfl rfl w4.heap.size 0 cur 9 HG5.out (strL ss m) (by rw [strL_len]; exact (Nat.min_self m).symm) (fun h => ⟨rfl, strL_src HF5.out (by rwa [strL_len] at h)⟩) (by rw [strL_len]; omega) (strL_one ss m) w4.heap.size w4 hB5 (Nat.le_refl _) ?_; intro w6 HG6 hB6))
      have HC6 : Hid (∀ j, j < m → w6.cell? ⟨w4.heap.size, j, none⟩ = some (.string (st ss j))) := by
        intro j hj
        rw [cell_of_row w6 w4.heap.size j _ 9 (0, 0) HG6.out]
        have e : splice cur 0 (strL ss m) = strL ss m := by
          unfold splice
          rw [strL_len, List.drop_of_length_le (by omega)]
          simp
        rw [e]
        simpa using strL_at ss m j hj
      have hs6 := hB6.size
      have HB6 : Hid _ := hB6
      have hcb : w4.heap.size < w6.heap.size := by
        have h := HG6.out
        exact (Array.getElem?_eq_some_iff.1 h).1
      clear hB6 hB5 HG5 hcs HG6
      go_loopw [14] (fun i wr => ∃ (j : Nat) (D : DataW Unit), j ≤ m ∧ i = .int .i64 j ∧ wr.ownsMap Yba.prog 9 (plainElem (H := Unit) Yba.prog 3) w6.heap.size j D ∧ MapIs D (lastE ss j) ∧ Below w6.heap.size w6 wr) (fun i _ => m - (intOf i).toNat)
      case atStart => exact ⟨0, .map [], Nat.zero_le _, rfl, World.ownsMap_made _ _ _ _, mapIs_start, (Below.refl _ _).alloc (Nat.le_refl _) _⟩
      case round =>
        obtain ⟨j, D, hj, rfl, hmap, hD, hb7⟩ := hrel
        by_cases hjm : j < m
        · have hcj : wr.cell? ⟨w4.heap.size, j, none⟩ = some (.string (st ss j)) := (hb7.cell (by exact hcb)).trans (HC6.out j hjm)
          have hkey := keyOf_string_mk Yba.underlying9 (HSS.out j)
          have HD : Hid _ := mapIs_step hD
          obtain ⟨s, HS⟩ : ∃ s, Hid (st ss j = s) := ⟨_, rfl⟩
          rw [HS.out] at hcj hkey HD
          clear hD
          go_wp2_with (first | (at_mapUpdate; go_must (refine wpList_mapUpdate_own _ rfl _ _ _ 68 rfl 9 3 law Yba.underlying68 _ w6.heap.size j _ rfl hmap (by unfold maxLen; omega) _ _ _ rfl rfl hkey _ [] (plainElem_int Yba.underlying3 (WalkArith.wf_i64 (by omega))) ?_)))
          intro w8 hmap8 hgrow8
          have HB8 : Hid (Below w6.heap.size w6 w8) := hb7.grown hgrow8 hb7.size (fun j hj => by cases hj; exact Nat.le_refl _)
          have HM8 : Hid _ := hmap8
          clear hmap8 hgrow8 hmap hb7 hkey hcj
          go_wp2
          go_roundw
          case rel => exact ⟨j + 1, _, by omega, by go_num, HM8.out, HD.out, HB8.out⟩
          case measure => simp [intOf]; omega
        · have hjm' : j = m := by omega
          subst hjm'
          have hcase : (put = true ∧ 0 < j) ∨ (put = true ∧ j = 0) ∨ put = false := by
            cases put
            · exact .inr (.inr rfl)
            · rcases Nat.eq_zero_or_pos j with h | h
              · exact .inr (.inl ⟨rfl, h⟩)
              · exact .inl ⟨rfl, h⟩
          have HM7 : Hid _ := hmap
          have HD7 : Hid _ := hD
          have HB7 : Hid _ := hb7
          clear hD hb7
          rcases hcase with ⟨hput, hj0⟩ | ⟨hput, hj0⟩ | hput
          · obtain ⟨q, hq, hqj⟩ := emod_cast x j hx0 hj0
            have hfin : finO ss j put x = some q := by
              unfold finO
              rw [if_pos ⟨hput, hj0⟩]
              congr 1
              omega
            have HQ : Hid _ := hq
            have hq1 : 0 ≤ x % (j : Int) := by omega
            have hq2 : x % (j : Int) < j := by omega
            have HDF0 : Hid (MapIs (D.put kE (.lit (.int .i64 (x % (j : Int))))) (finO ss j put x)) := by
              rw [hfin, hq]
              exact mapIs_put_e HD7.out q
            clear hq hfin
            have hkey : keyOf Yba.prog 9 (.string ⟨#[]⟩) = some kE := keyOf_string_mk Yba.underlying9 (s := ⟨#[]⟩) (by simp [ByteArray.size])
            subst hput
            go_wp2_with (first | (at_mapUpdate; go_must (refine wpList_mapUpdate_own _ rfl _ _ _ 68 rfl 9 3 law Yba.underlying68 _ w6.heap.size j _ rfl hmap (by unfold maxLen; omega) _ _ _ rfl rfl hkey _ [] (plainElem_int Yba.underlying3 (WalkArith.wf_i64 (by omega))) ?_)))
            intro w8 hmap8 hgrow8
            have HBF : Hid (Below w6.heap.size w6 w8) := HB7.out.grown hgrow8 HB7.out.size (fun j hj => by cases hj; exact Nat.le_refl _)
            have HMF : Hid _ := hmap8
            have HDF := HDF0
            clear hmap8 hgrow8 hmap hkey
            obtain ⟨Z91, hZ91, hb91⟩ := run_built (built91 (.slice (some ⟨w4.heap.size, 0, none⟩) j j) (.slice (some ⟨w.heap.size, 0, none⟩) (k + 1) (k + 1)) (.map (some w6.heap.size)) _ _ _ _ _ _ _ rfl rfl rfl)
            simp only [Prod.mk.injEq] at hZ91
            have hlead := leader_at (wc := w8) hn4 hx0 HV4.out HL4.out HB6.out hcb HC6.out HMF.out HDF.out HBF.out hZ91.1 hZ91.2.1 hZ91.2.2
            have hexp := fun w9 h9 => expect5 a1 j c1 true x ss w9 hm4 hx0 hx1 h9
            have HFW : Hid (∀ w9, Below (w8.heap.size + 1) (w8.alloc (.cells Z91 91)) w9 → Fed w9 a1 j ss ∧ Below w.heap.size w w9) := by
              intro w9 h9
              have hb0 : Below w.heap.size w w9 := (HB4.out.trans ((HB6.out.trans ((HBF.out.mono (Nat.le_of_lt hcb)))).mono hs4)).trans (((Below.refl _ w8).alloc (by have := HBF.out.size; omega) (.cells Z91 91)).trans (h9.mono (by have := HBF.out.size; omega)))
              exact ⟨Fed.below HIDS.out hb0, hb0⟩
            obtain ⟨lv, HLV⟩ : ∃ lv, Hid (expL ss j true x = lv) := ⟨_, rfl⟩
            obtain ⟨bv, HBV⟩ : ∃ bv, Hid (expB ss j true x = bv) := ⟨_, rfl⟩
            rw [HLV.out, HBV.out] at hlead hexp
            clear hZ91
            go_wp2_with (first | (refine wpList_build 91 #[(2, .tmp 91), (4, .tmp 92), (5, .tmp 93), (13, .const (.int .i64 (-1)))] rfl rfl #[(2, .slice (some ⟨w4.heap.size, 0, none⟩) j j), (4, .slice (some ⟨w.heap.size, 0, none⟩) (k + 1) (k + 1)), (5, .map (some w6.heap.size)), (13, .int .i64 (-1))] rfl Z91 hb91 ?_))
            refine hlead.mono ?_
            rintro e w9 ⟨rfl, hb9⟩
            obtain ⟨hfed9, hbw9⟩ := HFW.out w9 hb9
            have hexp9 := hexp w9 hfed9
            clear hlead hexp hb91 hb9 hfed9
            go_wp2_with fail
            refine hexp9.mono ?_
            rintro e w10 ⟨rfl, nq, rfl⟩
            clear hexp9
            go_wp2
            go_ret
            exact ⟨by simp, below_drewN hbw9 _⟩
          · have HMF := HM7
            have HBF := HB7
            have HDF : Hid (MapIs D (finO ss j put x)) := by
              show MapIs D (finO ss j put x)
              unfold finO
              rw [if_neg (by omega)]
              exact HD7.out
            subst hput
            subst hj0
            clear hmap
            obtain ⟨Z91, hZ91, hb91⟩ := run_built (built91 (.slice (some ⟨w4.heap.size, 0, none⟩) 0 0) (.slice (some ⟨w.heap.size, 0, none⟩) (k + 1) (k + 1)) (.map (some w6.heap.size)) _ _ _ _ _ _ _ rfl rfl rfl)
            simp only [Prod.mk.injEq] at hZ91
            have hlead := leader_at (wc := wr) hn4 hx0 HV4.out HL4.out HB6.out hcb HC6.out HMF.out HDF.out HBF.out hZ91.1 hZ91.2.1 hZ91.2.2
            have hexp := fun w9 h9 => expect5 a1 0 c1 true x ss w9 hm4 hx0 hx1 h9
            have HFW : Hid (∀ w9, Below (wr.heap.size + 1) (wr.alloc (.cells Z91 91)) w9 → Fed w9 a1 0 ss ∧ Below w.heap.size w w9) := by
              intro w9 h9
              have hb0 : Below w.heap.size w w9 := (HB4.out.trans ((HB6.out.trans ((HBF.out.mono (Nat.le_of_lt hcb)))).mono hs4)).trans (((Below.refl _ wr).alloc (by have := HBF.out.size; omega) (.cells Z91 91)).trans (h9.mono (by have := HBF.out.size; omega)))
              exact ⟨Fed.below HIDS.out hb0, hb0⟩
            obtain ⟨lv, HLV⟩ : ∃ lv, Hid (expL ss 0 true x = lv) := ⟨_, rfl⟩
            obtain ⟨bv, HBV⟩ : ∃ bv, Hid (expB ss 0 true x = bv) := ⟨_, rfl⟩
            rw [HLV.out, HBV.out] at hlead hexp
            clear hZ91
            go_wp2_with (first | (refine wpList_build 91 #[(2, .tmp 91), (4, .tmp 92), (5, .tmp 93), (13, .const (.int .i64 (-1)))] rfl rfl #[(2, .slice (some ⟨w4.heap.size, 0, none⟩) 0 0), (4, .slice (some ⟨w.heap.size, 0, none⟩) (k + 1) (k + 1)), (5, .map (some w6.heap.size)), (13, .int .i64 (-1))] rfl Z91 hb91 ?_))
            refine hlead.mono ?_
            rintro e w9 ⟨rfl, hb9⟩
            obtain ⟨hfed9, hbw9⟩ := HFW.out w9 hb9
            have hexp9 := hexp w9 hfed9
            clear hlead hexp hb91 hb9 hfed9
            go_wp2_with fail
            refine hexp9.mono ?_
            rintro e w10 ⟨rfl, nq, rfl⟩
            clear hexp9
            go_wp2
            go_ret
            exact ⟨by simp, below_drewN hbw9 _⟩
          · have HMF := HM7
            have HBF := HB7
            have HDF : Hid (MapIs D (finO ss j put x)) := by
              show MapIs D (finO ss j put x)
              unfold finO
              rw [if_neg (by rw [hput]; simp)]
              exact HD7.out
            subst hput
            clear hmap
            obtain ⟨Z91, hZ91, hb91⟩ := run_built (built91 (.slice (some ⟨w4.heap.size, 0, none⟩) j j) (.slice (some ⟨w.heap.size, 0, none⟩) (k + 1) (k + 1)) (.map (some w6.heap.size)) _ _ _ _ _ _ _ rfl rfl rfl)
            simp only [Prod.mk.injEq] at hZ91
            have hlead := leader_at (wc := wr) hn4 hx0 HV4.out HL4.out HB6.out hcb HC6.out HMF.out HDF.out HBF.out hZ91.1 hZ91.2.1 hZ91.2.2
            have hexp := fun w9 h9 => expect5 a1 j c1 false x ss w9 hm4 hx0 hx1 h9
            have HFW : Hid (∀ w9, Below (wr.heap.size + 1) (wr.alloc (.cells Z91 91)) w9 → Fed w9 a1 j ss ∧ Below w.heap.size w w9) := by
              intro w9 h9
              have hb0 : Below w.heap.size w w9 := (HB4.out.trans ((HB6.out.trans ((HBF.out.mono (Nat.le_of_lt hcb)))).mono hs4)).trans (((Below.refl _ wr).alloc (by have := HBF.out.size; omega) (.cells Z91 91)).trans (h9.mono (by have := HBF.out.size; omega)))
              exact ⟨Fed.below HIDS.out hb0, hb0⟩
            obtain ⟨lv, HLV⟩ : ∃ lv, Hid (expL ss j false x = lv) := ⟨_, rfl⟩
            obtain ⟨bv, HBV⟩ : ∃ bv, Hid (expB ss j false x = bv) := ⟨_, rfl⟩
            rw [HLV.out, HBV.out] at hlead hexp
            clear hZ91
            go_wp2_with (first | (refine wpList_build 91 #[(2, .tmp 91), (4, .tmp 92), (5, .tmp 93), (13, .const (.int .i64 (-1)))] rfl rfl #[(2, .slice (some ⟨w4.heap.size, 0, none⟩) j j), (4, .slice (some ⟨w.heap.size, 0, none⟩) (k + 1) (k + 1)), (5, .map (some w6.heap.size)), (13, .int .i64 (-1))] rfl Z91 hb91 ?_))
            refine hlead.mono ?_
            rintro e w9 ⟨rfl, hb9⟩
            obtain ⟨hfed9, hbw9⟩ := HFW.out w9 hb9
            have hexp9 := hexp w9 hfed9
            clear hlead hexp hb91 hb9 hfed9
            go_wp2_with fail
            refine hexp9.mono ?_
            rintro e w10 ⟨rfl, nq, rfl⟩
            clear hexp9
            go_wp2
            go_ret
            exact ⟨by simp, below_drewN hbw9 _⟩

end Go.Proofs.Ybulkcjw.sim
