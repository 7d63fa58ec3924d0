import Derived.Test.YbulkcigRows
import Derived.WalkKit
import Derived.ProofKit
import Derived.Below
import Derived.Deep.QuietTactic
import Derived.BigQuiet
namespace Go.Proofs.Ybulkcig.csv
open Go.ChangeShapes Go.WideShapes Go.ChangeAt Go.RowKit
set_option linter.unusedVariables false

theorem info3 : (Yba.prog.info? 3).map (fun i => (i.zero, i.size, i.bytes)) = some (some (.int .i64 0), 1, 8) := by kernel_rfl

/-- 'make([]T, n, c)', both variables: n zero elements are owned, there is room for c. -/
theorem wpList_make_room {P : Program} (w : World) {ops : Array Oper} {rest : List Oper} {o : Oper} {a : Act} {Q : Exit → Act → World → Prop}
    (hg : o.guard = none) (l c : Operand) (t : TypeId) (hop : o.op = Op.makeSlice t l c)
    (base : Nat) (e : TypeId) (i : TypeInfo) (z : Value) (size : Nat) (h1 : P.underlying t = some (.slice e)) (h2 : P.info? e = some i) (h3 : i.zero = some z) (h4 : i.size = size)
    (kl kc : IntKind) (L C : Int) (n m : Nat) (hl : a.eval l = .int kl L) (hc : a.eval c = .int kc C) (hL : L = (n : Int)) (hC : C = (m : Int)) (hnm : n ≤ m) (b2 : i.bytes * m ≤ 281474976710656) (b3 : m ≤ maxLen) (b4 : base ≤ w.heap.size)
    (hK : ∀ w', w'.ownsRow base e size (.slice (some ⟨w.heap.size, 0, none⟩) n m) n ((madeCells z.cells (m * size)).toList.take (n * size)) → w.grownBy w' none → w'.heap.size = w.heap.size + 1 → wpList P ops Q rest (a.put o.dst (.slice (some ⟨w.heap.size, 0, none⟩) n m)) w') :
    wpList P ops Q (o :: rest) a w := by
  refine wpList_plain hg fun K hK' => ?_
  subst h4
  subst hL
  subst hC
  have b3' := b3
  simp only [maxLen] at b3'
  have hb' : (i.bytes : Int) * (m : Int) ≤ 281474976710656 := by
    have h : ((i.bytes * m : Nat) : Int) ≤ 281474976710656 := by omega
    rwa [Int.natCast_mul] at h
  have hr := run_make (P := P) w t e i z h1 h2 h3 kl kc (n : Int) (m : Int) (by omega) (by omega) hb' (by omega)
  simp only [Int.toNat_natCast] at hr
  unfold Oper.wp
  simp [execOp, hop, hl, hc, hr, Result.andThen]
  refine hK' _ _ (hK _ ⟨?_, .inr ⟨w.heap.size, m, _, rfl, b4, heap_alloc_new w _, hnm, b3, size_madeCells _ _, rfl⟩⟩ (World.grownBy_alloc w _ none) (by simp))
  rw [List.length_take, Array.length_toList, size_madeCells]
  exact Nat.min_eq_left (Nat.mul_le_mul_right _ hnm)


/-- The row of an argument, as the shell tells it. -/
def IsRow (k : IntKind) (w : World) (a : Option Addr) (len cap : Nat) (zs : List Int) : Prop :=
  (a = none ∧ len = 0 ∧ cap = 0 ∧ zs = []) ∨
  ∃ x, a = some x ∧ len ≤ cap ∧ cap ≤ maxLen ∧ zs.length = cap ∧ (∀ i, i < zs.length → w.cell? (x.add i) = some (.int k (zs.getD i 0))) ∧ ∀ n ∈ zs, (Lit.int k n).wf = true

def ints (zs : List Int) : List Value := zs.map (Value.int .i64)

/-- What a round's store does to the copy. -/
theorem take_pad_set (zs : List Int) (k n m : Nat) (hk : k < n) (hz : n ≤ zs.length) (h : m = n - k) :
    (ints (zs.take k) ++ List.replicate m (Value.int .i64 0)).set k (.int .i64 (zs.getD k 0)) = ints (zs.take (k + 1)) ++ List.replicate (n - (k + 1)) (Value.int .i64 0) := by
  subst h
  have hl : (ints (zs.take k)).length = k := by simp [ints]; omega
  rw [List.set_append_right _ _ (by omega), hl, Nat.sub_self, List.take_succ_eq_append_getElem (by omega)]
  obtain ⟨m, hm⟩ : ∃ m, n - k = m + 1 := ⟨n - k - 1, by omega⟩
  have e : n - (k + 1) = m := by omega
  rw [hm, e, List.replicate_succ]
  simp only [ints, List.map_append, List.map_cons, List.map_nil, List.append_assoc, List.set_cons_zero, List.cons_append, List.nil_append]
  simp [List.getD, show k < zs.length by omega]

/-- What the walk is told of the argument: it is empty, or its cells lie from an address on. -/
def Fed (w : World) (a : Option Addr) (n : Nat) (zs : List Int) : Prop :=
  n ≤ zs.length ∧ (n = 0 ∨ ∃ b off, a = some ⟨b, off, none⟩ ∧ b < w.heap.size ∧ ∀ i, i < n → w.cell? ⟨b, off + i, none⟩ = some (.int .i64 (zs.getD i 0)))

theorem pad_start (n m : Nat) : List.take n (madeCells #[Value.int .i64 0] (n + m)).toList = ints ([].take 0) ++ List.replicate (n - 0) (Value.int .i64 0) := by
  rw [toList_madeCells_one]
  simp [ints]

set_option maxHeartbeats 400000 in
theorem build_any (a0 : Option Addr) (n cap : Nat) (x : Int) (zs : List Int) (w : World) (hn : n ≤ 1024) (hx0 : 0 ≤ x) (hx1 : x ≤ 255) (hfed : Fed w a0 n zs) :
    Calls Yba.prog 5 #[.slice a0 n cap, .int .u8 x] w fun e w' => e = .returned (.slice (some ⟨w.heap.size, 0, none⟩) n (n + (x % 4).toNat)) ∧
      w'.ownsRow w.heap.size 3 1 (.slice (some ⟨w.heap.size, 0, none⟩) n (n + (x % 4).toNat)) n (ints (zs.take n)) ∧ Below w.heap.size w w' := by
  obtain ⟨i0, hi, hz0, hz1, hz2⟩ := info_parts info3
  have hx4 : 0 ≤ x % 4 ∧ x % 4 ≤ 3 := by omega
  obtain ⟨hzn, hfed⟩ := hfed
  go_enter Yba.func5, Yba.ntmps5
  go_wp2_with (at_make; refine wpList_make_room _ rfl _ _ 22 rfl w.heap.size 3 i0 (.int .i64 0) 1 Yba.underlying22 hi hz0 hz1 _ _ _ _ n (n + (x % 4).toNat) rfl rfl (by omega) (by omega) (by omega) (by rw [hz2]; omega) (by unfold maxLen; omega) (Nat.le_refl _) ?_)
  intro w1 hown hgrow hsz
  rw [pad_start] at hown
  have hb1 : Below w.heap.size w w1 := (Below.refl _ _).grown hgrow (Nat.le_refl _) (fun k h => by cases h)
  clear hgrow hi hz0 hz1 hz2 i0 hsz
  go_wp2
  go_loopw [7] (fun i wr => ∃ k : Nat, k ≤ n ∧ i = .int .i64 k ∧ wr.ownsRow w.heap.size 3 1 (.slice (some ⟨w.heap.size, 0, none⟩) n (n + (x % 4).toNat)) n (ints (zs.take k) ++ List.replicate (n - k) (Value.int .i64 0)) ∧ Below w.heap.size w wr)
    (fun i _ => n - (intOf i).toNat)
  case atStart => exact ⟨0, Nat.zero_le _, rfl, by simpa using hown, hb1⟩
  case round =>
    obtain ⟨k, hk, rfl, hownr, hbr⟩ := hrel
    by_cases hlt : k < n
    · rcases hfed with h0 | ⟨b, off, rfl, hbl, hcell⟩
      · omega
      · have hcx : wr.cell? ⟨b, off + k, none⟩ = some (.int .i64 (zs.getD k 0)) := (hbr.cell (by exact hbl)).trans (hcell k hlt)
        have hnf := hownr.frozenAt k
        obtain ⟨u, hcc⟩ : ∃ u, wr.cell? ⟨w.heap.size, k, none⟩ = some u := by
          rw [hownr.cellAt k (by omega)]
          exact ⟨_, List.getElem?_eq_getElem (by rw [hownr.1]; omega)⟩
        have hst := (hownr.stored k (.int .i64 (zs.getD k 0))).1
        rw [take_pad_set zs k n (n - k) hlt hzn rfl] at hst
        have HS : Hid _ := hst
        have HB : Hid _ := hbr
        clear hst hbr hownr
        go_wp2
        go_roundw
        case rel => exact ⟨k + 1, by omega, by go_num, HS.out, HB.out.setCell (Nat.le_refl _) _⟩
        case measure => simp [intOf]; omega
    · go_wp2
      go_ret
      have : k = n := by omega
      subst this
      exact ⟨rfl, by simpa using hownr, hbr⟩

theorem one_cell (u : Value) (w : World) (t : TypeId) : ∀ j v, ([u] : List Value)[j]? = some v → (w.alloc (.cells #[u] t)).cell? ((⟨w.heap.size, 0, none⟩ : Addr).add j) = some v := by
  intro j v hv
  match j, hv with
  | 0, hv => simp at hv; subst hv; simp [Addr.add]

/-- AppendRow where there is room. -/
theorem append_room (g n cap : Nat) (y : Int) (zs : List Int) (w : World) (base : Nat) (hlt : n < cap) (hcap : cap ≤ 2000) (hbase : base ≤ w.heap.size)
    (hown : w.ownsRow base 3 1 (.slice (some ⟨g, 0, none⟩) n cap) n (ints zs)) :
    Calls Yba.prog 6 #[.slice (some ⟨g, 0, none⟩) n cap, .int .i64 y] w fun e w' => e = .returned (.slice (some ⟨g, 0, none⟩) (n + 1) cap) ∧
      w'.ownsRow base 3 1 (.slice (some ⟨g, 0, none⟩) (n + 1) cap) (n + 1) (ints zs ++ [.int .i64 y]) ∧ Below base w w' := by
  obtain ⟨i0, hi, hz0, hz1, hz2⟩ := info_parts info3
  have hg := (hown.lt g rfl).1
  go_enter Yba.func6, Yba.ntmps6
  go_wp2_with (at_builtin; refine wpList_append_fits _ rfl _ _ 22 rfl base 3 i0 1 Yba.underlying22 hi hz1 g n cap (ints zs) rfl (hown.alloc _) ⟨w.heap.size, 0, none⟩ 1 1 [.int .i64 y] rfl rfl (one_cell _ _ _) (by simp [Value.oneCell']) hlt ?_)
  intro w1 hown1 hgrow1
  have hb1 : Below base w w1 := ((Below.refl _ _).alloc hbase _).grown hgrow1 (by simp; omega) (fun k h => by cases h; exact hg)
  clear hgrow1
  go_wp2
  go_ret
  exact ⟨rfl, hown1, hb1⟩

/-- AppendRow where the slice is full. -/
theorem append_full (g n : Nat) (y : Int) (zs : List Int) (w : World) (base : Nat) (hn : n ≤ 1024) (hbase : base ≤ w.heap.size)
    (hown : w.ownsRow base 3 1 (.slice (some ⟨g, 0, none⟩) n n) n (ints zs)) :
    Calls Yba.prog 6 #[.slice (some ⟨g, 0, none⟩) n n, .int .i64 y] w fun e w' => e = .returned (.slice (some ⟨w.heap.size, 0, none⟩) (n + 1) (2 * n + 1)) ∧
      w'.ownsRow w.heap.size 3 1 (.slice (some ⟨w.heap.size, 0, none⟩) (n + 1) (2 * n + 1)) (n + 1) (ints zs ++ [.int .i64 y]) ∧ Below w.heap.size w w' := by
  obtain ⟨i0, hi, hz0, hz1, hz2⟩ := info_parts info3
  have hg := hown.lt g rfl
  have hcells := hown.cells (g := g) rfl
  have hone : ∀ u ∈ ints zs, u.oneCell' = true := ints_oneCell _ _
  have hlen := hown.1
  go_enter Yba.func6, Yba.ntmps6
  go_wp2_with (first
    | (at_make; refine wpList_make_own _ rfl _ _ 22 rfl w.heap.size 3 i0 (.int .i64 0) 1 Yba.underlying22 hi hz0 hz1 _ _ _ (2 * n + 1) rfl rfl (by omega) (by rw [hz2]; omega) (by unfold maxLen; omega) (Nat.le_refl _) ?_; intro w1 hown1 hgrow1)
    | (at_builtin; refine wpList_append_fits _ rfl (.tmp 14) (.tmp 15) 22 rfl w.heap.size 3 i0 1 Yba.underlying22 hi hz1 w.heap.size 0 (2 * n + 1) [] rfl hown1 ⟨g, 0, none⟩ n n (ints zs) rfl hlen (fun j u hj => hgrow1.cell (hcells j u hj) (by simp)) hone (by omega) ?_; intro w2 hown2 hgrow2; simp only [Nat.zero_add, List.nil_append] at hown2)
    | (at_builtin; refine wpList_append_fits _ rfl (.tmp 17) (.tmp 19) 22 rfl w.heap.size 3 i0 1 Yba.underlying22 hi hz1 w.heap.size n (2 * n + 1) (ints zs) rfl (hown2.alloc _) ⟨w2.heap.size, 0, none⟩ 1 1 [.int .i64 y] rfl rfl (one_cell _ _ _) (by simp [Value.oneCell']) (by omega) ?_; intro w3 hown3 hgrow3))
  go_ret
  have hs1 := hgrow1.size
  have hs2 := hgrow2.size
  have hb1 : Below w.heap.size w w1 := (Below.refl _ _).grown hgrow1 (Nat.le_refl _) (fun k h => by cases h)
  have hb2 : Below w.heap.size w w2 := hb1.grown hgrow2 hs1 (fun k h => by cases h; exact Nat.le_refl _)
  exact ⟨rfl, hown3, (hb2.alloc (by omega) _).grown hgrow3 (by simp; omega) (fun k h => by cases h; exact Nat.le_refl _)⟩

theorem fed_of_row {w : World} {a : Option Addr} {len cap : Nat} {zs : List Int} (h : IsRow .i64 w a len cap zs) : Fed w a len zs := by
  rcases h with ⟨rfl, rfl, rfl, rfl⟩ | ⟨x, rfl, hl, hm, hz, hc, hw⟩
  · exact ⟨Nat.le_refl _, .inl rfl⟩
  · refine ⟨by omega, ?_⟩
    by_cases h0 : len = 0
    · exact .inl h0
    · obtain ⟨b, off, spot⟩ := x
      have h1 := hc 0 (by omega)
      have hspot : spot = none := by simpa [Addr.add] using World.cell?_spot h1
      subst hspot
      have hc' : ∀ i, i < zs.length → w.cell? ⟨b, off + i, none⟩ = some (.int .i64 (zs.getD i 0)) := fun i hi => by rw [← add_plain]; exact hc i hi
      exact .inr ⟨b, off, rfl, World.block_lt_of_cell? w _ (hc' 0 (by omega)), fun i hi => hc' i (by omega)⟩

/-- AppendRow, room or no room: the result's cells, and the old slice's. -/
theorem append_cells (g n cap : Nat) (y : Int) (zs : List Int) (w : World) (base : Nat) (hle : n ≤ cap) (hcap : cap ≤ 1027) (hn : n ≤ 1024) (hbase : base ≤ w.heap.size)
    (hown : w.ownsRow base 3 1 (.slice (some ⟨g, 0, none⟩) n cap) n (ints zs)) :
    Calls Yba.prog 6 #[.slice (some ⟨g, 0, none⟩) n cap, .int .i64 y] w fun e w' => ∃ g' c', e = .returned (.slice (some ⟨g', 0, none⟩) (n + 1) c') ∧
      (∀ j, j < n → w'.cell? ⟨g', j, none⟩ = some (.int .i64 (zs.getD j 0))) ∧ w'.cell? ⟨g', n, none⟩ = some (.int .i64 y) ∧ (∀ j, j < n → w'.cell? ⟨g, j, none⟩ = some (.int .i64 (zs.getD j 0))) ∧ Below base w w' := by
  have hl : zs.length = n := by simpa [ints] using hown.1
  have at1 : ∀ j, j < n → (ints zs ++ [.int .i64 y])[j]? = some (.int .i64 (zs.getD j 0)) := by
    intro j hj
    rw [List.getElem?_append_left (by simp [ints]; omega)]
    simp [ints, List.getD, show j < zs.length by omega]
  have at2 : (ints zs ++ [.int .i64 y])[n]? = some (.int .i64 y) := by
    rw [List.getElem?_append_right (by simp [ints]; omega)]
    simp [ints, hl]
  have at3 : ∀ j, j < n → (ints zs)[j]? = some (.int .i64 (zs.getD j 0)) := by
    intro j hj
    simp [ints, List.getD, show j < zs.length by omega]
  by_cases hlt : n < cap
  · refine (append_room g n cap y zs w base hlt (by omega) hbase hown).mono ?_
    rintro e w' ⟨rfl, ho, hb⟩
    refine ⟨g, cap, rfl, fun j hj => ?_, ?_, fun j hj => ?_, hb⟩
    · rw [ho.cellAt j (by omega), at1 j hj]
    · rw [ho.cellAt n (by omega), at2]
    · rw [ho.cellAt j (by omega), at1 j hj]
  · have e : cap = n := by omega
    subst e
    refine (append_full g cap y zs w base hn hbase hown).mono ?_
    rintro e w' ⟨rfl, ho, hb⟩
    refine ⟨w.heap.size, _, rfl, fun j hj => ?_, ?_, fun j hj => ?_, hb.mono hbase⟩
    · rw [ho.cellAt j (by omega), at1 j hj]
    · rw [ho.cellAt cap (by omega), at2]
    · rw [hb.cell (by exact (hown.lt g rfl).2), hown.cellAt j (by omega), at3 j hj]

end Go.Proofs.Ybulkcig.csv
