/-
  THE MAP of LawS0165BAgreeOnNone, as far as the key "" goes.
-/
import Derived.Test.YbulkcjwParts
import Derived.StringKeys
namespace Go.Proofs.Ybulkcjw.sim
open Go.RowKit Go.Maps Go.WideMaps
set_option linter.unusedVariables false
set_option linter.unusedSimpArgs false

theorem law : Keyed Yba.prog 9 := string_keyed Yba.underlying9
theorem zero3 (w : World) : (zeroValue 3).run Yba.prog w = .ok (.int .i64 0) w := by kernel_rfl

def kE : Lit := .string []
theorem kE_key : WideAt.IsKeyLit kE := trivial

/-- The map reads at "" as o says. -/
def MapIs (D : DataW Unit) (o : Option Nat) : Prop :=
  IsMap D ∧ Maps.has D kE = o.isSome ∧ ∀ z, D.atKey kE z = (match o with | none => z | some q => .lit (.int .i64 (q : Int)))

theorem mapIs_start : MapIs (.map []) none := ⟨isMap_empty, rfl, fun z => rfl⟩
theorem mapIs_put_e {D : DataW Unit} {o : Option Nat} (h : MapIs D o) (q : Nat) : MapIs (D.put kE (.lit (.int .i64 (q : Int)))) (some q) :=
  ⟨h.1.put _ _, has_put_same h.1 kE_key _, fun z => atKey_put_same h.1 kE_key _ z⟩
theorem mapIs_put_o {D : DataW Unit} {o : Option Nat} (h : MapIs D o) {kl : Lit} (hne : kl ≠ kE) (d : DataW Unit) : MapIs (D.put kl d) o :=
  ⟨h.1.put _ _, by rw [has_put_other (Ne.symm hne)]; exact h.2.1, fun z => by rw [atKey_put_other (Ne.symm hne)]; exact h.2.2 z⟩

theorem key_e (s : ByteArray) : s.data.toList = [] ↔ isE s = true := by
  unfold isE
  rw [decide_eq_true_iff]
  have e : s.data.toList.length = s.size := by rw [Array.length_toList]; rfl
  constructor
  · intro h; rw [h] at e; simpa using e.symm
  · intro h; exact List.eq_nil_of_length_eq_zero (by omega)

theorem mapIs_step {D : DataW Unit} {ss : List ByteArray} {k : Nat} (h : MapIs D (lastE ss k)) : MapIs (D.put (.string (st ss k).data.toList) (.lit (.int .i64 (k : Int)))) (lastE ss (k + 1)) := by
  by_cases he : isE (st ss k) = true
  · rw [(key_e _).2 he]
    have e : lastE ss (k + 1) = some k := by simp [lastE, he]
    rw [e]
    exact mapIs_put_e h k
  · have e : lastE ss (k + 1) = lastE ss k := by simp [lastE, he]
    rw [e]
    refine mapIs_put_o h (fun h2 => he ((key_e _).1 ?_)) _
    simpa [kE] using h2

theorem look_e {w : World} {bm n : Nat} {D : DataW Unit} {o : Option Nat} (h : w.ownsMap Yba.prog 9 (plainElem (H := Unit) Yba.prog 3) bm n D) (hD : MapIs D o) :
    (Instr.lookup 68 (.map (some bm)) (.string ⟨#[]⟩) true).run Yba.prog w = .ok (.tuple #[.int .i64 ((o.getD 0 : Nat) : Int), .bool o.isSome]) w := by
  obtain ⟨v, ps, hrun, hv⟩ := h.look_ok law Yba.underlying68 (zero3 w) (plainElem_int Yba.underlying3 (by decide)) (keyOf_string_mk Yba.underlying9 (s := ⟨#[]⟩) (by simp [ByteArray.size]))
  have hk : (Lit.string (ByteArray.mk #[]).data.toList) = kE := rfl
  rw [hk] at hrun hv
  rw [hrun, hD.2.1]
  obtain ⟨a, rfl, hz, _⟩ := plainElem_int_inv Yba.underlying3 hv
  rw [hD.2.2] at hz
  cases o with
  | none => simp at hz; simp [hz.1]
  | some q => simp at hz; simp [hz.1]

/-- What the map holds at "" in the end. -/
def finO (ss : List ByteArray) (m : Nat) (put : Bool) (x : Int) : Option Nat := if put = true ∧ 0 < m then some (x % m).toNat else lastE ss m

theorem fin_L (ss : List ByteArray) (m : Nat) (put : Bool) (x : Int) (hx : 0 ≤ x) : (((finO ss m put x).getD 0 : Nat) : Int) = expL ss m put x := by
  unfold finO expL
  by_cases h : put = true ∧ 0 < m
  · rw [if_pos h, if_pos h]
    obtain ⟨q, hq, _⟩ := emod_cast x m hx h.2
    simp
    omega
  · rw [if_neg h, if_neg h]
    rfl

theorem fin_yes (ss : List ByteArray) (m : Nat) (put : Bool) (x : Int) (hx : 0 ≤ x) (h : (finO ss m put x).isSome = true) : ∃ q, finO ss m put x = some q ∧ q < m ∧ expB ss m put x = isE (st ss q) := by
  unfold finO expB at *
  by_cases hp : put = true ∧ 0 < m
  · rw [if_pos hp] at *
    obtain ⟨q, hq, hqm⟩ := emod_cast x m hx hp.2
    exact ⟨_, rfl, by omega, by rw [if_pos hp]⟩
  · rw [if_neg hp] at *
    obtain ⟨q, hq⟩ := Option.isSome_iff_exists.1 h
    have := lastE_lt ss m q hq
    refine ⟨q, hq, this.1, ?_⟩
    rw [if_neg hp, this.2]
    exact h

theorem fin_no (ss : List ByteArray) (m : Nat) (put : Bool) (x : Int) (h : (finO ss m put x).isSome = false) : expB ss m put x = false := by
  unfold finO expB at *
  by_cases hp : put = true ∧ 0 < m
  · rw [if_pos hp] at h
    cases h
  · rw [if_neg hp] at *
    exact h

theorem below_grown {w w' : World} (h : Below w.heap.size w w') : w.grownBy w' Option.none := ⟨h.os, h.tape, h.output, h.size, fun k hk _ => h.block k hk⟩

/-- The call of leader, where the law makes it. -/
theorem leader_at {w4 w6 wc : World} {R k m cnt : Nat} {put : Bool} {x : Int} {ss : List ByteArray} {D : DataW Unit} {Z : Array Value} (hk : k ≤ 1024) (hx : 0 ≤ x)
    (HV4 : ∀ j, j < k + 1 → ∃ v, w4.cell? ⟨R, j, none⟩ = some v ∧ NodeOk w4 R v) (HL4 : ∃ v, w4.cell? ⟨R, (k + 1) - 1, none⟩ = some v ∧ UpOk w4 v)
    (HB6 : Below w4.heap.size w4 w6) (hcb : w4.heap.size < w6.heap.size) (HC6 : ∀ j, j < m → w6.cell? ⟨w4.heap.size, j, none⟩ = some (.string (st ss j)))
    (hmap : wc.ownsMap Yba.prog 9 (plainElem (H := Unit) Yba.prog 3) w6.heap.size cnt D) (hD : MapIs D (finO ss m put x)) (hb : Below w6.heap.size w6 wc)
    (h18 : Z[18]? = some (.slice (some ⟨w4.heap.size, 0, none⟩) m m)) (h20 : Z[20]? = some (.slice (some ⟨R, 0, none⟩) (k + 1) (k + 1))) (h21 : Z[21]? = some (.map (some w6.heap.size))) :
    Calls Yba.prog 4 #[.pointer (some ⟨wc.heap.size, 0, none⟩)] (wc.alloc (.cells Z 91)) fun e w' => e = .returned (.tuple #[.int .i64 (expL ss m put x), .bool (expB ss m put x)]) ∧ Below (wc.heap.size + 1) (wc.alloc (.cells Z 91)) w' := by
  have hb6 : Below w6.heap.size w6 (wc.alloc (.cells Z 91)) := hb.alloc hb.size _
  have hb4 : Below w4.heap.size w4 (wc.alloc (.cells Z 91)) := HB6.trans (hb6.mono (Nat.le_of_lt hcb))
  have e : (wc.alloc (.cells Z 91)).heap.size = wc.heap.size + 1 := by simp
  have h := leader4 wc.heap.size R (k + 1) (k + 1) m w4.heap.size w6.heap.size (((finO ss m put x).getD 0 : Nat) : Int) (finO ss m put x).isSome (expB ss m put x) (wc.alloc (.cells Z 91)) (by omega) (by omega)
    ((cell_new wc Z 91 20).trans h20)
    (fun j hj => by
      obtain ⟨v, hc, hv⟩ := HV4 j hj
      exact ⟨v, (hb4.cell (by exact cell_lt hc)).trans hc, hv.below hb4⟩)
    (by
      obtain ⟨v, hc, hv⟩ := HL4
      exact ⟨v, (hb4.cell (by exact cell_lt hc)).trans hc, hv.below hb4⟩)
    ((cell_new wc Z 91 18).trans h18) ((cell_new wc Z 91 21).trans h21)
    (fun w' hb' nq => look_e (w := w'.drewN nq) ((hmap.alloc _).kept (below_grown (below_drewN hb' nq)) (by simp)) hD)
    (fun h => by
      obtain ⟨q, hq, hqm, he⟩ := fin_yes ss m put x hx h
      rw [hq]
      refine ⟨st ss q, by simp, by simpa using hqm, ?_, he⟩
      simp only [Option.getD_some, Int.toNat_natCast]
      exact (hb6.cell (by exact hcb)).trans (HC6 q hqm))
    (fun h => fin_no ss m put x h)
  rw [fin_L ss m put x hx, e] at h
  exact h

end Go.Proofs.Ybulkcjw.sim
