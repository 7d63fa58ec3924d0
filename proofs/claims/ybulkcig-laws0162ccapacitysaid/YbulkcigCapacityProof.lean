/-
  The proof of 'Rows.LawS0162CCapacitySaid': the frame by the kit's tool, the walk by hand over the contracts of YbulkcigBuild.
-/
import Derived.Test.YbulkcigRows
import Derived.WalkKit
import Derived.ProofKit
import Derived.OpenShut
import Derived.ShutString
import Derived.ChangeOld
import Derived.Below
import Derived.Test.YbulkcigBuild
import Derived.WalkSmall
import Derived.LaidEqlPtr
namespace Go.Proofs.Ybulkcig.lawS0162CCapacity
open Go.ChangeShapes Go.WideShapes Go.ChangeAt Go.RowKit
open Go.Proofs.Ybulkcig.csv
open Go.ChangeMaps (open_string shut_string)
set_option linter.unusedVariables false

theorem own : ownKnob Yba.prog.godebug = none := by kernel_rfl
theorem laidOut : laidOutB Yba.prog = true := by kernel_rfl

/-- Two addresses in two blocks of cells of the call's own are two. -/
theorem eql_other (w : World) {a b : Nat} {base base' n n' c c' : Nat} {xs ys : List Value} (hne : a ≠ b) (ha : w.ownsRow base 3 1 (.slice (some ⟨a, 0, none⟩) n c) n xs) (hb : w.ownsRow base' 3 1 (.slice (some ⟨b, 0, none⟩) n' c') n' ys) (nq : Nat) :
    (binOp .eql 26 (.pointer (some ⟨a, 0, none⟩)) (.pointer (some ⟨b, 0, none⟩))).run Yba.prog (w.drewN nq) = .ok (.bool false) (w.drewN nq) := by
  obtain ⟨i0, hi, hz0, hz1, hz2⟩ := info_parts info3
  rcases ha.2 with ⟨h, _⟩ | ⟨g, k, cur, h, _, hg, _⟩
  · cases h
  rcases hb.2 with ⟨h', _⟩ | ⟨g', k', cur', h', _, hg', _⟩
  · cases h'
  simp only [Value.slice.injEq, Option.some.injEq, Addr.mk.injEq, and_true, true_and] at h h'
  obtain ⟨rfl, rfl⟩ := h
  obtain ⟨rfl, rfl⟩ := h'
  exact run_eql_ptr_other (w.drewN nq) Yba.underlying26 hi (by omega) (fun e => hne (congrArg Addr.block e)) hg hg'

/-- One address is itself. -/
theorem neq_same (w : World) (a : Addr) : (binOp .neq 26 (.pointer (some a)) (.pointer (some a))).run Yba.prog w = .ok (.bool false) w := by
  obtain ⟨i0, hi, hz0, hz1, hz2⟩ := info_parts info3
  have h : ∀ d : Nat, (Op.equalIn (d + 1) 26 (.pointer (some a)) (.pointer (some a))).run Yba.prog w = .ok true w := fun d => by
    simp [Op.equalIn, run_underlying Yba.underlying26, sizeOf, typeInfo, hi, run_sameAddr_same]
  simp only [binOp]
  simp [Op.equal, Op.maxDepth, h 9999]

/-! ### STEP 1: THE WALK: the Go text returns true, AND WRITES NOTHING THAT WAS THERE: 'Below w.heap.size w w'' (Derived/Below.lean: '.refl', '.alloc', '.drew', '.setCell' at a new block, '.trans'). Open each 'IsRow' by 'rcases' AHEAD of 'go_enter'; part every test ahead of the walk. -/
set_option maxHeartbeats 400000 in
theorem walk (a0 : Option Addr) (len0 cap0 : Nat) (z0 : List Int) (a1 : Int) (a2 : Int) (w : World) (w0 : IsRow .i64 w a0 len0 cap0 z0) (w1 : (Lit.int .u8 a1).wf = true) (w2 : (Lit.int .i64 a2).wf = true) :
    Calls Yba.prog 4 #[.slice a0 len0 cap0, .int .u8 a1, .int .i64 a2] w fun e w' => e = .returned (.bool true) ∧ Below w.heap.size w w' := by
  have hfed := fed_of_row w0
  obtain ⟨hx0, hx1⟩ := bounds_u8 w1
  have hlm : len0 ≤ 9223372036854775807 := by
    rcases w0 with ⟨_, rfl, _⟩ | ⟨x, _, hl, hm, _⟩
    · omega
    · unfold maxLen at hm; omega
  clear w0 w1 w2
  by_cases hbig : 1024 < len0
  · clear hfed
    go_enter Yba.func4, Yba.ntmps4
    go_wp2
    go_ret
    exact ⟨rfl, Below.refl _ _⟩
  · have hn : len0 ≤ 1024 := by omega
    have hx4 : 0 ≤ a1 % 4 ∧ a1 % 4 ≤ 3 := by omega
    by_cases hfull : a1 % 4 = 0
    · have e4 : len0 + (a1 % 4).toNat = len0 := by omega
      have hbuild := build_any a0 len0 cap0 a1 z0 w hn hx0 hx1 hfed
      rw [e4] at hbuild
      have HF : Hid _ := hfull
      have hf1 : a1 % 4 ≤ 0 := by omega
      clear e4 hfull hfed
      go_enter Yba.func4, Yba.ntmps4
      go_wp2_with fail
      refine hbuild.mono ?_
      rintro e w1 ⟨rfl, hown1, hb1⟩
      have hs1 := hb1.size
      have hlt1 := (hown1.lt w.heap.size rfl).2
      clear hbuild
      go_wp2_with fail
      refine (append_full w.heap.size len0 a2 (z0.take len0) w1 w.heap.size hn hs1 hown1).mono ?_
      rintro e w2 ⟨rfl, hown2, hb2⟩
      have hb := hb1.trans (hb2.mono hs1)
      have hown1' : w2.ownsRow w.heap.size 3 1 (.slice (some ⟨w.heap.size, 0, none⟩) len0 len0) len0 (ints (z0.take len0)) :=
        hown1.kept (row := Option.none) ⟨hb2.os, hb2.tape, hb2.output, hb2.size, fun k hk _ => hb2.block k hk⟩ (.inr (by simp [Value.ownBlock]))
      have hne := eql_other w2 (by omega) hown2 hown1'
      clear hown1 hown1' hown2 hb1 hb2
      by_cases h0 : 0 < len0
      · have hi0 : (0 : Int) < (len0 : Int) := by omega
        go_wp2
        go_quiet (fail)
        go_wp2
        go_ret
        exact ⟨rfl, below_drewN hb _⟩
      · have hd : decide ((0 : Int) < (len0 : Int)) = false := decide_eq_false (by omega)
        go_wp2
        go_quiet (fail)
        go_wp2
        go_ret
        exact ⟨rfl, below_drewN hb _⟩
    · have hf1 : 1 ≤ a1 % 4 := by omega
      clear hfull
      go_enter Yba.func4, Yba.ntmps4
      go_wp2_with fail
      refine (build_any a0 len0 cap0 a1 z0 w hn hx0 hx1 hfed).mono ?_
      rintro e w1 ⟨rfl, hown1, hb1⟩
      have hs1 := hb1.size
      have hlt1 := (hown1.lt w.heap.size rfl).2
      clear hfed
      go_wp2_with fail
      refine (append_room w.heap.size len0 (len0 + (a1 % 4).toNat) a2 (z0.take len0) w1 w.heap.size (by omega) (by omega) hs1 hown1).mono ?_
      rintro e w2 ⟨rfl, hown2, hb2⟩
      have hb := hb1.trans hb2
      have hne : ∀ nq, (binOp .neq 26 (.pointer (some ⟨w.heap.size, 0, none⟩)) (.pointer (some ⟨w.heap.size, 0, none⟩))).run Yba.prog (w2.drewN nq) = .ok (.bool false) (w2.drewN nq) := fun nq => neq_same _ _
      clear hown1 hown2 hb1 hb2
      by_cases h0 : 0 < len0
      · have hi0 : (0 : Int) < (len0 : Int) := by omega
        go_wp2
        go_quiet (fail)
        go_wp2
        go_ret
        exact ⟨rfl, below_drewN hb _⟩
      · have hd : decide ((0 : Int) < (len0 : Int)) = false := decide_eq_false (by omega)
        go_wp2
        go_quiet (fail)
        go_wp2
        go_ret
        exact ⟨rfl, below_drewN hb _⟩

/-! ### THE ROW's STEP: WRITTEN OUT: LEAVE IT -/
set_option maxRecDepth 100000 in
theorem lifted (os : Os) (started : os.Started) (H : Type) (enc : TypeId × Value → H) :
    ReturnsInHanded {} Yba.checked os 4 .any (Rows.lawS0162CCapacitySpec.pre6 enc Yba.prog Yba.f4 Rows.lawS0162CCapacityRow.domain false) (Rows.lawS0162CCapacitySpec.post enc Yba.prog Yba.f4 false true false false) := by
  refine returnsInHanded_of_change (C := Yba.checked) own started (by kernel_rfl) Yba.func4
    (ChangeSpec.witness6 (enc := enc) (C := Yba.checked) false ⟨#[], #[.slice none 0 0, .int .u8 0, .int .i64 0], []⟩ 8 (by kernel_rfl) (by kernel_rfl) (by kernel_rfl) (by kernel_rfl)) ?_
  intro W base args ds gs before hval0 hW hcnd _
  have hval : ∀ (j : Nat) t v, Yba.f4.params[j]? = some t → args[j]? = some v → Value.okWide Yba.prog W .any base t v := hval0
  have hW' := hW
  obtain ⟨p, q, hA0, hV, rfl, hfz, hnd⟩ := hW
  have hA : DataW.TrodAll enc Yba.prog W 0 (fun _ => true) true Yba.f4.params.toList args.toList ds p := hA0
  rw [Yba.params4] at hA hval
  obtain ⟨v0, vs0, d0, ds0, p0, q0, hargs, rfl, rfl, h0, r0⟩ := trodAll_cons hA
  obtain ⟨v1, vs1, d1, ds1, p1, q1, rfl, rfl, rfl, h1, r1⟩ := trodAll_cons r0
  obtain ⟨v2, vs2, d2, ds2, p2, q2, rfl, rfl, rfl, h2, r2⟩ := trodAll_cons r1
  obtain ⟨rfl, rfl, rfl⟩ := trodAll_nil r2
  obtain rfl : args = #[v0, v1, v2] := by cases args; simp_all
  obtain ⟨rfl, rfl⟩ := trodVars_none hV
  obtain ⟨a0, len0, cap0, rfl⟩ := okWide_slice Yba.underlying22 (hval 0 22 v0 rfl rfl)
  have k0 := h0
  have lt0 : ∀ x ∈ p0, x.block < W.heap.size := by obtain ⟨m, hm⟩ := k0; exact DataW.trod_lt m _ _ _ hm
  obtain ⟨z0, w0⟩ : ∃ zs, IsRow .i64 W a0 len0 cap0 zs := by
    obtain ⟨fuel, hf⟩ := h0
    rcases open_ints Yba.underlying22 Yba.underlying3 (by kernel_rfl) hf with ⟨hcs, _⟩ | ⟨x, l, c, zs, hcs, _, hl, hm, hz, _, hcell, hwz⟩
    · simp [Value.cells] at hcs
      obtain ⟨rfl, rfl, rfl⟩ := hcs
      exact ⟨[], .inl ⟨rfl, rfl, rfl, rfl⟩⟩
    · simp [Value.cells] at hcs
      obtain ⟨rfl, rfl, rfl⟩ := hcs
      exact ⟨zs, .inr ⟨_, rfl, hl, hm, by simpa using hz, hcell, hwz⟩⟩
  obtain ⟨a1, rfl, rfl, rfl, w1⟩ := open_int Yba.underlying5 (hval 1 5 v1 rfl rfl) h1
  obtain ⟨a2, rfl, rfl, rfl, w2⟩ := open_int Yba.underlying3 (hval 2 3 v2 rfl rfl) h2
  clear hA0 hval0
  refine (walk a0 len0 cap0 z0 a1 a2 W w0 w1 w2).mono fun e W' ⟨he, bel⟩ => ?_
  subst he
  exact ⟨_, rfl, _, _, _, [], _, [], hW', trodAll_mk1 (shut_bool Yba.underlying4 _), (trodAll_cons_mk (Below.trod laidOut (by kernel_rfl) (of_decide_eq_true (by kernel_rfl)) k0 bel lt0) (trodAll_cons_mk (shut_int Yba.underlying5 w1) (trodAll_cons_mk (shut_int Yba.underlying3 w2) trodAll_mk0))), rfl, bel.frame _, fun h => by cases h⟩

theorem over : Rows.lawS0162CCapacityRow.holds Yba.pinned (OpenSpec.ofChange Rows.lawS0162CCapacitySpec) :=
  OpenClaim.holds_of_wide 4 Yba.f4 rfl rfl rfl rfl rfl rfl rfl ⟨rfl, rfl, rfl, rfl, rfl⟩ rfl rfl rfl rfl rfl (by kernel_rfl) Yba.func4 (by kernel_rfl)
    (of_decide_eq_true (by kernel_rfl)) (by unfold Func.isWrapper; first | (rw [if_pos (by decide +kernel)]; kernel_rfl) | (rw [if_neg (by decide +kernel)]; exact ⟨rfl, rfl⟩))
    (fun os started H enc _ => lifted os started H enc)

/-- ████ THE STATEMENT ████ -/
theorem proved : Rows.LawS0162CCapacitySaid := over
#print axioms proved
end Go.Proofs.Ybulkcig.lawS0162CCapacity
