/-
  THE CONTRACTS of (*Node).leads (8), (*Node).Leader (7): of a node that knows no leader; of (*sim).up (6).
-/
import Derived.Test.YbulkcjwRows
import Derived.WalkKit
import Derived.WalkSmall
import Derived.Deep.QuietTactic
import Derived.BigQuiet
import Derived.Maps.OwnSet
namespace Go.Proofs.Ybulkcjw.sim
open Go.RowKit
set_option linter.unusedVariables false
set_option linter.unusedSimpArgs false

/-- Block h is a fresh paxos.Node, as far as Leader reads it. -/
def Idle (w : World) (h : Nat) : Prop := w.cell? ⟨h, 10, none⟩ = some (.bool false) ∧ w.cell? ⟨h, 74, none⟩ = some (.string ⟨#[]⟩)

theorem leads8 (h : Nat) (w : World) (hd : w.cell? ⟨h, 10, none⟩ = some (.bool false)) :
    Calls Yba.prog 8 #[.pointer (some ⟨h, 0, none⟩)] w fun e w' => e = .returned (.bool false) ∧ w' = w := by
  go_enter Yba.func8, Yba.ntmps8
  go_wp2
  go_ret
  exact ⟨rfl, rfl⟩

theorem leader7 (h : Nat) (w : World) (hi : Idle w h) :
    Calls Yba.prog 7 #[.pointer (some ⟨h, 0, none⟩)] w fun e w' => e = .returned (.string ⟨#[]⟩) ∧ w' = w := by
  obtain ⟨hd, hl⟩ := hi
  go_enter Yba.func7, Yba.ntmps7
  go_wp2_with (go_at_call 8; refine (leads8 h _ hd).mono ?_; rintro e w' ⟨rfl, rfl⟩)
  go_ret
  exact ⟨rfl, rfl⟩

/-- v leads to a node: one that is down, or one that is up and idle; it lies in no block R. -/
def NodeOk (w : World) (R : Nat) (v : Value) : Prop :=
  ∃ g, v = .pointer (some ⟨g, 0, none⟩) ∧ g ≠ R ∧ (w.cell? ⟨g, 15, none⟩ = some (.pointer none) ∨ ∃ h, w.cell? ⟨g, 15, none⟩ = some (.pointer (some ⟨h, 0, none⟩)) ∧ h ≠ R ∧ Idle w h)
/-- .. one that is up. -/
def UpOk (w : World) (v : Value) : Prop :=
  ∃ g h, v = .pointer (some ⟨g, 0, none⟩) ∧ w.cell? ⟨g, 15, none⟩ = some (.pointer (some ⟨h, 0, none⟩)) ∧ Idle w h

theorem cell_lt {w : World} {b o : Nat} {v : Value} (h : w.cell? ⟨b, o, none⟩ = some v) : b < w.heap.size := World.block_lt_of_cell? w ⟨b, o, none⟩ h

theorem Idle.grown {w w' : World} {h : Nat} {row : Option Nat} (hi : Idle w h) (hg : w.grownBy w' row) (hne : some h ≠ row) : Idle w' h :=
  ⟨hg.cell hi.1 hne, hg.cell hi.2 hne⟩
theorem NodeOk.grown {w w' : World} {R : Nat} {v : Value} (hv : NodeOk w R v) (hg : w.grownBy w' (some R)) : NodeOk w' R v := by
  obtain ⟨g, rfl, hgR, h⟩ := hv
  refine ⟨g, rfl, hgR, ?_⟩
  rcases h with h | ⟨h, hc, hhR, hi⟩
  · exact .inl (hg.cell h (by simpa using hgR))
  · exact .inr ⟨h, hg.cell hc (by simpa using hgR), hhR, hi.grown hg (by simpa using hhR)⟩
theorem UpOk.below {w w' : World} {v : Value} (hv : UpOk w v) (hb : Below w.heap.size w w') : UpOk w' v := by
  obtain ⟨g, h, rfl, hc, hi⟩ := hv
  exact ⟨g, h, rfl, (hb.cell (by exact cell_lt hc)).trans hc, (hb.cell (by exact cell_lt hi.1)).trans hi.1, (hb.cell (by exact cell_lt hi.2)).trans hi.2⟩

def nats (is : List Nat) : List Value := is.map (fun (i : Nat) => Value.int .i64 (i : Int))

theorem info3 : (Yba.prog.info? 3).map (fun i => (i.zero, i.size, i.bytes)) = some (some (.int .i64 0), 1, 8) := by kernel_rfl

theorem one_cell (u : Value) (w : World) (t : TypeId) : ∀ j v, ([u] : List Value)[j]? = some v → (w.alloc (.cells #[u] t)).cell? ((⟨w.heap.size, 0, none⟩ : Addr).add j) = some v := by
  intro j v hv
  match j, hv with
  | 0, hv => simp at hv; subst hv; simp [Addr.add]

set_option maxHeartbeats 1000000 in
theorem up6 (sb R N c : Nat) (w : World) (hN : N ≤ 1025) (hN0 : 1 ≤ N) (hs : w.cell? ⟨sb, 20, none⟩ = some (.slice (some ⟨R, 0, none⟩) N c))
    (hv : ∀ j, j < N → ∃ v, w.cell? ⟨R, j, none⟩ = some v ∧ NodeOk w R v) (hlast : ∃ v, w.cell? ⟨R, N - 1, none⟩ = some v ∧ UpOk w v) :
    Calls Yba.prog 6 #[.pointer (some ⟨sb, 0, none⟩)] w fun e w' => ∃ (g m c : Nat) (is : List Nat), e = .returned (.slice (some ⟨g, 0, none⟩) m c) ∧ 1 ≤ m ∧ m ≤ 1025 ∧
      w'.ownsRow w.heap.size 3 1 (.slice (some ⟨g, 0, none⟩) m c) m (nats is) ∧ (∀ i ∈ is, i < N ∧ ∃ v, w.cell? ⟨R, i, none⟩ = some v ∧ UpOk w v) ∧ Below w.heap.size w w' := by
  obtain ⟨i0, hi, hz0, hz1, hz2⟩ := info_parts info3
  go_enter Yba.func6, Yba.ntmps6
  go_wp2
  go_loopw [3, 11] (fun t i wr => ∃ (k : Nat) (is : List Nat), k ≤ N ∧ i = .int .i64 k ∧ wr.ownsRow w.heap.size 3 1 t is.length (nats is) ∧ is.length ≤ k ∧ (k = N → 1 ≤ is.length) ∧ (∀ i ∈ is, i < N ∧ ∃ v, w.cell? ⟨R, i, none⟩ = some v ∧ UpOk w v) ∧ Below w.heap.size w wr) (fun _ i _ => N - (intOf i).toNat)
  case atStart => exact ⟨0, [], Nat.zero_le _, rfl, World.ownsRow_nil _ _ _ _, Nat.le_refl _, fun h => by omega, fun i h => absurd h (by simp), Below.refl _ _⟩
  case round =>
    obtain ⟨k, is, hk, rfl, hown, hlen, hend, hall, hb⟩ := hrel
    by_cases hlt : k < N
    · obtain ⟨v, hc, g, rfl, hgR, hg⟩ := hv k hlt
      have hc' := (hb.cell (by exact cell_lt hc)).trans hc
      have HB : Hid _ := hb
      rcases hg with hg | ⟨h, hg, hhR, hidle⟩
      · have hg' := (hb.cell (by exact cell_lt hg)).trans hg
        have HL : Hid (k + 1 = N → 1 ≤ is.length) := by
          intro e
          exfalso
          obtain ⟨v2, h2, g2, h3, rfl, h4, _⟩ := hlast
          have e2 : N - 1 = k := by omega
          rw [e2, hc] at h2
          simp at h2
          subst h2
          rw [hg] at h4
          simp at h4
        clear hb hlast hs hv hc hg hend
        go_wp2
        go_roundw
        case rel => exact ⟨k + 1, is, by omega, by go_num, hown, by omega, HL.out, hall, HB.out⟩
        case measure => simp [intOf]; omega
      · have hg' := (hb.cell (by exact cell_lt hg)).trans hg
        have HA : Hid (∀ i ∈ is ++ [k], i < N ∧ ∃ v, w.cell? ⟨R, i, none⟩ = some v ∧ UpOk w v) := by
          intro i hi
          rcases List.mem_append.1 hi with hi | hi
          · exact hall i hi
          · simp at hi
            subst hi
            exact ⟨hlt, _, hc, g, h, rfl, hg, hidle⟩
        have hsz := hb.size
        have hlen5 : is.length ≤ 1025 := by omega
        have HR : Hid _ := @hown
        clear hb hlast hs hv hc hg hend hall hidle
        go_wp2_with (at_builtin; refine wpList_append_own _ rfl _ _ 88 rfl w.heap.size 3 i0 (.int .i64 0) 1 8 Yba.underlying88 hi hz0 hz1 hz2 rfl (by decide) _ _ _ rfl (hown.alloc _) ⟨wr.heap.size, 0, none⟩ 1 1 [.int .i64 (k : Int)] rfl rfl (one_cell _ _ _) (by simp [Value.oneCell']) (by unfold maxLen; omega) (by omega) (by simp; omega) ?_)
        intro v' w1 hown1 hgrow1 _
        have hlt2 := hown.lt
        have HB1 : Hid (Below w.heap.size w w1) := (HB.out.alloc hsz _).grown hgrow1 (by simp; omega) (fun j hj => (hlt2 j hj).1)
        have HO1 : Hid (w1.ownsRow w.heap.size 3 1 v' (is ++ [k]).length (nats (is ++ [k]))) := by
          have e : nats (is ++ [k]) = nats is ++ [.int .i64 (k : Int)] := by simp [nats]
          rw [e, List.length_append]
          exact hown1
        clear hown1 hgrow1 hown hlt2 HR
        go_wp2
        go_roundw
        case rel => exact ⟨k + 1, is ++ [k], by omega, by go_num, HO1.out, by simp; omega, fun _ => by simp, HA.out, HB1.out⟩
        case measure => simp [intOf]; omega
    · have hkn : k = N := by omega
      have h1 := hend hkn
      clear hs hv hlast
      go_wp2
      go_ret
      rcases hown.2 with ⟨_, h0⟩ | ⟨g, cap, cur, rfl, _⟩
      · omega
      · exact ⟨g, is.length, cap, is, rfl, h1, by omega, hown, hall, hb⟩

end Go.Proofs.Ybulkcjw.sim
