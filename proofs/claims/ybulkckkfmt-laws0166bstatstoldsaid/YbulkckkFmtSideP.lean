/-
  sideStats (4): what it hands back.
-/
import Derived.Test.YbulkckkFmtSideB
import Derived.Laws.ResultCell
namespace Go.Proofs.YbulkckkFmt.st
open Go.RowKit Go.Joins
set_option linter.unusedVariables false
set_option linter.unusedSimpArgs false

def nm (j : Nat) : ByteArray := if j = 0 then ⟨#[109, 105, 110]⟩ else if j = 1 then ⟨#[109, 101, 100, 105, 97, 110]⟩ else ⟨#[109, 97, 120]⟩
def lb (j : Nat) : ByteArray := if j = 0 then ⟨#[109, 105, 110, 105, 109, 117, 109]⟩ else if j = 1 then ⟨#[109, 101, 100, 105, 97, 110]⟩ else ⟨#[109, 97, 120, 105, 109, 117, 109]⟩
def full (s : Int) (j : Nat) : ByteArray := sideName s ++ ⟨#[45]⟩ ++ nm j
def labs (s : Int) (r : Nat → Nat) (j x : Nat) : List ByteArray := ((List.range j).filter (fun i => r i == x)).map (full s)
theorem labs_succ (s : Int) (r : Nat → Nat) (j : Nat) : labs s r (j + 1) = upd (labs s r j) (r j) (labs s r j (r j) ++ [full s j]) := by
  funext x
  unfold labs upd
  rw [List.range_succ, List.filter_append]
  by_cases e : x = r j
  · subst e
    simp
  · have e' : ¬ r j = x := fun h => e h.symm
    simp [e, e']
theorem labs_len (s : Int) (r : Nat → Nat) (j x : Nat) : (labs s r j x).length ≤ j := by
  unfold labs
  rw [List.length_map]
  exact Nat.le_trans (List.length_filter_le _ _) (by simp)

def Picks (T : Nat → Int) (S : List Nat) (n k0 : Nat) (r : Nat → Nat) : Prop :=
  S.length = n ∧ 0 < n ∧ r 0 = S.getD 0 0 ∧ r 1 = S.getD ((n - 1) / 2) 0 ∧ r 2 = S.getD k0 0 ∧ k0 < n ∧ T (S.getD k0 0) = T (S.getD (n - 1) 0) ∧ ∀ i, i < k0 → T (S.getD i 0) ≠ T (S.getD (n - 1) 0)

/-- The cells of the j-th stat. -/
def StatAt (w' : World) (g : Nat) (s : Int) (dir : Nat → ByteArray) (r : Nat → Nat) (j : Nat) : Prop :=
  w'.cell? ⟨g, j * 5, none⟩ = some (.string (full s j)) ∧ w'.cell? ⟨g, j * 5 + 1, none⟩ = some (.string (lb j)) ∧ (∃ t, w'.cell? ⟨g, j * 5 + 2, none⟩ = some (.string t)) ∧ w'.cell? ⟨g, j * 5 + 3, none⟩ = some (.string (dir (r j))) ∧ w'.cell? ⟨g, j * 5 + 4, none⟩ = some (.int .i64 ((r j : Int) + 1))

def SidePost (w : World) (h N : Nat) (s : Int) (pass has : Nat → Bool) (T : Nat → Int) (dir : Nat → ByteArray) (e : Ending) (w' : World) : Prop :=
  Fr (fun i => i = h) w w' ∧
  ((rk pass has N = [] ∧ e = .returned (.tuple #[.agg #[.int .i64 0, .slice Option.none 0 0], .bool false]) ∧ ∀ x, x < N → w'.cell? ⟨h, x * 13 + 12, none⟩ = some (.slice Option.none 0 0)) ∨
   ∃ (S : List Nat) (n k0 g c : Nat) (r : Nat → Nat), Picks T S n k0 r ∧ S.Perm (rk pass has N) ∧ Sorted T S ∧ e = .returned (.tuple #[.agg #[.int .i64 s, .slice (some ⟨g, 0, none⟩) 3 c], .bool true]) ∧ (∀ j, j < 3 → StatAt w' g s dir r j) ∧
     ∀ x, x < N → ∃ v, w'.cell? ⟨h, x * 13 + 12, none⟩ = some v ∧ StrsAt w' v (labs s r 3 x))

theorem size37 : (Ybaf.prog.info? 37).map (·.size) = some 2 := by kernel_rfl

theorem ret4 {w' : World} {b : Nat} {x y : Value} {t : Bool} (tmps : Array Value) (h4 : tmps.getD 4 undef = .pointer (some ⟨b, 0, none⟩)) (h5 : tmps.getD 5 undef = .bool t) (hc0 : w'.cell? ⟨b, 0, none⟩ = some x) (hc1 : w'.cell? ⟨b, 1, none⟩ = some y) :
    (results Ybaf.f4 tmps).run Ybaf.prog w' = .ok (.tuple #[.agg #[x, y], .bool t]) w' := by
  have hl := run_loadVar_mid (P := Ybaf.prog) w' b 0 37 [x, y] _ (fun j v hv => by
    match j, hv with
    | 0, hv => simp at hv; subst hv; exact hc0
    | 1, hv => simp at hv; subst hv; exact hc1) Ybaf.underlying37 rfl size37
  rw [results_cell_tmp (p := 4) (u := 5) (ty := 37) rfl, h4, h5]
  simp [asAddr, hl]

end Go.Proofs.YbulkckkFmt.st
