/-
  A ROW OF INDEXES THAT THE CALL OWNS: what an exchange does to it.
-/
import Derived.Test.YbulkckkFmtRows
import Derived.WalkKit
import Derived.WalkSmall
import Derived.WalkSpells
import Derived.RegionTactic
import Derived.BigRegion
import Derived.Deep.QuietTactic
import Derived.BigQuiet
namespace Go.Proofs.YbulkckkFmt.st
open Go.RowKit
set_option linter.unusedVariables false
set_option linter.unusedSimpArgs false

def nats (xs : List Nat) : List Value := xs.map (fun (i : Nat) => Value.int .i64 (i : Int))
theorem nats_len (xs : List Nat) : (nats xs).length = xs.length := by simp [nats]
theorem nats_at (xs : List Nat) (i : Nat) (h : i < xs.length) : (nats xs)[i]? = some (.int .i64 ((xs.getD i 0 : Nat) : Int)) := by
  simp [nats, List.getD, h]
theorem nats_set (xs : List Nat) (i v : Nat) : (nats xs).set i (.int .i64 (v : Int)) = nats (xs.set i v) := by simp [nats, List.map_set]

/-- The row at block g holds xs; all else of w0 is as it was. -/
def RowAt (w0 w : World) (g n cap : Nat) (xs : List Nat) : Prop :=
  w.ownsRow 0 3 1 (.slice (some ⟨g, 0, none⟩) n cap) n (nats xs) ∧ w0.grownBy w (some g)

theorem RowAt.len {w0 w : World} {g n cap : Nat} {xs : List Nat} (h : RowAt w0 w g n cap xs) : xs.length = n := by
  have := h.1.1
  rw [nats_len] at this
  omega
theorem RowAt.cell {w0 w : World} {g n cap : Nat} {xs : List Nat} (h : RowAt w0 w g n cap xs) (i : Nat) (hi : i < n) : w.cell? ⟨g, i, none⟩ = some (.int .i64 ((xs.getD i 0 : Nat) : Int)) := by
  rw [h.1.cellAt i (by omega)]
  exact nats_at xs i (by rw [h.len]; exact hi)
theorem RowAt.frozen {w0 w : World} {g n cap : Nat} {xs : List Nat} (h : RowAt w0 w g n cap xs) (i : Nat) : w.frozen? ⟨g, i, none⟩ = false := h.1.frozenAt i
theorem RowAt.lt {w0 w : World} {g n cap : Nat} {xs : List Nat} (h : RowAt w0 w g n cap xs) : g < w.heap.size := (h.1.lt g rfl).2

theorem grown_trans {a b c : World} {g : Nat} (h : a.grownBy b (some g)) (h2 : b.grownBy c (some g)) : a.grownBy c (some g) :=
  ⟨h2.os.trans h.os, h2.tape.trans h.tape, h2.output.trans h.output, Nat.le_trans h.size h2.size, fun k hk hne => (h2.block k (Nat.lt_of_lt_of_le hk h.size) hne).trans (h.block k hk hne)⟩
theorem grown_of_below {a b : World} {g : Nat} (h : Below a.heap.size a b) : a.grownBy b (some g) := ⟨h.os, h.tape, h.output, h.size, fun k hk _ => h.block k hk⟩

theorem RowAt.below {w0 w w' : World} {g n cap : Nat} {xs : List Nat} (h : RowAt w0 w g n cap xs) (hb : Below w.heap.size w w') : RowAt w0 w' g n cap xs :=
  ⟨h.1.kept (row := Option.none) ⟨hb.os, hb.tape, hb.output, hb.size, fun k hk _ => hb.block k hk⟩ (.inr (by simp [Value.ownBlock])), grown_trans h.2 (grown_of_below hb)⟩
theorem RowAt.drewN {w0 w : World} {g n cap : Nat} {xs : List Nat} (h : RowAt w0 w g n cap xs) (k : Nat) : RowAt w0 (w.drewN k) g n cap xs := h.below (below_drewN (Below.refl _ _) k)

theorem RowAt.store {w0 w : World} {g n cap : Nat} {xs : List Nat} (h : RowAt w0 w g n cap xs) (i v : Nat) : RowAt w0 (w.setCell ⟨g, i, none⟩ (.int .i64 (v : Int))) g n cap (xs.set i v) := by
  have hs := h.1.stored i (.int .i64 (v : Int))
  rw [nats_set] at hs
  exact ⟨hs.1, grown_trans h.2 hs.2⟩

/-- An exchange of two places. -/
def swp (xs : List Nat) (i j : Nat) : List Nat := (xs.set i (xs.getD j 0)).set j (xs.getD i 0)

theorem RowAt.swap {w0 w : World} {g n cap : Nat} {xs : List Nat} (h : RowAt w0 w g n cap xs) (i j : Nat) :
    RowAt w0 ((w.setCell ⟨g, i, none⟩ (.int .i64 ((xs.getD j 0 : Nat) : Int))).setCell ⟨g, j, none⟩ (.int .i64 ((xs.getD i 0 : Nat) : Int))) g n cap (swp xs i j) :=
  (h.store i _).store j _

/-- Two pieces of one length change places. -/
theorem swp_pieces (P X Y M X2 Y2 Q : List Nat) (x y i j : Nat) (hi : i = (P ++ X).length) (hj : j = (P ++ X ++ x :: (Y ++ M ++ X2)).length) :
    swp (P ++ X ++ x :: (Y ++ M ++ X2 ++ y :: (Y2 ++ Q))) i j = P ++ X ++ y :: (Y ++ M ++ X2 ++ x :: (Y2 ++ Q)) := by
  subst hi
  have e1 : P ++ X ++ x :: (Y ++ M ++ X2 ++ y :: (Y2 ++ Q)) = (P ++ X ++ x :: (Y ++ M ++ X2)) ++ y :: (Y2 ++ Q) := by simp
  have g1 : (P ++ X ++ x :: (Y ++ M ++ X2 ++ y :: (Y2 ++ Q))).getD (P ++ X).length 0 = x := by
    simp [List.getD]
  have g2 : (P ++ X ++ x :: (Y ++ M ++ X2 ++ y :: (Y2 ++ Q))).getD j 0 = y := by
    rw [e1, hj]
    simp [List.getD]
  unfold swp
  rw [g1, g2, List.set_append_right _ _ (Nat.le_refl _), Nat.sub_self, List.set_cons_zero]
  have e2 : P ++ X ++ y :: (Y ++ M ++ X2 ++ y :: (Y2 ++ Q)) = (P ++ X ++ y :: (Y ++ M ++ X2)) ++ y :: (Y2 ++ Q) := by simp
  have hj2 : j = (P ++ X ++ y :: (Y ++ M ++ X2)).length := by rw [hj]; simp
  rw [e2, hj2, List.set_append_right _ _ (Nat.le_refl _), Nat.sub_self, List.set_cons_zero]
  simp

theorem getD_mid (U W : List Nat) (x i : Nat) (h : i = U.length) : (U ++ x :: W).getD i 0 = x := by
  subst h; simp [List.getD]
theorem getD_mid2 (U W : List Nat) (x y i : Nat) (h : i = U.length + 1) : (U ++ x :: y :: W).getD i 0 = y := by
  subst h; simp [List.getD]
theorem set_mid (U W : List Nat) (x v i : Nat) (h : i = U.length) : (U ++ x :: W).set i v = U ++ v :: W := by
  subst h; simp
theorem set_mid2 (U W : List Nat) (x y v i : Nat) (h : i = U.length + 1) : (U ++ x :: y :: W).set i v = U ++ x :: v :: W := by
  subst h; simp

theorem getD_in (U B Q : List Nat) (v : Nat) (hv : v < B.length) : (U ++ (B ++ Q)).getD (U.length + v) 0 = B[v] := by
  rw [List.getD_eq_getElem?_getD, List.getElem?_append_right (by omega), Nat.add_sub_cancel_left, List.getElem?_append_left hv]
  simp [hv]

/-- Two neighbours change places, the later named first. -/
theorem swp_down (U W : List Nat) (z y q : Nat) (h : q = U.length) : swp (U ++ z :: y :: W) (q + 1) q = U ++ y :: z :: W := by
  unfold swp
  rw [getD_mid U (y :: W) z q h, getD_mid2 U W z y (q + 1) (by omega), set_mid2 U W z y z (q + 1) (by omega), set_mid U (z :: W) z y q h]
/-- .. the earlier named first. -/
theorem swp_up (U W : List Nat) (z y q : Nat) (h : q = U.length) : swp (U ++ z :: y :: W) q (q + 1) = U ++ y :: z :: W := by
  unfold swp
  rw [getD_mid U (y :: W) z q h, getD_mid2 U W z y (q + 1) (by omega), set_mid U (y :: W) z y q h, set_mid2 U W y y z (q + 1) (by omega)]

end Go.Proofs.YbulkckkFmt.st
