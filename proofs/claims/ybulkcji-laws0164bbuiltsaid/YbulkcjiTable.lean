/-
  THE PLAIN PART of LawS0164BBuilt: the bytes that the table gives.
-/
import Derived.Test.YbulkcjiParts
import Derived.Laws.IdiomStrings
namespace Go.Proofs.Ybulkcji.zone
open Go.RowKit
set_option linter.unusedVariables false
set_option linter.unusedSimpArgs false

def tbl : List UInt8 := [65, 90, 97, 122, 48, 57, 95, 45, 43, 77, 120, 47, 32, 46]
/-- The byte that number z picks. -/
def pickB (z : Int) : UInt8 := tbl.getD (z % 14).toNat 0
def bytesL (zs : List Int) : List UInt8 := zs.map pickB
def cellsL (zs : List Int) : List Value := (bytesL zs).map (fun b => Value.int .u8 (b.toNat : Int))
def built (zs : List Int) : ByteArray := ⟨(bytesL zs).toArray⟩

theorem built_size (zs : List Int) : (built zs).size = zs.length := by simp [built, bytesL, ByteArray.size]

theorem cellsL_len (zs : List Int) : (cellsL zs).length = zs.length := by simp [cellsL, bytesL]

theorem pick_mem (z : Int) : pickB z = 65 ∨ pickB z = 90 ∨ pickB z = 97 ∨ pickB z = 122 ∨ pickB z = 48 ∨ pickB z = 57 ∨ pickB z = 95 ∨ pickB z = 45 ∨ pickB z = 43 ∨ pickB z = 77 ∨ pickB z = 120 ∨ pickB z = 47 ∨ pickB z = 32 ∨ pickB z = 46 := by
  obtain ⟨m, hm⟩ : ∃ m : Nat, (z % 14).toNat = m := ⟨_, rfl⟩
  have hlt : m < 14 := by omega
  unfold pickB tbl
  rw [hm]
  match m, hlt with
  | 0, _ | 1, _ | 2, _ | 3, _ | 4, _ | 5, _ | 6, _ | 7, _ | 8, _ | 9, _ | 10, _ | 11, _ | 12, _ | 13, _ => simp

theorem bt_built (zs : List Int) (k : Nat) (h : k < zs.length) : bt (built zs) k = ((pickB (zs.getD k 0)).toNat : Int) := by
  have hs : k < (built zs).size := by rw [built_size]; exact h
  rw [← bt_eq _ _ hs]
  have e : (built zs)[k] = (bytesL zs).toArray[k]'(by simpa [bytesL] using h) := rfl
  rw [e]
  simp [bytesL, List.getD, h]

theorem cellsL_at (zs : List Int) (k : Nat) (h : k < zs.length) : (cellsL zs)[k]? = some (.int .u8 (bt (built zs) k)) := by
  rw [bt_built zs k h]
  simp [cellsL, bytesL, List.getD, h]

/-- What a round's store does. -/
theorem fill_set (zs : List Int) (k n : Nat) (hk : k < n) (hz : n ≤ zs.length) :
    (cellsL (zs.take k) ++ List.replicate (n - k) (Value.int .u8 0)).set k (.int .u8 ((pickB (zs.getD k 0)).toNat : Int)) = cellsL (zs.take (k + 1)) ++ List.replicate (n - (k + 1)) (Value.int .u8 0) := by
  have hl : (cellsL (zs.take k)).length = k := by rw [cellsL_len]; simp; omega
  rw [List.set_append_right _ _ (by omega), hl, Nat.sub_self, List.take_succ_eq_append_getElem (by omega)]
  obtain ⟨m, hm⟩ : ∃ m, n - k = m + 1 := ⟨n - k - 1, by omega⟩
  have e : n - (k + 1) = m := by omega
  rw [hm, e, List.replicate_succ]
  simp only [cellsL, bytesL, List.map_append, List.map_cons, List.map_nil, List.append_assoc, List.set_cons_zero, List.cons_append, List.nil_append]
  simp [List.getD, show k < zs.length by omega]

theorem fill_start (n : Nat) : List.take n (madeCells #[Value.int .u8 0] n).toList = cellsL ([].take 0) ++ List.replicate (n - 0) (Value.int .u8 0) := by
  rw [toList_madeCells_one]
  simp [cellsL, bytesL]

theorem pick_eq (z : Int) (h : (z % 14).toNat < (⟨#[65, 90, 97, 122, 48, 57, 95, 45, 43, 77, 120, 47, 32, 46]⟩ : ByteArray).size) : (⟨#[65, 90, 97, 122, 48, 57, 95, 45, 43, 77, 120, 47, 32, 46]⟩ : ByteArray)[(z % 14).toNat]'h = pickB z := by
  unfold pickB tbl
  have e : (⟨#[65, 90, 97, 122, 48, 57, 95, 45, 43, 77, 120, 47, 32, 46]⟩ : ByteArray)[(z % 14).toNat]'h = (#[65, 90, 97, 122, 48, 57, 95, 45, 43, 77, 120, 47, 32, 46] : Array UInt8)[(z % 14).toNat]'h := rfl
  rw [e, List.getD_eq_getElem?_getD, List.getElem?_eq_getElem (by simpa [ByteArray.size] using h)]
  simp

end Go.Proofs.Ybulkcji.zone
