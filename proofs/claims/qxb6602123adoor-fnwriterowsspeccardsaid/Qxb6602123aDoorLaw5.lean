/-
  The plain law of FnWriteRowsSpec: one counter over all parameters writes the same text as rows of columns.
-/
import Derived.Test.Qxb6602123aDoorBase
namespace Go.Proofs.Qxb6602123aDoor
/-- What stands ahead of parameter k + 1. -/
def headT (n k : Nat) : List UInt8 := if k % n = 0 then (if 0 < k then [44, 32] else []) ++ [40] else [44, 32]
/-- What stands behind parameter k + 1. -/
def tailT (n k : Nat) : List UInt8 := if (k + 1) % n = 0 then [41] else []
/-- The text of the first k parameters, by one counter. -/
def modT (pm : ByteArray) (nb : Bool) (n : Nat) : Nat → List UInt8
  | 0 => []
  | k + 1 => modT pm nb n k ++ (headT n k ++ (parT pm nb ((k + 1 : Nat) : Int) ++ tailT n k))
theorem modT_row (pm : ByteArray) (nb : Bool) (n r : Nat) : ∀ i, i + 1 ≤ n → modT pm nb n (r * n + (i + 1)) = modT pm nb n (r * n) ++ ((if 0 < r then [44, 32] else []) ++ ([40] ++ colsT pm nb n r (i + 1) ++ (if i + 1 = n then [41] else [])))
  | 0, hi => by
    have h1 : (r * n) % n = 0 := Nat.mul_mod_left r n
    have h2 : (0 < r * n) ↔ (0 < r) := by
      constructor
      · intro h
        rcases Nat.eq_zero_or_pos r with e | e
        · rw [e] at h; simp at h
        · exact e
      · intro h; exact Nat.mul_pos h (by omega)
    have h3 : ((r * n + 1) % n = 0) ↔ (0 + 1 = n) := by
      rw [Nat.mul_comm, Nat.mul_add_mod]
      rcases Nat.lt_or_ge 1 n with e | e
      · rw [Nat.mod_eq_of_lt e]; omega
      · obtain rfl : n = 1 := by omega
        simp
    show modT pm nb n (r * n) ++ (headT n (r * n) ++ (parT pm nb ((r * n + 1 : Nat) : Int) ++ tailT n (r * n))) = _
    simp only [headT, tailT, h1, h2, h3, if_true, colsT]
    simp
  | i + 1, hi => by
    have ih := modT_row pm nb n r i (by omega)
    have h1 : ¬ (r * n + (i + 1)) % n = 0 := by
      rw [Nat.mul_comm, Nat.mul_add_mod, Nat.mod_eq_of_lt (by omega)]; omega
    have h3 : ((r * n + (i + 1) + 1) % n = 0) ↔ (i + 1 + 1 = n) := by
      rw [show r * n + (i + 1) + 1 = n * r + (i + 1 + 1) by rw [Nat.mul_comm]; omega, Nat.mul_add_mod]
      rcases Nat.lt_or_ge (i + 1 + 1) n with e | e
      · rw [Nat.mod_eq_of_lt e]; omega
      · obtain rfl : n = i + 1 + 1 := by omega
        simp
    have h4 : ¬ (i + 1 = n) := by omega
    have e1 : modT pm nb n (r * n + (i + 1 + 1)) = modT pm nb n (r * n + (i + 1)) ++ ([44, 32] ++ (parT pm nb ((r * n + (i + 1) + 1 : Nat) : Int) ++ (if i + 1 + 1 = n then [41] else []))) := by
      show modT pm nb n (r * n + (i + 1)) ++ (headT n (r * n + (i + 1)) ++ (parT pm nb ((r * n + (i + 1) + 1 : Nat) : Int) ++ tailT n (r * n + (i + 1)))) = _
      simp only [headT, tailT, h3, if_neg h1]
    have e2 : colsT pm nb n r (i + 1 + 1) = colsT pm nb n r (i + 1) ++ ([44, 32] ++ parT pm nb ((r * n + (i + 1) + 1 : Nat) : Int)) := by
      conv => lhs; unfold colsT
      rw [if_pos (by omega)]
    rw [e1, ih, e2, if_neg h4]
    simp only [List.append_assoc, List.append_nil]
theorem modT_rows (pm : ByteArray) (nb : Bool) (n : Nat) (hn : 1 ≤ n) : ∀ r, modT pm nb n (r * n) = rowsT pm nb n r
  | 0 => by simp [modT, rowsT]
  | r + 1 => by
    have h := modT_row pm nb n r (n - 1) (by omega)
    rw [show n - 1 + 1 = n by omega, if_pos rfl, modT_rows pm nb n hn r] at h
    rw [Nat.succ_mul, h, rowsT]
end Go.Proofs.Qxb6602123aDoor
