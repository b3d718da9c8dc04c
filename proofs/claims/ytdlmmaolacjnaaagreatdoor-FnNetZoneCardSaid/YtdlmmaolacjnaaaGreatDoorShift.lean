/-
  How bytes are moved inside an array of sixteen: plain laws on lists. No program in it.
-/
import Derived.Test.YtdlmmaolacjnaaaGreatDoorIp
namespace Go.Proofs.YtdlmmaolacjnaaaGreatDoor
set_option linter.unusedVariables false
set_option linter.unusedSimpArgs false

theorem set_mid {α : Type} (A J : List α) (x v : α) (p : Nat) (h : A.length = p) : (A ++ x :: J).set p v = A ++ v :: J := by
  subst h; simp
theorem set_take {α : Type} (X Y : List α) (v : α) (p : Nat) (h : p < X.length) : (X.take (p + 1) ++ Y).set p v = X.take p ++ v :: Y := by
  rw [List.take_add_one, List.getElem?_eq_getElem h]
  simp only [Option.toList_some, List.append_assoc, List.singleton_append]
  exact set_mid _ _ _ _ _ (by rw [List.length_take]; omega)
/-- two bytes are written behind those that are done -/
theorem store_two (d : List UInt8) (x y : UInt8) (n : Nat) : ((d ++ List.replicate (n + 2) 0).set d.length x).set (d.length + 1) y = d ++ [x, y] ++ List.replicate n 0 := by
  rw [List.replicate_succ, List.replicate_succ, set_mid _ _ _ _ _ rfl]
  rw [show d ++ x :: 0 :: List.replicate n 0 = (d ++ [x]) ++ 0 :: List.replicate n 0 by simp, set_mid _ _ _ _ _ (by simp)]
  simp

/-- The bytes A, Q and n zeros, m of them moved to the end. -/
def moved (A Q : List UInt8) (n m : Nat) : List UInt8 := (A ++ Q ++ List.replicate n 0).take (A.length + Q.length + n - m) ++ Q.drop (Q.length - m)
theorem moved_zero (A Q : List UInt8) (n : Nat) : moved A Q n 0 = A ++ Q ++ List.replicate n 0 := by
  unfold moved
  rw [List.take_of_length_le (by simp; omega), List.drop_of_length_le (by omega)]; simp
theorem moved_length (A Q : List UInt8) (n m : Nat) (h : m ≤ Q.length) : (moved A Q n m).length = A.length + Q.length + n := by
  unfold moved; simp; omega
theorem moved_get (A Q : List UInt8) (n m : Nat) (h : m < Q.length) (hn : 0 < n) : (moved A Q n m).getD (A.length + Q.length - 1 - m) 0 = Q[Q.length - 1 - m] := by
  unfold moved
  rw [List.getD_eq_getElem?_getD, List.getElem?_append_left (by simp; omega), List.getElem?_take_of_lt (by omega), List.getElem?_append_left (by simp; omega), List.getElem?_append_right (by omega), List.getElem?_eq_getElem (by omega)]
  simp only [Option.getD_some]
  congr 1; omega
theorem moved_succ (A Q : List UInt8) (n m : Nat) (h : m < Q.length) (_hn : 0 < n) : (moved A Q n m).set (A.length + Q.length - 1 - m + n) (Q[Q.length - 1 - m]) = moved A Q n (m + 1) := by
  unfold moved
  rw [show A.length + Q.length + n - m = (A.length + Q.length - 1 - m + n) + 1 by omega, set_take _ _ _ _ (by simp; omega)]
  rw [show A.length + Q.length + n - (m + 1) = A.length + Q.length - 1 - m + n by omega]
  congr 1
  have e := List.drop_eq_getElem_cons (l := Q) (i := Q.length - (m + 1)) (by omega)
  rw [e]
  congr 1
  · congr 1; omega
  · congr 1; omega
/-- Behind the moving: zeros are written from A's end on. -/
def zeroed (A Q : List UInt8) (n m : Nat) : List UInt8 := A ++ List.replicate m 0 ++ ((Q ++ List.replicate n 0).take n).drop m ++ Q
theorem zeroed_zero (A Q : List UInt8) (n : Nat) : zeroed A Q n 0 = moved A Q n Q.length := by
  have e : (A ++ (Q ++ List.replicate n 0)).take (A.length + n) = A ++ (Q ++ List.replicate n 0).take n := by
    rw [List.take_append, List.take_of_length_le (show A.length ≤ A.length + n by omega), show A.length + n - A.length = n by omega]
  unfold zeroed moved
  rw [show A.length + Q.length + n - Q.length = A.length + n by omega, List.append_assoc A Q, e]
  simp
theorem zeroed_length (A Q : List UInt8) (n m : Nat) (h : m ≤ n) : (zeroed A Q n m).length = A.length + Q.length + n := by
  unfold zeroed; simp; omega
theorem zeroed_succ (A Q : List UInt8) (n m : Nat) (h : m < n) : (zeroed A Q n m).set (A.length + m) 0 = zeroed A Q n (m + 1) := by
  unfold zeroed
  generalize hJ : (Q ++ List.replicate n (0 : UInt8)).take n = J
  have hl : m < J.length := by rw [← hJ]; simp; omega
  rw [List.drop_eq_getElem_cons hl]
  generalize J.drop (m + 1) = R
  generalize J[m] = x
  rw [show A ++ List.replicate m 0 ++ (x :: R) ++ Q = (A ++ List.replicate m 0) ++ x :: (R ++ Q) by simp, set_mid _ _ _ _ _ (by simp), List.replicate_succ']
  simp
theorem zeroed_all (A Q : List UInt8) (n : Nat) : zeroed A Q n n = A ++ List.replicate n 0 ++ Q := by
  unfold zeroed
  rw [List.drop_of_length_le (by simp)]; simp
end Go.Proofs.YtdlmmaolacjnaaaGreatDoor
