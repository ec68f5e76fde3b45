import Derived.Test.Qxb6617102aPlain
namespace Go.Proofs.Qxb6617102a.Plain
open Go.Lib (compareBytes)

def sb (l : List UInt8) (k : Nat) : Int := (((l ++ [47])[k]?.getD 0).toNat : Int)
def so (p q : List UInt8) (k : Nat) : Int := compareBytes ((p ++ [47]).drop k) ((q ++ [47]).drop k)

theorem so_zero (p q : List UInt8) : so p q 0 = cp p q := rfl

theorem sb_bd (l : List UInt8) (k : Nat) : 0 ≤ sb l k ∧ sb l k ≤ 255 := by
  unfold sb
  have := ((l ++ [47])[k]?.getD 0).toNat_lt
  omega

theorem so_step (p q : List UInt8) (k : Nat) (hp : k ≤ p.length) (hq : k ≤ q.length) :
    so p q k = if sb p k < sb q k then -1 else if sb q k < sb p k then 1 else so p q (k + 1) := by
  have h1 : k < (p ++ [47]).length := by simp; omega
  have h2 : k < (q ++ [47]).length := by simp; omega
  unfold so sb
  rw [List.drop_eq_getElem_cons h1, List.drop_eq_getElem_cons h2, List.getElem?_eq_getElem h1, List.getElem?_eq_getElem h2]
  simp only [compareBytes, Option.getD_some, UInt8.lt_iff_toNat_lt, Int.ofNat_lt]

theorem so_lt (p q : List UInt8) (k : Nat) (hp : k ≤ p.length) (hq : k ≤ q.length) (h : sb p k < sb q k) : so p q k = -1 := by
  rw [so_step p q k hp hq, if_pos h]
theorem so_gt (p q : List UInt8) (k : Nat) (hp : k ≤ p.length) (hq : k ≤ q.length) (h : sb q k < sb p k) : so p q k = 1 := by
  rw [so_step p q k hp hq, if_neg (by omega), if_pos h]
theorem so_eq (p q : List UInt8) (k : Nat) (hp : k ≤ p.length) (hq : k ≤ q.length) (h1 : sb q k ≤ sb p k) (h2 : sb p k ≤ sb q k) : so p q k = so p q (k + 1) := by
  rw [so_step p q k hp hq, if_neg (by omega), if_neg (by omega)]

theorem so_end_lt (p q : List UInt8) (h : p.length < q.length) : so p q (p.length + 1) = -1 := by
  unfold so
  rw [List.drop_of_length_le (by simp), List.drop_eq_getElem_cons (by simp; omega)]
  rfl
theorem so_end_gt (p q : List UInt8) (h : q.length < p.length) : so p q (q.length + 1) = 1 := by
  unfold so
  have h1 : (q ++ [47]).drop (q.length + 1) = ([] : List UInt8) := List.drop_of_length_le (by simp)
  rw [h1, List.drop_eq_getElem_cons (by simp; omega)]
  rfl
theorem so_end_eq (p q : List UInt8) (h : p.length = q.length) : so p q (p.length + 1) = 0 := by
  unfold so
  rw [List.drop_of_length_le (by simp), List.drop_of_length_le (by simp; omega)]
  rfl

end Go.Proofs.Qxb6617102a.Plain
