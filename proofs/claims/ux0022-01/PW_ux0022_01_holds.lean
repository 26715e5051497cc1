import PyProof.Rows.All
import Wide.All
import OpenK.AllK
import Wide.FinOn
import PySem.Challenge.RW_ux0022_01
set_option Elab.async false
set_option maxRecDepth 100000
set_option genSizeOf false
set_option linter.unusedVariables false
set_option maxHeartbeats 1000000
namespace Mine
namespace Q
noncomputable abbrev LX := Lean.Grind.CommRing.Expr
noncomputable def xl (e : LX) : Nat := e.rec (fun _ => 0) (fun k => k) (fun _ => 0) (fun _ => 0) (fun _ _ => 0) (fun _ _ _ _ => 0) (fun _ _ _ _ => 0) (fun _ _ _ _ => 0) fun _ _ _ => 0
noncomputable def nth (c : List Nat) : Nat → Nat := c.rec (fun _ => 0) fun a _ f i => i.rec a fun j _ => f j
noncomputable def xd (c : List Nat) (e : LX) : Nat := e.rec (fun _ => 0) (fun k => k) (fun _ => 0) (fun i => nth c i) (fun _ _ => 0) (fun _ _ x y => x + y) (fun _ _ _ _ => 0) (fun a _ _ y => xl a * y) fun _ _ _ => 0
noncomputable def addL : List Nat → List Nat → List Nat
  | [], q => q
  | x :: p, [] => x :: p
  | x :: p, y :: q => (x + y) :: addL p q
noncomputable def leL : List Nat → List Nat → Bool
  | [], _ => true
  | x :: p, [] => Nat.ble x 0 && leL p []
  | x :: p, y :: q => Nat.ble x y && leL p q
noncomputable def dot : List Nat → List Nat → Nat
  | x :: p, y :: q => x * y + dot p q
  | _, _ => 0
noncomputable def unit : Nat → List Nat
  | 0 => [1]
  | i + 1 => 0 :: unit i
noncomputable def xp (e : LX) : List Nat := e.rec (fun _ => []) (fun k => [k]) (fun _ => []) (fun i => 0 :: unit i) (fun _ _ => []) (fun _ _ x y => addL x y) (fun _ _ _ _ => []) (fun a _ _ y => y.map (xl a * ·)) fun _ _ _ => []
theorem dot_nil (p : List Nat) : dot p [] = 0 := by cases p <;> rfl
theorem dot_add (p : List Nat) : ∀ q d, dot (addL p q) d = dot p d + dot q d := by
  induction p with
  | nil => exact fun q d => (Nat.zero_add _).symm
  | cons x p ih => intro q d; cases q with
    | nil => rfl
    | cons y q => cases d with
      | nil => rfl
      | cons z d => show (x + y) * z + dot (addL p q) d = _; rw [ih, Nat.add_mul, Nat.add_add_add_comm]; rfl
theorem dot_le (p : List Nat) : ∀ q d, leL p q = true → dot p d ≤ dot q d := by
  induction p with
  | nil => exact fun q d _ => Nat.zero_le _
  | cons x p ih => intro q d h; cases d with
    | nil => exact Nat.zero_le _
    | cons z d => cases q with
      | nil =>
        have h := Bool.and_eq_true_iff.mp h
        have e := ih [] d h.2
        rw [show dot [] d = 0 from rfl] at e
        show x * z + dot p d ≤ 0
        rw [Nat.le_zero.mp (Nat.le_of_ble_eq_true h.1), Nat.le_zero.mp e, Nat.zero_mul]; exact Nat.le_refl _
      | cons y q => have h := Bool.and_eq_true_iff.mp h; exact Nat.add_le_add (Nat.mul_le_mul_right z (Nat.le_of_ble_eq_true h.1)) (ih q d h.2)
theorem dot_mul (k : Nat) (p : List Nat) : ∀ d, dot (p.map (k * ·)) d = k * dot p d := by
  induction p with
  | nil => exact fun _ => rfl
  | cons x p ih => intro d; cases d with
    | nil => rfl
    | cons z d => show k * x * z + dot _ d = k * (x * z + _); rw [ih, Nat.mul_add, Nat.mul_assoc]
theorem dot_unit (c : List Nat) : ∀ i, dot (unit i) c = nth c i := by
  induction c with
  | nil => exact fun i => dot_nil _
  | cons a c ih => intro i; cases i with
    | zero => show 1 * a + dot [] c = a; rw [Nat.one_mul]; rfl
    | succ i => show 0 * a + dot (unit i) c = nth c i; rw [Nat.zero_mul, Nat.zero_add, ih]
theorem xd_eq (c : List Nat) (e : LX) : xd c e = dot (xp e) (1 :: c) := by
  induction e with
  | natCast k => show k = k * 1 + dot [] c; rw [Nat.mul_one]; rfl
  | var i => show nth c i = 0 * 1 + dot (unit i) c; rw [dot_unit, Nat.zero_mul, Nat.zero_add]
  | add a b x y => show xd c a + xd c b = dot (addL (xp a) (xp b)) _; rw [dot_add, x, y]
  | mul a b x y => show xl a * xd c b = dot ((xp b).map (xl a * ·)) _; rw [dot_mul, y]
  | _ => rfl
theorem li (k : Nat) (c : List Nat) (L R x y : LX) (h : leL (addL (xp R) (addL ((xp x).map (k * ·)) [1])) (addL (xp L) (addL ((xp y).map (k * ·)) [k])) = true) (l : xd c L ≤ xd c R) : xd c x ≤ xd c y := Nat.le_of_not_lt fun z => by
  have q := dot_le _ _ (1 :: c) h
  rw [dot_add, dot_add, dot_add, dot_add, dot_mul, dot_mul, ← xd_eq, ← xd_eq, ← xd_eq, ← xd_eq] at q
  have u : ∀ m, dot [m] (1 :: c) = m := fun m => Nat.mul_one m
  rw [u, u] at q
  have z := Nat.mul_le_mul_left k (Nat.succ_le_of_lt z)
  exact absurd (Nat.le_trans (Nat.le_trans q (Nat.add_le_add l (Nat.mul_succ k _ ▸ z))) (Nat.le_refl _)) (by rw [← Nat.add_assoc]; exact Nat.not_succ_le_self _)
noncomputable abbrev v (i : Nat) : LX := .var i
noncomputable abbrev n (i : Nat) : LX := .natCast i
noncomputable abbrev A (x y : LX) : LX := .add x y
noncomputable abbrev M (x y : LX) : LX := .mul x y
noncomputable abbrev n0 : LX := .natCast 0
noncomputable abbrev n1 : LX := .natCast 1
noncomputable abbrev S (x : LX) : LX := .add x n1
noncomputable abbrev v0 : LX := .var 0
noncomputable abbrev v1 : LX := .var 1
noncomputable abbrev v2 : LX := .var 2
noncomputable abbrev v3 : LX := .var 3
noncomputable abbrev v4 : LX := .var 4
noncomputable abbrev v5 : LX := .var 5
noncomputable abbrev v6 : LX := .var 6
noncomputable abbrev v7 : LX := .var 7
noncomputable abbrev v8 : LX := .var 8
noncomputable abbrev v9 : LX := .var 9
variable {a b c d : Nat}
theorem l1 (c : List Nat) (L R x y : LX) (h : leL (addL (xp R) (addL ((xp x).map (1 * ·)) [1])) (addL (xp L) (addL ((xp y).map (1 * ·)) [1])) = true) (l : xd c L ≤ xd c R) : xd c x ≤ xd c y := li 1 c L R x y h l
theorem ls (a b : Nat) : a ≤ a - b + b := by omega
theorem t : true = true := rfl
theorem z0 : 0 ≤ 0 := Nat.le_refl 0
theorem ad (h : a ≤ b) (k : c ≤ d) : a + c ≤ b + d := Nat.add_le_add h k
theorem mm (k : Nat) (h : a ≤ b) : k * a ≤ k * b := Nat.mul_le_mul_left k h
theorem oe (h : a = b) : a ≤ b := Nat.le_of_eq h
theorem es (h : a = b) : b ≤ a := Nat.le_of_eq h.symm
theorem an (h : a ≤ b) (k : b ≤ a) : a = b := Nat.le_antisymm h k
theorem sc (h : a ≤ b) : b - a + a = b := Nat.sub_add_cancel h
theorem so (h : a ≤ b) : b - a + a ≤ b := oe (sc h)
theorem sz (h : a ≤ b) : a - b ≤ 0 := oe (Nat.sub_eq_zero_of_le h)
theorem nl (h : ¬a < b) : b ≤ a := Nat.le_of_not_lt h
theorem ln (h : a ≤ b) (k : a ≠ b) : a < b := Nat.lt_of_le_of_ne h k
theorem fl (h : 1 ≤ 0) : False := Nat.not_succ_le_zero 0 h
end Q
section
open Q
variable {a b c d e f g i j k l m p q : Nat}
theorem Z1 (h : a ≤ c) (h2 : b ≤ a) (h3 : c = b) : a = b := an (l1 [a, c, b] (A v0 v1) (A v1 v2) v0 v2 t (ad h (oe h3))) h2
theorem Z2 (h : a = c) (h2 : b ≤ a) (h3 : c ≤ b) : a = b := an (l1 [a, c, b] (A v0 v1) (A v1 v2) v0 v2 t (ad (oe h) h3)) h2
theorem Z3 (h : (a + (2 * c)) + 20 < 1000) (h2 : b ≤ c) : (a + (2 * b)) + 20 < 1000 := l1 [a, c, b] (A (A (A (A v0 (M (n 2) v1)) (n 20)) n1) (M (n 2) v2)) (A (n 1000) (M (n 2) v1)) (A (A (A v0 (M (n 2) v2)) (n 20)) n1) (n 1000) t (ad h (mm 2 h2))
theorem Z4 (h : (a + (20 * c)) + 100 < 9900) (h2 : b ≤ c) : (a + (20 * b)) + 100 < 9900 := l1 [a, c, b] (A (A (A (A v0 (M (n 20) v1)) (n 100)) n1) (M (n 20) v2)) (A (n 9900) (M (n 20) v1)) (A (A (A v0 (M (n 20) v2)) (n 100)) n1) (n 9900) t (ad h (mm 20 h2))
theorem Z5 (h : (a + (2 * (b + 1))) + 20 < 1000) : ((a + 1) + (2 * b)) + 20 < 1000 := l1 [a, b] (A (A (A v0 (M (n 2) (S v1))) (n 20)) n1) (n 1000) (A (A (A (S v0) (M (n 2) v1)) (n 20)) n1) (n 1000) t h
theorem Z6 (h : (a + (20 * (b + 1))) + 100 < 9900) : ((a + 3) + (20 * b)) + 100 < 9900 := l1 [a, b] (A (A (A v0 (M (n 20) (S v1))) (n 100)) n1) (n 9900) (A (A (A (A v0 (n 3)) (M (n 20) v1)) (n 100)) n1) (n 9900) t h
theorem Z7 (h : (a + (2 * b)) + 20 < 1000) : a < 1000 := l1 [a, b] (A (A (A v0 (M (n 2) v1)) (n 20)) n1) (n 1000) (S v0) (n 1000) t h
theorem Z8 (h : (a + (20 * b)) + 100 < 9900) : a + 64 < 9900 := l1 [a, b] (A (A (A v0 (M (n 20) v1)) (n 100)) n1) (n 9900) (S (A v0 (n 64))) (n 9900) t h
theorem Z9 (h : a ≤ b) : a + 1 ≤ b + 1 := l1 [a, b] v0 v1 (S v0) (S v1) t h
theorem Z10 (h : a + 64 < b) : a < b := l1 [a, b] (S (A v0 (n 64))) v1 (S v0) v1 t h
theorem Z11 (h : a ≤ b) (h2 : c - a = b) (h3 : c ≤ b) : a = 0 := an (l1 [a, b, c - a, c] (A (A v1 v3) (A v2 v0)) (A (A v2 v1) v3) v0 n0 t (ad (ad (es h2) h3) (so (l1 [a, b, c - a, c] (A (A v0 v1) v2) (A (A v1 v2) v3) v0 v3 t (ad (ad h (es h2)) (Nat.sub_le _ _)))))) (l1 [a, b, c - a, c] n0 n0 n0 v0 t z0)
theorem Z12 (h : a = c) (h2 : b - d = c) : a ≤ b - 0 := l1 [a, c, b - d, b - 0, b, d] (A (A (A v0 v1) v2) v4) (A (A (A v1 v2) v4) (A v3 n0)) v0 v3 t (ad (ad (ad (oe h) (es h2)) (Nat.sub_le _ _)) (ls _ _))
theorem Z13 (h : a - b < 1) : a - b = 0 := an (sz (l1 [a - b, a, b] (A (S v0) v1) (A n1 (A v0 v2)) v1 v2 t (ad h (ls _ _)))) (l1 [a - b, a, b] n0 n0 n0 v0 t z0)
theorem Z14 (h : a - b < 1) (h2 : ¬(a < b)) : a = b := an (l1 [a - b, b, a] (A (S v0) v2) (A n1 (A v0 v1)) v2 v1 t (ad h (ls _ _))) (nl h2)
theorem Z15 (h : a < c) (h2 : b = c) : a < b := l1 [a, c, b] (A (S v0) v1) (A v1 v2) (S v0) v2 t (ad h (es h2))
theorem Z16 (h : a < c) (h2 : c < b) : a < b := l1 [a, c, b] (A (S v0) (S v1)) (A v1 v2) (S v0) v2 t (ad h h2)
theorem Z17 (h : a ≤ b) : a ≤ b + b := l1 [a, b] v0 v1 v0 (A v1 v1) t h
theorem Z18 : (a + 1) + b = a + (b + 1) := an (l1 [a, b] n0 n0 (A (S v0) v1) (A v0 (S v1)) t z0) (l1 [a, b] n0 n0 (A v0 (S v1)) (A (S v0) v1) t z0)
theorem Z19 : a + (b + 1) = (a + 1) + b := an (l1 [a, b] n0 n0 (A v0 (S v1)) (A (S v0) v1) t z0) (l1 [a, b] n0 n0 (A (S v0) v1) (A v0 (S v1)) t z0)
theorem Z20 : a ≤ a + 1 := l1 [a] n0 n0 v0 (S v0) t z0
theorem Z21 (h : a < b) (h2 : b = c) (h3 : c ≤ d) (h4 : d = a) : False := fl (li 0 [a, b, c, d] (A (A (A (S v0) v1) v2) v3) (A (A (A v1 v2) v3) v0) n1 n0 t (ad (ad (ad h (oe h2)) h3) (oe h4)))
theorem Z22 (h : d + e ≤ f) (h2 : d = b) (h3 : e = c) (h4 : f ≤ a) : ¬(a < b + c) := fun z => fl (li 0 [d, e, f, b, c, a] (A (A (A (A (A v0 v1) v3) v4) v2) (S v5)) (A (A (A (A v2 v0) v1) v5) (A v3 v4)) n1 n0 t (ad (ad (ad (ad h (es h2)) (es h3)) h4) z))
theorem Z23 (h : c = a) (h2 : c ≤ d) (h3 : d ≤ b) : a ≤ b := l1 [c, a, d, b] (A (A v1 v0) v2) (A (A v0 v2) v3) v1 v3 t (ad (ad (es h) h2) h3)
theorem Z24 : a ≤ (a - 1) + 1 := ls _ _
theorem Z25 (h : a + 3 < b) : a < b := l1 [a, b] (S (A v0 (n 3))) v1 (S v0) v1 t h
theorem Z26 (h : a + 3 < b) : a + 1 < b := l1 [a, b] (S (A v0 (n 3))) v1 (S (S v0)) v1 t h
theorem Z27 (h : a ≠ 0) : (a - 1) + 1 = a := an (so (l1 [a - 1, a] (A n0 n1) v1 n1 v1 t (ln (l1 [a - 1, a] n0 n0 n0 v1 t z0) (Ne.symm h)))) (ls _ _)
theorem Z28 (h : a ≤ b) : a - 1 ≤ b + 1 := l1 [a, b, a - 1] (A v0 v2) (A v1 v0) v2 (S v1) t (ad h (Nat.sub_le _ _))
theorem Z29 (h : (a + (2 * b)) + 20 < 1000) : a + 3 < 1000 := l1 [a, b] (A (A (A v0 (M (n 2) v1)) (n 20)) n1) (n 1000) (S (A v0 (n 3))) (n 1000) t h
theorem Z30 (h : a + c ≤ b) : a ≤ b := l1 [a, c, b] (A v0 v1) v2 v0 v2 t h
theorem Z31 (h : (a + (2 * b)) + 20 < 1000) : a + 1 < 1000 := l1 [a, b] (A (A (A v0 (M (n 2) v1)) (n 20)) n1) (n 1000) (S (S v0)) (n 1000) t h
theorem Z32 (h : c < b + 1) (h2 : c = a + 1) : a < b := l1 [c, b, a] (A (S v0) (S v2)) (A (S v1) v0) (S v2) v1 t (ad h (es h2))
theorem Z33 (h : a = b + 1) : a + 1 = (b + 1) + 1 := an (l1 [a, b] v0 (S v1) (S v0) (S (S v1)) t (oe h)) (l1 [a, b] (S v1) v0 (S (S v1)) (S v0) t (es h))
theorem Z34 (h : a + 1 = b + 1) : a = b := an (l1 [a, b] (S v0) (S v1) v0 v1 t (oe h)) (l1 [a, b] (S v1) (S v0) v1 v0 t (es h))
theorem Z35 : (a + 1) - 1 = a := an (l1 [(a + 1) - 1, a] (S v0) (S v1) v0 v1 t (so (l1 [(a + 1) - 1, a] n0 n0 n1 (S v1) t z0))) (l1 [(a + 1) - 1, a] (S v1) (S v0) v1 v0 t (ls _ _))
theorem Z36 : 1 ≤ a + 1 := l1 [a] n0 n0 n1 (S v0) t z0
theorem Z37 (h : a + 1 < b + 1) : a < b := l1 [a, b] (S (S v0)) (S v1) (S v0) v1 t h
theorem Z38 (h : (a + (2 * (b + 1))) + 20 < 1000) : (a + (2 * b)) + 20 < 1000 := l1 [a, b] (A (A (A v0 (M (n 2) (S v1))) (n 20)) n1) (n 1000) (A (A (A v0 (M (n 2) v1)) (n 20)) n1) (n 1000) t h
theorem Z39 (h : (a + (20 * (b + 1))) + 100 < 9900) : ((a + 1) + (20 * b)) + 100 < 9900 := l1 [a, b] (A (A (A v0 (M (n 20) (S v1))) (n 100)) n1) (n 9900) (A (A (A (S v0) (M (n 20) v1)) (n 100)) n1) (n 9900) t h
theorem Z40 (h : a ≤ e) (h2 : b ≤ e) (h3 : c ≤ d * (2 * e)) : (a + b) + c ≤ (d * (2 * e)) + (1 * (2 * e)) := l1 [a, e, b, c, d * (2 * e)] (A (A v0 v2) v3) (A (A v1 v1) v4) (A (A v0 v2) v3) (A v4 (M n1 (M (n 2) v1))) t (ad (ad h h2) h3)
theorem Z41 : a ≤ a + (b + 1) := l1 [a, b] n0 n0 v0 (A v0 (S v1)) t z0
theorem Z42 (h : a + (c + 1) ≤ b) : a < b := l1 [a, c, b] (A v0 (S v1)) v2 (S v0) v2 t h
theorem Z43 (h : 1 ≤ a) (h2 : a + (c + 1) ≤ b) : a - 1 < b := l1 [a, c, b, a - 1] (A (A v0 (S v1)) (S v3)) (A v2 v0) (S v3) v2 t (ad h2 (so h))
theorem Z44 (h : 1 ≤ a) : a ≠ a - 1 := fun z => fl (li 0 [a, a - 1] (A v0 (S v1)) (A v1 v0) n1 n0 t (ad (oe z) (so h)))
theorem Z45 (h : 1 ≤ b) (h2 : a + 1 < b + 1) (h3 : ¬(a + 1 < b)) : a = b - 1 := an (l1 [b, a, b - 1] (A (S (S v1)) v0) (A (S v0) (S v2)) v1 v2 t (ad h2 (ls _ _))) (l1 [b, a, b - 1] (A v0 (S v2)) (A (S v1) v0) v2 v1 t (ad (nl h3) (so h)))
theorem Z46 (h : (a - 1) + 1 < a + 1) (h2 : ¬((a - 1) + 1 < a)) : (a - 1) + 1 = a := an (so (l1 [a - 1, a] (S (S v0)) (S v1) n1 v1 t h)) (nl h2)
theorem Z47 (h : 1 ≤ a) : 1 ≤ a + 1 := l1 [a] n1 v0 n1 (S v0) t h
theorem Z48 (h : a + (b + 1) ≤ c) : (a + 1) + b ≤ c := l1 [a, b, c] (A v0 (S v1)) v2 (A (S v0) v1) v2 t h
theorem Z49 (h : a + 1 ≤ b) : a ≤ b := l1 [a, b] (S v0) v1 v0 v1 t h
theorem Z50 (h : a ≤ (b + 1) + c) : a ≤ b + (c + 1) := l1 [a, b, c] v0 (A (S v1) v2) v0 (A v1 (S v2)) t h
theorem Z51 (h : a < b + (c + 1)) : a < (b + 1) + c := l1 [a, b, c] (S v0) (A v1 (S v2)) (S v0) (A (S v1) v2) t h
theorem Z52 (h : a ≤ c) (h2 : b = c) : a ≤ b := l1 [a, c, b] (A v0 v1) (A v1 v2) v0 v2 t (ad h (es h2))
theorem Z53 (h : a + 1 < b) : a < b := l1 [a, b] (S (S v0)) v1 (S v0) v1 t h
theorem Z54 (h : b + 1 < a) : ((a - 1) - (b + 1)) + 1 < a := l1 [b, a, (a - 1) - (b + 1), a - 1] (A (S v3) (A v2 (S v0))) (A v1 v3) (S (S v2)) v1 t (ad (so (l1 [b, a, (a - 1) - (b + 1), a - 1] (S (S v0)) v1 n1 v1 t h)) (so (l1 [b, a, (a - 1) - (b + 1), a - 1] (A (S (S v0)) v1) (A v1 (S v3)) (S v0) v3 t (ad h (ls _ _)))))
theorem Z55 (h : b + 1 < a) : ((a - 1) - (b + 1)) + 1 = (a - 1) - b := an (l1 [b, a, (a - 1) - (b + 1), (a - 1) - b, a - 1] (A v4 (A v2 (S v0))) (A (A v3 v0) v4) (S v2) v3 t (ad (ls _ _) (so (l1 [b, a, (a - 1) - (b + 1), (a - 1) - b, a - 1] (A (S (S v0)) v1) (A v1 (S v4)) (S v0) v4 t (ad h (ls _ _)))))) (l1 [b, a, (a - 1) - (b + 1), (a - 1) - b, a - 1] (A v4 (A v3 v0)) (A (A v2 (S v0)) v4) v3 (S v2) t (ad (ls _ _) (so (l1 [b, a, (a - 1) - (b + 1), (a - 1) - b, a - 1] (A v2 (S v0)) v4 v0 v4 t (so (l1 [b, a, (a - 1) - (b + 1), (a - 1) - b, a - 1] (A (S (S v0)) v1) (A v1 (S v4)) (S v0) v4 t (ad h (ls _ _))))))))
theorem Z56 (h : 2 ≤ a) : 1 + (a - 1) ≤ a := l1 [a, a - 1] (S v1) v0 (A n1 v1) v0 t (so (l1 [a, a - 1] (n 2) v0 n1 v0 t h))
theorem Z57 (h : 1 < a) : 0 < a - 1 := l1 [a, a - 1] (A (S n1) v0) (A v0 (S v1)) (A n0 n1) v1 t (ad h (ls _ _))
theorem Z58 (h : 1 < a) : a - 1 < a := so (l1 [a, a - 1] (S n1) v0 n1 v0 t h)
theorem Z59 (h : 2 ≤ b) (h2 : a ≤ 1 + (b - 1)) (h3 : ¬(a = b)) : a ≤ b := l1 [b, a, b - 1] (S v1) v0 v1 v0 t (ln (l1 [b, a, b - 1] (A v1 (S v2)) (A (A n1 v2) v0) v1 v0 t (ad h2 (so (l1 [b, a, b - 1] (n 2) v0 n1 v0 t h)))) h3)
theorem Z60 (h : 1 ≤ a) (h2 : ¬(1 < a)) : a = 1 := an (nl h2) h
theorem Z61 (h : 2 ≤ a) : 1 < 1 + (a - 1) := l1 [a, a - 1] (A (n 2) v0) (A v0 (S v1)) (S n1) (A n1 v1) t (ad h (ls _ _))
theorem Z62 : 1 ≤ 2 := l1 [] n0 n0 n1 (n 2) t z0
theorem Z63 (h : 2 ≤ a) : 2 + (a - 2) ≤ a := l1 [a, a - 2] (A v1 (n 2)) v0 (A (n 2) v1) v0 t (so h)
theorem Z64 (h : a + 1 < 2) : a = 0 := an (l1 [a] (S (S v0)) (n 2) v0 n0 t h) (l1 [a] n0 n0 n0 v0 t z0)
theorem Z65 (h : 2 ≤ b) (h2 : a ≤ 2 + (b - 2)) : a ≤ b := l1 [b, a, b - 2] (A v1 (A v2 (n 2))) (A (A (n 2) v2) v0) v1 v0 t (ad h2 (so h))
theorem Z66 (h : 2 ≤ a) : 1 ≤ a := l1 [a] (n 2) v0 n1 v0 t h
theorem Z67 (h : 2 ≤ b) (h2 : a ≤ 2 + (b - 2)) : a + (b - a) ≤ b := l1 [b, a, b - 2, b - a] (A v3 v1) v0 (A v1 v3) v0 t (so (l1 [b, a, b - 2, b - a] (A v1 (A v2 (n 2))) (A (A (n 2) v2) v0) v1 v0 t (ad h2 (so h))))
theorem Z68 (h : 2 ≤ b) (h2 : b ≤ a) : 1 ≤ a := l1 [b, a] (A (n 2) v0) (A v0 v1) n1 v1 t (ad h h2)
theorem Z69 (h : 2 ≤ b) (h2 : a ≤ c + (b - c)) (h3 : c ≤ 2 + (b - 2)) : a ≤ b := l1 [b, a, c, b - c, b - 2] (A v1 (A v3 v2)) (A (A v2 v3) v0) v1 v0 t (ad h2 (so (l1 [b, a, c, b - c, b - 2] (A v2 (A v4 (n 2))) (A (A (n 2) v4) v0) v2 v0 t (ad h3 (so h)))))
theorem Z70 (h : a ≤ c) (h2 : c ≤ b) : a ≤ b := l1 [a, c, b] (A v0 v1) (A v1 v2) v0 v2 t (ad h h2)
theorem Z71 (h : a - c ≤ 0) (h2 : c ≤ b) : a ≤ b := l1 [a - c, c, b, a] (A (A v0 v1) v3) (A (A n0 v2) (A v0 v1)) v3 v2 t (ad (ad h h2) (ls _ _))
theorem Z72 (h : ¬(b ≤ a)) : a ≤ (a + b) / 2 := li 2 [a, b, (a + b) / 2] (A (S v0) (S (A v0 v1))) (A v1 (M (n 2) (S v2))) v0 v2 t (ad (Nat.lt_of_not_le h) (Nat.lt_mul_div_succ _ (by decide)))
theorem Z73 (h : b ≤ c) (h2 : ¬(b ≤ a)) : (a + b) / 2 ≤ c := li 2 [b, c, a, (a + b) / 2] (A (A (M (n 2) v0) (S v2)) (M (n 2) v3)) (A (A (M (n 2) v1) v0) (A v2 v0)) v3 v1 t (ad (ad (mm 2 h) (Nat.lt_of_not_le h2)) (Nat.mul_div_le _ _))
theorem Z74 (h : b - a ≤ c + 1) (h2 : ¬(b ≤ a)) : ((a + b) / 2) - a ≤ c := li 2 [b - a, c, a, b, ((a + b) / 2) - a, (a + b) / 2] (A (A (A v0 v3) (M (n 2) v5)) (M (n 2) (A v4 v2))) (A (A (A (S v1) (A v0 v2)) (A v2 v3)) (M (n 2) v5)) v4 v1 t (ad (ad (ad h (ls _ _)) (Nat.mul_div_le _ _)) (mm 2 (so (li 2 [b - a, c, a, b, ((a + b) / 2) - a, (a + b) / 2] (A (S v2) (S (A v2 v3))) (A v3 (M (n 2) (S v5))) v2 v5 t (ad (Nat.lt_of_not_le h2) (Nat.lt_mul_div_succ _ (by decide)))))))
theorem Z75 (h : b ≤ d) (h2 : d < c) (h3 : ¬(b ≤ a)) : (a + b) / 2 < c := li 2 [b, d, c, a, (a + b) / 2] (A (A (A (M (n 2) v0) (M (n 2) (S v1))) (S v3)) (M (n 2) v4)) (A (A (A (M (n 2) v1) (M (n 2) v2)) v0) (A v3 v0)) (S v4) v2 t (ad (ad (ad (mm 2 h) (mm 2 h2)) (Nat.lt_of_not_le h3)) (Nat.mul_div_le _ _))
theorem Z76 (h : b ≤ c) (h2 : ¬(b ≤ a)) : (a + b) / 2 ≠ c := fun z => fl (li 0 [b, c, a, (a + b) / 2] (A (A (A (M (n 2) v0) (S v2)) (M (n 2) v1)) (M (n 2) v3)) (A (A (A (M (n 2) v1) v0) (M (n 2) v3)) (A v2 v0)) n1 n0 t (ad (ad (ad (mm 2 h) (Nat.lt_of_not_le h2)) (mm 2 (es z))) (Nat.mul_div_le _ _)))
theorem Z77 (h : ¬(b ≤ a)) : ((a + b) / 2) + 1 ≤ b := li 2 [a, b, (a + b) / 2] (A (S v0) (M (n 2) v2)) (A v1 (A v0 v1)) (S v2) v1 t (ad (Nat.lt_of_not_le h) (Nat.mul_div_le _ _))
theorem Z78 (h : a - b ≤ c + 1) (h2 : ¬(a ≤ b)) : a - (((b + a) / 2) + 1) ≤ c := li 2 [a - b, c, b, a, a - (((b + a) / 2) + 1), (b + a) / 2] (A (A (A v0 v3) (S (A v2 v3))) (M (n 2) (A v4 (S v5)))) (A (A (A (S v1) (A v0 v2)) (M (n 2) (S v5))) (M (n 2) v3)) v4 v1 t (ad (ad (ad h (ls _ _)) (Nat.lt_mul_div_succ _ (by decide))) (mm 2 (so (li 2 [a - b, c, b, a, a - (((b + a) / 2) + 1), (b + a) / 2] (A (S v2) (M (n 2) v5)) (A v3 (A v2 v3)) (S v5) v3 t (ad (Nat.lt_of_not_le h2) (Nat.mul_div_le _ _))))))
theorem Z79 (h : b ≤ c) (h2 : ¬(b ≤ a)) : (a + b) / 2 < c := li 2 [b, c, a, (a + b) / 2] (A (A (M (n 2) v0) (S v2)) (M (n 2) v3)) (A (A (M (n 2) v1) v0) (A v2 v0)) (S v3) v1 t (ad (ad (mm 2 h) (Nat.lt_of_not_le h2)) (Nat.mul_div_le _ _))
theorem Z80 (h : a + (c + 1) = b) : a < b := l1 [a, c, b] (A v0 (S v1)) v2 (S v0) v2 t (oe h)
theorem Z81 : a - 0 ≤ a := Nat.sub_le _ _
theorem Z82 (h : a + (b + 1) = c) : (a + 1) + b = c := an (l1 [a, b, c] (A v0 (S v1)) v2 (A (S v0) v1) v2 t (oe h)) (l1 [a, b, c] v2 (A v0 (S v1)) v2 (A (S v0) v1) t (es h))
theorem Z83 : a - b ≤ a := Nat.sub_le _ _
theorem Z84 (h : b ≤ a) : a - (a - b) = b := an (l1 [b, a, a - (a - b), a - b] (A v1 (A v2 v3)) (A (A v3 v0) v1) v2 v0 t (ad (ls _ _) (so (Nat.sub_le _ _)))) (l1 [b, a, a - (a - b), a - b] (A v1 (A v3 v0)) (A (A v2 v3) v1) v0 v2 t (ad (ls _ _) (so h)))
theorem Z85 (h : a < b) (h2 : a = b) : False := fl (li 0 [a, b] (A (S v0) v1) (A v1 v0) n1 n0 t (ad h (es h2)))
theorem Z86 (h : a < b) (h2 : b < a ∧ a ≤ c) : False := fl (li 0 [a, b, c] (A (S v0) (S v1)) (A v1 v0) n1 n0 t (ad h h2.1))
theorem Z87 (h : a + 1 < b + 1) : a ≤ b := l1 [a, b] (S (S v0)) (S v1) v0 v1 t h
theorem Z88 (h : a + 1 < b + 1) : a + 1 ≤ b := l1 [a, b] (S (S v0)) (S v1) (S v0) v1 t h
theorem Z89 (h : a + 1 < c) (h2 : c ≤ b) : a + 1 < b := l1 [a, c, b] (A (S (S v0)) v1) (A v1 v2) (S (S v0)) v2 t (ad h h2)
theorem Z90 (h : a < b) (h2 : ¬(a + 1 < b)) : a + 1 = b := an h (nl h2)
theorem Z91 (h : ¬(a < b)) : ¬(a + 1 < b) := fun z => fl (li 0 [b, a] (A v0 (S (S v1))) (A v1 v0) n1 n0 t (ad (nl h) z))
theorem Z92 (h : ¬(a < b)) : ¬(a + 1 = b) := fun z => fl (li 0 [b, a] (A v0 (S v1)) (A v1 v0) n1 n0 t (ad (nl h) (oe z)))
theorem Z93 (h : a + 1 < b + 1) (h2 : ¬(a < c)) (h3 : ¬(a = c)) : (a - 1) + 1 < b := l1 [a, b, c, a - 1] (A (S (S v0)) (S v3)) (A (S v1) v0) (S (S v3)) v1 t (ad h (so (l1 [a, b, c, a - 1] (S v2) v0 n1 v0 t (ln (nl h2) (Ne.symm h3)))))
theorem Z94 (h : ¬(a < b)) (h2 : ¬(a = b)) : 1 ≤ a := l1 [b, a] (S v0) v1 n1 v1 t (ln (nl h) (Ne.symm h2))
theorem Z95 (h : a < b) : a + (b - a) = b := an (l1 [a, b, b - a] (A v2 v0) v1 (A v0 v2) v1 t (so (l1 [a, b, b - a] (S v0) v1 v0 v1 t h))) (l1 [a, b, b - a] v1 (A v2 v0) v1 (A v0 v2) t (ls _ _))
theorem Z96 (h : a ≤ b) (h2 : ¬(a < b)) : a = b := an h (nl h2)
theorem Z97 (h : b < a) : a ≤ b → 0 = b := fun z => an (l1 [b, a] n0 n0 n0 v0 t z0) (li 0 [b, a] (A (S v0) v1) (A v1 v0) v0 n0 t (ad h z))
theorem Z98 (h : b ≤ a) : a < b → a = 0 := fun z => an (li 0 [b, a] (A v0 (S v1)) (A v1 v0) v1 n0 t (ad h z)) (l1 [b, a] n0 n0 n0 v1 t z0)
theorem Z99 (h : a < 64) : a ≤ 1048576 := l1 [a] (S v0) (n 64) v0 (n 1048576) t h
theorem Z100 (h : a = b) (h2 : b < 64) : a ≤ 16777216 := l1 [a, b] (A v0 (S v1)) (A v1 (n 64)) v0 (n 16777216) t (ad (oe h) h2)
theorem Z101 (h : 2 ≤ b) (h2 : a = b) : 2 ≤ a := l1 [b, a] (A (n 2) v0) (A v0 v1) (n 2) v1 t (ad h (es h2))
theorem Z102 (h : a = b) (h2 : b < 64) : a < 64 := l1 [a, b] (A v0 (S v1)) (A v1 (n 64)) (S v0) (n 64) t (ad (oe h) h2)
theorem Z103 (h : a + 0 = b) : a = b := an (l1 [a, b] (A v0 n0) v1 v0 v1 t (oe h)) (l1 [a, b] v1 (A v0 n0) v1 v0 t (es h))
theorem Z104 (h : a + (c + 1) = d) (h2 : b = d) : a < b := l1 [a, c, d, b] (A (A v0 (S v1)) v2) (A v2 v3) (S v0) v3 t (ad (oe h) (es h2))
theorem Z105 (h : a < c) (h2 : c = b) : a < b := l1 [a, c, b] (A (S v0) v1) (A v1 v2) (S v0) v2 t (ad h (oe h2))
theorem Z106 (h : a < b) (h2 : b ≤ 64) : a < 64 := l1 [a, b] (A (S v0) v1) (A v1 (n 64)) (S v0) (n 64) t (ad h h2)
theorem Z107 : 0 + a = a := an (l1 [a] n0 n0 (A n0 v0) v0 t z0) (l1 [a] n0 n0 v0 (A n0 v0) t z0)
theorem Z108 (h : 2 ≤ a) : 0 < a := l1 [a] (n 2) v0 (A n0 n1) v0 t h
theorem Z109 (h : a < 64) : a ≤ 64 := l1 [a] (S v0) (n 64) v0 (n 64) t h
theorem Z110 : a ≤ b ∧ b < a + 0 ↔ a < 0 := ⟨fun z => li 0 [a, b] (A v0 (S v1)) (A v1 (A v0 n0)) (S v0) n0 t (ad z.1 z.2), fun z => ⟨li 0 [a, b] (S v0) n0 v0 v1 t z, li 0 [a, b] (S v0) n0 (S v1) (A v0 n0) t z⟩⟩
theorem Z111 (h : b = a + c) : a ≤ b ∧ b < a + (c + 1) ↔ a < a + 1 := ⟨fun z => l1 [b, a, c] n0 n0 (S v1) (S v1) t z0, fun z => ⟨l1 [b, a, c] (A v1 v2) v0 v1 v0 t (es h), l1 [b, a, c] v0 (A v1 v2) (S v0) (A v1 (S v2)) t (oe h)⟩⟩
theorem Z112 (h : a ≤ b ∧ b < a + c ↔ a < d) (h2 : e = a + c) (h3 : ¬(e = b)) : a ≤ b ∧ b < a + (c + 1) ↔ a < d + 0 := ⟨fun z => l1 [e, a, c, b, d] (S v1) v4 (S v1) (A v4 n0) t (h.mp ⟨z.1, l1 [e, a, c, b, d] (A v0 (S v3)) (A (A v1 v2) v0) (S v3) (A v1 v2) t (ad (oe h2) (ln (l1 [e, a, c, b, d] (A (A v1 v2) (S v3)) (A v0 (A v1 (S v2))) v3 v0 t (ad (es h2) z.2)) (Ne.symm h3)))⟩), fun z => ⟨(h.mpr (l1 [e, a, c, b, d] (S v1) (A v4 n0) (S v1) v4 t z)).1, l1 [e, a, c, b, d] (S v3) (A v1 v2) (S v3) (A v1 (S v2)) t (h.mpr (l1 [e, a, c, b, d] (S v1) (A v4 n0) (S v1) v4 t z)).2⟩⟩
theorem Z113 (h : a ≤ b ∧ b < a + c ↔ a < d) (h2 : ¬(d = a)) : a ≤ b ∧ b < a + (c + 0) ↔ a < d + 1 := ⟨fun z => l1 [a, b, c, d] (S v0) v3 (S v0) (S v3) t (h.mp ⟨z.1, l1 [a, b, c, d] (S v1) (A v0 (A v2 n0)) (S v1) (A v0 v2) t z.2⟩), fun z => ⟨(h.mpr (ln (l1 [a, b, c, d] (S v0) (S v3) v0 v3 t z) (Ne.symm h2))).1, l1 [a, b, c, d] (S v1) (A v0 v2) (S v1) (A v0 (A v2 n0)) t (h.mpr (ln (l1 [a, b, c, d] (S v0) (S v3) v0 v3 t z) (Ne.symm h2))).2⟩⟩
theorem Z114 (h : a ≤ b ∧ b < a + c ↔ a < d) : a ≤ b ∧ b < a + (c + 0) ↔ a < d + 0 := ⟨fun z => l1 [a, b, c, d] (S v0) v3 (S v0) (A v3 n0) t (h.mp ⟨z.1, l1 [a, b, c, d] (S v1) (A v0 (A v2 n0)) (S v1) (A v0 v2) t z.2⟩), fun z => ⟨(h.mpr (l1 [a, b, c, d] (S v0) (A v3 n0) (S v0) v3 t z)).1, l1 [a, b, c, d] (S v1) (A v0 v2) (S v1) (A v0 (A v2 n0)) t (h.mpr (l1 [a, b, c, d] (S v0) (A v3 n0) (S v0) v3 t z)).2⟩⟩
theorem Z115 (h : a < b + 1) (h2 : ¬(a = b)) : a < b := ln (l1 [a, b] (S v0) (S v1) v0 v1 t h) h2
theorem Z116 (h : a + 1 ≤ b) : ¬(a = b) := fun z => fl (li 0 [a, b] (A (S v0) v1) (A v1 v0) n1 n0 t (ad h (es z)))
theorem Z117 : (a + b) + c = (a + c) + b := an (l1 [a, b, c] n0 n0 (A (A v0 v1) v2) (A (A v0 v2) v1) t z0) (l1 [a, b, c] n0 n0 (A (A v0 v2) v1) (A (A v0 v1) v2) t z0)
theorem Z118 : a = 0 + a := an (l1 [a] n0 n0 v0 (A n0 v0) t z0) (l1 [a] n0 n0 (A n0 v0) v0 t z0)
theorem Z119 (h : a = c + d) (h2 : b = c + d) : a = b := an (l1 [a, c, d, b] (A v0 (A v1 v2)) (A (A v1 v2) v3) v0 v3 t (ad (oe h) (es h2))) (l1 [a, c, d, b] (A (A v1 v2) v3) (A v0 (A v1 v2)) v3 v0 t (ad (es h) (oe h2)))
theorem Z120 (h : a = c) (h2 : b = c) : a = b := an (l1 [a, c, b] (A v0 v1) (A v1 v2) v0 v2 t (ad (oe h) (es h2))) (l1 [a, c, b] (A v1 v2) (A v0 v1) v2 v0 t (ad (es h) (oe h2)))
theorem Z121 (h : ¬(b = a)) : ¬(a = b) := fun z => fl (li 0 [a, b] (A v0 (S v1)) (A v1 v0) n1 n0 t (ad (oe z) (ln (es z) h)))
theorem Z122 (h : a < b + c) : a < b + (c + 1) := l1 [a, b, c] (S v0) (A v1 v2) (S v0) (A v1 (S v2)) t h
theorem Z123 : a ≤ a + b := l1 [a, b] n0 n0 v0 (A v0 v1) t z0
theorem Z124 : a + b < a + (b + 1) := l1 [a, b] n0 n0 (S (A v0 v1)) (A v0 (S v1)) t z0
theorem Z125 : 1 ≤ 1 := l1 [] n0 n0 n1 n1 t z0
theorem Z126 : 0 ≤ 1 := l1 [] n0 n0 n0 n1 t z0
theorem Z127 (h : a ≤ c) (h2 : b ≤ 1) : a + b ≤ c + 1 := l1 [a, c, b] (A v0 v2) (S v1) (A v0 v2) (S v1) t (ad h h2)
theorem Z128 (h : a - c = 0) (h2 : c = b) (h3 : ¬(a < c)) : a = b := an (l1 [a - c, c, b, a] (A (A v0 v1) v3) (A (A n0 v2) (A v0 v1)) v3 v2 t (ad (ad (oe h) (oe h2)) (ls _ _))) (l1 [a - c, c, b, a] (A v2 v1) (A v1 v3) v2 v3 t (ad (es h2) (nl h3)))
theorem Z129 (h : a = b + d) (h2 : c = d) : a = b + c := an (l1 [a, b, d, c] (A v0 v2) (A (A v1 v2) v3) v0 (A v1 v3) t (ad (oe h) (es h2))) (l1 [a, b, d, c] (A (A v1 v2) v3) (A v0 v2) (A v1 v3) v0 t (ad (es h) (oe h2)))
theorem Z130 (h : b < a) : ¬(a < b) := fun z => fl (li 0 [b, a] (A (S v0) (S v1)) (A v1 v0) n1 n0 t (ad h z))
theorem Z131 (h : b < a) : ¬(a = b) := fun z => fl (li 0 [b, a] (A (S v0) v1) (A v1 v0) n1 n0 t (ad h (oe z)))
theorem Z132 : a < (a + 1) + b := l1 [a, b] n0 n0 (S v0) (A (S v0) v1) t z0
theorem Z133 (h : ¬(b < a)) (h2 : ¬(b = a)) : a < b := ln (nl h) (Ne.symm h2)
theorem Z134 (h : ¬(a < b)) (h2 : ¬(a = b)) : a = (b + 1) + (a - (b + 1)) := an (l1 [b, a, a - (b + 1)] v1 (A v2 (S v0)) v1 (A (S v0) v2) t (ls _ _)) (l1 [b, a, a - (b + 1)] (A v2 (S v0)) v1 (A (S v0) v2) v1 t (so (ln (nl h) (Ne.symm h2))))
theorem Z135 (h : a < (b + 1) + 0) (h2 : b < a) : ¬(a < (b + 1) + 0) := fun z => fl (li 0 [a, b] (A (S v0) (S v1)) (A (A (S v1) n0) v0) n1 n0 t (ad h h2))
theorem Z136 (h : a < (b + 1) + c) : a < (b + 1) + (c + 1) := l1 [a, b, c] (S v0) (A (S v1) v2) (S v0) (A (S v1) (S v2)) t h
theorem Z137 (h : a < (b + 1) + (c + 1)) (h2 : ¬(a = (b + 1) + c)) : a < (b + 1) + c := ln (l1 [a, b, c] (S v0) (A (S v1) (S v2)) v0 (A (S v1) v2) t h) h2
theorem Z138 : (a + 1) + b < (a + 1) + (b + 1) := l1 [a, b] n0 n0 (S (A (S v0) v1)) (A (S v0) (S v1)) t z0
theorem Z139 (h : b + a ≤ c) (h2 : d = c) (h3 : d ≤ b) : a = 0 := an (l1 [b, a, c, d] (A (A (A v0 v1) v2) v3) (A (A v2 v3) v0) v1 n0 t (ad (ad h (es h2)) h3)) (l1 [b, a, c, d] n0 n0 n0 v1 t z0)
theorem Z140 (h : a - b ≤ 0) (h2 : b < a) : ¬(a - b ≤ 0) := fun z => fl (li 0 [a - b, b, a] (A (A v0 (S v1)) v2) (A (A n0 v2) (A v0 v1)) n1 n0 t (ad (ad h h2) (ls _ _)))
theorem Z141 (h : a = b + d) (h2 : d = c) : a = b + c := an (l1 [a, b, d, c] (A v0 v2) (A (A v1 v2) v3) v0 (A v1 v3) t (ad (oe h) (oe h2))) (l1 [a, b, d, c] (A (A v1 v2) v3) (A v0 v2) (A v1 v3) v0 t (ad (es h) (es h2)))
theorem Z142 (h : a = c) (h2 : c ≤ b) : a ≤ b := l1 [a, c, b] (A v0 v1) (A v1 v2) v0 v2 t (ad (oe h) h2)
theorem Z143 (h : a < b) : a ≤ b := l1 [a, b] (S v0) v1 v0 v1 t h
theorem Z144 (h : 0 < b) : a < a + b := l1 [b, a] (A n0 n1) v0 (S v1) (A v1 v0) t h
theorem Z145 (h : a < c) (h2 : c ≤ b) : a + 1 ≤ b := l1 [a, c, b] (A (S v0) v1) (A v1 v2) (S v0) v2 t (ad h h2)
theorem Z146 (h : a ≠ b) (h2 : ¬(b < a)) : a + 1 ≤ b := ln (nl h2) h
theorem Z147 (h : c + 1 ≤ d) (h2 : d ≤ e) (h3 : e = c) : a < b := li 0 [c, d, e, a, b] (A (A (S v0) v1) v2) (A (A v1 v2) v0) (S v3) v4 t (ad (ad h h2) (oe h3))
theorem Z148 (h : a < b) : ¬(a = b) := fun z => fl (li 0 [a, b] (A (S v0) v1) (A v1 v0) n1 n0 t (ad h (es z)))
theorem Z149 (h : a = b) : a < b + 1 := l1 [a, b] v0 v1 (S v0) (S v1) t (oe h)
theorem Z150 (h : a ≤ b) (h2 : ¬(a = b)) : a < b := ln h h2
theorem Z151 : a ≤ b ∧ b - a < c ↔ a ≤ b ∧ b < a + c := ⟨fun z => ⟨z.1, l1 [a, b, b - a, c] (A (S v2) v1) (A v3 (A v2 v0)) (S v1) (A v0 v3) t (ad z.2 (ls _ _))⟩, fun z => ⟨z.1, l1 [a, b, b - a, c] (A (S v1) (A v2 v0)) (A (A v0 v3) v1) (S v2) v3 t (ad z.2 (so z.1))⟩⟩
theorem Z152 (h : d = a) (h2 : d = b + e) (h3 : e = c) : a = b + c := an (l1 [d, a, b, e, c] (A (A v1 v0) v3) (A (A v0 (A v2 v3)) v4) v1 (A v2 v4) t (ad (ad (es h) (oe h2)) (oe h3))) (l1 [d, a, b, e, c] (A (A v0 (A v2 v3)) v4) (A (A v1 v0) v3) (A v2 v4) v1 t (ad (ad (oe h) (es h2)) (es h3)))
theorem Z153 (h : a ≤ b) (h2 : c = b) : a + (b - a) = c := an (l1 [a, b, c, b - a] (A v1 (A v3 v0)) (A v2 v1) (A v0 v3) v2 t (ad (es h2) (so h))) (l1 [a, b, c, b - a] (A v2 v1) (A v1 (A v3 v0)) v2 (A v0 v3) t (ad (oe h2) (ls _ _)))
theorem Z154 (h : c + 1 ≤ d) (h2 : e = c) (h3 : f = d) (h4 : f ≤ e) : a < b := li 0 [c, d, e, f, a, b] (A (A (A (S v0) v2) v1) v3) (A (A (A v1 v0) v3) v2) (S v4) v5 t (ad (ad (ad h (oe h2)) (es h3)) h4)
theorem Z155 (h : a ≤ c) (h2 : c + 1 ≤ b) : a + 1 ≤ b := l1 [a, c, b] (A v0 (S v1)) (A v1 v2) (S v0) v2 t (ad h h2)
theorem Z156 (h : a ≤ c) (h2 : c + 1 ≤ b) : a ≤ b := l1 [a, c, b] (A v0 (S v1)) (A v1 v2) v0 v2 t (ad h h2)
theorem Z157 (h : a < 0 + b) : a < b := l1 [a, b] (S v0) (A n0 v1) (S v0) v1 t h
theorem Z158 (h : b < a) : a = (b + 1) + (a - (b + 1)) := an (l1 [b, a, a - (b + 1)] v1 (A v2 (S v0)) v1 (A (S v0) v2) t (ls _ _)) (l1 [b, a, a - (b + 1)] (A v2 (S v0)) v1 (A (S v0) v2) v1 t (so h))
theorem Z159 (h : a < 0 + ((b + 1) + c)) : a < (b + 1) + c := l1 [a, b, c] (S v0) (A n0 (A (S v1) v2)) (S v0) (A (S v1) v2) t h
theorem Z160 (h : 0 + (a + 1) ≤ b) : a < b := l1 [a, b] (A n0 (S v0)) v1 (S v0) v1 t h
theorem Z161 (h : a < (0 + (b + 1)) + c) : a < (b + 1) + c := l1 [a, b, c] (S v0) (A (A n0 (S v1)) v2) (S v0) (A (S v1) v2) t h
theorem Z162 (h : a = d) (h2 : d = b) : a < b + 1 ↔ 0 < c + 1 := ⟨fun z => l1 [a, d, b, c] n0 n0 (A n0 n1) (S v3) t z0, fun z => l1 [a, d, b, c] (A v0 v1) (A v1 v2) (S v0) (S v2) t (ad (oe h) (oe h2))⟩
theorem Z163 (h : a < b ↔ 0 < c) (h2 : d = b) (h3 : ¬(a = d)) : a < b + 1 ↔ 0 < c + 0 := ⟨fun z => l1 [d, b, a, c] (A n0 n1) v3 (A n0 n1) (A v3 n0) t (h.mp (l1 [d, b, a, c] (A v0 (S v2)) (A v1 v0) (S v2) v1 t (ad (oe h2) (ln (l1 [d, b, a, c] (A v1 (S v2)) (A v0 (S v1)) v2 v0 t (ad (es h2) z)) h3)))), fun z => l1 [d, b, a, c] (S v2) v1 (S v2) (S v1) t (h.mpr (l1 [d, b, a, c] (A n0 n1) (A v3 n0) (A n0 n1) v3 t z))⟩
theorem Z164 (h : a = d) (h2 : d ≤ b) (h3 : ¬(d = b)) : a < b ↔ 0 < c + 1 := ⟨fun z => l1 [a, d, b, c] n0 n0 (A n0 n1) (S v3) t z0, fun z => l1 [a, d, b, c] (A v0 (S v1)) (A v1 v2) (S v0) v2 t (ad (oe h) (ln h2 h3))⟩
theorem Z165 (h : a < b ↔ 0 < c) : a < b ↔ 0 < c + 0 := ⟨fun z => l1 [a, b, c] (A n0 n1) v2 (A n0 n1) (A v2 n0) t (h.mp z), fun z => h.mpr (l1 [a, b, c] (A n0 n1) (A v2 n0) (A n0 n1) v2 t z)⟩
theorem Z166 (h : a ≤ b) (h2 : ¬(b = a)) : a < b := ln h (Ne.symm h2)
theorem Z167 (h : b < c) (h2 : c = a) : 0 < a := l1 [b, c, a] (A (S v0) v1) (A v1 v2) (A n0 n1) v2 t (ad h (oe h2))
theorem Z168 (h : a < b) : a < (b + 1) + c := l1 [a, b, c] (S v0) v1 (S v0) (A (S v1) v2) t h
theorem Z169 (h : ¬(c < (a + 1) + b)) (h2 : ¬(c = (a + 1) + b)) : (a + 1) + b < c := ln (nl h) (Ne.symm h2)
theorem Z170 (h : (b + 1) + c < a) : a = (((b + 1) + c) + 1) + (a - (((b + 1) + c) + 1)) := an (l1 [b, c, a, a - (((b + 1) + c) + 1)] v2 (A v3 (S (A (S v0) v1))) v2 (A (S (A (S v0) v1)) v3) t (ls _ _)) (l1 [b, c, a, a - (((b + 1) + c) + 1)] (A v3 (S (A (S v0) v1))) v2 (A (S (A (S v0) v1)) v3) v2 t (so h))
theorem Z171 (h : 0 + (((a + 1) + b) + 1) ≤ c) : (a + 1) + b < c := l1 [a, b, c] (A n0 (S (A (S v0) v1))) v2 (S (A (S v0) v1)) v2 t h
theorem Z172 (h : 0 + (((a + 1) + c) + 1) ≤ b) : a < b := l1 [a, c, b] (A n0 (S (A (S v0) v1))) v2 (S v0) v2 t h
theorem Z173 (h : a < 0 + b) : a < (b + 1) + c := l1 [a, b, c] (S v0) (A n0 v1) (S v0) (A (S v1) v2) t h
theorem Z174 (h : a < c) (h2 : c = b) : ¬(a = b) := fun z => fl (li 0 [a, c, b] (A (A (S v0) v1) v2) (A (A v1 v2) v0) n1 n0 t (ad (ad h (oe h2)) (es z)))
theorem Z175 (h : ((((a + 1) + b) + 1) + c) - a ≤ d + 1) : ((((a + 1) + b) + 1) + c) - ((a + 1) + b) ≤ d := l1 [((((a + 1) + b) + 1) + c) - a, d, ((((a + 1) + b) + 1) + c) - ((a + 1) + b), a, b, c] (A (A v0 (A (S (A (S v3) v4)) v5)) (A v2 (A (S v3) v4))) (A (A (S v1) (A v0 v3)) (A (S (A (S v3) v4)) v5)) v2 v1 t (ad (ad h (ls _ _)) (so (l1 [((((a + 1) + b) + 1) + c) - a, d, ((((a + 1) + b) + 1) + c) - ((a + 1) + b), a, b, c] n0 n0 (A (S v3) v4) (A (S (A (S v3) v4)) v5) t z0)))
theorem Z176 (h : a ≤ b) : a ≤ (b + 1) + c := l1 [a, b, c] v0 v1 v0 (A (S v1) v2) t h
theorem Z177 : (a + 1) + b < (((a + 1) + b) + 1) + c := l1 [a, b, c] n0 n0 (S (A (S v0) v1)) (A (S (A (S v0) v1)) v2) t z0
theorem Z178 (h : c = a + d) (h2 : d = b) : (a + b) + 1 = c + 1 := an (l1 [c, a, d, b] (A (A v1 v2) v3) (A v0 v2) (S (A v1 v3)) (S v0) t (ad (es h) (es h2))) (l1 [c, a, d, b] (A v0 v2) (A (A v1 v2) v3) (S v0) (S (A v1 v3)) t (ad (oe h) (oe h2)))
theorem Z179 (h : a < c) (h2 : c = b) : a + 1 ≤ b := l1 [a, c, b] (A (S v0) v1) (A v1 v2) (S v0) v2 t (ad h (oe h2))
theorem Z180 (h : a < c) (h2 : c + 1 ≤ b) : a < b := l1 [a, c, b] (A (S v0) (S v1)) (A v1 v2) (S v0) v2 t (ad h h2)
theorem Z181 (h : a < b) (h2 : b = a) : False := fl (li 0 [a, b] (A (S v0) v1) (A v1 v0) n1 n0 t (ad h (oe h2)))
theorem Z182 (h : a < b) : a < b + 1 := l1 [a, b] (S v0) v1 (S v0) (S v1) t h
theorem Z183 : a < a + 1 := l1 [a] n0 n0 (S v0) (S v0) t z0
theorem Z184 : a < 0 ↔ 0 < 0 := ⟨fun z => li 0 [a] (S v0) n0 (A n0 n1) n0 t z, fun z => li 0 [a] (A n0 n1) n0 (S v0) n0 t z⟩
theorem Z185 (h : d = a) (h2 : d = b) : a < b + 1 ↔ 0 < c + 1 := ⟨fun z => l1 [d, a, b, c] n0 n0 (A n0 n1) (S v3) t z0, fun z => l1 [d, a, b, c] (A v1 v0) (A v0 v2) (S v1) (S v2) t (ad (es h) (oe h2))⟩
theorem Z186 (h : a < b ↔ 0 < c) (h2 : d = b) (h3 : ¬(d = a)) : a < b + 1 ↔ 0 < c + 0 := ⟨fun z => l1 [d, b, a, c] (A n0 n1) v3 (A n0 n1) (A v3 n0) t (h.mp (l1 [d, b, a, c] (A v0 (S v2)) (A v1 v0) (S v2) v1 t (ad (oe h2) (ln (l1 [d, b, a, c] (A v1 (S v2)) (A v0 (S v1)) v2 v0 t (ad (es h2) z)) (Ne.symm h3))))), fun z => l1 [d, b, a, c] (S v2) v1 (S v2) (S v1) t (h.mpr (l1 [d, b, a, c] (A n0 n1) (A v3 n0) (A n0 n1) v3 t z))⟩
theorem Z187 (h : d = a) (h2 : d ≤ b) (h3 : ¬(d = b)) : a < b ↔ 0 < c + 1 := ⟨fun z => l1 [d, a, b, c] n0 n0 (A n0 n1) (S v3) t z0, fun z => l1 [d, a, b, c] (A v1 (S v0)) (A v0 v2) (S v1) v2 t (ad (es h) (ln h2 h3))⟩
theorem Z188 (h : a + 1 ≤ d) (h2 : d + b ≤ c) : a + (b + 1) ≤ c := l1 [a, d, b, c] (A (S v0) (A v1 v2)) (A v1 v3) (A v0 (S v2)) v3 t (ad h h2)
theorem Z189 (h : 0 < c) (h2 : c + a ≤ b) : a + 1 ≤ b := l1 [c, a, b] (A (A n0 n1) (A v0 v1)) (A v0 v2) (S v1) v2 t (ad h h2)
theorem Z190 (h : 0 < a) (h2 : a = c) (h3 : d + 1 ≤ d + c ∧ d + c < (d + 1) + a ↔ d + 1 < e) (h4 : d ≤ d + c ∧ d + c < d + b ↔ d < e) : a + 1 ≤ b := l1 [a, c, b, d, e] (A v0 (S (A v3 v1))) (A v1 (A v3 v2)) (S v0) v2 t (ad (oe h2) (h4.mpr (l1 [a, c, b, d, e] (S (S v3)) v4 (S v3) v4 t (h3.mp ⟨l1 [a, c, b, d, e] (A (A n0 n1) v0) (A v0 v1) (S v3) (A v3 v1) t (ad h (oe h2)), l1 [a, c, b, d, e] v1 v0 (S (A v3 v1)) (A (S v3) v0) t (es h2)⟩))).2)
theorem Z191 (h : a + 1 = b) (h2 : a = c) (h3 : b + 1 ≤ c) : False := fl (li 0 [a, b, c] (A (A (S v0) v2) (S v1)) (A (A v1 v0) v2) n1 n0 t (ad (ad (oe h) (es h2)) h3))
theorem Z192 (h : 0 ≤ b ∧ b < 0 + a ↔ 0 < c) (h2 : d + 1 ≤ c) : 0 < a := l1 [d, c, a, b] (S v3) (A n0 v2) (A n0 n1) v2 t (h.mpr (l1 [d, c, a, b] (S v0) v1 (A n0 n1) v1 t h2)).2
theorem Z193 (h : a ≤ c) (h2 : c < b) : a ≤ b := l1 [a, c, b] (A v0 (S v1)) (A v1 v2) v0 v2 t (ad h h2)
theorem Z194 (h : a < b + 1) (h2 : a ≠ b) : a < b := ln (l1 [a, b] (S v0) (S v1) v0 v1 t h) h2
theorem Z195 (h : a < c) (h2 : c ≤ b) : a < b := l1 [a, c, b] (A (S v0) v1) (A v1 v2) (S v0) v2 t (ad h h2)
theorem Z196 (h : a < b + 1) (h2 : c < a) (h3 : c = b) : a = b := an (l1 [a, b, c] (S v0) (S v1) v0 v1 t h) (l1 [a, b, c] (A (S v2) v1) (A v0 v2) v1 v0 t (ad h2 (es h3)))
theorem Z197 (h : a ≤ c) (h2 : c = b) : a ≤ b := l1 [a, c, b] (A v0 v1) (A v1 v2) v0 v2 t (ad h (oe h2))
theorem Z198 (h : c < b) (h2 : c = a) : a < b := l1 [c, b, a] (A (S v0) v2) (A v1 v0) (S v2) v1 t (ad h (es h2))
theorem Z199 (h : a + 1 = 1 + 1) : a = 0 + 1 := an (l1 [a] (S v0) (S n1) v0 (A n0 n1) t (oe h)) (l1 [a] (S n1) (S v0) (A n0 n1) v0 t (es h))
theorem Z200 (h : 1 ≤ b) (h2 : 1 ≤ c) (h3 : a + 1 = b + (c + 1)) : a = (a - 1) + 1 := an (ls _ _) (so (l1 [b, c, a, a - 1] (A (S n1) (A v0 (S v1))) (A (A v0 v1) (S v2)) n1 v2 t (ad (ad h h2) (es h3))))
theorem Z201 (h : 1 ≤ b) (h2 : 1 ≤ c) (h3 : a + 1 = b + (c + 1)) : (a - 1) + 1 = b + c := an (l1 [b, c, a, a - 1] (A (S v2) (S v3)) (A (A v0 (S v1)) v2) (S v3) (A v0 v1) t (ad (oe h3) (so (l1 [b, c, a, a - 1] (A (S n1) (A v0 (S v1))) (A (A v0 v1) (S v2)) n1 v2 t (ad (ad h h2) (es h3)))))) (l1 [b, c, a, a - 1] (A (A v0 (S v1)) v2) (A (S v2) (S v3)) (A v0 v1) (S v3) t (ad (es h3) (ls _ _)))
theorem Z202 (h : 1 ≤ b) (h2 : 1 ≤ c) (h3 : a + 1 = (b + 1) + c) : a = (a - 1) + 1 := an (ls _ _) (so (l1 [b, c, a, a - 1] (A (S n1) (A (S v0) v1)) (A (A v0 v1) (S v2)) n1 v2 t (ad (ad h h2) (es h3))))
theorem Z203 (h : 1 ≤ b) (h2 : 1 ≤ c) (h3 : a + 1 = (b + 1) + c) : (a - 1) + 1 = b + c := an (l1 [b, c, a, a - 1] (A (S v2) (S v3)) (A (A (S v0) v1) v2) (S v3) (A v0 v1) t (ad (oe h3) (so (l1 [b, c, a, a - 1] (A (S n1) (A (S v0) v1)) (A (A v0 v1) (S v2)) n1 v2 t (ad (ad h h2) (es h3)))))) (l1 [b, c, a, a - 1] (A (A (S v0) v1) v2) (A (S v2) (S v3)) (A v0 v1) (S v3) t (ad (es h3) (ls _ _)))
theorem Z204 (h : a + 1 = b + c) : (a + 1) + 1 = (b + 1) + c := an (l1 [a, b, c] (S v0) (A v1 v2) (S (S v0)) (A (S v1) v2) t (oe h)) (l1 [a, b, c] (A v1 v2) (S v0) (A (S v1) v2) (S (S v0)) t (es h))
theorem Z205 (h : a + 1 = b + c) : (a + 1) + 1 = b + (c + 1) := an (l1 [a, b, c] (S v0) (A v1 v2) (S (S v0)) (A v1 (S v2)) t (oe h)) (l1 [a, b, c] (A v1 v2) (S v0) (A v1 (S v2)) (S (S v0)) t (es h))
theorem Z206 (h : a ≤ (b + 1) + d) (h2 : d < c) : a ≤ b + c := l1 [a, b, d, c] (A v0 (S v2)) (A (A (S v1) v2) v3) v0 (A v1 v3) t (ad h h2)
theorem Z207 (h : a = 1 + b) : 1 ≤ a := l1 [a, b] (A n1 v1) v0 n1 v0 t (es h)
theorem Z208 (h : a ≤ c) (h2 : b = 1 + d) (h3 : c ≤ d) : a + 1 ≤ b := l1 [a, c, b, d] (A (A v0 (A n1 v3)) v1) (A (A v1 v2) v3) (S v0) v2 t (ad (ad h (es h2)) h3)
theorem Z209 (h : 1 ≤ a) : ((a + b) - 1) + 1 = a + b := an (so (l1 [a, (a + b) - 1, b] n1 v0 n1 (A v0 v2) t h)) (ls _ _)
theorem Z210 (h : (a + b) - 1 ≤ c) : a + b ≤ c + 1 := l1 [(a + b) - 1, c, a, b] (A v0 (A v2 v3)) (A v1 (S v0)) (A v2 v3) (S v1) t (ad h (ls _ _))
theorem Z211 (h : 1 ≤ a) (h2 : 1 ≤ b) (h3 : a + b ≤ c + 1) (h4 : c = 0) : a + b = c + 1 := an h3 (l1 [a, b, c] (A (S n1) v2) (A (A v0 v1) n0) (S v2) (A v0 v1) t (ad (ad h h2) (oe h4)))
theorem Z212 (h : a + b ≤ c + 1) (h2 : c + 1 = d + e) (h3 : d ≤ a) (h4 : e ≤ b) : a + b = c + 1 := an h (l1 [a, b, c, d, e] (A (A (S v2) v3) v4) (A (A (A v3 v4) v0) v1) (S v2) (A v0 v1) t (ad (ad (oe h2) h3) h4))
theorem Z213 : (a + b) + 1 = (a + 1) + b := an (l1 [a, b] n0 n0 (S (A v0 v1)) (A (S v0) v1) t z0) (l1 [a, b] n0 n0 (A (S v0) v1) (S (A v0 v1)) t z0)
theorem Z214 : a + b = a + b := an (l1 [a, b] n0 n0 (A v0 v1) (A v0 v1) t z0) (l1 [a, b] n0 n0 (A v0 v1) (A v0 v1) t z0)
theorem Z215 : (a + 1) + 0 = (a + 0) + 1 := an (l1 [a] n0 n0 (A (S v0) n0) (S (A v0 n0)) t z0) (l1 [a] n0 n0 (S (A v0 n0)) (A (S v0) n0) t z0)
theorem Z216 (h : b < c) (h2 : ¬(b < c + 1)) : (a + 1) + 0 = (a + 0) + 0 := an (li 0 [b, c, a] (A (S v0) (S v1)) (A v1 v0) (A (S v2) n0) (A (A v2 n0) n0) t (ad h (nl h2))) (l1 [b, c, a] n0 n0 (A (A v2 n0) n0) (A (S v2) n0) t z0)
theorem Z217 : (a + 1) + 1 = (a + 1) + 1 := an (l1 [a] n0 n0 (S (S v0)) (S (S v0)) t z0) (l1 [a] n0 n0 (S (S v0)) (S (S v0)) t z0)
theorem Z218 (h : b < c) (h2 : ¬(b < c + 1)) : (a + 1) + 1 = (a + 1) + 0 := an (li 0 [b, c, a] (A (S v0) (S v1)) (A v1 v0) (S (S v2)) (A (S v2) n0) t (ad h (nl h2))) (l1 [b, c, a] n0 n0 (A (S v2) n0) (S (S v2)) t z0)
theorem Z219 (h : b < c + 1) (h2 : ¬(b < c)) (h3 : ¬(c = b)) : (a + 0) + 0 = (a + 0) + 1 := an (l1 [b, c, a] n0 n0 (A (A v2 n0) n0) (S (A v2 n0)) t z0) (li 0 [b, c, a] (A (S v0) (S v1)) (A (S v1) v0) (S (A v2 n0)) (A (A v2 n0) n0) t (ad h (ln (nl h2) h3)))
theorem Z220 : (a + 0) + 0 = (a + 0) + 0 := an (l1 [a] n0 n0 (A (A v0 n0) n0) (A (A v0 n0) n0) t z0) (l1 [a] n0 n0 (A (A v0 n0) n0) (A (A v0 n0) n0) t z0)
theorem Z221 (h : b < c + 1) (h2 : ¬(b < c)) (h3 : ¬(c = b)) : (a + 0) + 1 = (a + 1) + 1 := an (l1 [b, c, a] n0 n0 (S (A v2 n0)) (S (S v2)) t z0) (li 0 [b, c, a] (A (S v0) (S v1)) (A (S v1) v0) (S (S v2)) (S (A v2 n0)) t (ad h (ln (nl h2) h3)))
theorem Z222 : (a + 0) + 1 = (a + 1) + 0 := an (l1 [a] n0 n0 (S (A v0 n0)) (A (S v0) n0) t z0) (l1 [a] n0 n0 (A (S v0) n0) (S (A v0 n0)) t z0)
theorem Z223 (h : a ≤ b) : a + 0 ≤ b + 1 := l1 [a, b] v0 v1 (A v0 n0) (S v1) t h
theorem Z224 (h : a ≤ b) : a < b + 1 := l1 [a, b] v0 v1 (S v0) (S v1) t h
theorem Z225 (h : a ≤ b) : a + 1 < b + 2 := l1 [a, b] v0 v1 (S (S v0)) (A v1 (n 2)) t h
theorem Z226 (h : a ≤ b) : a + 0 < b + 2 := l1 [a, b] v0 v1 (S (A v0 n0)) (A v1 (n 2)) t h
theorem Z227 (h : b ≤ a) : ¬(a < b) := fun z => fl (li 0 [b, a] (A v0 (S v1)) (A v1 v0) n1 n0 t (ad h z))
theorem Z228 (h : a ≤ b) (h2 : d = b) (h3 : d ≤ c) : a ≤ b ∧ b < c + 1 := ⟨h, l1 [a, b, d, c] (A v1 v2) (A v2 v3) (S v1) (S v3) t (ad (es h2) h3)⟩
theorem Z229 (h : d = b) (h2 : d ≤ a) : ¬(a + 1 ≤ b ∧ b < c + 1) := fun z => fl (li 0 [d, b, a, c] (A (A v1 v0) (S v2)) (A (A v0 v2) v1) n1 n0 t (ad (ad (es h) h2) z.1))
theorem Z230 (h : c = b) (h2 : c ≤ a) : ¬(a + 1 ≤ b) := fun z => fl (li 0 [c, b, a] (A (A v1 v0) (S v2)) (A (A v0 v2) v1) n1 n0 t (ad (ad (es h) h2) z))
theorem Z231 (h : c = b) (h2 : c ≤ d) (h3 : d ≤ a) : ¬(a + 1 ≤ b) := fun z => fl (li 0 [c, b, d, a] (A (A (A v1 v0) v2) (S v3)) (A (A (A v0 v2) v3) v1) n1 n0 t (ad (ad (ad (es h) h2) h3) z))
theorem Z232 (h : c ≤ b) : ¬(a ≤ b ∧ b < c) := fun z => fl (li 0 [c, b, a] (A v0 (S v1)) (A v1 v0) n1 n0 t (ad h z.2))
theorem Z233 (h : 0 < a) : a = (a - 1) + 1 := an (ls _ _) (so (l1 [a, a - 1] (A n0 n1) v0 n1 v0 t h))
theorem Z234 : 0 ≤ a + 1 := l1 [a] n0 n0 n0 (S v0) t z0
theorem Z235 (h : a + 1 ≤ b + 1) : a ≤ b + 1 := l1 [a, b] (S v0) (S v1) v0 (S v1) t h
theorem Z236 : 0 < a + 2 := l1 [a] n0 n0 (A n0 n1) (A v0 (n 2)) t z0
theorem Z237 : a + 1 < a + 2 := l1 [a] n0 n0 (S (S v0)) (A v0 (n 2)) t z0
theorem Z238 (h : a < b + 1) : a ≤ b + 1 := l1 [a, b] (S v0) (S v1) v0 (S v1) t h
theorem Z239 (h : a ≤ b) (h2 : b ≤ c) (h3 : c - a ≤ 0) : a = b := an h (l1 [a, b, c, c - a] (A (A v1 v3) v2) (A (A v2 n0) (A v3 v0)) v1 v0 t (ad (ad h2 h3) (ls _ _)))
theorem Z240 (h : a - b ≤ 0) (h2 : b ≤ a) : a = b := an (l1 [a - b, b, a] (A v0 v2) (A n0 (A v0 v1)) v2 v1 t (ad h (ls _ _))) h2
theorem Z241 (h : a < b) (h2 : b - a ≤ c + 1) : ((a + b) / 2) - a ≤ c := li 2 [a, b, b - a, c, ((a + b) / 2) - a, (a + b) / 2] (A (A (A v2 v1) (M (n 2) v5)) (M (n 2) (A v4 v0))) (A (A (A (S v3) (A v2 v0)) (A v0 v1)) (M (n 2) v5)) v4 v3 t (ad (ad (ad h2 (ls _ _)) (Nat.mul_div_le _ _)) (mm 2 (so (li 2 [a, b, b - a, c, ((a + b) / 2) - a, (a + b) / 2] (A (S v0) (S (A v0 v1))) (A v1 (M (n 2) (S v5))) v0 v5 t (ad h (Nat.lt_mul_div_succ _ (by decide)))))))
theorem Z242 (h : a ≤ d) (h2 : b ≤ c) (h3 : d ≤ (a + b) / 2) : (a + b) / 2 ≤ c := l1 [a, d, b, c, (a + b) / 2] (A (A (A v0 v2) v1) (M (n 2) v4)) (A (A (A v1 v3) v4) (A v0 v2)) v4 v3 t (ad (ad (ad h h2) h3) (Nat.mul_div_le _ _))
theorem Z243 (h : a - b ≤ c + 1) (h2 : b < a) : a - (((b + a) / 2) + 1) ≤ c := li 2 [a - b, c, b, a, a - (((b + a) / 2) + 1), (b + a) / 2] (A (A (A v0 v3) (S (A v2 v3))) (M (n 2) (A v4 (S v5)))) (A (A (A (S v1) (A v0 v2)) (M (n 2) (S v5))) (M (n 2) v3)) v4 v1 t (ad (ad (ad h (ls _ _)) (Nat.lt_mul_div_succ _ (by decide))) (mm 2 (so (li 2 [a - b, c, b, a, a - (((b + a) / 2) + 1), (b + a) / 2] (A (S v2) (M (n 2) v5)) (A v3 (A v2 v3)) (S v5) v3 t (ad h2 (Nat.mul_div_le _ _))))))
theorem Z244 (h : a ≤ b) (h2 : d ≤ c) (h3 : ¬(d ≤ (b + c) / 2)) : a ≤ ((b + c) / 2) + 1 := l1 [a, b, d, c, (b + c) / 2] (A (A (A v0 v2) (S v4)) (S (A v1 v3))) (A (A (A v1 v3) v2) (M (n 2) (S v4))) v0 (S v4) t (ad (ad (ad h h2) (Nat.lt_of_not_le h3)) (Nat.lt_mul_div_succ _ (by decide)))
theorem Z245 (h : a ≤ b) (h2 : b ≤ c) (h3 : ¬(a < c)) : a = b := an h (l1 [a, b, c] (A v1 v2) (A v2 v0) v1 v0 t (ad h2 (nl h3)))
theorem Z246 (h : b ≤ a) (h2 : ¬(b < a)) : a = b := an (nl h2) h
theorem Z247 (h : a < b) (h2 : b ≤ d) (h3 : d ≤ c) : (a + b) / 2 < c := li 2 [a, b, d, c, (a + b) / 2] (A (A (A (S v0) (M (n 2) v1)) (M (n 2) v2)) (M (n 2) v4)) (A (A (A v1 (M (n 2) v2)) (M (n 2) v3)) (A v0 v1)) (S v4) v3 t (ad (ad (ad h (mm 2 h2)) (mm 2 h3)) (Nat.mul_div_le _ _))
theorem Z248 (h : a ≤ b) (h2 : b < c) : a ≤ (b + c) / 2 := li 2 [a, b, c, (b + c) / 2] (A (A (M (n 2) v0) (S v1)) (S (A v1 v2))) (A (A (M (n 2) v1) v2) (M (n 2) (S v3))) v0 v3 t (ad (ad (mm 2 h) h2) (Nat.lt_mul_div_succ _ (by decide)))
theorem Z249 (h : a < b) (h2 : b ≤ c) : (a + b) / 2 < c := li 2 [a, b, c, (a + b) / 2] (A (A (S v0) (M (n 2) v1)) (M (n 2) v3)) (A (A v1 (M (n 2) v2)) (A v0 v1)) (S v3) v2 t (ad (ad h (mm 2 h2)) (Nat.mul_div_le _ _))
theorem Z250 (h : a < b + 1) (h2 : ¬(a < b)) : a - b = 0 := an (l1 [a, b, a - b] (A (S v0) (A v2 v1)) (A (S v1) v0) v2 n0 t (ad h (so (nl h2)))) (l1 [a, b, a - b] n0 n0 n0 v2 t z0)
theorem Z251 (h : a + (b + 1) ≤ c) : a + b ≤ c := l1 [a, b, c] (A v0 (S v1)) v2 (A v0 v1) v2 t h
theorem Z252 (h : a ≤ b + 1) (h2 : ¬(a = b + 1)) : a ≤ b := l1 [a, b] (S v0) (S v1) v0 v1 t (ln h h2)
theorem Z253 (h : a ≤ b) : a ≤ b + 1 := l1 [a, b] v0 v1 v0 (S v1) t h
theorem Z254 (h : 0 < a) : a - 1 < a := so (l1 [a, a - 1] (A n0 n1) v0 n1 v0 t h)
theorem Z255 (h : 0 < b) (h2 : a ≤ b - 1) : a < b := l1 [b, a, b - 1] (A v1 (S v2)) (A v2 v0) (S v1) v0 t (ad h2 (so (l1 [b, a, b - 1] (A n0 n1) v0 n1 v0 t h)))
theorem Z256 (h : a < b) : a ≤ b - 1 := l1 [a, b, b - 1] (A (S v0) v1) (A v1 (S v2)) v0 v2 t (ad h (ls _ _))
theorem Z257 (h : a < c + 1) (h2 : c = b) (h3 : ¬(a < c)) : a = b := an (l1 [a, c, b] (A (S v0) v1) (A (S v1) v2) v0 v2 t (ad h (oe h2))) (l1 [a, c, b] (A v2 v1) (A v1 v0) v2 v0 t (ad (es h2) (nl h3)))
theorem Z258 (h : a < b) (h2 : b ≤ 64) : a ≤ 1048576 := l1 [a, b] (A (S v0) v1) (A v1 (n 64)) v0 (n 1048576) t (ad h h2)
theorem Z259 (h : a ≤ b) (h2 : b < c) (h3 : c ≤ 64) : 1 + a ≤ 1048576 := l1 [a, b, c] (A (A v0 (S v1)) v2) (A (A v1 v2) (n 64)) (A n1 v0) (n 1048576) t (ad (ad h h2) h3)
theorem Z260 (h : a = b) (h2 : b < c) (h3 : c ≤ 64) : a < 1048576 := l1 [a, b, c] (A (A v0 (S v1)) v2) (A (A v1 v2) (n 64)) (S v0) (n 1048576) t (ad (ad (oe h) h2) h3)
theorem Z261 : (a + 2) + (2 * b) ≠ a := fun z => fl (li 0 [a, b] (A (A v0 (n 2)) (M (n 2) v1)) v0 n1 n0 t (oe z))
theorem Z262 : (a + 2) + (2 * b) ≠ a + 1 := fun z => fl (li 0 [a, b] (A (A v0 (n 2)) (M (n 2) v1)) (S v0) n1 n0 t (oe z))
theorem Z263 (h : c < a) : (a + 2) + (2 * b) ≠ c := fun z => fl (li 0 [c, a, b] (A (S v0) (A (A v1 (n 2)) (M (n 2) v2))) (A v1 v0) n1 n0 t (ad h (oe z)))
theorem Z264 (h : ¬(c = b)) : (a + 2) + (2 * b) ≠ (a + 2) + (2 * c) := fun z => fl (li 0 [a, b, c] (A (A (A v0 (n 2)) (M (n 2) v1)) (M (n 2) (S v2))) (A (A (A v0 (n 2)) (M (n 2) v2)) (M (n 2) v1)) n1 n0 t (ad (oe z) (mm 2 (ln (li 2 [a, b, c] (A (A v0 (n 2)) (M (n 2) v2)) (A (A v0 (n 2)) (M (n 2) v1)) v2 v1 t (es z)) h))))
theorem Z265 : (a + 3) + (2 * b) ≠ a := fun z => fl (li 0 [a, b] (A (A v0 (n 3)) (M (n 2) v1)) v0 n1 n0 t (oe z))
theorem Z266 : (a + 3) + (2 * b) ≠ a + 1 := fun z => fl (li 0 [a, b] (A (A v0 (n 3)) (M (n 2) v1)) (S v0) n1 n0 t (oe z))
theorem Z267 (h : c < a) : (a + 3) + (2 * b) ≠ c := fun z => fl (li 0 [c, a, b] (A (S v0) (A (A v1 (n 3)) (M (n 2) v2))) (A v1 v0) n1 n0 t (ad h (oe z)))
theorem Z268 (h : ¬(c = b)) : (a + 3) + (2 * b) ≠ (a + 3) + (2 * c) := fun z => fl (li 0 [a, b, c] (A (A (A v0 (n 3)) (M (n 2) v1)) (M (n 2) (S v2))) (A (A (A v0 (n 3)) (M (n 2) v2)) (M (n 2) v1)) n1 n0 t (ad (oe z) (mm 2 (ln (li 2 [a, b, c] (A (A v0 (n 3)) (M (n 2) v2)) (A (A v0 (n 3)) (M (n 2) v1)) v2 v1 t (es z)) h))))
theorem Z269 (h : b = (a + 2) + (2 * c)) : a ≠ b := fun z => fl (li 0 [b, a, c] (A (A (A v1 (n 2)) (M (n 2) v2)) v0) (A v0 v1) n1 n0 t (ad (es h) (es z)))
theorem Z270 (h : b = (a + 2) + (2 * c)) : a < b := l1 [b, a, c] (A (A v1 (n 2)) (M (n 2) v2)) v0 (S v1) v0 t (es h)
theorem Z271 (h : b = c + 1) (h2 : c = (a + 2) + (2 * d)) : a + 1 ≠ b := fun z => fl (li 0 [b, c, a, d] (A (A (S v1) (A (A v2 (n 2)) (M (n 2) v3))) v0) (A (A v0 v1) (S v2)) n1 n0 t (ad (ad (es h) (es h2)) (es z)))
theorem Z272 (h : b = c + 1) (h2 : c = (a + 2) + (2 * d)) : a + 1 < b := l1 [b, c, a, d] (A (S v1) (A (A v2 (n 2)) (M (n 2) v3))) (A v0 v1) (S (S v2)) v0 t (ad (es h) (es h2))
theorem Z273 (h : b = (a + 2) + (2 * c)) : a + 1 < b := l1 [b, a, c] (A (A v1 (n 2)) (M (n 2) v2)) v0 (S (S v1)) v0 t (es h)
theorem Z274 : a + 1 ≠ a := fun z => fl (li 0 [a] (S v0) v0 n1 n0 t (oe z))
theorem Z275 (h : a < c) (h2 : b = c + 1) : a < b := l1 [a, c, b] (A (S v0) (S v1)) (A v1 v2) (S v0) v2 t (ad h (es h2))
theorem Z276 (h : a = (b + 2) + (2 * c)) : a + 2 = (b + 2) + (2 * (c + 1)) := an (l1 [a, b, c] v0 (A (A v1 (n 2)) (M (n 2) v2)) (A v0 (n 2)) (A (A v1 (n 2)) (M (n 2) (S v2))) t (oe h)) (l1 [a, b, c] (A (A v1 (n 2)) (M (n 2) v2)) v0 (A (A v1 (n 2)) (M (n 2) (S v2))) (A v0 (n 2)) t (es h))
theorem Z277 (h : a < c) (h2 : b = (c + 2) + (2 * d)) : a < b := l1 [a, c, b, d] (A (S v0) (A (A v1 (n 2)) (M (n 2) v3))) (A v1 v2) (S v0) v2 t (ad h (es h2))
theorem Z278 (h : a < b) : a ≠ b := fun z => fl (li 0 [a, b] (A (S v0) v1) (A v1 v0) n1 n0 t (ad h (es z)))
theorem Z279 (h : a < b) : a ≠ b + 1 := fun z => fl (li 0 [a, b] (A (S v0) (S v1)) (A v1 v0) n1 n0 t (ad h (es z)))
theorem Z280 (h : b = c + 1) (h2 : c = (a + 2) + (2 * d)) : a < b := l1 [b, c, a, d] (A (S v1) (A (A v2 (n 2)) (M (n 2) v3))) (A v0 v1) (S v2) v0 t (ad (es h) (es h2))
theorem Z281 : a ≠ a + 1 := fun z => fl (li 0 [a] (S v0) v0 n1 n0 t (es z))
theorem Z282 (h : b < d) (h2 : c = e + 2) (h3 : e = (a + 2) + (2 * d)) : (a + 2) + (2 * b) < c := l1 [b, d, c, e, a] (A (A (M (n 2) (S v0)) (A v3 (n 2))) (A (A v4 (n 2)) (M (n 2) v1))) (A (A (M (n 2) v1) v2) v3) (A (A (A v4 (n 2)) (M (n 2) v0)) n1) v2 t (ad (ad (mm 2 h) (es h2)) (es h3))
theorem Z283 (h : b = a + 2) : a < b := l1 [b, a] (A v1 (n 2)) v0 (S v1) v0 t (es h)
theorem Z284 (h : b < d) (h2 : c = e + 2) (h3 : e = (a + 2) + (2 * d)) : (a + 3) + (2 * b) < c := l1 [b, d, c, e, a] (A (A (M (n 2) (S v0)) (A v3 (n 2))) (A (A v4 (n 2)) (M (n 2) v1))) (A (A (M (n 2) v1) v2) v3) (A (A (A v4 (n 3)) (M (n 2) v0)) n1) v2 t (ad (ad (mm 2 h) (es h2)) (es h3))
theorem Z285 (h : a = c + 1) (h2 : b = c + 2) : a < b := l1 [a, c, b] (A v0 (A v1 (n 2))) (A (S v1) v2) (S v0) v2 t (ad (oe h) (es h2))
theorem Z286 (h : b = a + 2) : a ≤ b := l1 [b, a] (A v1 (n 2)) v0 v1 v0 t (es h)
theorem Z287 (h : b = c + 1) (h2 : d = c + 2) (h3 : a < d) (h4 : ¬(a < c)) (h5 : ¬(a = c)) : a = b := an (l1 [b, c, d, a] (A (A (S v1) v2) (S v3)) (A (A v0 (A v1 (n 2))) v2) v3 v0 t (ad (ad (es h) (oe h2)) h3)) (l1 [b, c, d, a] (A v0 (S v1)) (A (S v1) v3) v0 v3 t (ad (oe h) (ln (nl h4) (Ne.symm h5))))
theorem Z288 : ((a + 2) + (2 * b)) + 1 = (a + 3) + (2 * b) := an (l1 [a, b] n0 n0 (A (A (A v0 (n 2)) (M (n 2) v1)) n1) (A (A v0 (n 3)) (M (n 2) v1)) t z0) (l1 [a, b] n0 n0 (A (A v0 (n 3)) (M (n 2) v1)) (A (A (A v0 (n 2)) (M (n 2) v1)) n1) t z0)
theorem Z289 (h : b < d) (h2 : c = (a + 2) + (2 * d)) : (a + 2) + (2 * b) < c := l1 [b, d, c, a] (A (M (n 2) (S v0)) (A (A v3 (n 2)) (M (n 2) v1))) (A (M (n 2) v1) v2) (A (A (A v3 (n 2)) (M (n 2) v0)) n1) v2 t (ad (mm 2 h) (es h2))
theorem Z290 (h : a < b + 1) (h2 : ¬(a < b)) : a = b := an (l1 [a, b] (S v0) (S v1) v0 v1 t h) (nl h2)
theorem Z291 (h : c = d + 1) (h2 : d = (a + 2) + (2 * b)) : (a + 2) + (2 * b) < c := l1 [c, d, a, b] (A (S v1) (A (A v2 (n 2)) (M (n 2) v3))) (A v0 v1) (A (A (A v2 (n 2)) (M (n 2) v3)) n1) v0 t (ad (es h) (es h2))
theorem Z292 (h : b < d) (h2 : c = (a + 2) + (2 * e)) (h3 : d = e) : (a + 3) + (2 * b) < c := l1 [b, d, c, a, e] (A (A (M (n 2) (S v0)) (A (A v3 (n 2)) (M (n 2) v4))) (M (n 2) v1)) (A (A (M (n 2) v1) v2) (M (n 2) v4)) (A (A (A v3 (n 3)) (M (n 2) v0)) n1) v2 t (ad (ad (mm 2 h) (es h2)) (mm 2 (oe h3)))
theorem Z293 (h : b = d) (h2 : c = e + 1) (h3 : e = (a + 2) + (2 * d)) : (a + 3) + (2 * b) = c := an (l1 [b, d, c, e, a] (A (A (M (n 2) v0) (S v3)) (A (A v4 (n 2)) (M (n 2) v1))) (A (A (M (n 2) v1) v2) v3) (A (A v4 (n 3)) (M (n 2) v0)) v2 t (ad (ad (mm 2 (oe h)) (es h2)) (es h3))) (l1 [b, d, c, e, a] (A (A (M (n 2) v1) v2) v3) (A (A (M (n 2) v0) (S v3)) (A (A v4 (n 2)) (M (n 2) v1))) v2 (A (A v4 (n 3)) (M (n 2) v0)) t (ad (ad (mm 2 (es h)) (oe h2)) (oe h3)))
theorem Z294 : a ≤ (a + b) + c := l1 [a, b, c] n0 n0 v0 (A (A v0 v1) v2) t z0
theorem Z295 : ((a + b) + c) - a = b + c := an (l1 [((a + b) + c) - a, b, c, a] (A v0 v3) (A (A v3 v1) v2) v0 (A v1 v2) t (so (l1 [((a + b) + c) - a, b, c, a] n0 n0 v3 (A (A v3 v1) v2) t z0))) (l1 [((a + b) + c) - a, b, c, a] (A (A v3 v1) v2) (A v0 v3) (A v1 v2) v0 t (ls _ _))
theorem Z296 (h : b + c ≤ d) : (a + b) + c ≤ a + d := l1 [b, c, d, a] (A v0 v1) v2 (A (A v3 v0) v1) (A v3 v2) t h
theorem Z297 (h : a ≤ d) (h2 : b ≤ c * d) (h3 : e ≤ c * d) : a + b ≤ (c * d) + (1 * d) ∧ a + e ≤ (c * d) + (1 * d) := ⟨l1 [a, d, b, c * d, e] (A v0 v2) (A v1 v3) (A v0 v2) (A v3 (M n1 v1)) t (ad h h2), l1 [a, d, b, c * d, e] (A v0 v4) (A v1 v3) (A v0 v4) (A v3 (M n1 v1)) t (ad h h3)⟩
theorem Z298 (h : c + a ≤ b) : a ≤ b := l1 [c, a, b] (A v0 v1) v2 v1 v2 t h
theorem Z299 (h : a < 64) : a < 1048576 := l1 [a] (S v0) (n 64) (S v0) (n 1048576) t h
theorem Z300 (h : ¬(b < a)) : a < b + 1 := l1 [a, b] v0 v1 (S v0) (S v1) t (nl h)
theorem Z301 (h : a + (64 * (d + 1)) ≤ c) (h2 : b ≤ 64) : a + b ≤ c := l1 [a, d, c, b] (A (A v0 (M (n 64) (S v1))) v3) (A v2 (n 64)) (A v0 v3) v2 t (ad h h2)
theorem Z302 (h : a + (64 * (c + 1)) ≤ d) (h2 : b ≤ 64) : (a + b) + (64 * c) ≤ d := l1 [a, c, d, b] (A (A v0 (M (n 64) (S v1))) v3) (A v2 (n 64)) (A (A v0 v3) (M (n 64) v1)) v2 t (ad h h2)
theorem Z303 (h : a ≤ b * 64) (h2 : b * 64 ≤ 64 * 64) : a ≤ 4096 := l1 [a, b * 64] (A v0 v1) (A v1 (M (n 64) (n 64))) v0 (n 4096) t (ad h h2)
theorem Z304 (h : a ≤ 64) : 0 + (64 * a) ≤ 1048576 := l1 [a] (M (n 64) v0) (M (n 64) (n 64)) (A n0 (M (n 64) v0)) (n 1048576) t (mm 64 h)
theorem Z305 (h : a ≤ 4096) : a ≤ 100000 := l1 [a] v0 (n 4096) v0 (n 100000) t h
theorem Z306 (h : b < d) (h2 : c = (a + 2) + (2 * e)) (h3 : d < e) : (a + 2) + (2 * b) < c := l1 [b, d, c, a, e] (A (A (M (n 2) (S v0)) (A (A v3 (n 2)) (M (n 2) v4))) (M (n 2) (S v1))) (A (A (M (n 2) v1) v2) (M (n 2) v4)) (A (A (A v3 (n 2)) (M (n 2) v0)) n1) v2 t (ad (ad (mm 2 h) (es h2)) (mm 2 h3))
theorem Z307 (h : a ≤ 64) : a ≤ 1048576 := l1 [a] v0 (n 64) v0 (n 1048576) t h
theorem Z308 (h : a + (b + 1) < 200) : (a + 1) + b < 200 := l1 [a, b] (S (A v0 (S v1))) (n 200) (S (A (S v0) v1)) (n 200) t h
theorem Z309 (h : a + (b + 1) < 200) : a < 1048576 := l1 [a, b] (S (A v0 (S v1))) (n 200) (S v0) (n 1048576) t h
theorem Z310 (h : a ≤ 64) : 1 + (a - (b + 1)) ≤ 1048576 := l1 [a, a - (b + 1), b] (A v0 v1) (A (n 64) v0) (A n1 v1) (n 1048576) t (ad h (Nat.sub_le _ _))
theorem Z311 (h : a + b ≤ c) (h2 : c ≤ 60) : a < 64 := l1 [a, b, c] (A (A v0 v1) v2) (A v2 (n 60)) (S v0) (n 64) t (ad h h2)
theorem Z312 (h : a ≤ b) (h2 : b ≤ 60) : a < 64 := l1 [a, b] (A v0 v1) (A v1 (n 60)) (S v0) (n 64) t (ad h h2)
theorem Z313 (h : a ≤ 60) : a ≤ 64 := l1 [a] v0 (n 60) v0 (n 64) t h
theorem Z314 (h : b ≤ a) : a = b + (a - b) := an (l1 [b, a, a - b] v1 (A v2 v0) v1 (A v0 v2) t (ls _ _)) (l1 [b, a, a - b] (A v2 v0) v1 (A v0 v2) v1 t (so h))
theorem Z315 (h : c + a < c + b) : a < b := l1 [c, a, b] (S (A v0 v1)) (A v0 v2) (S v1) v2 t h
theorem Z316 : a ≤ b ↔ c + a ≤ c + b := ⟨fun z => l1 [a, b, c] v0 v1 (A v2 v0) (A v2 v1) t z, fun z => l1 [a, b, c] (A v2 v0) (A v2 v1) v0 v1 t z⟩
theorem Z317 (h : a ≤ b) (h2 : b ≤ 60) : a ≤ 64 := l1 [a, b] (A v0 v1) (A v1 (n 60)) v0 (n 64) t (ad h h2)
theorem Z318 (h : a ≤ b * 64) (h2 : b * 64 ≤ 64 * 64) : a ≤ 1048576 := l1 [a, b * 64] (A v0 v1) (A v1 (M (n 64) (n 64))) v0 (n 1048576) t (ad h h2)
theorem Z319 (h : b ≤ c) : a + b ≤ a + c := l1 [b, c, a] v0 v1 (A v2 v0) (A v2 v1) t h
theorem Z320 (h : a ≤ b) (h2 : b < 64) : a ≤ 1048576 := l1 [a, b] (A v0 (S v1)) (A v1 (n 64)) v0 (n 1048576) t (ad h h2)
theorem Z321 (h : a < 200) : a < 1048576 := l1 [a] (S v0) (n 200) (S v0) (n 1048576) t h
theorem Z322 : 1 ≤ 1048576 := l1 [] n0 n0 n1 (n 1048576) t z0
theorem Z323 : 0 ≤ 1048576 := l1 [] n0 n0 n0 (n 1048576) t z0
theorem Z324 (h : a = b) : a ≤ b + 1 := l1 [a, b] v0 v1 v0 (S v1) t (oe h)
theorem Z325 (h : a ≤ b) (h2 : b < 150) : a < 200 := l1 [a, b] (A v0 (S v1)) (A v1 (n 150)) (S v0) (n 200) t (ad h h2)
theorem Z326 (h : a + (b + 1) < 150) : a < 150 := l1 [a, b] (S (A v0 (S v1))) (n 150) (S v0) (n 150) t h
theorem Z327 (h : a + (b + 1) < 150) : (a + 1) + b < 150 := l1 [a, b] (S (A v0 (S v1))) (n 150) (S (A (S v0) v1)) (n 150) t h
theorem Z328 (h : a ≤ 1) (h2 : b ≤ 8) (h3 : c ≤ 9 * d) : (a + b) + c ≤ 9 * (d + 1) := l1 [a, b, c, d] (A (A v0 v1) v2) (A (A n1 (n 8)) (M (n 9) v3)) (A (A v0 v1) v2) (M (n 9) (S v3)) t (ad (ad h h2) h3)
theorem Z329 (h : a ≤ 9 * b) (h2 : b ≤ 64) : a ≤ 100000 := l1 [a, b] (A v0 (M (n 9) v1)) (A (M (n 9) v1) (M (n 9) (n 64))) v0 (n 100000) t (ad h (mm 9 h2))
theorem Z330 (h : a ≤ 1) (h2 : b ≤ 8) : a + b ≤ 1000 := l1 [a, b] (A v0 v1) (A n1 (n 8)) (A v0 v1) (n 1000) t (ad h h2)
theorem Z331 (h : a ≤ 1) (h2 : b ≤ 8) : a + b ≤ 1048576 := l1 [a, b] (A v0 v1) (A n1 (n 8)) (A v0 v1) (n 1048576) t (ad h h2)
theorem Z332 (h : 2 * a = 2 * b) : a = b := an (li 2 [a, b] (M (n 2) v0) (M (n 2) v1) v0 v1 t (oe h)) (li 2 [a, b] (M (n 2) v1) (M (n 2) v0) v1 v0 t (es h))
theorem Z333 (h : a ≤ 64) (h2 : b ≤ 64) : a + b ≤ 1048576 := l1 [a, b] (A v0 v1) (A (n 64) (n 64)) (A v0 v1) (n 1048576) t (ad h h2)
theorem Z334 (h : a ≤ 60) : 0 + a < 150 := l1 [a] v0 (n 60) (S (A n0 v0)) (n 150) t h
theorem Z335 (h : a ≤ 60) : 0 + a ≤ 64 := l1 [a] v0 (n 60) (A n0 v0) (n 64) t h
theorem Z336 (h : a < b + 2) (h2 : a = (b + 2) + (2 * c)) : False := fl (li 0 [a, b, c] (A (S v0) (A (A v1 (n 2)) (M (n 2) v2))) (A (A v1 (n 2)) v0) n1 n0 t (ad h (es h2)))
theorem Z337 (h : a < b + 2) (h2 : a = (b + 3) + (2 * c)) : False := fl (li 0 [a, b, c] (A (S v0) (A (A v1 (n 3)) (M (n 2) v2))) (A (A v1 (n 2)) v0) n1 n0 t (ad h (es h2)))
theorem Z338 (h : a = (c + 2) + (2 * d)) (h2 : b = (c + 2) + (2 * e)) (h3 : d < e) : a < b := l1 [a, c, d, b, e] (A (A v0 (A (A v1 (n 2)) (M (n 2) v4))) (M (n 2) (S v2))) (A (A (A (A v1 (n 2)) (M (n 2) v2)) v3) (M (n 2) v4)) (S v0) v3 t (ad (ad (oe h) (es h2)) (mm 2 h3))
theorem Z339 (h : a = (c + 3) + (2 * d)) (h2 : b = (c + 2) + (2 * e)) (h3 : d < f) (h4 : f = e) : a < b := l1 [a, c, d, b, e, f] (A (A (A v0 (A (A v1 (n 2)) (M (n 2) v4))) (M (n 2) (S v2))) (M (n 2) v5)) (A (A (A (A (A v1 (n 3)) (M (n 2) v2)) v3) (M (n 2) v5)) (M (n 2) v4)) (S v0) v3 t (ad (ad (ad (oe h) (es h2)) (mm 2 h3)) (mm 2 (oe h4)))
theorem Z340 : a < a + 2 := l1 [a] n0 n0 (S v0) (A v0 (n 2)) t z0
theorem Z341 (h : a ≤ 64) (h2 : b ≤ 64) : a + b ≤ 200 := l1 [a, b] (A v0 v1) (A (n 64) (n 64)) (A v0 v1) (n 200) t (ad h h2)
theorem Z342 (h : a < b) : a < b + 2 := l1 [a, b] (S v0) v1 (S v0) (A v1 (n 2)) t h
theorem Z343 (h : a = 48) (h2 : ¬(b < 48)) : a ≤ b := l1 [a, b] (A v0 (n 48)) (A (n 48) v1) v0 v1 t (ad (oe h) (nl h2))
theorem Z344 (h : a ≤ 3) (h2 : b = 1) : a + b ≤ 8 := l1 [a, b] (A v0 v1) (S (n 3)) (A v0 v1) (n 8) t (ad h (oe h2))
theorem Z345 (h : a < 9) (h2 : b = 9) : a < b := l1 [a, b] (A (S v0) (n 9)) (A (n 9) v1) (S v0) v1 t (ad h (es h2))
theorem Z346 : a % 8 < 9 := l1 [a % 8, a] (S v0) (n 8) (S v0) (n 9) t (Nat.mod_lt _ (by decide))
theorem Z347 (h : a < 1) : a = 0 := an (l1 [a] (S v0) n1 v0 n0 t h) (l1 [a] n0 n0 n0 v0 t z0)
theorem Z348 (h : a = 9) : 8 < a := l1 [a] (n 9) v0 (S (n 8)) v0 t (es h)
theorem Z349 (h : a ≤ 8) (h2 : b = 9) : a ≤ b := l1 [a, b] (A v0 (n 9)) (A (n 8) v1) v0 v1 t (ad h (es h2))
theorem Z350 (h : a = b) (h2 : b ≤ 8) : a ≤ 1048576 := l1 [a, b] (A v0 v1) (A v1 (n 8)) v0 (n 1048576) t (ad (oe h) h2)
theorem Z351 (h : a < 0 + b) (h2 : b = c) (h3 : c ≤ 8) : a < 8 := l1 [a, b, c] (A (A (S v0) v1) v2) (A (A (A n0 v1) v2) (n 8)) (S v0) (n 8) t (ad (ad h (oe h2)) h3)
theorem Z352 (h : a ≤ 3) : a + 1 ≤ 1000 := l1 [a] v0 (n 3) (S v0) (n 1000) t h
theorem Z353 (h : a = c) (h2 : ¬(b < c)) : a ≤ b := l1 [a, c, b] (A v0 v1) (A v1 v2) v0 v2 t (ad (oe h) (nl h2))
theorem Z354 (h : c + 1 ≤ 0) : a < b := li 0 [c, a, b] (S v0) n0 (S v1) v2 t h
theorem Z355 (h : a < b) (h2 : b ≤ 8) : a < 8 := l1 [a, b] (A (S v0) v1) (A v1 (n 8)) (S v0) (n 8) t (ad h h2)
theorem Z356 (h : a = b) (h2 : b ≤ 8) : a ≤ 8 := l1 [a, b] (A v0 v1) (A v1 (n 8)) v0 (n 8) t (ad (oe h) h2)
theorem Z357 (h : a < c) (h2 : b = d) (h3 : c + (e + 1) = d) : a < b := l1 [a, c, b, d, e] (A (A (S v0) v3) (A v1 (S v4))) (A (A v1 v2) v3) (S v0) v2 t (ad (ad h (es h2)) (oe h3))
theorem Z358 (h : a < b ↔ c ≤ d) : 7 + a < 7 + b ↔ c ≤ d := ⟨fun z => h.mp (l1 [a, b, c, d] (S (A (n 7) v0)) (A (n 7) v1) (S v0) v1 t z), fun z => l1 [a, b, c, d] (S v0) v1 (S (A (n 7) v0)) (A (n 7) v1) t (h.mpr z)⟩
theorem Z359 (h : a = b) (h2 : b + (c + 1) = d) (h3 : d ≤ 8) : a < 1048576 := l1 [a, b, c, d] (A (A v0 (A v1 (S v2))) v3) (A (A v1 v3) (n 8)) (S v0) (n 1048576) t (ad (ad (oe h) (oe h2)) h3)
theorem Z360 (h : a ≤ c) (h2 : c = b) : a ≤ b + 1 := l1 [a, c, b] (A v0 v1) (A v1 v2) v0 (S v2) t (ad h (oe h2))
theorem Z361 (h : a ≤ c) (h2 : c = b) : a + 1 ≤ b + 1 := l1 [a, c, b] (A v0 v1) (A v1 v2) (S v0) (S v2) t (ad h (oe h2))
theorem Z362 (h : a = b) (h2 : b + (c + 1) = d) (h3 : d ≤ 8) : a ≤ 1048576 := l1 [a, b, c, d] (A (A v0 (A v1 (S v2))) v3) (A (A v1 v3) (n 8)) v0 (n 1048576) t (ad (ad (oe h) (oe h2)) h3)
theorem Z363 (h : a ≤ 8) : a ≤ 64 := l1 [a] v0 (n 8) v0 (n 64) t h
theorem Z364 (h : a ≤ 8) : a < 64 := l1 [a] v0 (n 8) (S v0) (n 64) t h
theorem Z365 (h : a ≤ 8) : a ≤ 1048576 := l1 [a] v0 (n 8) v0 (n 1048576) t h
theorem Z366 (h : a < c) (h2 : b = d) (h3 : c < d) : a < b := l1 [a, c, b, d] (A (A (S v0) v3) (S v1)) (A (A v1 v2) v3) (S v0) v2 t (ad (ad h (es h2)) h3)
theorem Z367 : a < a ↔ b < b := ⟨fun z => li 0 [a, b] (S v0) v0 (S v1) v1 t z, fun z => li 0 [a, b] (S v1) v1 (S v0) v0 t z⟩
theorem Z368 (h : a ≤ 8) : a ≤ 60 := l1 [a] v0 (n 8) v0 (n 60) t h
theorem Z369 (h : a ≤ b) (h2 : b ≤ 8) : a ≤ 64 := l1 [a, b] (A v0 v1) (A v1 (n 8)) v0 (n 64) t (ad h h2)
theorem Z370 (h : a = b) (h2 : b ≤ 8) : a ≤ 60 := l1 [a, b] (A v0 v1) (A v1 (n 8)) v0 (n 60) t (ad (oe h) h2)
theorem Z371 (h : b = a) (h2 : b ≤ c) (h3 : c ≤ 8) : a ≤ 64 := l1 [b, a, c] (A (A v1 v0) v2) (A (A v0 v2) (n 8)) v1 (n 64) t (ad (ad (es h) h2) h3)
theorem Z372 (h : a < c) (h2 : c + 1 ≤ b) : a + 1 < b := l1 [a, c, b] (A (S v0) (S v1)) (A v1 v2) (S (S v0)) v2 t (ad h h2)
theorem Z373 (h : a ≤ b) (h2 : b ≤ 8) : a < 64 := l1 [a, b] (A v0 v1) (A v1 (n 8)) (S v0) (n 64) t (ad h h2)
theorem Z374 (h : a ≤ b) (h2 : b ≤ 8) : a ≤ 1048576 := l1 [a, b] (A v0 v1) (A v1 (n 8)) v0 (n 1048576) t (ad h h2)
theorem Z375 (h : b < a) : (a - 1) - b < a := l1 [b, a, (a - 1) - b, a - 1] (A v2 (S v3)) (A v3 v1) (S v2) v1 t (ad (Nat.sub_le _ _) (so (l1 [b, a, (a - 1) - b, a - 1] (S v0) v1 n1 v1 t h)))
theorem Z376 (h : b < a) : (a - 1) - ((a - 1) - b) < a := l1 [b, a, (a - 1) - ((a - 1) - b), a - 1, (a - 1) - b] (A v2 (S v3)) (A v3 v1) (S v2) v1 t (ad (Nat.sub_le _ _) (so (l1 [b, a, (a - 1) - ((a - 1) - b), a - 1, (a - 1) - b] (S v0) v1 n1 v1 t h)))
theorem Z377 (h : b < a) : (a - 1) - ((a - 1) - b) = b := an (l1 [b, a, (a - 1) - ((a - 1) - b), a - 1, (a - 1) - b] (A v3 (A v2 v4)) (A (A v4 v0) v3) v2 v0 t (ad (ls _ _) (so (Nat.sub_le _ _)))) (l1 [b, a, (a - 1) - ((a - 1) - b), a - 1, (a - 1) - b] (A v3 (A v4 v0)) (A (A v2 v4) v3) v0 v2 t (ad (ls _ _) (so (l1 [b, a, (a - 1) - ((a - 1) - b), a - 1, (a - 1) - b] (A (S v0) v1) (A v1 (S v3)) v0 v3 t (ad h (ls _ _))))))
theorem Z378 (h : b < a) (h2 : c = a) : (a - 1) - b < c := l1 [b, a, c, (a - 1) - b, a - 1] (A (A v1 v3) (S v4)) (A (A v2 v4) v1) (S v3) v2 t (ad (ad (es h2) (Nat.sub_le _ _)) (so (l1 [b, a, c, (a - 1) - b, a - 1] (S v0) v1 n1 v1 t h)))
theorem Z379 (h : c < a) : (a - 1) - b < a := l1 [c, a, (a - 1) - b, a - 1, b] (A v2 (S v3)) (A v3 v1) (S v2) v1 t (ad (Nat.sub_le _ _) (so (l1 [c, a, (a - 1) - b, a - 1, b] (S v0) v1 n1 v1 t h)))
theorem Z380 (h : a < b) (h2 : c < (b - 1) - a) : a < (b - 1) - c := l1 [a, b, c, (b - 1) - a, (b - 1) - c, b - 1] (A (A (S v2) v5) (A v3 v0)) (A (A v3 (A v4 v2)) v5) (S v0) v4 t (ad (ad h2 (ls _ _)) (so (l1 [a, b, c, (b - 1) - a, (b - 1) - c, b - 1] (A (S v0) v1) (A v1 (S v5)) v0 v5 t (ad h (ls _ _)))))
theorem Z381 (h : b < (a - 1) - c) : (a - 1) - ((a - 1) - b) = b := an (l1 [b, (a - 1) - c, (a - 1) - ((a - 1) - b), a - 1, c, (a - 1) - b, a] (A v3 (A v2 v5)) (A (A v5 v0) v3) v2 v0 t (ad (ls _ _) (so (Nat.sub_le _ _)))) (l1 [b, (a - 1) - c, (a - 1) - ((a - 1) - b), a - 1, c, (a - 1) - b, a] (A v3 (A v5 v0)) (A (A v2 v5) v3) v0 v2 t (ad (ls _ _) (so (l1 [b, (a - 1) - c, (a - 1) - ((a - 1) - b), a - 1, c, (a - 1) - b, a] (A (S v0) v1) (A v1 v3) v0 v3 t (ad h (Nat.sub_le _ _))))))
theorem Z382 (h : b < a) (h2 : c < b) : (a - 1) - b < (a - 1) - c := l1 [b, a, c, (a - 1) - b, (a - 1) - c, a - 1] (A (A (S v2) v5) (A v3 v0)) (A (A v0 (A v4 v2)) v5) (S v3) v4 t (ad (ad h2 (ls _ _)) (so (l1 [b, a, c, (a - 1) - b, (a - 1) - c, a - 1] (A (S v0) v1) (A v1 (S v5)) v0 v5 t (ad h (ls _ _)))))
theorem Z383 (h : a = b) (h2 : b ≤ 8) : a ≤ 64 := l1 [a, b] (A v0 v1) (A v1 (n 8)) v0 (n 64) t (ad (oe h) h2)
theorem Z384 (h : a = c) (h2 : c = b) : a = b := an (l1 [a, c, b] (A v0 v1) (A v1 v2) v0 v2 t (ad (oe h) (oe h2))) (l1 [a, c, b] (A v1 v2) (A v0 v1) v2 v0 t (ad (es h) (es h2)))
theorem Z385 (h : a = 0) (h2 : b = 0) : a = b := an (l1 [a, b] v0 n0 v0 v1 t (oe h)) (l1 [a, b] v1 n0 v1 v0 t (oe h2))
theorem Z386 (h : c = (c + 1) + b) : a = b := an (li 0 [c, b, a] (A (S v0) v1) v0 v2 v1 t (es h)) (li 0 [c, b, a] (A (S v0) v1) v0 v1 v2 t (es h))
theorem Z387 (h : (c + 1) + a = c) : a = b := an (li 0 [c, a, b] (A (S v0) v1) v0 v1 v2 t (oe h)) (li 0 [c, a, b] (A (S v0) v1) v0 v2 v1 t (oe h))
theorem Z388 (h : (c + 1) + a = (c + 1) + b) : a = b := an (l1 [c, a, b] (A (S v0) v1) (A (S v0) v2) v1 v2 t (oe h)) (l1 [c, a, b] (A (S v0) v2) (A (S v0) v1) v2 v1 t (es h))
theorem Z389 (h : ¬(b = 0)) : (a + 1) + b ≠ a + 1 := fun z => fl (li 0 [a, b] (S v1) n0 n1 n0 t (ln (l1 [a, b] (A (S v0) v1) (S v0) v1 n0 t (oe z)) h))
theorem Z390 : a ≤ a := l1 [a] n0 n0 v0 v0 t z0
theorem Z391 : a ≤ (a + 1) + b := l1 [a, b] n0 n0 v0 (A (S v0) v1) t z0
theorem Z392 (h : 0 < c) (h2 : b = (a + 1) + c) : a + 1 < b := l1 [c, b, a] (A (A n0 n1) (A (S v2) v0)) (A v0 v1) (S (S v2)) v1 t (ad h (es h2))
theorem Z393 (h : 0 < a) : ¬(a = 0) := fun z => fl (li 0 [a] (A (A n0 n1) v0) (A v0 n0) n1 n0 t (ad h (oe z)))
theorem Z394 : ((a + 1) + b) + 1 = (a + 1) + (b + 1) := an (l1 [a, b] n0 n0 (S (A (S v0) v1)) (A (S v0) (S v1)) t z0) (l1 [a, b] n0 n0 (A (S v0) (S v1)) (S (A (S v0) v1)) t z0)
theorem Z395 (h : 0 < c) (h2 : b = (a + 1) + c) : a < b + 1 := l1 [c, b, a] (A (A n0 n1) (A (S v2) v0)) (A v0 v1) (S v2) (S v1) t (ad h (es h2))
theorem Z396 (h : b < d) (h2 : c = (a + 1) + d) : (a + 1) + b < c + 1 := l1 [b, d, c, a] (A (S v0) (A (S v3) v1)) (A v1 v2) (S (A (S v3) v0)) (S v2) t (ad h (es h2))
theorem Z397 (h : a ≤ 8) : a + 1 < 64 := l1 [a] v0 (n 8) (S (S v0)) (n 64) t h
theorem Z398 (h : a + (b + 1) ≤ 8) : a < 64 := l1 [a, b] (A v0 (S v1)) (n 8) (S v0) (n 64) t h
theorem Z399 (h : a + (b + 1) ≤ 8) : (a + 1) + b ≤ 8 := l1 [a, b] (A v0 (S v1)) (n 8) (A (S v0) v1) (n 8) t h
theorem Z400 (h : a ≤ 8) : a + 1 ≤ 1048576 := l1 [a] v0 (n 8) (S v0) (n 1048576) t h
theorem Z401 (h : a < b + 2) : a - (b + 1) = 0 := an (sz (l1 [a, b, a - (b + 1)] (S v0) (A v1 (n 2)) v0 (S v1) t h)) (l1 [a, b, a - (b + 1)] n0 n0 n0 v2 t z0)
theorem Z402 (h : a + b ≤ c) (h2 : c ≤ 8) : a ≤ 8 := l1 [a, b, c] (A (A v0 v1) v2) (A v2 (n 8)) v0 (n 8) t (ad h h2)
theorem Z403 (h : a ≤ b) (h2 : b ≤ 8) : a ≤ 8 := l1 [a, b] (A v0 v1) (A v1 (n 8)) v0 (n 8) t (ad h h2)
theorem Z404 (h : 5 ≤ a) : 0 < a := l1 [a] (n 5) v0 (A n0 n1) v0 t h
theorem Z405 (h : 5 ≤ a) : 2 ≤ a := l1 [a] (n 5) v0 (n 2) v0 t h
theorem Z406 (h : a ≤ 8) : a + 1 ≤ 60 := l1 [a] v0 (n 8) (S v0) (n 60) t h
theorem Z407 (h : a ≤ 63) : a ≤ 1048576 := l1 [a] v0 (n 63) v0 (n 1048576) t h
theorem Z408 (h : a + 64 < d) (h2 : b ≤ 8) : a + (min b c) < d := l1 [a, d, b, min b c, c] (A (A (S (A v0 (n 64))) v2) v3) (A (A v1 (n 8)) v2) (S (A v0 v3)) v1 t (ad (ad h h2) (Nat.min_le_left _ _))
theorem Z409 : min (a - b) (c - b) ≤ c := l1 [min (a - b) (c - b), c, a - b, c - b, a, b] (A v0 v3) (A v3 v1) v0 v1 t (ad (Nat.min_le_right _ _) (Nat.sub_le _ _))
theorem Z410 (h : b < c) : (min a b) + ((b - a) + 1) ≤ c := (Nat.le_total a b).elim (fun w => l1 [b, c, min a b, b - a, a] (A (A (S v0) v2) (A v3 v4)) (A (A v1 v4) v0) (A v2 (S v3)) v1 t (ad (ad h (Nat.min_le_left _ _)) (so w))) (fun w => l1 [b, c, min a b, b - a, a] (A (A (S v0) v2) v3) (A (A v1 v0) n0) (A v2 (S v3)) v1 t (ad (ad h (Nat.min_le_right _ _)) (sz w)))
theorem Z411 (h : b + c ≤ d) : (min a b) + c ≤ d := l1 [b, c, d, min a b, a] (A (A v0 v1) v3) (A v2 v0) (A v3 v1) v2 t (ad h (Nat.min_le_right _ _))
theorem Z412 (h : a ≤ e) (h2 : e + f ≤ g) (h3 : f = c) (h4 : g ≤ d) : (min a b) + c ≤ d + 1 := l1 [a, e, f, g, c, d, min a b, b] (A (A (A (A v0 (A v1 v2)) v4) v3) v6) (A (A (A (A v1 v3) v2) v5) v0) (A v6 v4) (S v5) t (ad (ad (ad (ad h h2) (es h3)) h4) (Nat.min_le_left _ _))
theorem Z413 (h : ¬(a - 1 < a)) : a = 0 := (Nat.le_total a 1).elim (fun w => an (l1 [a, a - 1] (A v0 v1) (A v1 n0) v0 n0 t (ad (nl h) (sz w))) (l1 [a, a - 1] n0 n0 n0 v0 t z0)) (fun w => an (li 0 [a, a - 1] (A v0 (S v1)) (A v1 v0) v0 n0 t (ad (nl h) (so w))) (l1 [a, a - 1] n1 v0 n0 v0 t w))
theorem Z414 (h : b ≤ c) : min a b ≤ c := l1 [b, c, min a b, a] (A v0 v2) (A v1 v0) v2 v1 t (ad h (Nat.min_le_right _ _))
theorem Z415 (h : a + 1 < 1) : False := fl (li 0 [a] (S (S v0)) n1 n1 n0 t h)
theorem Z416 (h : a ≤ b) (h2 : ¬(a < c)) (h3 : ¬(a = c)) (h4 : ¬(c < a ∧ a ≤ b)) : False := fl (li 0 [a, b, c] (A (S v2) (S v0)) (A v0 v2) n1 n0 t (ad (ln (nl h2) (Ne.symm h3)) (ln (li 0 [a, b, c] (A v0 (S v1)) (A v1 v0) v0 v2 t (ad h (Nat.lt_of_not_le (fun u => h4 ⟨ln (nl h2) (Ne.symm h3), u⟩)))) h3)))
theorem Z417 (h : 0 ≤ b ∧ b < 0 + b ↔ 0 < a) : 0 = a := an (l1 [a, b] n0 n0 n0 v0 t z0) (nl (fun u => (fun u => (Nat.not_lt_of_le (l1 [a, b] n0 n0 (A n0 v1) v1 t z0)) u.2) (h.mpr u)))
theorem Z418 (h : a = d + e) (h2 : d = f) (h3 : g = e + 1) (h4 : i = f + 1) (h5 : d ≤ a + 1 ∧ a + 1 < d + g ↔ d < b) (h6 : b ≤ a ∧ a < b + c ↔ b < i) (h7 : b ≤ a + 1 ∧ a + 1 < b + c ↔ b < b) : a + 1 = b + c := an (h6.mpr (l1 [a, d, e, f, g, i, b, c] (A (A v1 (S v3)) v6) (A (A v3 v5) v1) (S v6) v5 t (ad (ad (oe h2) (es h4)) (nl (fun u => (fun u => (Nat.not_lt_of_le (l1 [a, d, e, f, g, i, b, c] (A (A v1 v2) v4) (A v0 (S v2)) (A v1 v4) (S v0) t (ad (es h) (oe h3)))) u.2) (h5.mpr u)))))).2 (nl (fun u => (fun u => (Nat.not_lt_of_le (l1 [a, d, e, f, g, i, b, c] n0 n0 v6 v6 t z0)) (h7.mp u)) ⟨l1 [a, d, e, f, g, i, b, c] v6 v0 v6 (S v0) t (h6.mpr (l1 [a, d, e, f, g, i, b, c] (A (A v1 (S v3)) v6) (A (A v3 v5) v1) (S v6) v5 t (ad (ad (oe h2) (es h4)) (nl (fun u => (fun u => (Nat.not_lt_of_le (l1 [a, d, e, f, g, i, b, c] (A (A v1 v2) v4) (A v0 (S v2)) (A v1 v4) (S v0) t (ad (es h) (oe h3)))) u.2) (h5.mpr u)))))).1, u⟩))
theorem Z419 (h : c = a + d) (h2 : a = e) (h3 : f = d + 1) (h4 : g = e + 1) (h5 : a ≠ c) (h6 : a + 1 ≤ c ∧ c < (a + 1) + i ↔ a + 1 < g) (h7 : a ≤ (a + 1) + i ∧ (a + 1) + i < a + f ↔ a < b) (h8 : a + 1 ≤ (a + 1) + i ∧ (a + 1) + i < (a + 1) + i ↔ a + 1 < b) : a + 1 = b := an (h7.mp ⟨l1 [c, a, d, e, f, g, b, i] n0 n0 v1 (A (S v1) v7) t z0, l1 [c, a, d, e, f, g, b, i] (A (A v0 (S v2)) (A (S v1) v7)) (A (A (A v1 v2) v4) v0) (S (A (S v1) v7)) (A v1 v4) t (ad (ad (oe h) (es h3)) (nl (fun u => (fun u => (Nat.not_lt_of_le (l1 [c, a, d, e, f, g, b, i] (A v3 v5) (A v1 (S v3)) v5 (S v1) t (ad (es h2) (oe h4)))) (h6.mp u)) ⟨ln (l1 [c, a, d, e, f, g, b, i] (A v1 v2) v0 v1 v0 t (es h)) h5, u⟩)))⟩) (nl (fun u => (fun u => (Nat.not_lt_of_le (l1 [c, a, d, e, f, g, b, i] n0 n0 (A (S v1) v7) (A (S v1) v7) t z0)) u.2) (h8.mpr u)))
theorem Z420 (h : a < b) : (min a b) + 1 = min (a + 1) b := an (l1 [a, b, min a b, min (a + 1) b] (A v2 (S v0)) (A v0 v3) (S v2) v3 t (ad (Nat.min_le_left _ _) (oe (Nat.min_eq_left h).symm))) (l1 [a, b, min a b, min (a + 1) b] (A v0 v3) (A v2 (S v0)) v3 (S v2) t (ad (oe (Nat.min_eq_left (l1 [a, b, min a b, min (a + 1) b] (S v0) v1 v0 v1 t h)).symm) (Nat.min_le_left _ _)))
theorem Z421 (h : a - c = 0) (h2 : b < d) (h3 : c = min b d) (h4 : ¬(a < c)) : a = b := an (l1 [a - c, b, d, c, min b d, a] (A (A (A v0 v3) v5) v4) (A (A (A n0 v4) (A v0 v3)) v1) v5 v1 t (ad (ad (ad (oe h) (oe h3)) (ls _ _)) (Nat.min_le_left _ _))) (l1 [a - c, b, d, c, min b d, a] (A (A v4 v3) v1) (A (A v3 v5) v4) v1 v5 t (ad (ad (es h3) (nl h4)) (oe (Nat.min_eq_left (l1 [a - c, b, d, c, min b d, a] (S v1) v2 v1 v2 t h2)).symm)))
theorem Z422 (h : a = min b c) (h2 : ¬(b < c)) : a = min (b + 1) c := an (l1 [a, min b c, c, b, min (b + 1) c] (A (A v0 v1) v2) (A (A v1 v2) v4) v0 v4 t (ad (ad (oe h) (Nat.min_le_right _ _)) (oe (Nat.min_eq_right (l1 [a, min b c, c, b, min (b + 1) c] v2 v3 v2 (S v3) t (nl h2))).symm))) (l1 [a, min b c, c, b, min (b + 1) c] (A (A v1 v2) v4) (A (A v0 v1) v2) v4 v0 t (ad (ad (es h) (oe (Nat.min_eq_right (nl h2)).symm)) (Nat.min_le_right _ _)))
theorem Z423 (h : (a + 1) + b = c) (h2 : c ≤ a) : False := fl (li 0 [a, b, c] (A (A (S v0) v1) v2) (A v2 v0) n1 n0 t (ad (oe h) h2))
theorem Z424 (h : 0 < a → b < b) : a = 0 := an (nl (fun u => (Nat.not_lt_of_le (l1 [a, b] n0 n0 v1 v1 t z0)) (h u))) (l1 [a, b] n0 n0 n0 v0 t z0)
theorem Z425 (h : a < b) (h2 : a ≤ c) : a ≤ min b c := (Nat.le_total b c).elim (fun w => l1 [a, b, c, min b c] (A (S v0) v1) (A v1 v3) v0 v3 t (ad h (oe (Nat.min_eq_left w).symm))) (fun w => l1 [a, b, c, min b c] (A v0 v2) (A v2 v3) v0 v3 t (ad h2 (oe (Nat.min_eq_right w).symm)))
theorem Z426 (h : a < min b c) : a < b := l1 [a, min b c, b, c] (A (S v0) v1) (A v1 v2) (S v0) v2 t (ad h (Nat.min_le_left _ _))
theorem Z427 (h : a + 1 ≤ b) (h2 : b = a) : False := fl (li 0 [a, b] (A (S v0) v1) (A v1 v0) n1 n0 t (ad h (oe h2)))
theorem Z428 (h : a = b) (h2 : a ≤ c) (h3 : c ≤ b) (h4 : ¬(c = a)) : False := fl (li 0 [a, b, c] (A v0 (S v2)) (A v2 v0) n1 n0 t (ad h2 (ln (l1 [a, b, c] (A v1 v2) (A v0 v1) v2 v0 t (ad (es h) h3)) h4)))
theorem Z429 (h : c < d) (h2 : c ≤ e + 1 ∧ e + 1 < c + (f + 1) ↔ c < a) (h3 : d = b) (h4 : e = c + f) : a < b := l1 [c, d, b, e, f, a] (A (A (S v0) v1) v5) (A (A v1 v2) v0) (S v5) v2 t (ad (ad h (oe h3)) (nl (fun u => (fun u => (Nat.not_lt_of_le (l1 [c, d, b, e, f, a] (A v0 v4) v3 (A v0 (S v4)) (S v3) t (es h4))) u.2) (h2.mpr u))))
theorem Z430 (h : c = b) : 0 < a + 1 ↔ 0 < a ∨ b = c := ⟨fun z => .inr (an (es h) (oe h)), fun z => l1 [c, b, a] n0 n0 (A n0 n1) (S v2) t z0⟩
theorem Z431 (h : ¬(c = b)) : 0 < a + 0 ↔ 0 < a ∨ b = c := ⟨fun z => .inl (l1 [a, b, c] (A n0 n1) (A v0 n0) (A n0 n1) v0 t z), fun z => (Nat.lt_or_gt_of_ne h).elim (fun ww => l1 [a, b, c] (A n0 n1) v0 (A n0 n1) (A v0 n0) t (Or.resolve_right z (Nat.ne_of_gt ww))) (fun ww => l1 [a, b, c] (A n0 n1) v0 (A n0 n1) (A v0 n0) t (Or.resolve_right z (Nat.ne_of_lt ww)))⟩
theorem Z432 (h : a - 1 < a ↔ a - 1 < b ∨ a - 1 = c) (h2 : c < a ↔ c < b ∨ c = c) (h3 : c = b) : a = b + 1 := an (l1 [c, b, a, a - 1] (A (A v0 v2) v3) (A (A v1 (S v3)) v0) v2 (S v1) t (ad (ad (oe h3) (ls _ _)) (oe (Or.resolve_left (h.mp (so (l1 [c, b, a, a - 1] (S v0) v2 n1 v2 t (h2.mpr (.inr (an (l1 [c, b, a, a - 1] n0 n0 v0 v0 t z0) (l1 [c, b, a, a - 1] n0 n0 v0 v0 t z0))))))) (Nat.not_lt_of_le (l1 [c, b, a, a - 1] (A (A v1 (S v0)) v2) (A (A v0 v2) (S v3)) v1 v3 t (ad (ad (es h3) (h2.mpr (.inr (an (l1 [c, b, a, a - 1] n0 n0 v0 v0 t z0) (l1 [c, b, a, a - 1] n0 n0 v0 v0 t z0))))) (ls _ _)))))))) (l1 [c, b, a, a - 1] (A v1 (S v0)) (A v0 v2) (S v1) v2 t (ad (es h3) (h2.mpr (.inr (an (l1 [c, b, a, a - 1] n0 n0 v0 v0 t z0) (l1 [c, b, a, a - 1] n0 n0 v0 v0 t z0))))))
theorem Z433 (h : c ≤ b) (h2 : a - 1 < a ↔ a - 1 < b ∨ a - 1 = c) (h3 : b - 1 < a ↔ b - 1 < b ∨ b - 1 = c) (h4 : c < a ↔ c < b ∨ c = c) (h5 : ¬(c = b)) : a = b := (h2.mp (so (l1 [c, b, a, a - 1, b - 1] (S v0) v2 n1 v2 t (h4.mpr (.inl (ln h h5)))))).elim (fun w => an (l1 [c, b, a, a - 1, b - 1] (A (S v3) v2) (A v1 (S v3)) v2 v1 t (ad w (ls _ _))) (l1 [c, b, a, a - 1, b - 1] (A v1 (S v4)) (A (S v4) v2) v1 v2 t (ad (ls _ _) (h3.mpr (.inl (so (l1 [c, b, a, a - 1, b - 1] (S v3) v1 n1 v1 t w))))))) (fun w => an (l1 [c, b, a, a - 1, b - 1] (A (A v3 v2) (S v0)) (A (A v0 (S v3)) v1) v2 v1 t (ad (ad (oe w) (ls _ _)) (ln h h5))) (l1 [c, b, a, a - 1, b - 1] (A v1 (S v4)) (A (S v4) v2) v1 v2 t (ad (ls _ _) (h3.mpr (.inl (so (l1 [c, b, a, a - 1, b - 1] (S v0) v1 n1 v1 t (ln h h5))))))))
theorem Z434 (h : a < a ↔ a < b) (h2 : b < a ↔ b < b) : a = b := an (nl (fun u => (Nat.not_lt_of_le (l1 [a, b] n0 n0 v1 v1 t z0)) (h2.mp u))) (nl (fun u => (Nat.not_lt_of_le (l1 [a, b] n0 n0 v0 v0 t z0)) (h.mpr u)))
theorem Z435 (h : a < b) (h2 : b < a) : False := fl (li 0 [a, b] (A (S v0) (S v1)) (A v1 v0) n1 n0 t (ad h h2))
theorem Z436 (h : a ≤ b) : a ≤ max b (1 + (max c d)) := l1 [a, b, max b (1 + (max c d)), max c d, c, d] (A v0 v1) (A v1 v2) v0 v2 t (ad h (Nat.le_max_left _ _))
theorem Z437 (h : a ≤ c) : a + 1 ≤ max b (1 + (max c d)) := l1 [a, c, max b (1 + (max c d)), b, max c d, d] (A (A v0 (A n1 v4)) v1) (A (A v1 v2) v4) (S v0) v2 t (ad (ad h (Nat.le_max_right _ _)) (Nat.le_max_left _ _))
theorem Z438 (h : a ≤ d) : a + 1 ≤ max b (1 + (max c d)) := l1 [a, d, max b (1 + (max c d)), b, max c d, c] (A (A v0 (A n1 v4)) v1) (A (A v1 v2) v4) (S v0) v2 t (ad (ad h (Nat.le_max_right _ _)) (Nat.le_max_right _ _))
theorem Z439 (h : a - b = 0) (h2 : b < a) : False := fl (li 0 [a - b, b, a] (A (A v0 (S v1)) v2) (A (A n0 v2) (A v0 v1)) n1 n0 t (ad (ad (oe h) h2) (ls _ _)))
theorem Z440 (h : a < b) (h2 : b ≤ 64) : min a b ≤ 64 := l1 [a, b, min a b] (A (A (S v0) v1) v2) (A (A v1 (n 64)) v0) v2 (n 64) t (ad (ad h h2) (Nat.min_le_left _ _))
theorem Z441 (h : b ≤ 64) : (min a b) + ((b - (a + 1)) + 1) < 200 := l1 [b, min a b, b - (a + 1), a] (A (A (M (n 2) v0) v1) v2) (A (A (M (n 2) (n 64)) v0) v0) (S (A v1 (S v2))) (n 200) t (ad (ad (mm 2 h) (Nat.min_le_right _ _)) (Nat.sub_le _ _))
theorem Z442 (h : a ≤ 8) (h2 : b = 9) : min a b = a := an (Nat.min_le_left _ _) (oe (Nat.min_eq_left (l1 [a, b, min a b] (A v0 (n 9)) (A (n 8) v1) v0 v1 t (ad h (es h2)))).symm)
theorem Z443 (h : a ≤ 8) : min a b ≤ 1048576 := l1 [a, min a b, b] (A v0 v1) (A (n 8) v0) v1 (n 1048576) t (ad h (Nat.min_le_left _ _))
theorem Z444 (h : a ≤ b) (h2 : b = c) : (min a b) + ((b - a) + 1) = c + 1 := an (l1 [a, b, c, min a b, b - a] (A (A v1 v3) (A v4 v0)) (A (A v2 v0) v1) (A v3 (S v4)) (S v2) t (ad (ad (oe h2) (Nat.min_le_left _ _)) (so h))) (l1 [a, b, c, min a b, b - a] (A (A v2 v0) v1) (A (A v1 v3) (A v4 v0)) (S v2) (A v3 (S v4)) t (ad (ad (es h2) (oe (Nat.min_eq_left h).symm)) (ls _ _)))
theorem Z445 : min a b ≤ a := Nat.min_le_left _ _
theorem Z446 (h : a + 1 ≤ b) : min a (b - 1) = a := an (Nat.min_le_left _ _) (oe (Nat.min_eq_left (l1 [a, b, min a (b - 1), b - 1] (A (S v0) v1) (A v1 (S v3)) v0 v3 t (ad h (ls _ _)))).symm)
theorem Z447 (h : b + 1 ≤ a) : min 1 a = 1 := an (Nat.min_le_left _ _) (oe (Nat.min_eq_left (l1 [b, a, min 1 a] (S v0) v1 n1 v1 t h)).symm)
theorem Z448 (h : b = c) (h2 : d + e = c + 1) (h3 : (f + g) - 1 = a) (h4 : f + g ≤ c + 1) (h5 : (d + e) - 1 ≤ a) : a = b := (Nat.le_total (f + g) 1).elim (fun w => an (l1 [b, c, d, e, (f + g) - 1, a, f, g, (d + e) - 1] (A v5 v4) (A v4 n0) v5 v0 t (ad (es h3) (sz w))) (l1 [b, c, d, e, (f + g) - 1, a, f, g, (d + e) - 1] (A (A (A v0 (S v1)) v8) (A v2 v3)) (A (A (A v1 (A v2 v3)) v5) (S v8)) v0 v5 t (ad (ad (ad (oe h) (es h2)) h5) (ls _ _)))) (fun w => an (l1 [b, c, d, e, (f + g) - 1, a, f, g, (d + e) - 1] (A (A (A v1 v5) (A v6 v7)) (S v4)) (A (A (A v0 v4) (S v1)) (A v6 v7)) v5 v0 t (ad (ad (ad (es h) (es h3)) h4) (so w))) (l1 [b, c, d, e, (f + g) - 1, a, f, g, (d + e) - 1] (A (A (A v0 (S v1)) v8) (A v2 v3)) (A (A (A v1 (A v2 v3)) v5) (S v8)) v0 v5 t (ad (ad (ad (oe h) (es h2)) h5) (ls _ _))))
end
end Mine
namespace Mine
open PySem PySem.Calls PyProof.Rows PySem.W
inductive AV where
  | none
  | bool (b : Bool)
  | int (i : Int)
  | str (s : Str)
  | tup (xs : List AV)
  | lst (xs : List AV)
  | mref (i : Nat)
  | val (v : Value)
  | lam (args : Arguments) (body : PySem.Expr) (scope : Scope)
structure MO where
  ver : Nat
  acc : Option Int
  items : List AV
noncomputable abbrev Sto := List MO
noncomputable abbrev Ro := List (Str × AV)
noncomputable def setMO (σ : Sto) (i : Nat) (xs : List AV) : Sto := match σ[i]? with | some o => σ.set i ⟨o.ver + 1, o.acc, xs⟩ | none => σ
noncomputable def put (x : Str) (v : AV) : Ro → Ro
  | [] => [(x, v)]
  | (y, w) :: r => if x == y then (x, v) :: r else (y, w) :: put x v r
noncomputable def lim : Nat := 1048576
structure Cx where
  prog : Program
  w : World
  K : Frag
  g : Heap
  os : OsState
noncomputable abbrev Cx.M (c : Cx) : Model := model c.prog c.w
noncomputable def Tab (a : Addr) : Prop := a = 166 ∨ a = 81
noncomputable def Hid (F : Addr → Prop) (μ : List Addr) (a : Addr) : Prop := F a ∨ a ∈ μ ∨ Tab a
noncomputable def LamC (cl : List (Str × Addr)) (F : Addr → Prop) (μ : List Addr) (h : Heap) (a : Addr) (ps : Arguments) (body : PySem.Expr) (sc : Scope) : Prop :=
  ∃ o fd k ok, h.get? a = some o ∧ o.data = .func fd ∧ fd.params = ps ∧ fd.body = .expr body ∧ fd.scope = sc ∧ fd.globals = mainGlobals ∧ fd.closure = cl ∧ fd.builtins = builtinsNs ∧
    fd.defaults = .none ∧ fd.kwdefaults = .none ∧ fd.code = .ref k ∧ ¬Hid F μ k ∧ h.get? k = some ok ∧ ∃ vs t, ok.data = .fields vs ∧ vs[1]? = some (.str fd.qualname t)
noncomputable abbrev LamObj := LamC []
noncomputable def PList (h : Heap) (a : Addr) (vs : List Value) : Prop := ∃ n, h.get? a = some { cls := .type "list", data := .seq vs.toArray n }
theorem PList.isList {h : Heap} {a : Addr} {vs : List Value} (x : PList h a vs) : h.IsList a vs.toArray := let ⟨n, e⟩ := x; ⟨_, e, rfl, n, rfl⟩
theorem PList.noDict {h : Heap} {a : Addr} {vs : List Value} (x : PList h a vs) : h.NoDictAt (.ref a) := let ⟨_, e⟩ := x; ⟨_, e, rfl⟩
inductive VR (F : Addr → Prop) (μ : List Addr) (h : Heap) : AV → Value → Prop
  | none : VR F μ h .none .none
  | bool (b : Bool) : VR F μ h (.bool b) (.bool b)
  | int (i : Int) (t : Tok) : VR F μ h (.int i) (.int i t)
  | str {s : Str} (t : Tok) : PyData.strOk s = true → VR F μ h (.str s) (.str s t)
  | tup {a : Addr} {xs : List AV} {vs : List Value} : ¬Hid F μ a → h.IsTuple a vs.toArray → xs.length ≤ lim → xs.length = vs.length → (∀ (i : Nat) (x : AV) (v : Value), xs[i]? = some x → vs[i]? = some v → VR F μ h x v) → VR F μ h (.tup xs) (.ref a)
  | lst {a : Addr} {xs : List AV} {vs : List Value} : ¬Hid F μ a → PList h a vs → xs.length ≤ lim → xs.length = vs.length → (∀ (i : Nat) (x : AV) (v : Value), xs[i]? = some x → vs[i]? = some v → VR F μ h x v) → VR F μ h (.lst xs) (.ref a)
  | mref {i : Nat} {a : Addr} : μ[i]? = some a → VR F μ h (.mref i) (.ref a)
  | val (v : Value) : VR F μ h (.val v) v
  | lam {a : Addr} {ps : Arguments} {body : PySem.Expr} {sc : Scope} : ¬Hid F μ a → LamObj F μ h a ps body sc → VR F μ h (.lam ps body sc) (.ref a)
structure VRs (F : Addr → Prop) (μ : List Addr) (h : Heap) (xs : List AV) (vs : List Value) : Prop where
  len : xs.length = vs.length
  at_ : ∀ (i : Nat) (x : AV) (v : Value), xs[i]? = some x → vs[i]? = some v → VR F μ h x v
section
variable {F F' : Addr → Prop} {μ μ' : List Addr} {h h' : Heap} {x : AV} {v : Value} {xs ys : List AV} {vs ws : List Value}
theorem VR.none_inv (r : VR F μ h .none v) : v = .none := by cases r; rfl
theorem VR.bool_inv {b : Bool} (r : VR F μ h (.bool b) v) : v = .bool b := by cases r; rfl
theorem VR.int_inv {i : Int} (r : VR F μ h (.int i) v) : ∃ t, v = .int i t := by cases r; exact ⟨_, rfl⟩
theorem VR.str_inv {s : Str} (r : VR F μ h (.str s) v) : ∃ t, v = .str s t ∧ PyData.strOk s = true := by cases r; exact ⟨_, rfl, by assumption⟩
theorem VR.tup_inv (r : VR F μ h (.tup xs) v) : ∃ a vs, v = .ref a ∧ ¬Hid F μ a ∧ h.IsTuple a vs.toArray ∧ xs.length ≤ lim ∧ VRs F μ h xs vs := by cases r with | tup n e l k r => exact ⟨_, _, rfl, n, e, l, k, r⟩
theorem VR.lst_inv (r : VR F μ h (.lst xs) v) : ∃ a vs, v = .ref a ∧ ¬Hid F μ a ∧ PList h a vs ∧ xs.length ≤ lim ∧ VRs F μ h xs vs := by cases r with | lst n e l k r => exact ⟨_, _, rfl, n, e, l, k, r⟩
theorem VR.mref_inv {i : Nat} (r : VR F μ h (.mref i) v) : ∃ a, v = .ref a ∧ μ[i]? = some a := by cases r; exact ⟨_, rfl, by assumption⟩
theorem VR.val_inv {u : Value} (r : VR F μ h (.val u) v) : v = u := by cases r; rfl
theorem VR.lam_inv {ps : Arguments} {body : PySem.Expr} {sc : Scope} (r : VR F μ h (.lam ps body sc) v) : ∃ a, v = .ref a ∧ ¬Hid F μ a ∧ LamObj F μ h a ps body sc := by cases r; exact ⟨_, rfl, by assumption, by assumption⟩
theorem VRs.get (r : VRs F μ h xs vs) {i : Nat} (e : xs[i]? = some x) : ∃ v, vs[i]? = some v ∧ VR F μ h x v := by
  have hi : i < vs.length := r.len ▸ (List.getElem?_eq_some_iff.mp e).1
  exact ⟨vs[i], List.getElem?_eq_getElem hi, r.at_ i x _ e (List.getElem?_eq_getElem hi)⟩
theorem VRs.nil : VRs F μ h [] [] := ⟨rfl, fun _ _ _ e => nomatch e⟩
theorem VRs.append (r : VRs F μ h xs vs) (s : VRs F μ h ys ws) : VRs F μ h (xs ++ ys) (vs ++ ws) := by
  refine ⟨by rw [List.length_append, List.length_append, r.len, s.len], fun i x v e1 e2 => ?_⟩
  rw [List.getElem?_append] at e1 e2
  rw [r.len] at e1
  by_cases hi : i < vs.length
  · rw [if_pos hi] at e1 e2; exact r.at_ i x v e1 e2
  · rw [if_neg hi] at e1 e2; exact s.at_ _ x v e1 e2
theorem VRs.one (r : VR F μ h x v) : VRs F μ h [x] [v] := ⟨rfl, fun i y w e1 e2 => by
  cases i with
  | zero => cases e1; cases e2; exact r
  | succ i => exact nomatch e1⟩
theorem VRs.cons (r : VR F μ h x v) (s : VRs F μ h xs vs) : VRs F μ h (x :: xs) (v :: vs) := VRs.append (.one r) s
theorem VRs.drop (r : VRs F μ h xs vs) (n : Nat) : VRs F μ h (xs.drop n) (vs.drop n) :=
  ⟨by rw [List.length_drop, List.length_drop, r.len], fun i x v e1 e2 => r.at_ (n + i) x v (List.getElem?_drop ▸ e1) (List.getElem?_drop ▸ e2)⟩
theorem VRs.take (r : VRs F μ h xs vs) (n : Nat) : VRs F μ h (xs.take n) (vs.take n) :=
  ⟨by rw [List.length_take, List.length_take, r.len], fun i x v e1 e2 => by
    rw [List.getElem?_take] at e1 e2
    split at e1
    · rename_i hi; rw [if_pos hi] at e2; exact r.at_ i x v e1 e2
    · cases e1⟩
theorem VRs.reverse (r : VRs F μ h xs vs) : VRs F μ h xs.reverse vs.reverse :=
  ⟨by rw [List.length_reverse, List.length_reverse, r.len], fun i x v e1 e2 => by
    have hi := (List.getElem?_eq_some_iff.mp e2).1
    rw [List.length_reverse] at hi
    rw [List.getElem?_reverse (by rw [r.len]; exact hi)] at e1
    rw [List.getElem?_reverse hi] at e2
    rw [r.len] at e1
    exact r.at_ _ x v e1 e2⟩
theorem VRs.set (r : VRs F μ h xs vs) (n : Nat) (s : VR F μ h x v) : VRs F μ h (xs.set n x) (vs.set n v) :=
  ⟨by rw [List.length_set, List.length_set, r.len], fun i y u e1 e2 => by
    by_cases hn : n = i
    · subst hn
      have hi := (List.getElem?_eq_some_iff.mp e2).1
      rw [List.length_set] at hi
      rw [List.getElem?_set_self (by rw [r.len]; exact hi)] at e1
      rw [List.getElem?_set_self hi] at e2
      cases e1; cases e2; exact s
    · rw [List.getElem?_set_ne hn] at e1 e2; exact r.at_ i y u e1 e2⟩
structure Pres (F : Addr → Prop) (μ : List Addr) (h : Heap) (F' : Addr → Prop) (μ' : List Addr) (h' : Heap) : Prop where
  at_ : ∀ a o, ¬Hid F μ a → h.get? a = some o → h'.get? a = some o ∧ ¬Hid F' μ' a
  pre : ∀ (i : Nat) (a : Addr), μ[i]? = some a → μ'[i]? = some a
theorem Pres.trans {F'' : Addr → Prop} {μ'' : List Addr} {h'' : Heap} (p : Pres F μ h F' μ' h') (q : Pres F' μ' h' F'' μ'' h'') : Pres F μ h F'' μ'' h'' :=
  ⟨fun a o n e => q.at_ a o (p.at_ a o n e).2 (p.at_ a o n e).1, fun i a e => q.pre i a (p.pre i a e)⟩
theorem LamC.pres {cl : List (Str × Addr)} {a : Addr} {ps : Arguments} {body : PySem.Expr} {sc : Scope} (p : Pres F μ h F' μ' h') (n : ¬Hid F μ a) (x : LamC cl F μ h a ps body sc) : LamC cl F' μ' h' a ps body sc := by
  obtain ⟨o, fd, k, ok, e, r1, r2, r3, r4, r5, r6, r7, r8, r9, r10, r11, e2, e3⟩ := x
  exact ⟨o, fd, k, ok, (p.at_ a o n e).1, r1, r2, r3, r4, r5, r6, r7, r8, r9, r10, (p.at_ k ok r11 e2).2, (p.at_ k ok r11 e2).1, e3⟩
theorem VR.pres (p : Pres F μ h F' μ' h') (r : VR F μ h x v) : VR F' μ' h' x v := by
  induction r with
  | none => exact .none
  | bool b => exact .bool b
  | int i t => exact .int i t
  | str t k => exact .str t k
  | tup n e l k _ ih => obtain ⟨o, e, r⟩ := e; exact .tup (p.at_ _ o n e).2 ⟨o, (p.at_ _ o n e).1, r⟩ l k ih
  | lst n e l k _ ih => obtain ⟨m, e⟩ := e; exact .lst (p.at_ _ _ n e).2 ⟨m, (p.at_ _ _ n e).1⟩ l k ih
  | mref e => exact .mref (p.pre _ _ e)
  | val v => exact .val v
  | lam n e => exact .lam (by obtain ⟨o, _, _, _, e1, _⟩ := id e; exact (p.at_ _ o n e1).2) (LamC.pres p n e)
theorem VRs.pres (p : Pres F μ h F' μ' h') (r : VRs F μ h xs vs) : VRs F' μ' h' xs vs := ⟨r.len, fun i x v e1 e2 => (r.at_ i x v e1 e2).pres p⟩
theorem Pres.keep (k : ∀ b o, h.get? b = some o → h'.get? b = some o) : Pres F μ h F μ h' := ⟨fun a o n e => ⟨k a o e, n⟩, fun _ _ e => e⟩
theorem Pres.less (hF : ∀ a, F' a → F a) : Pres F μ h F' μ h := ⟨fun _ _ n e => ⟨e, fun x => n (x.elim (fun y => .inl (hF _ y)) .inr)⟩, fun _ _ e => e⟩
end
noncomputable def AccD (h : Heap) (d : Addr) (k : Int) : Prop := ∃ od es m t, h.get? d = some od ∧ od.data = .dict es m ∧ StrKeys es ∧ nsFind es "_initial_size" = some (.int k t) ∧ ∀ x, x ≠ ("_initial_size" : Str) → nsFind es x = none
noncomputable def MOk (F : Addr → Prop) (μ : List Addr) (h : Heap) (a : Addr) (o : MO) : Prop :=
  o.items.length ≤ lim ∧ ∃ vs n, VRs F μ h o.items vs ∧ (o.acc = none → h.get? a = some { cls := .type "list", data := .seq vs.toArray n }) ∧
    ∀ k, o.acc = some k → ∃ d, h.get? a = some { cls := .ref 119, dict := some d, data := .seq vs.toArray n } ∧ ¬Hid F μ d ∧ AccD h d k
noncomputable def TabOk (q : Str) (P : Addr) (F : Addr → Prop) (μ : List Addr) (h : Heap) : Prop :=
  ∃ ps, h.get? P = some (tabObj ps) ∧ TriplesOk ps.toList ∧ ∀ pos c, codeAmong pos ps.toList = some c → ∃ a o, c = .ref a ∧ ¬Hid F μ a ∧ h.get? a = some o ∧ ∃ vs t, o.data = .fields vs ∧ vs[1]? = some (.str q t)
noncomputable def qLam : Str := "law.<locals>.<lambda>"
noncomputable def qGen : Str := "_Accumulator.__len__.<locals>.<genexpr>"
structure Inv (c : Cx) (F : Addr → Prop) (μ : List Addr) (s : Shared) (σ : Sto) : Prop where
  keep : ∀ a o, c.g.get? a = some o → s.heap.get? a = some o
  fg : ∀ a, Hid F μ a → c.g.get? a = none
  flt : ∀ a, Hid F μ a → ∃ o, s.heap.get? a = some o
  fm : ∀ a, F a → a ∉ μ
  ft : ∀ a, Tab a → ¬F a ∧ a ∉ μ
  nd : ∀ (i j : Nat) (a : Addr), μ[i]? = some a → μ[j]? = some a → i = j
  len : μ.length = σ.length
  mo : ∀ (i : Nat) (o : MO) (a : Addr), σ[i]? = some o → μ[i]? = some a → MOk F μ s.heap a o
  bare : AllBare s.gens
  os : s.os = c.os
  lam : TabOk qLam 166 F μ s.heap
  gen : TabOk qGen 81 F μ s.heap
structure Go (c : Cx) (F : Addr → Prop) (W : Addr → Prop) (μ : List Addr) (s : Shared) (σ : Sto) (μ' : List Addr) (s' : Shared) (σ' : Sto) : Prop where
  same : ∀ a o, ¬W a → a ∉ μ → ¬Tab a → s.heap.get? a = some o → s'.heap.get? a = some o
  ex : ∀ a o, s.heap.get? a = some o → ∃ o', s'.heap.get? a = some o'
  pre : ∀ (i : Nat) (a : Addr), μ[i]? = some a → μ'[i]? = some a
  new : ∀ a ∈ μ', a ∈ μ ∨ s.heap.get? a = none
  mono : ∀ (i : Nat) (o : MO), σ[i]? = some o → ∃ o' : MO, σ'[i]? = some o' ∧ o.ver ≤ o'.ver ∧ o'.acc = o.acc ∧ (o'.ver = o.ver → o' = o ∧ ∀ a ob, μ[i]? = some a → s.heap.get? a = some ob → s'.heap.get? a = some ob)
  inv : Inv c F μ' s' σ'
noncomputable abbrev NoW : Addr → Prop := fun _ => False
noncomputable def Kp (s s' : Shared) : Prop := ∀ b o, s.heap.get? b = some o → s'.heap.get? b = some o
theorem Kp.refl {s : Shared} : Kp s s := fun _ _ e => e
theorem Kp.toks {s s' : Shared} (p : Kp s s') (t : Nat) : Kp s { s' with toks := t } := p
theorem Kp.push {s : Shared} (o : Obj) : Kp s { s with heap := s.heap.push o } := fun _ _ e => Heap.get?_push_of_some _ e
theorem Kp.pres {F : Addr → Prop} {μ : List Addr} {s s' : Shared} (p : Kp s s') : Pres F μ s.heap F μ s'.heap := .keep p
theorem absent {h : Heap} {a : Addr} {o : Obj} {p : Prop} (e : h.get? a = some o) (n : h.get? a = none) : p := by rw [n] at e; cases e
theorem fresh_at (h : Heap) : h.get? h.objs.size = none := by
  cases e : h.get? h.objs.size with
  | none => rfl
  | some o => exact absurd (Heap.lt_size e) (Nat.lt_irrefl _)
section
variable {c : Cx} {W W' : Addr → Prop} {F F' : Addr → Prop} {μ μ' μ'' : List Addr} {s s' s'' : Shared} {σ σ' σ'' : Sto}
theorem MOk.pres {h h' : Heap} {a : Addr} {o : MO} (p : Pres F μ h F' μ' h') (k : ∀ ob, h.get? a = some ob → h'.get? a = some ob) (x : MOk F μ h a o) : MOk F' μ' h' a o := by
  obtain ⟨l, vs, n, r, h1, h2⟩ := x
  refine ⟨l, vs, n, r.pres p, fun q => k _ (h1 q), fun j q => ?_⟩
  obtain ⟨d, e, hn, od, es, m, t, hd, r2⟩ := h2 j q
  exact ⟨d, k _ e, (p.at_ d _ hn hd).2, od, es, m, t, (p.at_ d _ hn hd).1, r2⟩
theorem TabOk.pres {q : Str} {P : Addr} {h h' : Heap} (p : Pres F μ h F' μ' h') (k : ∀ o, h.get? P = some o → h'.get? P = some o) (x : TabOk q P F μ h) : TabOk q P F' μ' h' := by
  obtain ⟨ps, e, t, r⟩ := x
  refine ⟨ps, k _ e, t, fun pos c hc => ?_⟩
  obtain ⟨a, o, rfl, hn, e1, e2⟩ := r pos c hc
  exact ⟨a, o, rfl, (p.at_ a o hn e1).2, (p.at_ a o hn e1).1, e2⟩
theorem Go.refl (I : Inv c F μ s σ) : Go c F W μ s σ μ s σ := ⟨fun _ _ _ _ _ e => e, fun _ o e => ⟨o, e⟩, fun _ _ e => e, fun _ h => .inl h, fun _ o e => ⟨o, e, Nat.le_refl _, rfl, fun _ => ⟨rfl, fun _ _ _ e => e⟩⟩, I⟩
theorem Go.trans (p : Go c F W μ s σ μ' s' σ') (q : Go c F' W μ' s' σ' μ'' s'' σ'') : Go c F' W μ s σ μ'' s'' σ'' :=
  ⟨fun a o w n t e => q.same a o w (fun m => (p.new a m).elim n (absent e)) t (p.same a o w n t e), fun a o e => let ⟨o', e'⟩ := p.ex a o e; q.ex a o' e', fun i a e => q.pre i a (p.pre i a e),
    fun a m => (q.new a m).elim (p.new a) fun l => .inr (by
      cases e : s.heap.get? a with
      | none => rfl
      | some o => obtain ⟨o', e'⟩ := p.ex a o e; exact absent e' l), fun i o e => by
      obtain ⟨o1, e1, l1, a1, f1⟩ := p.mono i o e
      obtain ⟨o2, e2, l2, a2, f2⟩ := q.mono i o1 e1
      refine ⟨o2, e2, Nat.le_trans l1 l2, a2.trans a1, fun x2 => ?_⟩
      obtain ⟨g1, k1⟩ := f1 (by exact Z1 l2 l1 x2)
      obtain ⟨g2, k2⟩ := f2 (by exact Z2 x2 l2 l1)
      exact ⟨g2.trans g1, fun ad ob ha hb => k2 ad ob (p.pre i ad ha) (k1 ad ob ha hb)⟩, q.inv⟩
theorem Go.weaken (p : Go c F W μ s σ μ' s' σ') (h : ∀ a, W a → W' a ∨ s.heap.get? a = none) : Go c F W' μ s σ μ' s' σ' :=
  ⟨fun a o w n t e => p.same a o (fun x => (h a x).elim w (absent e)) n t e, p.ex, p.pre, p.new, p.mono, p.inv⟩
theorem Go.pres (p : Go c F' W μ s σ μ' s' σ') (hw : ∀ a, W a → F a) (hF : ∀ a, F' a → F a ∨ s.heap.get? a = none) : Pres F μ s.heap F' μ' s'.heap :=
  ⟨fun a o n e => by
    refine ⟨p.same a o (fun x => n (.inl (hw a x))) (fun x => n (.inr (.inl x))) (fun x => n (.inr (.inr x))) e, fun x => ?_⟩
    rcases x with x | x | x
    · exact (hF a x).elim (fun y => n (.inl y)) (absent e)
    · exact (p.new a x).elim (fun y => n (.inr (.inl y))) (absent e)
    · exact n (.inr (.inr x)), p.pre⟩
theorem Go.pres0 (p : Go c F NoW μ s σ μ' s' σ') : Pres F μ s.heap F μ' s'.heap := p.pres (fun _ h => h.elim) fun _ h => .inl h
theorem Inv.step (I : Inv c F μ s σ) {h' : Heap} {tk : Nat} {gs : Array GenState} (hb : AllBare gs) (hW : ∀ a, W a → F a ∧ ∃ o, h'.get? a = some o) (k : ∀ b o, ¬W b → s.heap.get? b = some o → h'.get? b = some o)
    (hF : ∀ a, F' a → F a ∨ s.heap.get? a = none ∧ ∃ o, h'.get? a = some o) : Go c F' W μ s σ μ { s with heap := h', toks := tk, gens := gs } σ := by
  have ex : ∀ a o, s.heap.get? a = some o → ∃ o', h'.get? a = some o' := fun a o e => (Classical.em (W a)).elim (fun x => (hW a x).2) fun x => ⟨o, k a o x e⟩
  have p : Pres F μ s.heap F' μ h' := ⟨fun a o n e => ⟨k a o (fun x => n (.inl (hW a x).1)) e, fun x => n (x.elim (fun y => (hF a y).elim .inl fun l => absent e l.1) .inr)⟩, fun _ _ e => e⟩
  have hid : ∀ a, Hid F' μ a → Hid F μ a ∨ s.heap.get? a = none ∧ ∃ o, h'.get? a = some o := fun a x => x.elim (fun y => (hF a y).imp .inl id) fun y => .inl (.inr y)
  have km : ∀ a ∈ μ, ∀ o, s.heap.get? a = some o → h'.get? a = some o := fun a m o e => k a o (fun x => I.fm a (hW a x).1 m) e
  have kt : ∀ a, Tab a → ∀ o, s.heap.get? a = some o → h'.get? a = some o := fun a m o e => k a o (fun x => (I.ft a m).1 (hW a x).1) e
  refine ⟨fun a o w _ _ e => k a o w e, ex, fun _ _ e => e, fun _ h => .inl h, fun i o e => ⟨o, e, Nat.le_refl _, rfl, fun _ => ⟨rfl, fun a ob ha hb => km a (List.mem_of_getElem? ha) ob hb⟩⟩,
    ⟨fun a o e => k a o (fun x => absent e (I.fg a (.inl (hW a x).1))) (I.keep a o e), fun a h => (hid a h).elim (I.fg a) fun l => ?_, fun a h => (hid a h).elim (fun y => let ⟨o, e⟩ := I.flt a y; ex a o e) And.right,
      fun a h m => (hF a h).elim (fun y => I.fm a y m) fun l => let ⟨_, e⟩ := I.flt a (.inr (.inl m)); absent e l.1, fun a t => ⟨fun h => (hF a h).elim (I.ft a t).1 fun l => let ⟨_, e⟩ := I.flt a (.inr (.inr t)); absent e l.1, (I.ft a t).2⟩,
      I.nd, I.len, fun i o a e1 e2 => (I.mo i o a e1 e2).pres p (km a (List.mem_of_getElem? e2)), hb, I.os, I.lam.pres p (kt _ (.inl rfl)), I.gen.pres p (kt _ (.inr rfl))⟩⟩
  cases e : c.g.get? a with
  | none => rfl
  | some o => exact absent (I.keep a o e) l.1
theorem Inv.grow (I : Inv c F μ s σ) {h' : Heap} {tk : Nat} (k : Kp s { s with heap := h', toks := tk }) : Go c F W μ s σ μ { s with heap := h', toks := tk } σ :=
  (I.step (W := NoW) (F' := F) (tk := tk) (gs := s.gens) I.bare (fun _ h => h.elim) (fun b o _ e => k b o e) fun _ h => .inl h).weaken fun _ h => h.elim
theorem Inv.newN (I : Inv c F μ s σ) {a : Addr} (h : s.heap.get? a = none) : ¬Hid F μ a := fun x => let ⟨_, e⟩ := I.flt _ x; absent e h
theorem Inv.new (I : Inv c F μ s σ) : ¬Hid F μ s.heap.objs.size := I.newN (fresh_at _)
theorem Inv.less (I : Inv c F μ s σ) (hF : ∀ a, F' a → F a) : Inv c F' μ s σ := by
  have hH : ∀ a, Hid F' μ a → Hid F μ a := fun a h => h.elim (fun x => .inl (hF a x)) .inr
  exact ⟨I.keep, fun a h => I.fg a (hH a h), fun a h => I.flt a (hH a h), fun a h => I.fm a (hF a h), fun a t => ⟨fun h => (I.ft a t).1 (hF a h), (I.ft a t).2⟩, I.nd, I.len, fun i o a e1 e2 => (I.mo i o a e1 e2).pres (.less hF) fun _ e => e, I.bare, I.os,
    I.lam.pres (.less hF) (fun _ e => e), I.gen.pres (.less hF) (fun _ e => e)⟩
end
noncomputable def TagR (sc : Scope) (env : Env) : Prop := sc.names.lookup ("script" : Str) = some .local → env.code = .ref 168 ∧ env.qual ++ "<lambda>" = qLam
structure EnvR (F : Addr → Prop) (μ : List Addr) (h : Heap) (env : Env) (sc : Scope) (ρ : Ro) : Prop where
  kind : env.scope.kind = .function
  kinds : ∀ x k, sc.names.lookup x = some k → env.scope.names.lookup x = some k ∨ (k = .free ∧ env.scope.names.lookup x = some .cell)
  glob : env.globals = mainGlobals
  bns : env.builtins = builtinsNs
  loc : F env.locals
  ns : ∃ m, h.Ns env.locals m ∧ ∀ x v, ρ.lookup x = some v → env.scope.names.lookup x = some .local → ∃ y, m x = some y ∧ VR F μ h v y
  cell : ∀ x, (env.scope.names.lookup x = some .cell ∨ env.scope.names.lookup x = some .free) → ∃ c cv, env.cells.lookup x = some c ∧ F c ∧ c ≠ env.locals ∧ h.IsCell c cv ∧
    ∀ v, ρ.lookup x = some v → ∃ y, cv = some y ∧ VR F μ h v y
  inj : ∀ x y c, env.cells.lookup x = some c → env.cells.lookup y = some c → x = y
  tag : TagR sc env
noncomputable def Mem (env : Env) (a : Addr) : Prop := a = env.locals ∨ ∃ x, (env.scope.names.lookup x = some .cell ∨ env.scope.names.lookup x = some .free) ∧ env.cells.lookup x = some a
noncomputable def Own (env : Env) (sc : Scope) (a : Addr) : Prop := a = env.locals ∨ ∃ x, sc.names.lookup x = some .cell ∧ env.cells.lookup x = some a
section
variable {c : Cx} {W : Addr → Prop} {F F' : Addr → Prop} {μ μ' : List Addr} {s s' : Shared} {σ σ' : Sto} {env : Env} {sc : Scope} {ρ : Ro} {h h' : Heap}
theorem EnvR.cells (N : EnvR F μ h env sc ρ) : ∀ x c, (env.scope.names.lookup x = some .cell ∨ env.scope.names.lookup x = some .free) → env.cells.lookup x = some c → F c := fun x c hx e => by
  obtain ⟨c', cv, e1, e2, _⟩ := N.cell x hx
  rw [e] at e1; cases e1; exact e2
theorem EnvR.own (N : EnvR F μ h env sc ρ) {a : Addr} (x : Own env sc a) : F a := by
  rcases x with rfl | ⟨x, hx, hc⟩
  · exact N.loc
  · exact N.cells x a (.inl ((N.kinds x _ hx).resolve_right fun e => absurd e.1 (by decide))) hc
theorem EnvR.pres (N : EnvR F μ h env sc ρ) (p : Pres F μ h F' μ' h') (hF : ∀ a, Mem env a → F' a)
    (k : ∀ a o, Mem env a → h.get? a = some o → h'.get? a = some o) : EnvR F' μ' h' env sc ρ := by
  refine ⟨N.kind, N.kinds, N.glob, N.bns, hF _ (.inl rfl), ?_, fun x hx => ?_, N.inj, N.tag⟩
  · obtain ⟨m, ⟨o, es, ep, e, r⟩, hm⟩ := N.ns
    exact ⟨m, ⟨o, es, ep, k _ o (.inl rfl) e, r⟩, fun x v h1 h2 => let ⟨y, a, b⟩ := hm x v h1 h2; ⟨y, a, b.pres p⟩⟩
  · obtain ⟨c, cv, e1, e2, e3, ⟨o, e, r⟩, e5⟩ := N.cell x hx
    exact ⟨c, cv, e1, hF _ (.inr ⟨x, hx, e1⟩), e3, ⟨o, k _ o (.inr ⟨x, hx, e1⟩) e, r⟩, fun v h1 => let ⟨y, a, b⟩ := e5 v h1; ⟨y, a, b.pres p⟩⟩
theorem EnvR.mem (N : EnvR F μ h env sc ρ) : ∀ a, Mem env a → F a := fun a x => by
  rcases x with rfl | ⟨x, hx, hc⟩
  · exact N.loc
  · exact N.cells x a hx hc
theorem EnvR.go (N : EnvR F μ s.heap env sc ρ) (I : Inv c F μ s σ) (p : Go c F NoW μ s σ μ' s' σ') : EnvR F μ' s'.heap env sc ρ :=
  N.pres p.pres0 N.mem fun a o h e => p.same a o (fun x => x) (I.fm a (N.mem a h)) (fun t => (I.ft a t).1 (N.mem a h)) e
end
structure Room (A : Around) (n : Nat) : Prop where
  hh : A.handled = none
  d : A.depth + 2 * n + 20 < 1000
  u : A.units + 20 * n + 100 < 9900
theorem Room.less {A : Around} {n m : Nat} (r : Room A n) (h : m ≤ n) : Room A m := ⟨r.hh, by have := r.d; exact Z3 this h, by have := r.u; exact Z4 this h⟩
theorem Room.deeper {A : Around} {n : Nat} (r : Room A (n + 1)) (env : Env) : Room (A.deeper env) n := ⟨r.hh, by have := r.d; show A.depth + 1 + _ + _ < _; exact Z5 this, by have := r.u; simp; exact Z6 this⟩
theorem Room.depth {A : Around} {n : Nat} (r : Room A n) : A.depth < recursionLimit := by have := r.d; show A.depth < 1000; exact Z7 this
theorem Room.u64 {A : Around} {n : Nat} (rm : Room A n) : A.units + 64 < cLine := by have := rm.u; show A.units + 64 < 9900; exact Z8 this
end Mine
namespace Mine
open PySem PySem.Calls PyProof.Rows PySem.W
noncomputable abbrev OpQ (c : Cx) (F : Addr → Prop) (μ : List Addr) (s : Shared) (σ : Sto) (v : AV) (Q : Value → Shared → Prop) : Prop :=
  ∀ x s', Kp s s' → Inv c F μ s' σ → VR F μ s'.heap v x → Q x s'
noncomputable def Op2 (c : Cx) (σ : Sto) (t : Value → Value → Sem Value) (a b v : AV) : Prop :=
  ∀ ⦃A : Around⦄ ⦃E : Value → Shared → Prop⦄ ⦃F : Addr → Prop⦄ ⦃μ : List Addr⦄ ⦃s : Shared⦄ ⦃x y : Value⦄ ⦃Q : Value → Shared → Prop⦄, A.units + 64 < cLine → Inv c F μ s σ → VR F μ s.heap a x → VR F μ s.heap b y → OpQ c F μ s σ v Q → wpAny c.M A (t x y) Q E s
section
variable {c : Cx} {F : Addr → Prop} {μ : List Addr} {s : Shared} {σ : Sto} {A : Around} {E : Value → Shared → Prop} {Q : Value → Shared → Prop}
theorem q_same {v : AV} {x : Value} (I : Inv c F μ s σ) (h : OpQ c F μ s σ v Q) (tk : Nat) (r : VR F μ s.heap v x) : Q x { s with toks := tk } := h _ _ (Kp.refl.toks tk) (I.grow (W := NoW) (Kp.refl.toks tk)).inv r
theorem q_int {i : Int} (I : Inv c F μ s σ) (h : OpQ c F μ s σ (.int i) Q) (t tk : Nat) : Q (.int i t) { s with toks := tk } := q_same I h tk (.int i t)
theorem q_bool {b : Bool} (I : Inv c F μ s σ) (h : OpQ c F μ s σ (.bool b) Q) : Q (.bool b) s := h _ _ .refl I (.bool b)
theorem lim_le {n : Nat} (h : n ≤ lim + lim) : n ≤ sizeLine := Nat.le_trans h (by decide +kernel)
theorem lim_le1 {n : Nat} (h : n ≤ lim) : n ≤ sizeLine := lim_le (Nat.le_trans h (Nat.le_add_right _ _))
theorem VRs.size {h : Heap} {xs : List AV} {vs : List Value} (r : VRs F μ h xs vs) (l : xs.length ≤ lim) : vs.toArray.size ≤ sizeLine := by rw [List.size_toArray, ← r.len]; exact lim_le1 l
theorem q_lst {xs : List AV} {vs : List Value} {tk : Nat} (I : Inv c F μ s σ) (r : VRs F μ s.heap xs vs) (l : xs.length ≤ lim) (h : OpQ c F μ s σ (.lst xs) Q) :
    Q (.ref s.heap.objs.size) { s with heap := s.heap.push { cls := .type "list", data := .seq vs.toArray }, toks := tk } :=
  have k : Kp s { s with heap := s.heap.push { cls := .type "list", data := .seq vs.toArray }, toks := tk } := (Kp.push _).toks tk
  have r' := r.pres (Kp.pres (F := F) (μ := μ) k)
  h _ _ k (I.grow (W := NoW) k).inv (.lst I.new ⟨_, Heap.get?_push_size _ rfl⟩ l r'.len r'.at_)
theorem q_tup {xs : List AV} {vs : List Value} {tk : Nat} (I : Inv c F μ s σ) (r : VRs F μ s.heap xs vs) (l : xs.length ≤ lim) (h : OpQ c F μ s σ (.tup xs) Q) :
    Q (.ref s.heap.objs.size) { s with heap := s.heap.push { cls := .type "tuple", data := .seq vs.toArray }, toks := tk } :=
  have k : Kp s { s with heap := s.heap.push { cls := .type "tuple", data := .seq vs.toArray }, toks := tk } := (Kp.push _).toks tk
  have r' := r.pres (Kp.pres (F := F) (μ := μ) k)
  h _ _ k (I.grow (W := NoW) k).inv (.tup I.new ⟨_, Heap.get?_push_size _ rfl, rfl, _, rfl⟩ l r'.len r'.at_)
noncomputable def SeqR (σ : Sto) (a : AV) (xs : List AV) : Prop := a = .lst xs ∨ ∃ i v, a = .mref i ∧ σ[i]? = some ⟨v, none, xs⟩
theorem SeqR.lst {xs : List AV} : SeqR σ (.lst xs) xs := .inl rfl
theorem SeqR.mref {i v : Nat} {xs : List AV} (h : σ[i]? = some ⟨v, none, xs⟩) : SeqR σ (.mref i) xs := .inr ⟨i, v, rfl, h⟩
theorem seq_ok {a : AV} {x : Value} {xs : List AV} (I : Inv c F μ s σ) (e : SeqR σ a xs) (r : VR F μ s.heap a x) : ∃ l vs, x = .ref l ∧ PList s.heap l vs ∧ VRs F μ s.heap xs vs ∧ xs.length ≤ lim := by
  rcases e with rfl | ⟨i, v, rfl, e⟩
  · obtain ⟨l, vs, rfl, _, h1, h2, h3⟩ := r.lst_inv
    exact ⟨l, vs, rfl, h1, h3, h2⟩
  · obtain ⟨l, rfl, h1⟩ := r.mref_inv
    obtain ⟨hl, vs, n, r, h2, _⟩ := I.mo i _ l e h1
    exact ⟨l, vs, rfl, ⟨n, h2 rfl⟩, r, hl⟩
variable {i j : Int} {u v : AV}
theorem Op2.ints {t : Value → Value → Sem Value} {w : AV} (h : ∀ (A : Around) (E : Value → Shared → Prop) (s : Shared) (p q : Tok) (Q : Value → Shared → Prop), (∀ x tk, (∀ F μ h, VR F μ h w x) → Q x { s with toks := tk }) → wpAny c.M A (t (.int i p) (.int j q)) Q E s) : Op2 c σ t (.int i) (.int j) w := by
  intro A E F μ s x y Q _ I r1 r2 q
  obtain ⟨p, rfl⟩ := r1.int_inv
  obtain ⟨p', rfl⟩ := r2.int_inv
  exact h _ _ _ _ _ _ fun x tk r => q_same I q tk (r _ _ _)
theorem Op2.add : Op2 c σ (binaryOp .Add) (.int i) (.int j) (.int (i + j)) := .ints fun _ _ _ _ _ _ q => wpAny_add_int (q _ _ fun _ _ _ => .int _ _)
theorem Op2.sub : Op2 c σ (binaryOp .Sub) (.int i) (.int j) (.int (i - j)) := .ints fun _ _ _ _ _ _ q => P.sub_int (q _ _ fun _ _ _ => .int _ _)
theorem Op2.mod (hj : 0 < j) : Op2 c σ (binaryOp .Mod) (.int i) (.int j) (.int (i % j)) := .ints fun _ _ _ _ _ _ q => mod_int' (Int.ne_of_gt hj) (by rw [Int.fmod_eq_emod_of_nonneg _ (Int.le_of_lt hj)]; exact q _ _ fun _ _ _ => .int _ _)
theorem Op2.div (hj : 0 < j) (h2 : j < 1073741824) : Op2 c σ (binaryOp .FloorDiv) (.int i) (.int j) (.int (i / j)) := .ints fun _ _ _ _ _ _ q =>
  floordiv_int (Int.ne_of_gt hj) (by rw [Int.fdiv_eq_ediv_of_nonneg _ (Int.le_of_lt hj)]; exact q _ _ fun _ _ _ => .int _ _) (Or.inl (PyProof.noPylong_small (by omega)))
theorem Op2.pow6 : Op2 c σ (binaryOp .Pow) (.int 10) (.int 6) (.int 1000000) := .ints fun _ _ _ _ _ _ q => pow_int_small (by decide) (by decide) (by decide) (q _ _ fun _ _ _ => .int _ _)
theorem Op2.lt : Op2 c σ (compareOp .Lt) (.int i) (.int j) (.bool (decide (i < j))) := .ints fun _ _ _ _ _ _ q => P.lt_int (q _ _ fun _ _ _ => .bool _)
theorem Op2.gt : Op2 c σ (compareOp .Gt) (.int i) (.int j) (.bool (decide (i > j))) := .ints fun _ _ _ _ _ _ q => P.gt_int (q _ _ fun _ _ _ => .bool _)
theorem Op2.le : Op2 c σ (compareOp .LtE) (.int i) (.int j) (.bool (decide (i ≤ j))) := .ints fun _ _ _ _ _ _ q => P.le_int (q _ _ fun _ _ _ => .bool _)
theorem Op2.ge : Op2 c σ (compareOp .GtE) (.int i) (.int j) (.bool (decide (i ≥ j))) := .ints fun _ _ _ _ _ _ q => P.ge_int (q _ _ fun _ _ _ => .bool _)
theorem Op2.isNone (h : ∀ F μ h x, VR F μ h u x → x ≠ .none) : Op2 c σ (compareOp .Is) u .none (.bool false) := by
  intro A E F μ s x y Q _ I r1 r2 q
  obtain rfl := r2.none_inv
  refine is_none ?_
  rw [show (x == Value.none) = false from by simpa using h _ _ _ _ r1]
  exact q_bool I q
theorem Op2.isNone1 : Op2 c σ (compareOp .Is) .none .none (.bool true) := by
  intro A E F μ s x y Q _ I r1 r2 q
  obtain rfl := r2.none_inv
  obtain rfl := r1.none_inv
  exact is_none (q_bool I q)
theorem Op2.isNot {a b : AV} {k : Bool} (h : Op2 c σ (compareOp .Is) a .none (.bool k)) (hb : (a = .none ∧ k = true) ∨ ((∀ F μ h x, VR F μ h a x → x ≠ .none) ∧ k = false)) : Op2 c σ (compareOp .IsNot) a .none (.bool (!k)) := by
  intro A E F μ s x y Q _ I r1 r2 q
  obtain rfl := r2.none_inv
  refine isNot_none ?_
  rcases hb with ⟨rfl, rfl⟩ | ⟨hb, rfl⟩
  · obtain rfl := r1.none_inv; exact q_bool I q
  · rw [show (x == Value.none) = false from by simpa using hb _ _ _ _ r1]
    exact q_bool I q
theorem Op2.isBool {p q : Bool} : Op2 c σ (compareOp .Is) (.bool p) (.bool q) (.bool (p == q)) := by
  intro A E F μ s x y Q _ I r1 r2 h
  obtain rfl := r1.bool_inv
  obtain rfl := r2.bool_inv
  exact wpAny_is_plain rfl (by rw [show (Value.bool p == Value.bool q) = (p == q) from by cases p <;> cases q <;> rfl]; exact q_bool I h)
theorem strOk_append {x y : Str} (h1 : PyData.strOk x = true) (h2 : PyData.strOk y = true) : PyData.strOk (x ++ y) = true := by
  unfold PyData.strOk at *
  show (x.cps ++ y.cps).all _ = true
  rw [Array.all_append, h1, h2]; rfl
theorem str_empty {z : Str} (hz : (z.length == 0) = true) : z = ⟨#[]⟩ := by
  obtain ⟨k⟩ := z
  rw [Array.eq_empty_of_size_eq_zero (show k.size = 0 from eq_of_beq hz)]
theorem Op2.addStr {x y : Str} (hl : x.length + y.length ≤ 1000) : Op2 c σ (binaryOp .Add) (.str x) (.str y) (.str (x ++ y)) := by
  intro A E F μ s u v Q _ I r1 r2 h
  obtain ⟨t1, rfl, k1⟩ := r1.str_inv
  obtain ⟨t2, rfl, k2⟩ := r2.str_inv
  refine P.add_str ?_
  split
  · rename_i hz
    have : x ++ y = y := by rw [str_empty hz]; show Str.mk (#[] ++ y.cps) = y; simp
    exact h _ _ .refl I (by rw [this]; exact .str _ k2)
  · split
    · rename_i hz
      have : x ++ y = x := by rw [str_empty hz]; show Str.mk (x.cps ++ #[]) = x; simp
      exact h _ _ .refl I (by rw [this]; exact .str _ k1)
    · refine ⟨?_, q_same I h _ (.str _ (strOk_append k1 k2))⟩
      have : (x ++ y).length = x.length + y.length := by show (x.cps ++ y.cps).size = _; simp; rfl
      rw [this]
      exact Nat.le_trans hl (by decide +kernel)
theorem Op2.addSeq {a b : AV} {xs ys : List AV} (e1 : SeqR σ a xs) (e2 : SeqR σ b ys) (hl : xs.length + ys.length ≤ lim) : Op2 c σ (binaryOp .Add) a b (.lst (xs ++ ys)) := by
  intro A E F μ s x y Q _ I r1 r2 h
  obtain ⟨l, vs, rfl, ⟨n, hl1⟩, s1, _⟩ := seq_ok I e1 r1
  obtain ⟨l', ws, rfl, ⟨n', hl2⟩, s2, _⟩ := seq_ok I e2 r2
  have e : vs.toArray ++ ws.toArray = (vs ++ ws).toArray := by simp
  refine concat_meets ⟨_, hl1, rfl⟩ ⟨_, hl2, rfl⟩ noFill_list_add seq_list_add PySem.F.slot_list_add PySem.F.entry_list_add (PySem.F.args_list_add_2 _ _) (list_addW l l' vs.toArray ws.toArray n n' none none #[] #[] (by rw [List.size_toArray, List.size_toArray, ← s1.len, ← s2.len]; exact lim_le1 hl)) ⟨hl1, hl2, ?_⟩
  rw [e]
  exact q_lst (tk := s.toks) I (s1.append s2) (by rw [List.length_append]; exact hl) h
end
end Mine
namespace Mine
open PySem PySem.Calls PyProof.Rows PySem.W
noncomputable def RD (h : Heap) (n : Nat) (x : Value) (d : PyData) : Prop := (∃ as, Reads h x d as) ∧ d.canLay0 = true ∧ d.depth ≤ n
noncomputable def DatR (c : Cx) (σ : Sto) (n : Nat) (a : AV) (d : PyData) : Prop := ∀ ⦃F : Addr → Prop⦄ ⦃μ : List Addr⦄ ⦃s : Shared⦄ ⦃x : Value⦄, Inv c F μ s σ → VR F μ s.heap a x → RD s.heap n x d
noncomputable def DatRs (c : Cx) (σ : Sto) (n : Nat) (xs : List AV) (ds : List PyData) : Prop := ∀ ⦃F : Addr → Prop⦄ ⦃μ : List Addr⦄ ⦃s : Shared⦄ ⦃vs : List Value⦄, Inv c F μ s σ → VRs F μ s.heap xs vs → (∃ as, ReadsAll s.heap vs ds as) ∧ PyData.canLayAll0 ds = true ∧ PyData.depthAll ds ≤ n
section
variable {c : Cx} {σ : Sto} {n : Nat} {a b : AV} {d e : PyData} {xs ys : List AV} {ds : List PyData}
theorem DatR.none : DatR c σ n .none .none := fun _ _ _ _ _ r => by obtain rfl := r.none_inv; exact ⟨⟨_, .none⟩, rfl, Nat.zero_le _⟩
theorem DatR.bool {k : Bool} : DatR c σ n (.bool k) (.bool k) := fun _ _ _ _ _ r => by obtain rfl := r.bool_inv; exact ⟨⟨_, .bool _⟩, rfl, Nat.zero_le _⟩
theorem DatR.int {i : Int} : DatR c σ n (.int i) (.int i) := fun _ _ _ _ _ r => by obtain ⟨t, rfl⟩ := r.int_inv; exact ⟨⟨_, .int _ _⟩, rfl, Nat.zero_le _⟩
theorem DatR.str {x : Str} : DatR c σ n (.str x) (.str x) := fun _ _ _ _ _ r => by obtain ⟨t, rfl, k⟩ := r.str_inv; exact ⟨⟨_, .str _ _⟩, k, Nat.zero_le _⟩
theorem DatRs.nil : DatRs c σ n [] [] := fun _ _ _ vs _ r => by
  obtain rfl := List.eq_nil_of_length_eq_zero r.len.symm
  exact ⟨⟨_, .nil⟩, rfl, Nat.zero_le _⟩
theorem DatRs.cons (h : DatR c σ n a d) (hs : DatRs c σ n xs ds) : DatRs c σ n (a :: xs) (d :: ds) := fun F μ s vs I r => by
  cases vs with
  | nil => exact nomatch r.len
  | cons v vs =>
    obtain ⟨⟨as, q⟩, q1, q2⟩ := h I (r.at_ 0 _ _ rfl rfl)
    obtain ⟨⟨bs, p⟩, p1, p2⟩ := hs I (⟨Nat.succ.inj r.len, fun i x v e1 e2 => r.at_ (i + 1) x v e1 e2⟩ : VRs F μ s.heap xs vs)
    exact ⟨⟨_, .cons q p⟩, by rw [PyData.canLayAll0, q1, p1]; rfl, by rw [PyData.depthAll]; exact Nat.max_le.mpr ⟨q2, p2⟩⟩
theorem DatR.tup (h : DatRs c σ n xs ds) : DatR c σ (n + 1) (.tup xs) (.tuple ds) := fun _ _ _ _ I r => by
  obtain ⟨l, vs, rfl, _, ⟨o, e, c, m, d⟩, _, r⟩ := r.tup_inv
  obtain ⟨⟨as, q⟩, q1, q2⟩ := h I r
  exact ⟨⟨_, .tuple e c d (by simpa using q)⟩, by rw [PyData.canLay0, q1], by rw [PyData.depth]; exact Z9 q2⟩
theorem DatR.seq (e : SeqR σ a xs) (h : DatRs c σ n xs ds) : DatR c σ (n + 1) a (.list ds) := fun _ _ _ _ I r => by
  obtain ⟨l, vs, rfl, ⟨m, e⟩, r, _⟩ := seq_ok I e r
  obtain ⟨⟨as, q⟩, q1, q2⟩ := h I r
  exact ⟨⟨_, .list e rfl rfl (by simpa using q)⟩, by rw [PyData.canLay0, q1], by rw [PyData.depth]; exact Z9 q2⟩
noncomputable def Dat2 (c : Cx) (σ : Sto) (n : Nat) (a b : AV) : Prop := ∃ d, DatR c σ n a d ∧ DatR c σ n b d
theorem Dat2s : ∀ {xs ys : List AV}, xs.length = ys.length → (∀ (i : Nat) (x y : AV), xs[i]? = some x → ys[i]? = some y → Dat2 c σ n x y) → ∃ ds, DatRs c σ n xs ds ∧ DatRs c σ n ys ds
  | [], [], _, _ => ⟨[], .nil, .nil⟩
  | [], _ :: _, h, _ => nomatch h
  | _ :: _, [], h, _ => nomatch h
  | x :: xs, y :: ys, h, k => by
    obtain ⟨d, h1, h2⟩ := k 0 x y rfl rfl
    obtain ⟨ds, k1, k2⟩ := Dat2s (Nat.succ.inj h) fun i x y e1 e2 => k (i + 1) x y e1 e2
    exact ⟨d :: ds, .cons h1 k1, .cons h2 k2⟩
theorem Dat2.seq (e1 : SeqR σ a xs) (e2 : SeqR σ b ys) (hl : xs.length = ys.length) (h : ∀ (i : Nat) (x y : AV), xs[i]? = some x → ys[i]? = some y → Dat2 c σ n x y) : Dat2 c σ (n + 1) a b :=
  let ⟨ds, k1, k2⟩ := Dat2s hl h
  ⟨_, .seq e1 k1, .seq e2 k2⟩
theorem Dat2.tup (h : ∀ x ∈ xs, Dat2 c σ n x x) : Dat2 c σ (n + 1) (.tup xs) (.tup xs) :=
  let ⟨ds, k1, _⟩ := Dat2s (xs := xs) (ys := xs) rfl fun i x y e1 e2 => by rw [e1] at e2; cases e2; exact h x (List.mem_of_getElem? e1)
  ⟨_, .tup k1, .tup k1⟩
theorem Dat2.same (e1 : SeqR σ a xs) (e2 : SeqR σ b xs) (h : ∀ x ∈ xs, Dat2 c σ n x x) : Dat2 c σ (n + 1) a b :=
  .seq e1 e2 rfl fun i x y e1 e2 => by rw [e1] at e2; cases e2; exact h x (List.mem_of_getElem? e1)
theorem Dat2.int {i : Int} : Dat2 c σ n (.int i) (.int i) := ⟨_, .int, .int⟩
theorem Dat2.str {x : Str} : Dat2 c σ n (.str x) (.str x) := ⟨_, .str, .str⟩
theorem Op2.eq (h1 : DatR c σ 8 a d) (h2 : DatR c σ 8 b e) : Op2 c σ (compareOp .Eq) a b (.bool (PyData.eqv d e)) := by
  intro A E F μ s x y Q hu I r1 r2 q
  obtain ⟨⟨as, qa⟩, la, da⟩ := h1 I r1
  obtain ⟨⟨bs, qb⟩, lb, db⟩ := h2 I r2
  exact cmp_ofEq (SeqAt.eqOverData c.prog c.w A E s x y _ _ as bs _ qa qb la lb (by exact Z408 hu da) (q_bool I q))
theorem Op2.ne (h1 : DatR c σ 8 a d) (h2 : DatR c σ 8 b e) : Op2 c σ (compareOp .NotEq) a b (.bool (!PyData.eqv d e)) := by
  intro A E F μ s x y Q hu I r1 r2 q
  obtain ⟨⟨as, qa⟩, la, da⟩ := h1 I r1
  obtain ⟨⟨bs, qb⟩, lb, db⟩ := h2 I r2
  exact cmp_ofNotEq (SeqAt.neOverData c.prog c.w A E s x y _ _ as bs _ qa qb la lb (by exact Z408 hu da) (q_bool I q))
theorem Op2.eqSame (h : Dat2 c σ 8 a b) : Op2 c σ (compareOp .Eq) a b (.bool true) := by
  intro A E F μ s x y Q hu I r1 r2 q
  obtain ⟨d, h1, h2⟩ := h
  have e := Op2.eq h1 h2
  rw [SeqAt.eqv_refl d (h1 I r1).2.1] at e
  exact e hu I r1 r2 q
theorem Op2.neSame (h : Dat2 c σ 8 a b) : Op2 c σ (compareOp .NotEq) a b (.bool false) := by
  intro A E F μ s x y Q hu I r1 r2 q
  obtain ⟨d, h1, h2⟩ := h
  have e := Op2.ne h1 h2
  rw [SeqAt.eqv_refl d (h1 I r1).2.1] at e
  exact e hu I r1 r2 q
theorem Op2.eqNil {x : AV} (h : Dat2 c σ 7 x x) (hs : ∀ y ∈ xs, Dat2 c σ 7 y y) : Op2 c σ (compareOp .Eq) (.lst (x :: xs)) (.lst []) (.bool false) := by
  obtain ⟨d, h, _⟩ := h
  obtain ⟨ds, hs, _⟩ := Dat2s (xs := xs) (ys := xs) (c := c) (σ := σ) (n := 7) rfl fun i x y e1 e2 => by rw [e1] at e2; cases e2; exact hs x (List.mem_of_getElem? e1)
  exact Op2.eq (.seq .lst (.cons h hs)) (.seq .lst .nil)
noncomputable def strLt (s t : Str) : Bool := decide (s.cps.toList < t.cps.toList)
theorem Op2.ltStr {x y : Str} : Op2 c σ (compareOp .Lt) (.str x) (.str y) (.bool (strLt x y)) := by
  intro A E F μ s u v Q _ I r1 r2 q
  obtain ⟨t1, rfl, _⟩ := r1.str_inv
  obtain ⟨t2, rfl, _⟩ := r2.str_inv
  exact P.lt_str (q_bool I q)
end
section
variable {prog : Program} {w : World} {A : Around} {E : Value → Shared → Prop} {s : Shared}
theorem tuple_lt_ok {a b : Addr} {i j : Int} {t u t' u' : Tok} {x y : Str} {Q : Value → Shared → Prop} (ha : s.heap.IsTuple a [Value.int i t, Value.str x u].toArray) (hb : s.heap.IsTuple b [Value.int j t', Value.str y u'].toArray)
    (hu : A.units < cLine) (h : Q (.bool (if i == j then strLt x y else decide (i < j))) s) : wpAny (model prog w) A (richCompare .Lt (.ref a) (.ref b)) Q E s := by
  refine wpAny_richCompare_same_room ha.typeIs hb.typeIs F.slot_tuple_lt (wpAny_call_entry F.slot_tuple_lt ha.typeIs F.entry_tuple_lt ?_ (F.args_tuple_lt_2 _ _)) hu
  have hb2 := hb.typeIs
  obtain ⟨oa, ea, ca, na, da⟩ := ha
  obtain ⟨ob, eb, cb, nb, db⟩ := hb
  show wpAny _ _ (isInstance (.ref b) (.type "tuple") >>= _) _ _ s
  refine wpAny_bind (wpAny_isInstance hb2 AutoSeq1.sub_tuple_tuple ?_)
  show wpAny _ _ (Builtin.Tuple.tupleItemsOf (.ref a) >>= _) _ _ s
  refine wpAny_bind (wpAny_tupleItemsOf ea da ?_)
  show wpAny _ _ (Builtin.Tuple.tupleItemsOf (.ref b) >>= _) _ _ s
  refine wpAny_bind (wpAny_tupleItemsOf eb db ?_)
  dsimp only [List.zip, List.zipWith, Array.toList]
  rw [List.forIn_cons]
  have lt_case : ∀ {x y : Value} {c : Bool}, wpAny (model prog w) A.in1 (richCompare .Lt x y) (fun v s' => v = .bool c ∧ s' = s) E s → (Q (.bool c) s) →
      wpAny (model prog w) A.in1 (do
        let r ← richCompare CmpOp.Lt x y
        let r ← ret r
        pure (ForInStep.done (some r, ())) : Sem (ForInStep (Option Fin × Unit))) (fun a s' => match a with | .done (some r, ()) => s' = s ∧ ∃ v, r = Fin.done (Flow.ret v) ∧ v ≠ Value.notImplemented ∧ Q v s' | _ => False) E s := by
    intro x y c h1 h2
    refine wpAny_bind (wpAny_mono h1 (fun v s' hv => ?_) fun _ _ z => z)
    obtain ⟨rfl, rfl⟩ := hv
    exact wpAny_bind (wpAny_pure (wpAny_pure ⟨rfl, _, rfl, by simp, h2⟩))
  refine wpAny_bind (wpAny_bind ?_)
  dsimp only
  refine wpAny_bind (wpAny_eqBool_int ?_)
  by_cases hij : (i == j) = true
  · rw [hij] at h ⊢
    simp only [Bool.not_true, Bool.false_eq_true, if_false]
    refine wpAny_pure ?_
    dsimp only
    rw [List.forIn_cons]
    refine wpAny_bind ?_
    dsimp only
    refine wpAny_bind (wpAny_eqBool_str ?_)
    simp only [if_true] at h
    by_cases hxy : x = y
    · subst hxy
      simp only [decide_true, Bool.not_true, Bool.false_eq_true, if_false]
      refine wpAny_pure ?_
      dsimp only
      rw [List.forIn_nil]
      refine wpAny_pure (wpAny_pure ⟨_, rfl, by simp [Builtin.Tuple.tupleCompareSizes], ?_⟩)
      have e1 : strLt x x = false := by
        unfold strLt
        exact decide_eq_false (List.lt_irrefl _)
      rw [e1] at h
      exact h
    · simp only [hxy, decide_false, Bool.not_false, if_true]
      refine wpAny_bind (wpAny_rule ?_)
      refine wpAny_mono (lt_case (c := strLt x y) (P.lt_str ⟨rfl, rfl⟩) h) (fun a s' ha => ?_) fun _ _ z => z
      split at ha
      · obtain ⟨rfl, hq⟩ := ha
        exact wpAny_pure (wpAny_pure hq)
      · exact ha.elim
  · have hij : (i == j) = false := by simpa using hij
    rw [hij] at h ⊢
    simp only [Bool.not_false, if_true]
    refine wpAny_bind (wpAny_rule ?_)
    simp only [Bool.false_eq_true, if_false] at h
    refine wpAny_mono (lt_case (c := decide (i < j)) (P.lt_int ⟨rfl, rfl⟩) h) (fun a s' ha => ?_) fun _ _ z => z
    split at ha
    · obtain ⟨rfl, hq⟩ := ha
      exact wpAny_pure (wpAny_pure hq)
    · exact ha.elim
end
theorem two_of {α : Type} {vs : List α} {a b : α} (h : 2 = vs.length) (e0 : vs[0]? = some a) (e1 : vs[1]? = some b) : vs = [a, b] := by
  cases vs with
  | nil => cases e0
  | cons x r =>
    cases e0
    cases r with
    | nil => cases e1
    | cons y r => cases e1; rw [List.eq_nil_of_length_eq_zero (l := r) (by simpa using h.symm)]
theorem Op2.ltTup {c : Cx} {σ : Sto} {i j : Int} {x y : Str} : Op2 c σ (compareOp .Lt) (.tup [.int i, .str x]) (.tup [.int j, .str y]) (.bool (if i == j then strLt x y else decide (i < j))) := by
  intro A E F μ s u v Q hu I r1 r2 q
  have two : ∀ {i : Int} {x : Str} {u : Value}, VR F μ s.heap (.tup [.int i, .str x]) u → ∃ a t t', u = .ref a ∧ s.heap.IsTuple a [Value.int i t, Value.str x t'].toArray := fun {i x u} r => by
    obtain ⟨a, vs, rfl, _, h, _, r⟩ := r.tup_inv
    obtain ⟨v0, e0, r0⟩ := r.get (i := 0) rfl
    obtain ⟨v1, e1, r1⟩ := r.get (i := 1) rfl
    obtain ⟨t, rfl⟩ := r0.int_inv
    obtain ⟨t', rfl, _⟩ := r1.str_inv
    exact ⟨a, t, t', rfl, two_of r.len e0 e1 ▸ h⟩
  obtain ⟨a, t, t', rfl, ha⟩ := two r1
  obtain ⟨b, u, u', rfl, hb⟩ := two r2
  exact cmp_ofLt (tuple_lt_ok ha hb (by exact Z10 hu) (q_bool I q))
theorem Op2.eqInt {c : Cx} {σ : Sto} {i j : Int} : Op2 c σ (compareOp .Eq) (.int i) (.int j) (.bool (i == j)) := .ints fun _ _ _ _ _ _ q => P.eq_int (q _ _ fun _ _ _ => .bool _)
theorem Op2.neInt {c : Cx} {σ : Sto} {i j : Int} : Op2 c σ (compareOp .NotEq) (.int i) (.int j) (.bool (i != j)) := .ints fun _ _ _ _ _ _ q => P.ne_int (q _ _ fun _ _ _ => .bool _)
end Mine
namespace Mine
open PySem PySem.Calls PyProof.Rows PySem.W
noncomputable def EvE (c : Cx) (n : Nat) (sc : Scope) (e : PySem.Expr) (ρ : Ro) (σ : Sto) (v : AV) (σ' : Sto) : Prop :=
  ∀ ⦃A : Around⦄ ⦃E : Value → Shared → Prop⦄ ⦃F : Addr → Prop⦄ ⦃μ : List Addr⦄ ⦃s : Shared⦄ ⦃env : Env⦄ ⦃Q : Value → Shared → Prop⦄, Room A n → Inv c F μ s σ → EnvR F μ s.heap env sc ρ →
    (∀ x s' μ', Go c F NoW μ s σ μ' s' σ' → VR F μ' s'.heap v x → Q x s') → wpAny c.M A (eval e env) Q E s
noncomputable def IsT (c : Cx) (n : Nat) (sc : Scope) (e : PySem.Expr) (ρ : Ro) (σ : Sto) (b : Bool) (σ' : Sto) : Prop :=
  ∀ ⦃A : Around⦄ ⦃E : Value → Shared → Prop⦄ ⦃F : Addr → Prop⦄ ⦃μ : List Addr⦄ ⦃s : Shared⦄ ⦃env : Env⦄ ⦃Q : Bool → Shared → Prop⦄, Room A n → Inv c F μ s σ → EnvR F μ s.heap env sc ρ →
    (∀ s' μ', Go c F NoW μ s σ μ' s' σ' → Q b s') → wpAny c.M A (isTrue e env (eval e env)) Q E s
noncomputable def EvL (c : Cx) (n : Nat) (sc : Scope) (es : List PySem.Expr) (ρ : Ro) (σ : Sto) (vs : List AV) (σ' : Sto) : Prop :=
  ∀ ⦃A : Around⦄ ⦃E : Value → Shared → Prop⦄ ⦃F : Addr → Prop⦄ ⦃μ : List Addr⦄ ⦃s : Shared⦄ ⦃env : Env⦄ ⦃pos : Pos⦄ ⦃Q : List Value → Shared → Prop⦄, Room A n → Inv c F μ s σ → EnvR F μ s.heap env sc ρ →
    (∀ ys s' μ', Go c F NoW μ s σ μ' s' σ' → VRs F μ' s'.heap vs ys → Q ys s') → wpAny c.M A (spliced (backTo pos (starEach es env))) Q E s
section
variable {c : Cx} {n : Nat} {sc : Scope} {ρ : Ro} {σ σ1 σ2 σ3 σ4 : Sto} {e l r : PySem.Expr} {pos : Pos} {v a b : AV}
theorem EvE.less {m : Nat} (h : EvE c m sc e ρ σ v σ1) (k : m ≤ n) : EvE c n sc e ρ σ v σ1 := fun _ _ _ _ _ _ _ rm I N q => h (rm.less k) I N q
theorem Go.kp {F : Addr → Prop} {μ μ' : List Addr} {s s' s2 : Shared} {W : Addr → Prop} (p : Go c F W μ s σ μ' s' σ1) (k : Kp s' s2) (I : Inv c F μ' s2 σ1) : Go c F W μ s σ μ' s2 σ1 :=
  p.trans (show Go c F W μ' s' σ1 μ' s2 σ1 from ⟨fun a o _ _ _ e => k a o e, fun a o e => ⟨o, k a o e⟩, fun _ _ e => e, fun _ h => .inl h, fun _ o e => ⟨o, e, Nat.le_refl _, rfl, fun _ => ⟨rfl, fun _ _ _ e => k _ _ e⟩⟩, I⟩)
theorem Op2.go {t : Value → Value → Sem Value} {A : Around} {E : Value → Shared → Prop} {F : Addr → Prop} {μ μ' : List Addr} {s s' : Shared} {x y : Value} {Q : Value → Shared → Prop} (o : Op2 c σ1 t a b v) (rm : Room A n) (p : Go c F NoW μ s σ μ' s' σ1) (r1 : VR F μ' s'.heap a x) (r2 : VR F μ' s'.heap b y)
    (q : ∀ x s' μ', Go c F NoW μ s σ μ' s' σ1 → VR F μ' s'.heap v x → Q x s') : wpAny c.M A (t x y) Q E s' :=
  o rm.u64 p.inv r1 r2 fun z s2 k I r => q z s2 μ' (p.kp k I) r
theorem q_end {F : Addr → Prop} {μ μ' : List Addr} {s s' : Shared} {Q : Value → Shared → Prop} (p : Go c F NoW μ s σ μ' s' σ1) (q : ∀ x s' μ', Go c F NoW μ s σ μ' s' σ1 → VR F μ' s'.heap v x → Q x s') : OpQ c F μ' s' σ1 v Q :=
  fun z s2 k I r => q z s2 μ' (p.kp k I) r
theorem EvE.none {k : Nat} : EvE c n sc (.Constant .none k pos) ρ σ .none σ := fun _ _ _ _ _ _ _ _ I _ q => Constant_none (q _ _ _ (.refl I) .none)
theorem EvE.bool {k : Nat} {b : Bool} : EvE c n sc (.Constant (.bool b) k pos) ρ σ (.bool b) σ := fun _ _ _ _ _ _ _ _ I _ q => Constant_bool (q _ _ _ (.refl I) (.bool b))
theorem EvE.int {k : Nat} {i : Int} : EvE c n sc (.Constant (.int i) k pos) ρ σ (.int i) σ := fun _ _ _ _ _ _ _ _ I _ q => wpAny_Constant_int (q_int I (q_end (.refl I) q) _ _)
theorem EvE.str {k : Nat} {x : Str} (hk : PyData.strOk x = true) : EvE c n sc (.Constant (.str x) k pos) ρ σ (.str x) σ := fun _ _ _ _ _ _ _ _ I _ q => wpAny_Constant_str (q_same I (q_end (.refl I) q) _ (.str _ hk))
theorem EvE.name {x : Str} {k : NameKind} (hk : sc.names.lookup x = some k) (hl : k = .local ∨ k = .cell ∨ k = .free) (hv : ρ.lookup x = some v) (h1 : (x == ("__debug__" : Str)) = false) (h2 : (x == ("__classdict__" : Str)) = false) : EvE c n sc (.Name x pos) ρ σ v σ := by
  intro A E F μ s env Q _ I N q
  have cellCase : (env.kindOf x = some .cell ∨ env.kindOf x = some .free) → wpAny c.M A (eval (.Name x pos) env) Q E s := fun hx => by
    obtain ⟨ca, cv, e1, e2, e3, e4, e5⟩ := N.cell x hx
    obtain ⟨y, rfl, r⟩ := e5 v hv
    rcases hx with hx | hx
    · exact wpAny_Name (wpAny_loadName_cell N.kind hx e1 e4 (q _ _ _ (.refl I) r)) h1
    · exact wpAny_Name (wpAny_loadName_free N.kind hx e1 e4 (q _ _ _ (.refl I) r) h2) h1
  rcases N.kinds x k hk with hx | ⟨_, hx⟩
  · rcases hl with rfl | rfl | rfl
    · obtain ⟨m, hn, hm⟩ := N.ns
      obtain ⟨y, e1, r⟩ := hm x v hv hx
      exact wpAny_Name (wpAny_loadName_local N.kind hx hn e1 (q _ _ _ (.refl I) r)) h1
    · exact cellCase (.inl hx)
    · exact cellCase (.inr hx)
  · exact cellCase (.inl hx)
noncomputable def Glo (c : Cx) (x : Str) (v : Value) : Prop := ∃ mg mb, c.g.Ns mainGlobals mg ∧ c.g.Ns builtinsNs mb ∧ (mg x = some v ∨ (mg x = none ∧ mb x = some v))
theorem EvE.glob {x : Str} {v : AV} {u : Value} (h : Glo c x u) (hk : sc.names.lookup x = some .globalImplicit) (h1 : (x == ("__debug__" : Str)) = false) (hv : ∀ F μ h, VR F μ h v u) : EvE c n sc (.Name x pos) ρ σ v σ := by
  intro A E F μ s env Q _ I N q
  obtain ⟨mg, mb, hg, hb, hy⟩ := h
  have hx : env.kindOf x = some .globalImplicit := (N.kinds x _ hk).resolve_right fun q => absurd q.1 (by decide)
  have fin : Q u s := q _ _ _ (.refl I) (hv _ _ _)
  refine wpAny_Name ?_ h1
  rw [loadName_read N.kind hx]
  rcases hy with hy | ⟨h1, h2⟩
  · exact loadGlobal_global (N.glob ▸ hg.keeps I.keep) hy fin
  · exact loadGlobal_builtin (N.glob ▸ hg.keeps I.keep) h1 (N.bns ▸ hb.keeps I.keep) h2 fin
theorem EvE.bin {op : Operator} (h1 : EvE c n sc l ρ σ a σ1) (h2 : EvE c n sc r ρ σ1 b σ2) (h3 : Op2 c σ2 (binaryOp op) a b v) : EvE c n sc (.BinOp l op r pos) ρ σ v σ2 := fun _ _ _ _ _ _ _ rm I N q =>
  wpAny_BinOp (h1 rm I N fun _ _ _ p1 r1 => h2 rm p1.inv (N.go I p1) fun _ _ _ p2 r2 => h3.go rm (p1.trans p2) (r1.pres p2.pres0) r2 q)
theorem EvE.neg {i : Int} (h1 : EvE c n sc e ρ σ (.int i) σ1) : EvE c n sc (.UnaryOp .USub e pos) ρ σ (.int (-i)) σ1 := fun _ _ _ _ _ _ _ rm I N q =>
  wpAny_UnaryOp (h1 rm I N fun _ _ _ p1 r1 => by obtain ⟨t, rfl⟩ := r1.int_inv; exact neg_int (q_int p1.inv (q_end p1 q) _ _))
theorem EvE.cmp {op : CmpOp} (h1 : EvE c n sc l ρ σ a σ1) (h2 : EvE c n sc r ρ σ1 b σ2) (h3 : Op2 c σ2 (compareOp op) a b v) (hm : behindInMarks op r = false) : EvE c n sc (.Compare l [op] [r] pos) ρ σ v σ2 := fun _ _ _ _ _ _ _ rm I N q =>
  wpAny_Compare1 (h1 rm I N fun _ _ _ p1 r1 => h2 rm p1.inv (N.go I p1) fun _ _ _ p2 r2 => h3.go rm (p1.trans p2) (r1.pres p2.pres0) r2 q) hm
theorem IsT.cmp {op : CmpOp} {k : Bool} (h1 : EvE c n sc l ρ σ a σ1) (h2 : EvE c n sc r ρ σ1 b σ2) (h3 : Op2 c σ2 (compareOp op) a b (.bool k)) (hm : behindInMarks op r = false) : IsT c n sc (.Compare l [op] [r] pos) ρ σ k σ2 := fun _ _ _ _ _ _ _ rm I N q =>
  wpAny_isTrue_Compare1 (h1 rm I N fun _ _ _ p1 r1 => h2 rm p1.inv (N.go I p1) fun _ _ _ p2 r2 => h3.go rm (p1.trans p2) (r1.pres p2.pres0) r2 fun x _ _ p r => by obtain rfl := r.bool_inv; exact wpAny_truthy_bool (q _ _ p)) hm
theorem IsT.of {k : Bool} (h : EvE c n sc e ρ σ (.bool k) σ1) (hp : ∀ env t, isTrue e env t = (do let v ← t; standAt e.pos; holding [v] (truthy v))) : IsT c n sc e ρ σ k σ1 := by
  intro A E F μ s env Q rm I N q
  rw [hp]
  refine wpAny_bind (h rm I N fun x _ _ p r => ?_)
  obtain rfl := r.bool_inv
  exact wpAny_bind (wpAny_standAt (wpAny_holding (wpAny_truthy_bool (q _ _ p))))
theorem EvE.boolCut {op : BoolOp} {y : PySem.Expr} {es : List PySem.Expr} {k : Bool} (h : EvE c n sc e ρ σ (.bool k) σ1) (hk : (op = .And ∧ k = false) ∨ (op = .Or ∧ k = true)) : EvE c n sc (.BoolOp op (e :: y :: es) pos) ρ σ (.bool k) σ1 := by
  intro A E F μ s env Q rm I N q
  refine wpAny_bind (h rm I N fun x _ _ p r => ?_)
  obtain rfl := r.bool_inv
  refine wpAny_bind (wpAny_standAt (wpAny_bind (wpAny_holding (wpAny_truthy_bool ?_))))
  rcases hk with ⟨rfl, rfl⟩ | ⟨rfl, rfl⟩ <;> exact wpAny_pure (q _ _ _ p (.bool _))
theorem EvE.boolOn {op : BoolOp} {y : PySem.Expr} {es : List PySem.Expr} {k : Bool} (h : EvE c n sc e ρ σ (.bool k) σ1) (hk : (op = .And ∧ k = true) ∨ (op = .Or ∧ k = false)) (hr : EvE c n sc (.BoolOp op (y :: es) pos) ρ σ1 v σ2) : EvE c n sc (.BoolOp op (e :: y :: es) pos) ρ σ v σ2 := by
  intro A E F μ s env Q rm I N q
  refine wpAny_bind (h rm I N fun x _ _ p r => ?_)
  obtain rfl := r.bool_inv
  refine wpAny_bind (wpAny_standAt (wpAny_bind (wpAny_holding (wpAny_truthy_bool ?_))))
  have fin : wpAny c.M A (boolOp pos op (evalEach (y :: es) env)) Q E _ := hr rm p.inv (N.go I p) fun x s' μ' p2 r => q x s' μ' (p.trans p2) r
  rcases hk with ⟨rfl, rfl⟩ | ⟨rfl, rfl⟩ <;> exact fin
theorem EvE.bool1 {op : BoolOp} (h : EvE c n sc e ρ σ v σ1) : EvE c n sc (.BoolOp op [e] pos) ρ σ v σ1 := fun _ _ _ _ _ _ _ rm I N q => h rm I N q
theorem IsT.boolCut {op : BoolOp} {es : List PySem.Expr} {k : Bool} (h : IsT c n sc e ρ σ k σ1) (hk : (op = .And ∧ k = false) ∨ (op = .Or ∧ k = true)) : IsT c n sc (.BoolOp op (e :: es) pos) ρ σ k σ1 := by
  intro A E F μ s env Q rm I N q
  refine wpAny_bind (h rm I N fun _ _ p => ?_)
  rcases hk with ⟨rfl, rfl⟩ | ⟨rfl, rfl⟩ <;> exact wpAny_pure (q _ _ p)
theorem IsT.boolOn {op : BoolOp} {es : List PySem.Expr} {k k' : Bool} (h : IsT c n sc e ρ σ k σ1) (hk : (op = .And ∧ k = true) ∨ (op = .Or ∧ k = false)) (hr : IsT c n sc (.BoolOp op es pos) ρ σ1 k' σ2) : IsT c n sc (.BoolOp op (e :: es) pos) ρ σ k' σ2 := by
  intro A E F μ s env Q rm I N q
  refine wpAny_bind (h rm I N fun _ _ p => ?_)
  have fin : wpAny c.M A (allTrue op es env) Q E _ := hr rm p.inv (N.go I p) fun s' μ' p2 => q s' μ' (p.trans p2)
  rcases hk with ⟨rfl, rfl⟩ | ⟨rfl, rfl⟩ <;> exact fin
theorem IsT.boolEnd {op : BoolOp} : IsT c n sc (.BoolOp op [] pos) ρ σ (op == .And) σ := fun _ _ _ _ _ _ _ _ I _ q => wpAny_pure (q _ _ (.refl I))
theorem EvE.ifExp {t x y : PySem.Expr} {k : Bool} (h : IsT c n sc t ρ σ k σ1) (h2 : EvE c n sc (if k then x else y) ρ σ1 v σ2) : EvE c n sc (.IfExp t x y pos) ρ σ v σ2 := by
  intro A E F μ s env Q rm I N q
  refine wpAny_IfExp (h rm I N fun s' μ' p => ?_)
  have := h2 (E := E) rm p.inv (N.go I p) fun x s' μ' p2 r => q x s' μ' (p.trans p2) r
  cases k <;> exact this
theorem release_any {A : Around} {E : Value → Shared → Prop} {s : Shared} {M : Model} {vs keep : List Value} {Q : Unit → Shared → Prop} (h : Q () s) : wpAny M A (release vs keep) Q E s := fun Γ p hΓ => by rw [Sem.wp_release]; exact h
theorem IsT.chain {m : PySem.Expr} {o1 o2 : CmpOp} {k1 k : Bool} {d : AV} (h1 : EvE c n sc l ρ σ a σ1) (h2 : EvE c n sc m ρ σ1 b σ2) (h3 : Op2 c σ2 (compareOp o1) a b (.bool k1)) (hm : behindInMarks o2 r = false)
    (hf : k1 = false → k = false ∧ σ3 = σ2) (ht : k1 = true → EvE c n sc r ρ σ2 d σ3 ∧ Op2 c σ3 (compareOp o2) b d (.bool k)) : IsT c n sc (.Compare l [o1, o2] [m, r] pos) ρ σ k σ3 := by
  intro A E F μ s env Q rm I N q
  rw [arm_isTrue_Compare]
  show wpAny _ _ (eval l env >>= fun x => testChain pos x [o1, o2] [eval m env, markedBehindIn o2 r (eval r env)]) _ _ _
  rw [markedBehindIn_of_false hm]
  refine wpAny_bind (h1 rm I N fun x s1 μ1 p1 r1 => ?_)
  refine wpAny_bind (wpAny_holding (h2 rm p1.inv (N.go I p1) fun y s2 μ2 p2 r2 => ?_))
  refine wpAny_bind (wpAny_standAt (wpAny_bind (wpAny_holding (h3 rm.u64 p2.inv (r1.pres p2.pres0) r2 fun z s3 kp I3 r3 => ?_))))
  obtain rfl := r3.bool_inv
  have p3 := (p1.trans p2).kp kp I3
  refine wpAny_bind (release_any (wpAny_bind (wpAny_holding (wpAny_truthy_bool ?_))))
  cases k1 with
  | false => obtain ⟨rfl, rfl⟩ := hf rfl; exact wpAny_pure (q _ _ p3)
  | true =>
    obtain ⟨h4, h5⟩ := ht rfl
    refine wpAny_bind (wpAny_holding (h4 rm p3.inv (N.go I p3) fun u s4 μ4 p4 r4 => ?_))
    refine wpAny_bind (wpAny_standAt (wpAny_bind (wpAny_operateT (h5.go rm (p3.trans p4) ((r2.pres kp.pres).pres p4.pres0) r4 fun x s5 μ5 p5 r5 => ?_))))
    obtain rfl := r5.bool_inv
    exact wpAny_holding (wpAny_truthy_bool (q _ _ p5))
theorem EvL.nil : EvL c n sc [] ρ σ [] σ := fun _ _ _ _ _ _ _ _ _ I _ q => wpAny_pure (q [] _ _ (.refl I) .nil)
theorem EvL.cons {r : List PySem.Expr} {vs : List AV} (h : EvE c n sc e ρ σ v σ1) (hr : EvL c n sc r ρ σ1 vs σ2) (hs : ∀ env, starEach (e :: r) env = (false, eval e env) :: starEach r env) : EvL c n sc (e :: r) ρ σ (v :: vs) σ2 := by
  intro A E F μ s env pos Q rm I N q
  rw [hs]
  exact spliced_cons (h rm I N fun x s1 μ1 p1 r1 => hr rm p1.inv (N.go I p1) fun ys s2 μ2 p2 r2 => q _ _ _ (p1.trans p2) (.cons (r1.pres p2.pres0) r2))
theorem EvE.tup {es : List PySem.Expr} {vs : List AV} {k : Nat} (h : EvL c n sc es ρ σ vs σ1) (hl : vs.length ≤ lim) : EvE c n sc (.Tuple es k pos) ρ σ (.tup vs) σ1 := by
  intro A E F μ s env Q rm I N q
  rw [arm_eval_Tuple]
  exact wpAny_bind (wpAny_standAt (wpAny_bind (h rm I N fun ys s1 μ1 p1 r1 => wpAny_newObj_type (q_tup (tk := s1.toks) p1.inv r1 hl (q_end p1 q)) (r1.size hl))))
theorem EvE.lst {es : List PySem.Expr} {vs : List AV} (h : EvL c n sc es ρ σ vs σ1) (hl : vs.length ≤ lim) : EvE c n sc (.List es pos) ρ σ (.lst vs) σ1 := by
  intro A E F μ s env Q rm I N q
  rw [arm_eval_List]
  exact wpAny_bind (wpAny_standAt (wpAny_bind (h rm I N fun ys s1 μ1 p1 r1 => wpAny_newObj_type (q_lst (tk := s1.toks) p1.inv r1 hl (q_end p1 q)) (r1.size hl))))
end
end Mine
namespace Mine
open PySem PySem.Calls PyProof.Rows PySem.W
structure KAcc (K : Frag) : Prop where
  getitem : findIn K (.ref 119) "__getitem__" = some (some (.builtin "list.__getitem__"))
  iter : findIn K (.ref 119) "__iter__" = some (some (.builtin "list.__iter__"))
  sub : subIn K (.ref 119) (.type "list") = some true
  noSeq : noSeq K 119 = true
noncomputable def idx (n : Nat) (k : Int) : Option Nat := if 0 ≤ k then some k.toNat else if 0 ≤ k + n then some (k + n).toNat else none
theorem subscripted_any (slice : PySem.Expr) (o i : Value) : ∃ ops, subscripted slice false o i = operate ops (getItem o i) := by
  cases slice with
  | Slice a b c p => cases c <;> exact ⟨_, rfl⟩
  | _ => exact ⟨_, rfl⟩
section
variable {c : Cx} {n : Nat} {sc : Scope} {ρ : Ro} {σ σ1 σ2 σ3 σ4 : Sto} {e i : PySem.Expr} {pos : Pos} {v a b : AV}
noncomputable def SubR (c : Cx) (σ : Sto) (a k v : AV) : Prop := ∀ value slice, Op2 c σ (subscriptTail value slice) a k v
theorem EvE.sub (h1 : EvE c n sc e ρ σ a σ1) (h2 : EvE c n sc i ρ σ1 b σ2) (h3 : SubR c σ2 a b v) : EvE c n sc (.Subscript e i pos) ρ σ v σ2 := fun _ _ _ _ _ _ _ rm I N q =>
  Subscript_ (h1 rm I N fun _ _ _ p1 r1 => h2 rm p1.inv (N.go I p1) fun _ _ _ p2 r2 => (h3 _ _).go rm (p1.trans p2) (r1.pres p2.pres0) r2 q)
noncomputable def EvO (c : Cx) (n : Nat) (sc : Scope) (e : Option PySem.Expr) (ρ : Ro) (σ : Sto) (v : AV) (σ' : Sto) : Prop := match e with | none => v = .none ∧ σ' = σ | some e => EvE c n sc e ρ σ v σ'
theorem EvO.ok {o : Option PySem.Expr} (h : EvO c n sc o ρ σ v σ1) {A : Around} {E : Value → Shared → Prop} {F : Addr → Prop} {μ : List Addr} {s : Shared} {env : Env} {Q : Value → Shared → Prop} (rm : Room A n) (I : Inv c F μ s σ) (N : EnvR F μ s.heap env sc ρ)
    (q : ∀ x s' μ', Go c F NoW μ s σ μ' s' σ1 → VR F μ' s'.heap v x → Q x s') : wpAny c.M A (evalPart o env) Q E s := by
  cases o with
  | none => obtain ⟨rfl, rfl⟩ := h; exact wpAny_pure (q _ _ _ (.refl I) .none)
  | some e => exact h rm I N q
noncomputable def SliR (c : Cx) (σ : Sto) (a lo hi st v : AV) : Prop := ∀ ⦃value slice : PySem.Expr⦄ ⦃A : Around⦄ ⦃E : Value → Shared → Prop⦄ ⦃F : Addr → Prop⦄ ⦃μ : List Addr⦄ ⦃s : Shared⦄ ⦃x l u t : Value⦄ ⦃sl : Addr⦄ ⦃Q : Value → Shared → Prop⦄, Inv c F μ s σ → VR F μ s.heap a x →
  VR F μ s.heap lo l → VR F μ s.heap hi u → VR F μ s.heap st t → s.heap.IsSliceOf sl l u t → OpQ c F μ s σ v Q → wpAny c.M A (subscriptTail value slice x (.ref sl)) Q E s
theorem EvE.slice {o1 o2 o3 : Option PySem.Expr} {p : Pos} {lo hi st : AV} (h : EvE c n sc e ρ σ a σ1) (h1 : EvO c n sc o1 ρ σ1 lo σ2) (h2 : EvO c n sc o2 ρ σ2 hi σ3) (h3 : EvO c n sc o3 ρ σ3 st σ4) (h4 : SliR c σ4 a lo hi st v) :
    EvE c n sc (.Subscript e (.Slice o1 o2 o3 p) pos) ρ σ v σ4 := by
  intro A E F μ s env Q rm I N q
  refine Subscript_ (h rm I N fun x s1 μ1 p1 r1 => wpAny_Slice ?_)
  have N1 := N.go I p1
  refine h1.ok rm p1.inv N1 fun l s2 μ2 p2 r2 => ?_
  have N2 := N1.go p1.inv p2
  refine h2.ok rm p2.inv N2 fun u s3 μ3 p3 r3 => ?_
  refine h3.ok rm p3.inv (N2.go p2.inv p3) fun t s4 μ4 p4 r4 => ?_
  have kp : Kp s4 { s4 with heap := s4.heap.push { cls := .type "slice", data := .fields #[l, u, t] } } := .push _
  have I5 := (p4.inv.grow (W := NoW) (tk := s4.toks) kp).inv
  have p34 := p3.pres0.trans (p4.pres0.trans (kp.pres (F := F) (μ := μ4)))
  exact h4 I5 (r1.pres (p2.pres0.trans p34)) (r2.pres p34) (r3.pres (p4.pres0.trans kp.pres)) (r4.pres kp.pres) (.new _ _ _ _) (q_end (((p1.trans p2).trans (p3.trans p4)).kp kp I5) q)
theorem idx_ok {m : Nat} {k : Int} {j : Nat} (e : idx m k = some j) (hj : j < m) : seqIndex? k m = some j ∧ -(m : Int) ≤ k ∧ k < m := by
  unfold idx at e
  unfold seqIndex?
  split at e
  · cases e
    have : ¬ k < 0 := by lia
    have h2 : k < m := by lia
    rw [if_neg this]
    simp [*]
    lia
  · split at e
    · cases e
      have h1 : k < 0 := by lia
      rw [if_pos h1]
      have h2 : k + (m : Int) < m := by lia
      simp [*]
      lia
    · cases e
theorem SubR.seq {xs : List AV} {k : Int} {j : Nat} (h : SeqR σ a xs) (e : idx xs.length k = some j) (hv : xs[j]? = some v) : SubR c σ a (.int k) v := by
  intro value slice A E F μ s x y Q _ I r1 r2 q
  obtain ⟨ops, hs⟩ := subscripted_any slice x y
  obtain ⟨l, vs, rfl, hl, rs, hlim⟩ := seq_ok I h r1
  obtain ⟨t, rfl⟩ := r2.int_inv
  obtain ⟨z, e3, r3⟩ := rs.get hv
  have hj := (List.getElem?_eq_some_iff.mp hv).1
  obtain ⟨h1, h2, h3⟩ := idx_ok e hj
  have hm : (lim : Int) = 1048576 := rfl
  have hs2 := rs.len
  refine tail_any hl.isList.typeIs slot_list_getitem.lookup ?_ hs
  unfold idx at e
  split at e
  · rename_i h0
    cases e
    exact wpAny_getItem_list hl.isList h0 (by lia) (by simpa using e3) (q _ _ .refl I r3)
  · split at e
    · cases e
      exact wpAny_getItem_list_neg hl.isList (by lia) (by rw [List.size_toArray]; lia) (by lia) (by rw [List.size_toArray, ← hs2]; simpa using e3) (q _ _ .refl I r3)
    · cases e
theorem SubR.tup {xs : List AV} {k : Int} {j : Nat} (e : idx xs.length k = some j) (hv : xs[j]? = some v) : SubR c σ (.tup xs) (.int k) v := by
  intro value slice A E F μ s x y Q _ I r1 r2 q
  obtain ⟨ops, hs⟩ := subscripted_any slice x y
  obtain ⟨l, vs, rfl, _, hl, hlim, rs⟩ := r1.tup_inv
  obtain ⟨t, rfl⟩ := r2.int_inv
  obtain ⟨z, e3, r3⟩ := rs.get hv
  obtain ⟨h1, h2, h3⟩ := idx_ok e (List.getElem?_eq_some_iff.mp hv).1
  have hm : (lim : Int) = 1048576 := rfl
  rw [rs.len] at h1
  exact tail_any (T := "tuple") hl.typeIs slot_tuple_getitem.lookup (PyProof.Rows.getItem_tuple hl (by lia) (by lia) (by simpa using h1) (by simpa using e3) (q _ _ .refl I r3)) hs
noncomputable abbrev sMk (l : List Nat) : Str := ⟨l.toArray⟩
theorem SubR.str {x : Str} {k : Int} {j u : Nat} (e : idx x.length k = some j) (hv : x.cps[j]? = some u) (hl : x.length ≤ lim) : SubR c σ (.str x) (.int k) (.str (sMk [u])) := by
  intro value slice A E F μ s x y Q _ I r1 r2 q
  obtain ⟨ops, hs⟩ := subscripted_any slice x y
  obtain ⟨t, rfl, hk⟩ := r1.str_inv
  obtain ⟨t2, rfl⟩ := r2.int_inv
  obtain ⟨h1, h2, h3⟩ := idx_ok e (Array.getElem?_eq_some_iff.mp hv).1
  have hm : (lim : Int) = 1048576 := rfl
  refine tail_any (typeIs_str s _ t) PySem.F.slot_str_getitem.lookup (P.getItem_str (c := u) (by simp only [Bool.or_eq_false_iff, decide_eq_false_iff_not]; lia) (by rw [h1]; exact hv) (q_same I q _ (.str _ ?_))) hs
  unfold PyData.strOk at hk ⊢
  simp only [Array.all_eq_true_iff_forall_mem] at hk
  simpa using hk u (Array.mem_of_getElem? hv)
noncomputable def TabR (c : Cx) (a : Addr) (x : Str) (v : AV) : Prop := ∃ f y, c.g.MapOf (strKind c.prog c.w) a f ∧ f x = some y ∧ ∀ F μ h, VR F μ h v y
theorem SubR.tab {x : Str} {d : Addr} (h : TabR c d x v) : SubR c σ (.val (.ref d)) (.str x) v := by
  intro value slice A E F μ s u y Q _ I r1 r2 q
  obtain ⟨ops, hs⟩ := subscripted_any slice u y
  obtain rfl := r1.val_inv
  obtain ⟨t, rfl, hk⟩ := r2.str_inv
  obtain ⟨f, z, ⟨o, es, ep, e0, e1⟩, e2, e3⟩ := h
  have hm : s.heap.MapOf (strKind c.prog c.w) d f := ⟨o, es, ep, I.keep _ _ e0, e1⟩
  exact tail_any hm.typeIs slot_dict_getitem.lookup (wpAny_getItem_of (strKind_is c.prog c.w x t) hm e2 (q_same I q _ (e3 _ _ _))) hs
theorem acc_type {M : Model} {s : Shared} {a : Addr} {ob : Obj} (ho : s.heap.get? a = some ob) (hc : ob.cls = .ref 119) : Looks M s.heap (typeOf (.ref a)) (.ref 119) := hc ▸ (Looks.ld ho).andThen .now
end
end Mine
namespace Mine
open PySem PySem.Calls PyProof.Rows PySem.W
noncomputable def Bnd (n : Nat) (a : AV) (d i : Nat) : Prop := (a = .none ∧ i = d) ∨ ∃ k, a = .int k ∧ i = clipAt n k
theorem Bnd.ok {F : Addr → Prop} {μ : List Addr} {h : Heap} {n d i : Nat} {a : AV} {x : Value} (b : Bnd n a d i) (r : VR F μ h a x) : ∃ p : Option (Int × Tok), x = partValue p ∧ IsPart x (p.map (·.1)) ∧ i = (p.map (·.1)).elim d (clipAt n) := by
  rcases b with ⟨rfl, rfl⟩ | ⟨k, rfl, rfl⟩
  · obtain rfl := r.none_inv; exact ⟨none, rfl, .none, rfl⟩
  · obtain ⟨t, rfl⟩ := r.int_inv; exact ⟨some (k, t), rfl, .int _ _, rfl⟩
noncomputable def cutL {α : Type} (xs : List α) (i j : Nat) : List α := (xs.drop i).take (j - i)
theorem clip_le (n d : Nat) (p : Option Int) (h : d ≤ n) : p.elim d (clipAt n) ≤ n := by
  cases p with
  | none => exact h
  | some k =>
    show clipAt n k ≤ n
    have := clipAt_cast n k
    lia
section
variable {c : Cx} {n : Nat} {sc : Scope} {ρ : Ro} {σ σ1 σ2 σ3 σ4 : Sto} {e i : PySem.Expr} {pos : Pos} {v a b lo hi : AV}
theorem SliR.seq {xs : List AV} {p q : Nat} (h : SeqR σ a xs) (h1 : Bnd xs.length lo 0 p) (h2 : Bnd xs.length hi xs.length q) : SliR c σ a lo hi .none (.lst (cutL xs p q)) := by
  intro value slice A E F μ s x l u t sl Q I r r1 r2 r3 hsl fin
  obtain ⟨ops, hs⟩ := subscripted_any slice x (.ref sl)
  obtain ⟨la, vs, rfl, hl, rs, hlim⟩ := seq_ok I h r
  obtain rfl := r3.none_inv
  obtain ⟨p', rfl, i1, rfl⟩ := h1.ok r1
  obtain ⟨q', rfl, i2, rfl⟩ := h2.ok r2
  refine tail_any hl.isList.typeIs slot_list_getitem.lookup (wpAny_getItem_list_slice hl.isList hsl i1 i2 .none (by simp) ?_ (rs.size hlim)) hs
  rw [slicePick_plain]
  simp only [List.size_toArray, ← rs.len]
  refine q_lst (tk := s.toks) I ((rs.drop _).take _) (Nat.le_trans ?_ hlim) fin
  simp only [List.length_take, List.length_drop]; exact Z409
theorem SliR.rev {xs : List AV} : SliR c σ (.lst xs) .none .none (.int (-1)) (.lst xs.reverse) := by
  intro value slice A E F μ s x l u t sl Q I r r1 r2 r3 hsl fin
  obtain ⟨ops, hs⟩ := subscripted_any slice x (.ref sl)
  obtain ⟨la, vs, rfl, hl, rs, hlim⟩ := seq_ok I .lst r
  obtain rfl := r1.none_inv
  obtain rfl := r2.none_inv
  obtain ⟨t, rfl⟩ := r3.int_inv
  refine tail_any hl.isList.typeIs slot_list_getitem.lookup (wpAny_getItem_list_slice hl.isList hsl .none .none (.int _ _) (by decide) ?_ (rs.size hlim)) hs
  rw [krv_pick]
  exact q_lst (tk := s.toks) I rs.reverse (by rw [List.length_reverse]; exact hlim) fin
theorem SliR.str {x : Str} {p q : Nat} (h1 : Bnd x.length lo 0 p) (h2 : Bnd x.length hi x.length q) (hlen : x.length ≤ lim) : SliR c σ (.str x) lo hi .none (.str (sMk (cutL x.cps.toList p q))) := by
  intro value slice A E F μ s y l u t sl Q I r r1 r2 r3 hsl fin
  obtain ⟨ops, hs⟩ := subscripted_any slice y (.ref sl)
  obtain ⟨t, rfl, hk⟩ := r.str_inv
  obtain rfl := r3.none_inv
  obtain ⟨p', rfl, i1, rfl⟩ := h1.ok r1
  obtain ⟨q', rfl, i2, rfl⟩ := h2.ok r2
  have hS : s.heap.IsSlice sl p' q' none := hsl
  refine tail_any (typeIs_str s x t) PySem.F.slot_str_getitem.lookup (wpAny_getItem_str_slice hS rfl ?_) hs
  have e3 : slicePicked x p' q' none = sliceRange (sliceBounds (p'.map (·.1)) (q'.map (·.1)) none x.length).1 (sliceBounds (p'.map (·.1)) (q'.map (·.1)) none x.length).2.1 1 := by
    unfold slicePicked Builtin.Str.strSliceIndices sliceBounds
    cases p' <;> cases q' <;> rfl
  have pk : (slicePicked x p' q' none).filterMap (x.cps[·]?) = cutL x.cps.toList ((p'.map (·.1)).elim 0 (clipAt x.length)) ((q'.map (·.1)).elim x.length (clipAt x.length)) := by
    rw [e3, sliceBounds_plain, sliceRange_one, pick_run]
    rfl
  have ok : PyData.strOk (sMk (cutL x.cps.toList ((p'.map (·.1)).elim 0 (clipAt x.length)) ((q'.map (·.1)).elim x.length (clipAt x.length)))) = true := by
    unfold PyData.strOk at hk ⊢
    simp only [Array.all_eq_true_iff_forall_mem, List.mem_toArray] at hk ⊢
    intro k hc
    exact hk k (Array.mem_toList_iff.mp (List.mem_of_mem_drop (List.mem_of_mem_take hc)))
  unfold sliceMade
  split
  · rename_i hall
    simp only [Option.map_none, Option.getD_none, BEq.rfl, Bool.true_and, beq_iff_eq] at hall
    have whole : cutL x.cps.toList ((p'.map (·.1)).elim 0 (clipAt x.length)) ((q'.map (·.1)).elim x.length (clipAt x.length)) = x.cps.toList := by
      have le1 : (p'.map (·.1)).elim 0 (clipAt x.length) ≤ x.length := clip_le _ _ _ (Nat.zero_le _)
      have le2 : (q'.map (·.1)).elim x.length (clipAt x.length) ≤ x.length := clip_le _ _ _ (Nat.le_refl _)
      rw [e3, sliceBounds_plain, sliceRange_one] at hall
      simp only [List.length_map, List.length_range] at hall
      unfold cutL
      have h0 : x.cps.toList.length = x.length := by rw [Array.length_toList]; rfl
      rw [show (p'.map (·.1)).elim 0 (clipAt x.length) = 0 by exact Z11 le1 hall le2, List.drop_zero, List.take_of_length_le (by exact Z12 h0 hall)]
    rw [whole] at fin
    exact fin _ _ .refl I (by show VR F μ s.heap (.str ⟨x.cps.toList.toArray⟩) _; rw [Array.toArray_toList]; exact .str t hk)
  · rw [pk]
    refine ⟨lim_le1 (Nat.le_trans ?_ hlen), q_same I fin _ (.str _ ok)⟩
    show (cutL x.cps.toList _ _).toArray.size ≤ _
    unfold cutL
    simp only [List.size_toArray, List.length_take, List.length_drop, Array.length_toList]
    show _ ≤ x.cps.size
    exact Z409
variable {F : Addr → Prop} {μ : List Addr} {s : Shared}
theorem Inv.newM (I : Inv c F μ s σ) {h' : Heap} {tk : Nat} {ad : Addr} {o : MO} (k : Kp s { s with heap := h', toks := tk }) (ha : s.heap.get? ad = none) (ha2 : ∃ o, h'.get? ad = some o)
    (m : Pres F μ s.heap F (μ ++ [ad]) h' → MOk F (μ ++ [ad]) h' ad o) : Go c F NoW μ s σ (μ ++ [ad]) { s with heap := h', toks := tk } (σ ++ [o]) := by
  have nF : ¬Hid F μ ad := I.newN ha
  have hid : ∀ b, Hid F (μ ++ [ad]) b → Hid F μ b ∨ b = ad := fun b x => by
    rcases x with x | x | x
    · exact .inl (.inl x)
    · exact (List.mem_append.mp x).elim (fun x => .inl (.inr (.inl x))) fun x => .inr (List.mem_singleton.mp x)
    · exact .inl (.inr (.inr x))
  have pre : ∀ (i : Nat) (b : Addr), μ[i]? = some b → (μ ++ [ad])[i]? = some b := fun i b e => by rw [List.getElem?_append_left (List.getElem?_eq_some_iff.mp e).1]; exact e
  have p : Pres F μ s.heap F (μ ++ [ad]) h' := ⟨fun b ob n e => ⟨k b ob e, fun x => (hid b x).elim n fun q => absent (q ▸ e) ha⟩, pre⟩
  have I' := (I.grow (W := NoW) k).inv
  have last : ∀ (i : Nat) (b : Addr), (μ ++ [ad])[i]? = some b → μ[i]? = some b ∨ (i = μ.length ∧ b = ad) := fun i b e => by
    rw [List.getElem?_append] at e
    split at e
    · exact .inl e
    · have h0 := (List.getElem?_eq_some_iff.mp e).1
      simp only [List.length_singleton] at h0
      rw [show i - μ.length = 0 by exact Z13 h0] at e
      cases e
      exact .inr ⟨by exact Z14 h0 (by assumption), rfl⟩
  refine ⟨fun b o _ _ _ e => k b o e, fun b o e => ⟨o, k b o e⟩, pre, fun b hb => (List.mem_append.mp hb).imp id fun x => by rw [List.mem_singleton.mp x]; exact ha,
    fun i o e => ⟨o, by rw [List.getElem?_append_left (List.getElem?_eq_some_iff.mp e).1]; exact e, Nat.le_refl _, rfl, fun _ => ⟨rfl, fun b ob _ e => k b ob e⟩⟩,
    ⟨I'.keep, fun b hb => (hid b hb).elim (I.fg b) fun x => ?_, fun b hb => (hid b hb).elim (I'.flt b) fun x => x ▸ ha2, fun b hb hm => (List.mem_append.mp hm).elim (I.fm b hb) fun x => nF (.inl (List.mem_singleton.mp x ▸ hb)),
      fun b t => ⟨(I.ft b t).1, fun hm => (List.mem_append.mp hm).elim (I.ft b t).2 fun x => nF (.inr (.inr (List.mem_singleton.mp x ▸ t)))⟩, fun i j b e1 e2 => ?_, by rw [List.length_append, List.length_append, I.len]; rfl,
      fun i o' b e1 e2 => ?_, I.bare, I.os, I.lam.pres p (fun _ e => k _ _ e), I.gen.pres p (fun _ e => k _ _ e)⟩⟩
  · cases e : c.g.get? ad with
    | none => rw [x]; exact e
    | some o => exact absent (I.keep ad o e) ha
  · rcases last i b e1 with h1 | ⟨h1, h1'⟩ <;> rcases last j b e2 with h2 | ⟨h2, h2'⟩
    · exact I.nd i j b h1 h2
    · exact absurd (.inr (.inl (List.mem_of_getElem? (h2' ▸ h1)))) nF
    · exact absurd (.inr (.inl (List.mem_of_getElem? (h1' ▸ h2)))) nF
    · rw [h1, h2]
  · rcases last i b e2 with h | ⟨h, h'⟩
    · rw [List.getElem?_append_left (by rw [← I.len]; exact (List.getElem?_eq_some_iff.mp h).1)] at e1
      exact (I.mo i o' b e1 h).pres p fun ob e => k _ _ e
    · rw [h, I.len, List.getElem?_append_right (Nat.le_refl _), Nat.sub_self] at e1
      cases e1
      exact h' ▸ m p
theorem EvE.lstM {es : List PySem.Expr} {vs : List AV} (h : EvL c n sc es ρ σ vs σ1) (hl : vs.length ≤ lim) : EvE c n sc (.List es pos) ρ σ (.mref σ1.length) (σ1 ++ [⟨0, Option.none, vs⟩]) := by
  intro A E F μ s env Q rm I N q
  rw [arm_eval_List]
  refine wpAny_bind (wpAny_standAt (wpAny_bind (h rm I N fun ys s1 μ1 p1 r1 => wpAny_newObj_type ?_ (r1.size hl))))
  have g := p1.inv.newM (h' := s1.heap.push { cls := .type "list", data := .seq ys.toArray }) (tk := s1.toks) (ad := s1.heap.objs.size) (o := ⟨0, Option.none, vs⟩) (.push _) (fresh_at _) ⟨_, Heap.get?_push_size _ rfl⟩
    fun pr => ⟨hl, ys, _, r1.pres pr, fun _ => Heap.get?_push_size _ rfl, fun _ e => by cases e⟩
  exact q _ _ _ (p1.trans g) (.mref (by rw [← p1.inv.len]; simp))
noncomputable def OpM (c : Cx) (σ σ' : Sto) (v : AV) (t : Addr → Sem Value) (i : Nat) : Prop := ∀ ⦃A : Around⦄ ⦃E : Value → Shared → Prop⦄ ⦃F : Addr → Prop⦄ ⦃μ : List Addr⦄ ⦃s : Shared⦄ ⦃a : Addr⦄ ⦃Q : Value → Shared → Prop⦄, A.units + 64 < cLine → Inv c F μ s σ → μ[i]? = some a →
  (∀ x s' μ', Go c F NoW μ s σ μ' s' σ' → VR F μ' s'.heap v x → Q x s') → wpAny c.M A (t a) Q E s
noncomputable def chg (σ : Sto) (i : Nat) (o : MO) (xs : List AV) : Sto := σ.set i ⟨o.ver + 1, o.acc, xs⟩
theorem Inv.change (I : Inv c F μ s σ) {i : Nat} {o : MO} {ad : Addr} {xs : List AV} {h' : Heap} {tk : Nat} (ho : σ[i]? = some o) (ha : μ[i]? = some ad) (hs : Heap.SameBut ad s.heap h')
    (hn : Pres F μ s.heap F μ h' → MOk F μ h' ad ⟨o.ver + 1, o.acc, xs⟩) (hx : ∃ o, h'.get? ad = some o) : Go c F NoW μ s σ μ { s with heap := h', toks := tk } (chg σ i o xs) := by
  have ham : ad ∈ μ := List.mem_of_getElem? ha
  have p : Pres F μ s.heap F μ h' := ⟨fun b o n e => ⟨(hs.2 b fun q => n (.inr (.inl (q ▸ ham)))).trans e, n⟩, fun _ _ e => e⟩
  have ex : ∀ b o, s.heap.get? b = some o → ∃ o', h'.get? b = some o' := fun b o e => (Classical.em (b = ad)).elim (fun q => q ▸ hx) fun q => ⟨o, (hs.2 b q).trans e⟩
  have tab : ∀ P, Tab P → ∀ o, s.heap.get? P = some o → h'.get? P = some o := fun P hP o e => (hs.2 P fun q => (I.ft P hP).2 (q ▸ ham)).trans e
  have at_ : ∀ j o', (chg σ i o xs)[j]? = some o' → (j = i ∧ o' = ⟨o.ver + 1, o.acc, xs⟩) ∨ (j ≠ i ∧ σ[j]? = some o') := fun j o' e => by
    unfold chg at e
    rw [List.getElem?_set] at e
    split at e
    · rename_i q
      split at e
      · cases e; exact .inl ⟨q.symm, rfl⟩
      · cases e
    · rename_i q; exact .inr ⟨fun r => q r.symm, e⟩
  have set_ : ∀ j, (chg σ i o xs)[j]? = if i = j then some ⟨o.ver + 1, o.acc, xs⟩ else σ[j]? := fun j => by
    unfold chg
    rw [List.getElem?_set, if_pos (List.getElem?_eq_some_iff.mp ho).1]
  refine ⟨fun b o _ n _ e => (hs.2 b fun q => n (q ▸ ham)).trans e, ex, fun _ _ e => e, fun _ h => .inl h, fun j o' e => ?_,
    ⟨fun b o e => (hs.2 b fun q => by rw [q, I.fg ad (.inr (.inl ham))] at e; cases e).trans (I.keep b o e), I.fg, fun b hb => let ⟨o, e⟩ := I.flt b hb; ex b o e, I.fm, I.ft, I.nd,
      I.len.trans (by unfold chg; rw [List.length_set]), fun j o' b e1 e2 => ?_, I.bare, I.os, I.lam.pres p (tab _ (.inl rfl)), I.gen.pres p (tab _ (.inr rfl))⟩⟩
  · by_cases hij : i = j
    · subst hij
      rw [ho] at e; cases e
      exact ⟨⟨o.ver + 1, o.acc, xs⟩, by rw [set_, if_pos rfl], Nat.le_succ _, rfl, fun q => absurd q (by simp)⟩
    · refine ⟨o', by rw [set_, if_neg hij]; exact e, Nat.le_refl _, rfl, fun _ => ⟨rfl, fun b ob hb e2 => (hs.2 b fun q => hij (I.nd i j ad ha (q ▸ hb))).trans e2⟩⟩
  · rcases at_ j o' e1 with ⟨rfl, rfl⟩ | ⟨hij, e1⟩
    · rw [ha] at e2; cases e2; exact hn p
    · exact (I.mo j o' b e1 e2).pres p fun ob e => (hs.2 b fun q => hij (I.nd j i b e2 (q ▸ ha))).trans e
end
end Mine
namespace Mine
open PySem PySem.Calls PyProof.Rows PySem.W
structure KR (F : Addr → Prop) (μ : List Addr) (h : Heap) (kw : List (Str × AV)) (kws : List (Str × Value)) : Prop where
  names : kw.map (·.1) = kws.map (·.1)
  vals : VRs F μ h (kw.map (·.2)) (kws.map (·.2))
noncomputable def CallR (c : Cx) (n : Nat) (fv : AV) (vs : List AV) (kw : List (Str × AV)) (σ : Sto) (v : AV) (σ' : Sto) : Prop :=
  ∀ ⦃A : Around⦄ ⦃E : Value → Shared → Prop⦄ ⦃F : Addr → Prop⦄ ⦃μ : List Addr⦄ ⦃s : Shared⦄ ⦃f : Value⦄ ⦃ys : List Value⦄ ⦃kws : List (Str × Value)⦄ ⦃Q : Value → Shared → Prop⦄, Room A n → Inv c F μ s σ → VR F μ s.heap fv f → VRs F μ s.heap vs ys → KR F μ s.heap kw kws →
    (∀ x s' μ', Go c F NoW μ s σ μ' s' σ' → VR F μ' s'.heap v x → Q x s') → wpAny c.M A (call f ys kws) Q E s
noncomputable def Kept (M : Model) (f : Value) (h : Heap) : Prop := ∃ k, (k = Keeper.frame ∨ k = Keeper.machine ∨ k = Keeper.boundFrame) ∧ Looks M h (keeperOf f) k
noncomputable def KeepR (c : Cx) (σ : Sto) (fv : AV) : Prop := ∀ ⦃F : Addr → Prop⦄ ⦃μ : List Addr⦄ ⦃s : Shared⦄ ⦃f : Value⦄, Inv c F μ s σ → VR F μ s.heap fv f → Kept c.M f s.heap
noncomputable def EvK (c : Cx) (n : Nat) (sc : Scope) (ks : List Keyword) (ρ : Ro) (σ : Sto) (kw : List (Str × AV)) (σ' : Sto) : Prop :=
  ∀ ⦃A : Around⦄ ⦃E : Value → Shared → Prop⦄ ⦃F : Addr → Prop⦄ ⦃μ : List Addr⦄ ⦃s : Shared⦄ ⦃env : Env⦄ ⦃pos : Pos⦄ ⦃Q : List Value → Shared → Prop⦄, Room A n → Inv c F μ s σ → EnvR F μ s.heap env sc ρ →
    (∀ ys s' μ', Go c F NoW μ s σ μ' s' σ' → VRs F μ' s'.heap (kw.map (·.2)) ys → Q ys s') → wpAny c.M A (evalAll ((backToKw pos (keywordEach ks env)).map (·.2))) Q E s
noncomputable def GetR (c : Cx) (σ : Sto) (a : AV) (nm : Str) (f : Value) : Prop := ∀ ⦃A : Around⦄ ⦃E : Value → Shared → Prop⦄ ⦃F : Addr → Prop⦄ ⦃μ : List Addr⦄ ⦃s : Shared⦄ ⦃x : Value⦄ ⦃pl : Sem Bool⦄ ⦃Q : Value × List Value → Shared → Prop⦄, Inv c F μ s σ → VR F μ s.heap a x → Q (f, [x]) s →
  wpAny c.M A (getMethod x nm pl) Q E s
section
variable {c : Cx} {n : Nat} {sc : Scope} {ρ : Ro} {σ σ1 σ2 σ3 σ4 : Sto} {e f : PySem.Expr} {pos : Pos} {v a fv : AV} {vs : List AV} {kw : List (Str × AV)}
theorem evalArgs_gen {M : Model} {A : Around} {E : Value → Shared → Prop} {s : Shared} {f : Value} {args : List (Bool × Sem Value)} {ks : List (Option Str × Sem Value)} {Q : Args → Shared → Prop} (hp : args.any (·.1) = false) (hk : ks.all (·.1.isSome) = true)
    (h : wpAny M A (spliced args) (fun vs s1 => wpAny M A (evalAll (ks.map (·.2))) (fun us s2 => Q ⟨vs, (ks.filterMap (·.1)).zip us⟩ s2) E s1) E s) : wpAny M A (evalArgs f true args ks) Q E s := by
  cases args with
  | nil =>
    unfold evalArgs
    show wpAny M A (spliced [] >>= _) Q E s
    refine wpAny_bind (wpAny_mono h (fun vs s1 h1 => wpAny_bind (wpAny_pure (wpAny_holding ?_))) fun _ _ x => x)
    simp only [hk, if_true]
    exact wpAny_bind (wpAny_mono h1 (fun us s2 h2 => wpAny_bind (wpAny_pure (wpAny_pure h2))) fun _ _ x => x)
  | cons p r =>
    obtain ⟨b, x⟩ := p
    cases b with
    | false => exact evalArgs_kw hk h
    | true => cases hp
theorem callWith_gen {A : Around} {E : Value → Shared → Prop} {F : Addr → Prop} {μ μ1 : List Addr} {s s1 : Shared} {env : Env} {Q : Value → Shared → Prop} {args : List PySem.Expr} {ks : List Keyword} {fx : Value} {first : List AV} {ffs : List Value} (rm : Room A n) (p1 : Go c F NoW μ s σ μ1 s1 σ1) (N : EnvR F μ1 s1.heap env sc ρ)
    (rf : VR F μ1 s1.heap fv fx) (rfs : VRs F μ1 s1.heap first ffs) (h1 : EvL c n sc args ρ σ1 vs σ2) (h2 : EvK c n sc ks ρ σ2 kw σ3) (h3 : CallR c n fv (first ++ vs) kw σ3 v σ4) (hk : KeepR c σ3 fv)
    (hp : ∀ env, (backTo pos (starEach args env)).any (·.1) = false) (hq : ∀ env, (backToKw pos (keywordEach ks env)).all (·.1.isSome) = true ∧ (backToKw pos (keywordEach ks env)).filterMap (·.1) = kw.map (·.1))
    (q : ∀ x s' μ', Go c F NoW μ s σ μ' s' σ4 → VR F μ' s'.heap v x → Q x s') : wpAny c.M A (callWith pos fx ffs (backTo pos (starEach args env)) (backToKw pos (keywordEach ks env))) Q E s1 := by
  have hn : (backToKw pos (keywordEach ks env)).any (·.1.isNone) = false := by
    have := (hq env).1
    rw [List.all_eq_true] at this
    rw [List.any_eq_false]
    intro x hx; have := this x hx; cases h : x.1 <;> simp_all
  refine callWith_of (P := Kept c.M fx) (by rw [hp, hn]; rfl) (fun _ x => x) (evalArgs_gen (hp env) (hq env).1 (h1 rm p1.inv N fun ys s2 μ2 p2 r2 => h2 rm p2.inv (N.go p1.inv p2) fun us s3 μ3 p3 r3 => ?_))
  have pp := p2.pres0.trans p3.pres0
  refine ⟨hk p3.inv (rf.pres pp), h3 rm p3.inv (rf.pres pp) ((rfs.pres pp).append (r2.pres p3.pres0)) ⟨?_, ?_⟩ fun x s4 μ4 p4 r4 => q _ _ _ ((p1.trans p2).trans (p3.trans p4)) r4⟩
  · rw [(hq env).2, List.map_fst_zip (by rw [List.length_map, ← r3.len, List.length_map]; exact Nat.le_refl _)]
  · rw [(hq env).2, List.map_snd_zip (by rw [List.length_map, ← r3.len, List.length_map]; exact Nat.le_refl _)]; exact r3
theorem EvE.call {args : List PySem.Expr} {ks : List Keyword} (h0 : EvE c n sc f ρ σ fv σ1) (h1 : EvL c n sc args ρ σ1 vs σ2) (h2 : EvK c n sc ks ρ σ2 kw σ3) (h3 : CallR c n fv vs kw σ3 v σ4) (hk : KeepR c σ3 fv)
    (he : ∀ env, eval (.Call f args ks pos) env = (do callWith pos (← eval f env) [] (backTo pos (starEach args env)) (backToKw pos (keywordEach ks env))))
    (hp : ∀ env, (backTo pos (starEach args env)).any (·.1) = false) (hq : ∀ env, (backToKw pos (keywordEach ks env)).all (·.1.isSome) = true ∧ (backToKw pos (keywordEach ks env)).filterMap (·.1) = kw.map (·.1)) :
    EvE c n sc (.Call f args ks pos) ρ σ v σ4 := by
  intro A E F μ s env Q rm I N q
  rw [he]
  exact wpAny_bind (h0 rm I N fun x s1 μ1 p1 r1 => callWith_gen (first := []) rm p1 (N.go I p1) r1 .nil h1 h2 h3 hk hp hq q)
theorem EvE.meth {args : List PySem.Expr} {nm : Str} {apos : Pos} {g : Value} {pl : Env → Sem Bool} (h0 : EvE c n sc e ρ σ a σ1) (hg : GetR c σ1 a nm g) (h1 : EvL c n sc args ρ σ1 vs σ2) (h3 : CallR c n (.val g) (a :: vs) [] σ2 v σ3) (hk : KeepR c σ2 (.val g))
    (hp : ∀ env, (backTo pos (starEach args env)).any (·.1) = false)
    (he : ∀ env, eval (.Call (.Attribute e nm apos) args [] pos) env = (do
      let ov ← eval e env
      standAt apos.atName
      let (f, first) ← holding [ov] (getMethod ov nm (pl env))
      callWith pos f first (backTo pos (starEach args env)) [])) : EvE c n sc (.Call (.Attribute e nm apos) args [] pos) ρ σ v σ3 := by
  intro A E F μ s env Q rm I N q
  exact MethodCall_ (h0 rm I N fun x s1 μ1 p1 r1 => hg p1.inv r1 (callWith_gen (first := [a]) (ks := []) (kw := []) rm p1 (N.go I p1) (.val g) (.one r1) h1 (fun _ _ _ _ _ _ _ _ _ I _ q => wpAny_pure (q [] _ _ (.refl I) .nil)) h3 hk hp (fun _ => ⟨rfl, rfl⟩) q)) (he env)
theorem EvK.nil : EvK c n sc [] ρ σ [] σ := fun _ _ _ _ _ _ _ _ _ I _ q => wpAny_pure (q [] _ _ (.refl I) .nil)
theorem EvK.one {x : Str} {p : Pos} (h : EvE c n sc e ρ σ v σ1) : EvK c n sc [⟨some x, e, p⟩] ρ σ [(x, v)] σ1 := fun _ _ _ _ _ _ _ _ rm I N q =>
  wpAny_evalAll_cons (wpAny_bind (h rm I N fun x s1 μ1 p1 r1 => wpAny_bind (wpAny_standAt (wpAny_pure (wpAny_pure (q _ _ _ p1 (.one r1)))))))
theorem KeepR.bi {id : String} : KeepR c σ (.val (.builtin id)) := fun _ _ _ _ _ r => by obtain rfl := r.val_inv; exact ⟨.machine, .inr (.inl rfl), .now⟩
theorem KeepR.ty {id : String} : KeepR c σ (.val (.type id)) := fun _ _ _ _ _ r => by obtain rfl := r.val_inv; exact ⟨.machine, .inr (.inl rfl), .now⟩
theorem KeepR.fn {ad : Addr} {o : Obj} {fd : FuncData} (h : c.g.get? ad = some o) (hd : o.data = .func fd) : KeepR c σ (.val (.ref ad)) := fun _ _ _ _ I r => by
  obtain rfl := r.val_inv
  exact ⟨.frame, .inl rfl, (Looks.ld (part := Option.none) (I.keep _ _ h)).andThen (by rw [hd]; exact .now)⟩
end
end Mine
namespace Mine
open PySem PySem.Calls PyProof.Rows PySem.W
section
variable {F : Addr → Prop} {μ : List Addr} {h : Heap} {x y z : AV} {vs : List Value} {xs : List AV} {kws : List (Str × Value)}
theorem KR.nil_inv (r : KR F μ h [] kws) : kws = [] := List.eq_nil_of_length_eq_zero (by simpa using congrArg List.length r.names.symm)
theorem VRs.nil_inv (r : VRs F μ h [] vs) : vs = [] := List.eq_nil_of_length_eq_zero r.len.symm
theorem VRs.cons_inv (r : VRs F μ h (x :: xs) vs) : ∃ v ws, vs = v :: ws ∧ VR F μ h x v ∧ VRs F μ h xs ws := by
  cases vs with
  | nil => exact nomatch r.len
  | cons v ws => exact ⟨v, ws, rfl, r.at_ 0 _ _ rfl rfl, Nat.succ.inj r.len, fun i a b e1 e2 => r.at_ (i + 1) a b e1 e2⟩
theorem VRs.inv1 (r : VRs F μ h [x] vs) : ∃ v, vs = [v] ∧ VR F μ h x v := by
  obtain ⟨v, ws, rfl, r1, r2⟩ := r.cons_inv
  obtain rfl := r2.nil_inv
  exact ⟨v, rfl, r1⟩
theorem VRs.inv2 (r : VRs F μ h [x, y] vs) : ∃ v u, vs = [v, u] ∧ VR F μ h x v ∧ VR F μ h y u := by
  obtain ⟨v, ws, rfl, r1, r2⟩ := r.cons_inv
  obtain ⟨u, rfl, r3⟩ := r2.inv1
  exact ⟨v, u, rfl, r1, r3⟩
theorem VRs.inv3 (r : VRs F μ h [x, y, z] vs) : ∃ v u t, vs = [v, u, t] ∧ VR F μ h x v ∧ VR F μ h y u ∧ VR F μ h z t := by
  obtain ⟨v, ws, rfl, r1, r2⟩ := r.cons_inv
  obtain ⟨u, t, rfl, r3, r4⟩ := r2.inv2
  exact ⟨v, u, t, rfl, r1, r3, r4⟩
end
section
variable {c : Cx} {n : Nat} {σ : Sto} {a : AV} {xs : List AV}
theorem GetR.str {x : Str} {nm : Str} {id : String} (slot : Slot "str" nm id) (ty : typeOf (.builtin id) = pure (.type "method_descriptor")) : GetR c σ (.str x) nm (.builtin id) := fun A E F μ s y pl Q I r q => by
  obtain ⟨t, rfl, _⟩ := r.str_inv
  exact getMethod_builtin (typeIs_str _ _ _) PySem.F.plainAttrs_str slot ty (fun _ e => nomatch e) q
theorem GetR.seq {nm : Str} {id : String} (e : SeqR σ a xs) (slot : Slot "list" nm id) (ty : typeOf (.builtin id) = pure (.type "method_descriptor")) : GetR c σ a nm (.builtin id) := fun A E F μ s y pl Q I r q => by
  obtain ⟨l, vs, rfl, hl, _⟩ := seq_ok I e r
  exact getMethod_list_of slot ty hl.isList hl.noDict q
theorem strs_ok {F : Addr → Prop} {μ : List Addr} {h : Heap} : ∀ (tk : Nat) (ws : List Str), (∀ x ∈ ws, PyData.strOk x = true) → VRs F μ h (ws.map AV.str) (strsFrom tk ws)
  | _, [], _ => .nil
  | tk, x :: r, k => .cons (.str _ (k x (.head _))) (strs_ok (tk + 1) r fun y m => k y (.tail _ m))
theorem CallR.split {x y : Str} {ws : List Str} (h1 : (decide (x.length < y.length) || decide (Builtin.Str.strKind x < Builtin.Str.strKind y)) = false) (h2 : (y.length == 0) = false) (h3 : (Builtin.Str.occurrences x y 0 x.length (x.length + 1)).isEmpty = false)
    (h4 : x.length ≤ lim) (hw : Builtin.Str.partsBetween x (Builtin.Str.occurrences x y 0 x.length (x.length + 1)) y.length = ws) (h5 : ws.all PyData.strOk = true) (h6 : ws.length ≤ lim) :
    CallR c n (.val (.builtin "str.split")) [.str x, .str y] [] σ (.lst (ws.map .str)) σ := by
  intro A E F μ s f ys kws Q _ I rf r rk q
  obtain rfl := rf.val_inv
  obtain rfl := rk.nil_inv
  obtain ⟨u, v, rfl, r1, r2⟩ := r.inv2
  obtain ⟨t, rfl, _⟩ := r1.str_inv
  obtain ⟨t', rfl, _⟩ := r2.str_inv
  subst hw
  refine call_meets PySem.F.slot_str_split (typeIs_str s x t) PySem.F.entry_str_split (PySem.F.args_str_split_2 _ _) (meets_str_split_sep x y t t' h1 h2 h3 (lim_le1 h4) (lim_le1 h6)) ?_
  exact q_lst I (strs_ok _ _ (List.all_eq_true.mp h5)) (by rw [List.length_map]; exact h6) (q_end (.refl I) q)
theorem CallR.sindex {x y : Str} {k : Nat} {rest : List Nat} (e : Builtin.Str.occurrences x y 0 x.length 1 = k :: rest) : CallR c n (.val (.builtin "str.index")) [.str x, .str y] [] σ (.int k) σ := by
  intro A E F μ s f ys kws Q _ I rf r rk q
  obtain rfl := rf.val_inv
  obtain rfl := rk.nil_inv
  obtain ⟨u, v, rfl, r1, r2⟩ := r.inv2
  obtain ⟨t, rfl, _⟩ := r1.str_inv
  obtain ⟨t', rfl, _⟩ := r2.str_inv
  exact call_gives PySem.F.slot_str_index (typeIs_str s x t) PySem.F.entry_str_index (PySem.F.args_str_index_2 _ _) (gives_str_index x y t t' k rest e) (q_int I (q_end (.refl I) q) _ _)
theorem ints_of {F : Addr → Prop} {μ : List Addr} {h : Heap} : ∀ {ns : List Int} {vs : List Value}, VRs F μ h (ns.map AV.int) vs → IntsAre vs ns
  | [], vs, r => by obtain rfl := r.nil_inv; exact .nil
  | k :: ns, vs, r => by
    obtain ⟨v, ws, rfl, r1, r2⟩ := VRs.cons_inv (x := .int k) (xs := ns.map .int) r
    obtain ⟨t, rfl⟩ := r1.int_inv
    exact .cons _ _ (ints_of r2)
theorem CallR.lindex {ns : List Int} {k : Int} (e : SeqR σ a (ns.map .int)) (hk : k ∈ ns) : CallR c n (.val (.builtin "list.index")) [a, .int k] [] σ (.int (ns.idxOf k)) σ := by
  intro A E F μ s f ys kws Q _ I rf r rk q
  obtain rfl := rf.val_inv
  obtain rfl := rk.nil_inv
  obtain ⟨u, v, rfl, r1, r2⟩ := r.inv2
  obtain ⟨t, rfl⟩ := r2.int_inv
  obtain ⟨l, vs, rfl, ⟨m, ho⟩, rs, hlim⟩ := seq_ok I e r1
  have hi := ints_of rs
  have hlen := hi.length
  have hj : ns.idxOf k < ns.length := List.idxOf_lt_length_iff.mpr hk
  have hm : (lim : Int) = 1048576 := rfl
  rw [List.length_map] at hlim
  refine call_meets PySem.F.slot_list_index ⟨_, ho, rfl⟩ PySem.F.entry_list_index (PySem.F.args_list_index_2 _ _)
    (PySem.SeqAt.list_indexAt l vs.toArray m Option.none #[] (.int k t) (isInt k) (ns.idxOf k) (by simpa [hlen] using hj) (by lia) ?_ ?_) ⟨ho, fun y hy => (eq_isInt k t hi y (by simpa using hy)).at _ _, q_int I (q_end (.refl I) q) _ _⟩
  · show isInt k vs[ns.idxOf k] = true
    rw [isInt_at k hi _ (by exact Z15 hj hlen) hj]
    simpa using List.getElem_idxOf hj
  · intro j hjs hlt
    show isInt k vs[j] = false
    rw [isInt_at k hi j (by simpa using hjs) (by exact Z16 hlt hj)]
    exact ne_of_lt_idxOf hlt _
variable {i v : Nat}
theorem CallR.append {x : AV} (ho : σ[i]? = some ⟨v, none, xs⟩) (hl : xs.length < lim) : CallR c n (.val (.builtin "list.append")) [.mref i, x] [] σ .none (chg σ i ⟨v, none, xs⟩ (xs ++ [x])) := by
  intro A E F μ s f ys kws Q _ I rf r rk q
  obtain rfl := rf.val_inv
  obtain rfl := rk.nil_inv
  obtain ⟨u, y, rfl, r1, r2⟩ := r.inv2
  obtain ⟨ad, rfl, ha⟩ := r1.mref_inv
  obtain ⟨_, vs, m, rs, h1, _⟩ := I.mo i _ ad ho ha
  refine wpAny_list_append_plain ⟨m, h1 rfl⟩ (fun h' hp hs => ?_) (rs.size (Nat.le_of_lt hl))
  obtain ⟨m', e'⟩ := hp
  exact q _ _ _ (I.change (tk := s.toks) (xs := xs ++ [x]) ho ha hs (fun p => ⟨by rw [List.length_append, List.length_singleton]; exact Nat.succ_le_of_lt hl, vs ++ [y], m', (rs.pres p).append (.one (r2.pres p)), fun _ => by simpa using e', fun _ e => nomatch e⟩) ⟨_, e'⟩) .none
theorem CallR.insert {x : AV} {k : Int} (hk0 : 0 ≤ k) (ho : σ[i]? = some ⟨v, none, xs⟩) (hl : xs.length < lim) (hk : k ≤ xs.length) : CallR c n (.val (.builtin "list.insert")) [.mref i, .int k, x] [] σ .none (chg σ i ⟨v, none, xs⟩ (xs.take k.toNat ++ x :: xs.drop k.toNat)) := by
  intro A E F μ s f ys kws Q _ I rf r rk q
  obtain rfl := rf.val_inv
  obtain rfl := rk.nil_inv
  obtain ⟨u, w, y, rfl, r1, r2, r3⟩ := r.inv3
  obtain ⟨ad, rfl, ha⟩ := r1.mref_inv
  obtain ⟨t, rfl⟩ := r2.int_inv
  obtain ⟨_, vs, m, rs, h1, _⟩ := I.mo i _ ad ho ha
  have e := h1 rfl
  have hm : (lim : Int) = 1048576 := rfl
  have hlen : xs.length = vs.length := rs.len
  have fits : ¬(!Builtin.List.listFitsIndex k) = true := by rw [fitsIndex_of hk0 (by lia)]; decide
  refine call_meets PySem.F.slot_list_insert ⟨_, e, rfl⟩ PySem.F.entry_list_insert (PySem.F.args_list_insert_3 _ _ _) (PySem.AutoListH.list_insert_list_int_val_1 ad vs.toArray m k t y fits (by rw [List.size_toArray, ← rs.len]; exact lim_le (by exact Z17 (by assumption)))) ⟨e, ?_⟩
  have hget := Heap.get?_update_self (Obj.mapSeq fun xs => have j := if k < 0 then (k + ((xs.size : Nat) : Int)).toNat else min k.toNat xs.size; (xs.extract 0 j).push y ++ xs.extract j) e rfl
  have hd : ∃ n', (s.heap.update ad (Obj.mapSeq fun xs => have j := if k < 0 then (k + ((xs.size : Nat) : Int)).toNat else min k.toNat xs.size; (xs.extract 0 j).push y ++ xs.extract j)).get? ad
      = some { cls := .type "list", data := .seq (vs.take k.toNat ++ y :: vs.drop k.toNat).toArray n' } := by
    rw [hget]
    simp only [Obj.mapSeq, show ¬ k < 0 by lia, if_false, List.size_toArray, Nat.min_eq_left (show k.toNat ≤ vs.length by lia)]
    have e1 : ((vs.toArray.extract 0 k.toNat).push y ++ vs.toArray.extract k.toNat vs.length) = (vs.take k.toNat ++ y :: vs.drop k.toNat).toArray := by
      apply Array.toList_inj.mp
      simp [List.take_of_length_le]
    rw [e1]
    exact ⟨_, rfl⟩
  obtain ⟨n', hd⟩ := hd
  exact q _ _ _ (I.change (tk := s.toks) (xs := xs.take k.toNat ++ x :: xs.drop k.toNat) ho ha (Heap.SameBut.update ..) (fun p => ⟨by simp only [List.length_append, List.length_cons, List.length_take, List.length_drop]; exact Z410 hl, vs.take k.toNat ++ y :: vs.drop k.toNat, n', ((rs.pres p).take _).append (.cons (r3.pres p) ((rs.pres p).drop _)), fun _ => hd, fun _ e => nomatch e⟩) ⟨_, hd⟩) .none
end
end Mine
namespace Mine
open PySem PySem.Calls PyProof.Rows PySem.W
structure Run (c : Cx) (A : Around) (t : PySem.Expr) (I : Addr) (wr fp : List Addr) (n : Nat) (P : Nat → Heap → Heap → Value → Prop) (St : Nat → Heap → Prop) : Prop where
  ex : ∀ i h, St i h → ∀ b ∈ wr, ∃ o, h.get? b = some o
  frame : ∀ i h h', St i h → (∀ b ∈ fp, ∀ o, h.get? b = some o → h'.get? b = some o) → St i h'
  turn : ∀ i (s : Shared) (Q : Value → Shared → Prop) (E : Value → Shared → Prop), i < n → St i s.heap → (∀ v h' tk, P i s.heap h' v → St (i + 1) h' → (∀ b o, b ∉ wr → s.heap.get? b = some o → h'.get? b = some o) → Q v { s with heap := h', toks := tk }) →
    wpAny c.M A (pyNext (.ref I)) (fun r s1 => ∃ v, r = some v ∧ wpAny c.M A (letOwnedTupleGo t (.ref I) v) (fun _ s2 => Q v s2) E s1) E s
  done : ∀ (s : Shared) (Q : Option Value → Shared → Prop) (E : Value → Shared → Prop), St n s.heap → (∀ h' tk, (∀ b o, b ∉ wr → s.heap.get? b = some o → h'.get? b = some o) → Q none { s with heap := h', toks := tk }) → wpAny c.M A (pyNext (.ref I)) Q E s
  self : ∀ i (s : Shared) (Q : Value → Shared → Prop) (E : Value → Shared → Prop), St i s.heap → Q (.ref I) s → wpAny c.M A (pyIter (.ref I)) Q E s
section
variable {c : Cx} {A : Around} {t : PySem.Expr} {I : Addr} {wr fp : List Addr} {n : Nat} {St : Nat → Heap → Prop}
noncomputable def keepsOwn (T : String) : Bool := ["enumerate", "zip", "dict_itemiterator", "dict_reverseitemiterator", "odict_iterator", "itertools.zip_longest", "itertools.pairwise"].contains T
theorem owned_none {s : Shared} {o : Obj} {T : String} {v : Value} {E : Value → Shared → Prop} {Q : Unit → Shared → Prop} (ho : s.heap.get? I = some o) (hc : o.cls = .type T) (hT : keepsOwn T = false) (h : Q () s) : wpAny c.M A (letOwnedTupleGo t (.ref I) v) Q E s := by
  have main : ∀ a, wpAny c.M A (do
      let o ← load I
      match o.cls, o.data with
      | .type n, .fields vs =>
        if ["enumerate", "zip", "dict_itemiterator", "dict_reverseitemiterator", "odict_iterator", "itertools.zip_longest", "itertools.pairwise"].contains n && vs[0]? == some (rawInt a) then
          rule "for.unpacks-the-owned-tuple"
          updateField I 0 .none
      | _, _ => pure ()) Q E s := fun a => by
    refine wpAny_bind (wpAny_load ho ?_)
    rw [hc]
    cases hd : o.data <;> first | exact wpAny_pure h | skip
    unfold keepsOwn at hT
    simp only [hT, Bool.false_and, Bool.false_eq_true, if_false]
    exact wpAny_pure h
  cases t <;> first | exact wpAny_pure h | (cases v <;> first | exact wpAny_pure h | exact main _)
theorem Run.of {P : Nat → Value → Prop} (W : Walks c.prog c.w A I fp wr n P St) (he : ∀ i h, St i h → ∀ b ∈ wr, ∃ o, h.get? b = some o) (hI : ∀ i h, St i h → ∃ o T, h.get? I = some o ∧ o.cls = .type T ∧ keepsOwn T = false) : Run c A t I wr fp n (fun i _ _ v => P i v) St :=
  ⟨he, W.frame, fun i s Q E hi st q => W.item i s _ E hi st fun v h' tk hp st' k => ⟨v, rfl, by
    obtain ⟨o, T, h1, h2, h3⟩ := hI _ _ st'
    exact owned_none (s := { s with heap := h', toks := tk }) h1 h2 h3 (q v h' tk hp st' k)⟩, W.done, W.self⟩
theorem Run.ofT {Pt : Nat → Array Value → Prop} {Mid : Nat → Addr → Heap → Prop} {es : List PySem.Expr} {k : Nat} {pos : Pos} (W : WalksT c.prog c.w A I fp wr n Pt St Mid) (he : ∀ i h, St i h → ∀ b ∈ wr, ∃ o, h.get? b = some o) :
    Run c A (.Tuple es k pos) I wr fp n (fun i h h' v => ∃ T vals, v = .ref T ∧ Pt i vals ∧ h'.IsTuple T vals ∧ h.get? T = none) St :=
  ⟨he, W.frame, fun i s Q E hi st q => W.item i s _ E hi st fun T vals h' tk hp hs hT hm k1 => ⟨_, rfl, W.go _ _ _ i T { s with heap := h', toks := tk } _ E hm fun h2 st2 k2 => q _ h2 tk
    ⟨T, vals, rfl, hp, by obtain ⟨o, e, r⟩ := hT; exact ⟨o, k2 T o (W.apart _ _ _ hm) e, r⟩, by
      cases e : s.heap.get? T with
      | none => rfl
      | some o => exact absurd (Heap.lt_size e) (Nat.not_lt.mpr hs)⟩ st2 fun b o hb e => k2 b o hb (k1 b o hb e)⟩, W.done, W.self⟩
theorem Run.more {P : Nat → Heap → Heap → Value → Prop} {wr' : List Addr} (R : Run c A t I wr fp n P St) (hs : ∀ b ∈ wr, b ∈ wr') (he : ∀ i h, St i h → ∀ b ∈ wr', ∃ o, h.get? b = some o) : Run c A t I wr' fp n P St :=
  ⟨he, R.frame, fun i s Q E hi st q => R.turn i s Q E hi st fun v h' tk hp st' k => q v h' tk hp st' fun b o hb e => k b o (fun m => hb (hs b m)) e, fun s Q E st q => R.done s Q E st fun h' tk k => q h' tk fun b o hb e => k b o (fun m => hb (hs b m)) e, R.self⟩
end
noncomputable def Itr (c : Cx) (A : Around) (F Wr : Addr → Prop) (μ : List Addr) (s : Shared) (σ : Sto) (t : PySem.Expr) (I : Addr) (xs : List AV) (vers : List (Nat × Nat)) : Prop :=
  ∃ wr fp P St, ∃ k : Nat, Run c A t I wr fp (k + xs.length) P St ∧ St k s.heap ∧ (∀ b ∈ wr, F b ∧ Wr b) ∧
    (∀ b ∈ fp, b ∈ wr ∨ (¬Hid F μ b ∧ ∃ o, s.heap.get? b = some o) ∨ ∃ j o, μ[j]? = some b ∧ σ[j]? = some o ∧ (j, o.ver) ∈ vers) ∧
    ∀ (i : Nat) (x : AV), xs[i]? = some x → ∀ (F' : Addr → Prop) (μ' : List Addr) (h h' : Heap) (v : Value), Pres F μ s.heap F' μ' h → (∀ b ∈ wr, F' b) → (∀ a, h.get? a = none → ¬Hid F' μ' a) → P (k + i) h h' v →
      (∀ b o, b ∉ wr → h.get? b = some o → h'.get? b = some o) → VR F' μ' h' x v
noncomputable def VersOk (σ : Sto) (vers : List (Nat × Nat)) : Prop := ∀ p ∈ vers, ∃ o, σ[p.1]? = some o ∧ o.ver = p.2
section
variable {c : Cx} {A : Around} {t : PySem.Expr} {I : Addr} {F Wr W : Addr → Prop} {μ μ' : List Addr} {s s' : Shared} {σ σ' : Sto} {xs : List AV} {x : AV} {vers : List (Nat × Nat)} {E : Value → Shared → Prop}
theorem Itr.goF {F' : Addr → Prop} (T : Itr c A F Wr μ s σ t I xs vers) (p : Go c F' W μ s σ μ' s' σ') (N : Inv c F μ s σ) (hW : ∀ a, W a → F a ∧ ¬Wr a) (hF : ∀ a, F a → F' a) (hF' : ∀ a, F' a → F a ∨ s.heap.get? a = none) (hv : VersOk σ' vers) : Itr c A F' Wr μ' s' σ' t I xs vers := by
  obtain ⟨wr, fp, P, St, k, R, st, hw, hf, hx⟩ := T
  have pr := p.pres (fun a h => (hW a h).1) hF'
  refine ⟨wr, fp, P, St, k, R, R.frame _ _ _ st fun b hb o e => ?_, fun b hb => ⟨hF b (hw b hb).1, (hw b hb).2⟩, fun b hb => ?_, fun i x e F' μ2 h h' v p2 => hx i x e F' μ2 h h' v (pr.trans p2)⟩
  · rcases hf b hb with h | h | ⟨j, ob, h1, h2, h3⟩
    · exact p.same b o (fun w => (hW b w).2 (hw b h).2) (N.fm b (hw b h).1) (fun q => (N.ft b q).1 (hw b h).1) e
    · exact (pr.at_ b o h.1 e).1
    · obtain ⟨o', e1, e2⟩ := hv _ h3
      obtain ⟨o2, e3, _, _, e4⟩ := p.mono j ob h2
      rw [e1] at e3; cases e3
      exact (e4 e2).2 b o h1 e
  · rcases hf b hb with h | ⟨h, o, e⟩ | ⟨j, ob, h1, h2, h3⟩
    · exact .inl h
    · exact .inr (.inl ⟨(pr.at_ b o h e).2, o, (pr.at_ b o h e).1⟩)
    · obtain ⟨o', e1, e2⟩ := hv _ h3
      obtain ⟨o2, e3, _, _, e4⟩ := p.mono j ob h2
      rw [e1] at e3; cases e3
      have := (e4 e2).1
      subst this
      exact .inr (.inr ⟨j, o', p.pre j b h1, e1, h3⟩)
theorem Itr.go (T : Itr c A F Wr μ s σ t I xs vers) (p : Go c F W μ s σ μ' s' σ') (N : Inv c F μ s σ) (hW : ∀ a, W a → F a ∧ ¬Wr a) (hv : VersOk σ' vers) : Itr c A F Wr μ' s' σ' t I xs vers := T.goF p N hW (fun _ h => h) (fun _ h => .inl h) hv
theorem Itr.turn (T : Itr c A F Wr μ s σ t I (x :: xs) vers) (N : Inv c F μ s σ) {Q : Value → Shared → Prop} (h : ∀ v s', Go c F Wr μ s σ μ s' σ → VR F μ s'.heap x v → Itr c A F Wr μ s' σ t I xs vers → Q v s') :
    wpAny c.M A (pyNext (.ref I)) (fun r s1 => ∃ v, r = some v ∧ wpAny c.M A (letOwnedTupleGo t (.ref I) v) (fun _ s2 => Q v s2) E s1) E s := by
  obtain ⟨wr, fp, P, St, k, R, st, hw, hf, hx⟩ := T
  refine R.turn k s _ E (by simp) st fun v h' tk hp st' kk => ?_
  have g0 : Go c F (fun b => b ∈ wr) μ s σ μ { s with heap := h', toks := tk, gens := s.gens } σ := N.step N.bare (fun b hb => ⟨(hw b hb).1, R.ex _ _ st' b hb⟩) (fun b o hb e => kk b o hb e) fun _ h => .inl h
  have g : Go c F Wr μ s σ μ { s with heap := h', toks := tk } σ := g0.weaken fun a ha => .inl (hw a ha).2
  have pr : Pres F μ s.heap F μ h' := g0.pres (fun a ha => (hw a ha).1) fun _ h => .inl h
  refine h v _ g (hx 0 x rfl F μ s.heap h' v ⟨fun _ _ n e => ⟨e, n⟩, fun _ _ e => e⟩ (fun b hb => (hw b hb).1) (fun a => N.newN) hp kk) ⟨wr, fp, P, St, k + 1, by rw [show k + 1 + xs.length = k + (x :: xs).length by simp; exact Z18]; exact R, st', hw, fun b hb => ?_, fun i y e F' μ2 h1 h2 v p2 q1 q2 q3 q4 =>
    hx (i + 1) y (by simpa using e) F' μ2 h1 h2 v (pr.trans p2) q1 q2 (by rw [show k + (i + 1) = k + 1 + i by exact Z19]; exact q3) q4⟩
  rcases hf b hb with h | ⟨h, o, e⟩ | h
  · exact .inl h
  · exact .inr (.inl ⟨h, o, (pr.at_ b o h e).1⟩)
  · exact .inr (.inr h)
theorem Go.release {F0 : Addr → Prop} {μ0 : List Addr} {s0 : Shared} {σ0 : Sto} {wr : List Addr} {h' : Heap} {tk : Nat} (p : Go c F W μ0 s0 σ0 μ s σ) (hw : ∀ b ∈ wr, F b ∧ s0.heap.get? b = none) (h0 : ∀ a, F0 a → F a ∧ a ∉ wr)
    (kk : ∀ b o, b ∉ wr → s.heap.get? b = some o → h'.get? b = some o) : Go c F0 W μ0 s0 σ0 μ { s with heap := h', toks := tk } σ ∧ Pres F μ s.heap F0 μ h' ∧ ∀ a o, F0 a → s.heap.get? a = some o → h'.get? a = some o := by
  have N := p.inv
  have hH : ∀ a, Hid F0 μ a → Hid F μ a ∧ a ∉ wr := fun a x => by
    rcases x with x | x | x
    · exact ⟨.inl (h0 a x).1, (h0 a x).2⟩
    · exact ⟨.inr (.inl x), fun m => N.fm a (hw a m).1 x⟩
    · exact ⟨.inr (.inr x), fun m => (N.ft a x).1 (hw a m).1⟩
  have pr : Pres F μ s.heap F0 μ h' := ⟨fun a o n e => ⟨kk a o (fun m => n (.inl (hw a m).1)) e, fun x => n (hH a x).1⟩, fun _ _ e => e⟩
  have kH : ∀ a, Hid F0 μ a → ∀ o, s.heap.get? a = some o → h'.get? a = some o := fun a x o e => kk a o (hH a x).2 e
  have k0 : ∀ a o, s0.heap.get? a = some o → a ∉ wr := fun a o e m => absent e (hw a m).2
  refine ⟨⟨fun a o w n t e => kk a o (k0 a o e) (p.same a o w n t e), fun a o e => let ⟨o', e'⟩ := p.ex a o e; ⟨o', kk a o' (k0 a o e) e'⟩, p.pre, p.new, fun i o e => ?_,
    ⟨fun a o e => kk a o (fun m => absent e (N.fg a (.inl (hw a m).1))) (N.keep a o e), fun a x => N.fg a (hH a x).1, fun a x => let ⟨o, e⟩ := N.flt a (hH a x).1; ⟨o, kH a x o e⟩, fun a x => N.fm a (h0 a x).1, fun a x => ⟨fun y => (N.ft a x).1 (h0 a y).1, (N.ft a x).2⟩, N.nd, N.len,
      fun i o a e1 e2 => (N.mo i o a e1 e2).pres pr (kH a (.inr (.inl (List.mem_of_getElem? e2)))), N.bare, N.os, N.lam.pres pr (kH _ (.inr (.inr (.inl rfl)))), N.gen.pres pr (kH _ (.inr (.inr (.inr rfl))))⟩⟩, pr, fun a o x e => kH a (.inl x) o e⟩
  obtain ⟨o', e1, l, ac, f⟩ := p.mono i o e
  exact ⟨o', e1, l, ac, fun q => ⟨(f q).1, fun a ob ha hb => kH a (.inr (.inl (List.mem_of_getElem? (p.pre i a ha)))) ob ((f q).2 a ob ha hb)⟩⟩
theorem Itr.done {F0 : Addr → Prop} {μ0 : List Addr} {s0 : Shared} {σ0 : Sto} (T : Itr c A F Wr μ s σ t I [] vers) (p : Go c F W μ0 s0 σ0 μ s σ) (hWr : ∀ a, Wr a → s0.heap.get? a = none) (h0 : ∀ a, F0 a → F a ∧ ¬Wr a) {Q : Option Value → Shared → Prop}
    (h : ∀ s', Go c F0 W μ0 s0 σ0 μ s' σ → Pres F μ s.heap F0 μ s'.heap → (∀ a o, F0 a → s.heap.get? a = some o → s'.heap.get? a = some o) → Q none s') : wpAny c.M A (pyNext (.ref I)) Q E s := by
  obtain ⟨wr, fp, P, St, k, R, st, hw, hf, hx⟩ := T
  refine R.done s _ E st fun h' tk kk => ?_
  obtain ⟨g, pr, k⟩ := p.release (tk := tk) (fun b m => ⟨(hw b m).1, hWr b (hw b m).2⟩) (fun a x => ⟨(h0 a x).1, fun m => (h0 a x).2 (hw a m).2⟩) kk
  exact h { s with heap := h', toks := tk } g pr k
theorem Itr.self (T : Itr c A F Wr μ s σ t I xs vers) {Q : Value → Shared → Prop} (h : Q (.ref I) s) : wpAny c.M A (pyIter (.ref I)) Q E s := by
  obtain ⟨wr, fp, P, St, k, R, st, _⟩ := T
  exact R.self k s Q E st h
end
noncomputable def SrcR (c : Cx) (n : Nat) (sc : Scope) (e t : PySem.Expr) (ρ : Ro) (σ : Sto) (xs : List AV) (vers : List (Nat × Nat)) (σ' : Sto) : Prop :=
  ∀ ⦃A : Around⦄ ⦃E : Value → Shared → Prop⦄ ⦃F : Addr → Prop⦄ ⦃μ : List Addr⦄ ⦃s : Shared⦄ ⦃env : Env⦄ ⦃Q : Value → Shared → Prop⦄, Room A n → Inv c F μ s σ → EnvR F μ s.heap env sc ρ →
    (∀ I s' μ' F' Wr, (∀ a, F' a ↔ F a ∨ Wr a) → (∀ a, Wr a → s.heap.get? a = none) → Go c F' NoW μ s σ μ' s' σ' → Itr c A F' Wr μ' s' σ' t I xs vers → Q (.ref I) s') →
    wpAny c.M A (eval e env) (fun x s1 => wpAny c.M A (pyIter x) Q E s1) E s
inductive Fl where
  | nxt | brk | cont
  | ret (v : AV)
inductive FlR (F : Addr → Prop) (μ : List Addr) (h : Heap) : Fl → Flow → Prop
  | nxt : FlR F μ h .nxt .next
  | brk : FlR F μ h .brk .brk
  | cont : FlR F μ h .cont .cont
  | ret {v : AV} {x : Value} : VR F μ h v x → FlR F μ h (.ret v) (.ret x)
noncomputable def StB (c : Cx) (n : Nat) (sc : Scope) (b : List Stmt) (ρ : Ro) (σ : Sto) (fl : Fl) (ρ' : Ro) (σ' : Sto) : Prop :=
  ∀ ⦃A : Around⦄ ⦃E : Value → Shared → Prop⦄ ⦃F : Addr → Prop⦄ ⦃μ : List Addr⦄ ⦃s : Shared⦄ ⦃env : Env⦄ ⦃Q : Flow → Shared → Prop⦄, Room A n → Inv c F μ s σ → EnvR F μ s.heap env sc ρ →
    (∀ f s' μ', Go c F (Own env sc) μ s σ μ' s' σ' → EnvR F μ' s'.heap env sc ρ' → FlR F μ' s'.heap fl f → Q f s') → wpAny c.M A (execs b env) Q E s
noncomputable def StR (c : Cx) (n : Nat) (sc : Scope) (b : Stmt) (ρ : Ro) (σ : Sto) (fl : Fl) (ρ' : Ro) (σ' : Sto) : Prop :=
  ∀ ⦃A : Around⦄ ⦃E : Value → Shared → Prop⦄ ⦃F : Addr → Prop⦄ ⦃μ : List Addr⦄ ⦃s : Shared⦄ ⦃env : Env⦄ ⦃Q : Flow → Shared → Prop⦄, Room A n → Inv c F μ s σ → EnvR F μ s.heap env sc ρ →
    (∀ f s' μ', Go c F (Own env sc) μ s σ μ' s' σ' → EnvR F μ' s'.heap env sc ρ' → FlR F μ' s'.heap fl f → Q f s') → wpAny c.M A (exec b env) Q E s
noncomputable def AsR (c : Cx) (sc : Scope) (t : PySem.Expr) (v : AV) (ρ ρ' : Ro) : Prop :=
  ∀ ⦃A : Around⦄ ⦃E : Value → Shared → Prop⦄ ⦃F : Addr → Prop⦄ ⦃μ : List Addr⦄ ⦃s : Shared⦄ ⦃σ : Sto⦄ ⦃env : Env⦄ ⦃x : Value⦄ ⦃Q : Unit → Shared → Prop⦄, A.handled = none → Inv c F μ s σ → EnvR F μ s.heap env sc ρ → VR F μ s.heap v x →
    (∀ s', Go c F (Own env sc) μ s σ μ s' σ → EnvR F μ s'.heap env sc ρ' → Q () s') → wpAny c.M A (assign t env x) Q E s
section
variable {c : Cx} {n : Nat} {sc : Scope} {ρ ρ1 ρ2 ρ3 : Ro} {σ σ1 σ2 σ3 : Sto} {st : Stmt} {b : List Stmt} {fl : Fl} {F : Addr → Prop} {μ : List Addr} {s : Shared} {env : Env} {v : AV}
theorem StB.nil : StB c n sc [] ρ σ .nxt ρ σ := fun _ _ _ _ _ _ _ _ I N q => wpAny_execs_nil (q _ _ _ (.refl I) N .nxt)
theorem StB.cons (h1 : StR c n sc st ρ σ .nxt ρ1 σ1) (h2 : StB c n sc b ρ1 σ1 fl ρ2 σ2) : StB c n sc (st :: b) ρ σ fl ρ2 σ2 := fun _ _ _ _ _ _ _ rm I N q =>
  wpAny_execs_cons (h1 rm I N fun f s1 μ1 p1 N1 r1 => by
    cases r1
    exact h2 rm p1.inv N1 fun f s2 μ2 p2 N2 r2 => q _ _ _ (p1.trans p2) N2 r2)
theorem StB.stop (h1 : StR c n sc st ρ σ fl ρ1 σ1) (hf : fl ≠ .nxt) : StB c n sc (st :: b) ρ σ fl ρ1 σ1 := fun _ _ _ _ _ _ _ rm I N q =>
  wpAny_execs_cons (h1 rm I N fun f s1 μ1 p1 N1 r1 => by
    cases r1 with
    | nxt => exact absurd rfl hf
    | brk => exact q _ _ _ p1 N1 .brk
    | cont => exact q _ _ _ p1 N1 .cont
    | ret r => exact q _ _ _ p1 N1 (.ret r))
end
end Mine
namespace Mine
open PySem PySem.Calls PyProof.Rows PySem.W
theorem lookup_put {x : Str} {v : AV} : ∀ {ρ : Ro} {y : Str}, (put x v ρ).lookup y = if y = x then some v else ρ.lookup y
  | [], y => by
    unfold put
    rw [List.lookup_cons, List.lookup_nil]
    by_cases h : y = x
    · rw [if_pos h, beq_iff_eq.mpr h]
    · rw [if_neg h, beq_eq_false_iff_ne.mpr h]
  | (z, w) :: r, y => by
    unfold put
    by_cases h : x = z
    · subst h
      rw [if_pos (beq_self_eq_true _), List.lookup_cons, List.lookup_cons]
      by_cases h : y = x
      · rw [if_pos h, beq_iff_eq.mpr h]
      · rw [if_neg h, beq_eq_false_iff_ne.mpr h]
    · rw [if_neg (by simpa using h), List.lookup_cons, List.lookup_cons, lookup_put]
      by_cases hy : y = z
      · subst hy
        rw [beq_self_eq_true]
        exact (if_neg (Ne.symm h)).symm
      · rw [beq_eq_false_iff_ne.mpr hy]
section
variable {c : Cx} {n : Nat} {sc : Scope} {ρ ρ1 ρ2 ρ3 : Ro} {σ σ1 σ2 σ3 : Sto} {st : Stmt} {b : List Stmt} {fl : Fl} {v : AV} {e t : PySem.Expr} {pos : Pos}
theorem store_ok {x : Str} {y : Value} {M : Model} {A : Around} {E : Value → Shared → Prop} {F : Addr → Prop} {μ : List Addr} {s : Shared} {env : Env} {Q : Unit → Shared → Prop} (I : Inv c F μ s σ) (N : EnvR F μ s.heap env sc ρ) (hx : sc.names.lookup x = some .local ∨ sc.names.lookup x = some .cell) (r : VR F μ s.heap v y)
    (h : ∀ s', Go c F (Own env sc) μ s σ μ s' σ → EnvR F μ s'.heap env sc (put x v ρ) → Q () s') : wpAny M A (storeName env x y) Q E s := by
  rcases hx with hk | hk
  · have hx : env.kindOf x = some .local := (N.kinds x _ hk).resolve_right fun q => absurd q.1 (by decide)
    obtain ⟨m, hn, hm⟩ := N.ns
    refine wpAny_storeName_local hx hn (fun h' hn' hs => ?_) (by rw [N.kind]; rfl)
    have kp : ∀ b o, b ≠ env.locals → s.heap.get? b = some o → h'.get? b = some o := fun b o q e => (hs.2 b q).trans e
    have g : Go c F (Own env sc) μ s σ μ { s with heap := h', toks := s.toks + 1, gens := s.gens } σ := I.step I.bare (fun a ha => ⟨N.own ha, (Classical.em (a = env.locals)).elim (fun q => by obtain ⟨o, _, _, e, _⟩ := hn'; exact ⟨o, q ▸ e⟩) fun q => let ⟨o, e⟩ := I.flt a (.inl (N.own ha)); ⟨o, kp a o q e⟩⟩)
      (fun b o nb e => kp b o (fun q => nb (.inl q)) e) fun _ h => .inl h
    have pr : Pres F μ s.heap F μ h' := g.pres (fun a => N.own) fun _ h => .inl h
    refine h _ g ⟨N.kind, N.kinds, N.glob, N.bns, N.loc, ⟨_, hn', fun z u h1 h2 => ?_⟩, fun z hz => ?_, N.inj, N.tag⟩
    · rw [lookup_put] at h1
      by_cases q : z = x
      · rw [if_pos q] at h1
        cases h1
        exact ⟨y, if_pos q, r.pres pr⟩
      · rw [if_neg q] at h1
        obtain ⟨u', a, b⟩ := hm z u h1 h2
        exact ⟨u', (if_neg q).trans a, b.pres pr⟩
    · obtain ⟨cc, cv, e1, e2, e3, e4, e5⟩ := N.cell z hz
      refine ⟨cc, cv, e1, e2, e3, e4.sameBut hs e3, fun u h1 => ?_⟩
      rw [lookup_put, if_neg (fun q => by
        have hx' : env.scope.names.lookup x = some .local := hx
        rw [q, hx'] at hz
        rcases hz with hz | hz <;> cases hz)] at h1
      obtain ⟨u', a, b⟩ := e5 u h1
      exact ⟨u', a, b.pres pr⟩
  · have hx : env.kindOf x = some .cell := (N.kinds x _ hk).resolve_right fun q => absurd q.1 (by decide)
    obtain ⟨cx, cv, e1, e2, e3, e4, e5⟩ := N.cell x (.inl hx)
    refine wpAny_storeName_cell N.kind hx e1 e4 fun h' hc' hs => ?_
    have kp : ∀ b o, b ≠ cx → s.heap.get? b = some o → h'.get? b = some o := fun b o q e => (hs.2 b q).trans e
    have g : Go c F (Own env sc) μ s σ μ { s with heap := h', toks := s.toks, gens := s.gens } σ := I.step I.bare (fun a ha => ⟨N.own ha, (Classical.em (a = cx)).elim (fun q => by obtain ⟨o, e, _⟩ := hc'; exact ⟨o, q ▸ e⟩) fun q => let ⟨o, e⟩ := I.flt a (.inl (N.own ha)); ⟨o, kp a o q e⟩⟩)
      (fun b o nb e => kp b o (fun q => nb (.inr ⟨x, hk, q ▸ e1⟩)) e) fun _ h => .inl h
    have pr : Pres F μ s.heap F μ h' := g.pres (fun a => N.own) fun _ h => .inl h
    obtain ⟨m, hn, hm⟩ := N.ns
    refine h _ g ⟨N.kind, N.kinds, N.glob, N.bns, N.loc, ⟨m, hn.sameBut hs (Ne.symm e3), fun z u h1 h2 => ?_⟩, fun z hz => ?_, N.inj, N.tag⟩
    · rw [lookup_put, if_neg (fun q => by
        have hx' : env.scope.names.lookup x = some .cell := hx
        rw [q, hx'] at h2; cases h2)] at h1
      obtain ⟨u', a, b⟩ := hm z u h1 h2
      exact ⟨u', a, b.pres pr⟩
    · by_cases q : z = x
      · subst q
        refine ⟨cx, some y, e1, e2, e3, hc', fun u h1 => ?_⟩
        rw [lookup_put, if_pos rfl] at h1
        cases h1
        exact ⟨y, rfl, r.pres pr⟩
      · obtain ⟨cz, cvz, f1, f2, f3, f4, f5⟩ := N.cell z hz
        refine ⟨cz, cvz, f1, f2, f3, f4.sameBut hs fun q2 => q (N.inj z x cx (q2 ▸ f1) e1), fun u h1 => ?_⟩
        rw [lookup_put, if_neg q] at h1
        obtain ⟨u', a, b⟩ := f5 u h1
        exact ⟨u', a, b.pres pr⟩
theorem AsR.name {x : Str} (hx : sc.names.lookup x = some .local ∨ sc.names.lookup x = some .cell) : AsR c sc (.Name x pos) v ρ (put x v ρ) := fun _ _ _ _ _ _ _ _ _ _ I N r q => wpAny_assign_Name (store_ok I N hx r q)
noncomputable def AsL (c : Cx) (sc : Scope) (ts : List PySem.Expr) (vs : List AV) (ρ ρ' : Ro) : Prop :=
  ∀ ⦃A : Around⦄ ⦃E : Value → Shared → Prop⦄ ⦃F : Addr → Prop⦄ ⦃μ : List Addr⦄ ⦃s : Shared⦄ ⦃σ : Sto⦄ ⦃env : Env⦄ ⦃ys : List Value⦄ ⦃Q : Unit → Shared → Prop⦄, A.handled = none → Inv c F μ s σ → EnvR F μ s.heap env sc ρ → VRs F μ s.heap vs ys →
    (∀ s', Go c F (Own env sc) μ s σ μ s' σ → EnvR F μ s'.heap env sc ρ' → Q () s') → wpAny c.M A (assignInOrder ((assignEach ts env).map (·.2)) ys) Q E s
theorem AsL.nil : AsL c sc [] [] ρ ρ := fun _ _ _ _ _ _ _ _ _ _ I N r q => by obtain rfl := r.nil_inv; exact wpAny_pure (q _ (.refl I) N)
theorem AsL.cons {ts : List PySem.Expr} {vs : List AV} (h1 : AsR c sc t v ρ ρ1) (h2 : AsL c sc ts vs ρ1 ρ2) (hs : ∀ env, assignEach (t :: ts) env = (false, assign t env) :: assignEach ts env) : AsL c sc (t :: ts) (v :: vs) ρ ρ2 := by
  intro A E F μ s σ env ys Q hh I N r q
  obtain ⟨y, ws, rfl, r1, r2⟩ := r.cons_inv
  rw [hs]
  refine wpAny_bind (wpAny_holding (h1 hh I N r1 fun s1 p1 N1 => h2 hh p1.inv N1 (r2.pres (p1.pres (fun a => N.own) fun _ h => .inl h)) fun s2 p2 N2 => q _ (p1.trans p2) N2))
theorem AsR.tup {ts : List PySem.Expr} {vs : List AV} {k : Nat} (h : AsL c sc ts vs ρ ρ1) (hl : ∀ env, (assignEach ts env).length = vs.length ∧ (assignEach ts env).findIdx? (·.1) = none) : AsR c sc (.Tuple ts k pos) (.tup vs) ρ ρ1 := by
  intro A E F μ s σ env x Q hh I N r q
  obtain ⟨ad, ys, rfl, _, ht, _, rs⟩ := r.tup_inv
  refine wpAny_assign_Tuple hh ht (by rw [(hl env).1, List.size_toArray, rs.len]) (hl env).2 fun h' he => ?_
  have k : Kp s { s with heap := h' } := fun b o e => he b o (fun q => absent (q ▸ e) (fresh_at _)) e
  have g : Go c F (Own env sc) μ s σ μ { s with heap := h', toks := s.toks } σ := I.grow k
  exact h hh g.inv (N.pres k.pres N.mem fun a o _ e => k a o e) (rs.pres k.pres) fun s2 p2 N2 => q _ (g.trans p2) N2
noncomputable def LoopB (c : Cx) (n : Nat) (sc : Scope) (t : PySem.Expr) (b : List Stmt) (ρ : Ro) (σ : Sto) (xs : List AV) (vers : List (Nat × Nat)) (fl : Fl) (ρ' : Ro) (σ' : Sto) : Prop :=
  ∀ ⦃A : Around⦄ ⦃F F0 Wr : Addr → Prop⦄ ⦃μ0 μ : List Addr⦄ ⦃s0 s : Shared⦄ ⦃σ0 : Sto⦄ ⦃env : Env⦄ ⦃I : Addr⦄ ⦃R : Result → Shared → Prop⦄, Room A n → (∀ a, F a ↔ F0 a ∨ Wr a) → (∀ a, Wr a → s0.heap.get? a = none) → (∀ a, F0 a → ¬Wr a) →
    (∀ a, Mem env a → F0 a) →
    Go c F (fun a => Own env sc a ∨ Wr a) μ0 s0 σ0 μ s σ → EnvR F μ s.heap env sc ρ → Itr c A F Wr μ s σ t I xs vers →
    (∀ f s' μ', Go c F0 (Own env sc) μ0 s0 σ0 μ' s' σ' → EnvR F0 μ' s'.heap env sc ρ' → FlR F0 μ' s'.heap fl f → R (.ok f) s') → codeAny c.M A (.forLoop t (.ref I) b [] env) R s
noncomputable abbrev TurnQ (c : Cx) (A : Around) (t : PySem.Expr) (b : List Stmt) (env : Env) (it : Value) (R : Result → Shared → Prop) (E : Value → Shared → Prop) (x : Value) (s2 : Shared) : Prop :=
  wpAny c.M A (assign t env x) (fun _ s3 => wpAny c.M A (execs b env) (fun f s4 => match f with
          | .next | .cont => codeAny c.M A (.forLoop t it b [] env) R s4
          | .brk => R (.ok .next) s4
          | .ret v => R (.ok (.ret v)) s4) E s3) E s2
theorem forLoop_step {it : Value} {A : Around} {env : Env} {s : Shared} {R : Result → Shared → Prop}
    (h : ∀ E : Value → Shared → Prop, wpAny c.M A (pyNext it) (fun r s1 => (r = none ∧ R (.ok .next) s1) ∨ ∃ x, r = some x ∧ wpAny c.M A (letOwnedTupleGo t it x) (fun _ s2 => TurnQ c A t b env it R E x s2) E s1) E s) : codeAny c.M A (.forLoop t it b [] env) R s := by
  refine codeAny_of_tree ?_
  rw [Around.under_of_weight (c := .forLoop t it b [] env) rfl rfl]
  show wpAny _ _ ((forTurn t it b [] env).onRaise (fun x => do noteFrame x env; theTreesLotGoes x)) _ _ s
  refine wpAny_noted ?_
  simp only [forTurn]
  refine wpAny_bind (wpAny_standAt (wpAny_bind (wpAny_onRaise (wpAny_mono (h _) (fun r s₁ h₁ => ?_) fun _ _ h' => wpAny_standAt h'))))
  rcases h₁ with ⟨rfl, h₁⟩ | ⟨x, rfl, h₁⟩
  · exact wpAny_pure ⟨rfl, codeAny_block (wpAny_execs_nil h₁)⟩
  · refine wpAny_bind (wpAny_mono h₁ (fun _ s₂ h₂ => wpAny_bind (wpAny_mono h₂ (fun _ s₃ h₃ => wpAny_bind (wpAny_mono h₃ (fun f s₄ h₄ => ?_) fun _ _ h' => h')) fun _ _ h' => h')) fun _ _ h' => h')
    cases f with
    | next => exact wpAny_pure ⟨rfl, h₄⟩
    | cont => exact wpAny_pure ⟨rfl, h₄⟩
    | brk => exact wpAny_pure h₄
    | ret v => exact wpAny_pure h₄
theorem Go.less {F F0 W : Addr → Prop} {μ μ' : List Addr} {s s' : Shared} (p : Go c F W μ s σ μ' s' σ1) (h : ∀ a, F0 a → F a) : Go c F0 W μ s σ μ' s' σ1 := ⟨p.same, p.ex, p.pre, p.new, p.mono, p.inv.less h⟩
theorem Go.sameF {F W : Addr → Prop} {μ μ' : List Addr} {s s' : Shared} (p : Go c F W μ s σ μ' s' σ1) (I : Inv c F μ s σ) {a : Addr} {o : Obj} (hf : F a) (hw : ¬W a) (e : s.heap.get? a = some o) : s'.heap.get? a = some o := p.same a o hw (I.fm a hf) (fun t => (I.ft a t).1 hf) e
variable {x : AV} {xs : List AV} {vers : List (Nat × Nat)} {fl1 : Fl}
theorem LoopB.nil : LoopB c n sc t b ρ σ [] vers .nxt ρ σ := by
  intro A F F0 Wr μ0 μ s0 s σ0 env I R rm hF hW hd hM p N T q
  refine forLoop_step fun E => ?_
  refine wpAny_mono (T.done (F0 := F0) p hW (fun a x => ⟨(hF a).2 (.inl x), hd a x⟩) (Q := fun r s' => r = none ∧ R (.ok .next) s') fun s' g pr k => ⟨rfl, q _ _ _ (g.weaken fun a x => x.imp id (hW a)) (N.pres pr hM fun a o m e => k a o (hM a m) e) .nxt⟩) (fun r s1 h => .inl h) fun _ _ x => x
theorem loop_turn {A : Around} {F F0 Wr : Addr → Prop} {μ0 μ : List Addr} {s0 s : Shared} {σ0 : Sto} {env : Env} {I : Addr} {R : Result → Shared → Prop} (h1 : AsR c sc t x ρ ρ1) (h2 : StB c n sc b ρ1 σ fl1 ρ2 σ1) (rm : Room A n) (hF : ∀ a, F a ↔ F0 a ∨ Wr a) (hd : ∀ a, F0 a → ¬Wr a) (hM : ∀ a, Mem env a → F0 a)
    (p : Go c F (fun a => Own env sc a ∨ Wr a) μ0 s0 σ0 μ s σ) (N : EnvR F μ s.heap env sc ρ) (T : Itr c A F Wr μ s σ t I (x :: xs) vers)
    (q : ∀ f s3 μ3, Go c F (fun a => Own env sc a ∨ Wr a) μ0 s0 σ0 μ3 s3 σ1 → EnvR F μ3 s3.heap env sc ρ2 → FlR F μ3 s3.heap fl1 f → (VersOk σ1 vers → Itr c A F Wr μ3 s3 σ1 t I xs vers) → match f with
      | .next | .cont => codeAny c.M A (.forLoop t (.ref I) b [] env) R s3
      | .brk => R (.ok .next) s3
      | .ret v => R (.ok (.ret v)) s3) : codeAny c.M A (.forLoop t (.ref I) b [] env) R s := by
  have hWF : ∀ a, Wr a → F a := fun a h => (hF a).2 (.inr h)
  refine forLoop_step fun E => wpAny_mono (T.turn (Q := TurnQ c A t b env (.ref I) R E) p.inv fun v s1 g1 rv T1 => ?_) (fun r s1 h => .inr h) fun _ _ x => x
  have N1 : EnvR F μ s1.heap env sc ρ := N.pres (g1.pres hWF fun _ h => .inl h) N.mem fun a o m e => g1.sameF p.inv (N.mem a m) (hd a (hM a m)) e
  refine h1 rm.hh g1.inv N1 rv fun s2 g2 N2 => h2 rm g2.inv N2 fun f s3 μ3 g3 N3 r3 => ?_
  have g23 := g2.trans g3
  exact q f s3 μ3 ((p.trans (g1.weaken fun a h => .inl (.inr h))).trans (g23.weaken fun a h => .inl (.inl h))) N3 r3 fun hv => T1.go g23 g1.inv (fun a h => ⟨N.own h, hd a (hM a (by
    rcases h with h | ⟨y, h, h'⟩
    · exact .inl h
    · exact .inr ⟨y, .inl ((N.kinds y _ h).resolve_right fun q => absurd q.1 (by decide)), h'⟩))⟩) hv
theorem LoopB.cons (h1 : AsR c sc t x ρ ρ1) (h2 : StB c n sc b ρ1 σ fl1 ρ2 σ1) (hf : fl1 = .nxt ∨ fl1 = .cont) (hv : VersOk σ1 vers) (h3 : LoopB c n sc t b ρ2 σ1 xs vers fl ρ3 σ2) : LoopB c n sc t b ρ σ (x :: xs) vers fl ρ3 σ2 := by
  intro A F F0 Wr μ0 μ s0 s σ0 env I R rm hF hW hd hM p N T q
  refine loop_turn h1 h2 rm hF hd hM p N T fun f s3 μ3 p3 N3 r3 T3 => ?_
  have fin := h3 rm hF hW hd hM p3 N3 (T3 hv) q
  rcases hf with rfl | rfl <;> cases r3 <;> exact fin
theorem LoopB.brk (h1 : AsR c sc t x ρ ρ1) (h2 : StB c n sc b ρ1 σ .brk ρ2 σ1) : LoopB c n sc t b ρ σ (x :: xs) vers .nxt ρ2 σ1 := by
  intro A F F0 Wr μ0 μ s0 s σ0 env I R rm hF hW hd hM p N T q
  refine loop_turn h1 h2 rm hF hd hM p N T fun f s3 μ3 p3 N3 r3 _ => ?_
  cases r3
  exact q _ _ _ ((p3.less fun a h => (hF a).2 (.inl h)).weaken fun a x => x.imp id (hW a)) (N3.pres (.less fun a h => (hF a).2 (.inl h)) hM fun _ _ _ e => e) .nxt
theorem LoopB.ret (h1 : AsR c sc t x ρ ρ1) (h2 : StB c n sc b ρ1 σ (.ret v) ρ2 σ1) : LoopB c n sc t b ρ σ (x :: xs) vers (.ret v) ρ2 σ1 := by
  intro A F F0 Wr μ0 μ s0 s σ0 env I R rm hF hW hd hM p N T q
  refine loop_turn h1 h2 rm hF hd hM p N T fun f s3 μ3 p3 N3 r3 _ => ?_
  cases r3 with | ret r => exact q _ _ _ ((p3.less fun a h => (hF a).2 (.inl h)).weaken fun a x => x.imp id (hW a)) (N3.pres (.less fun a h => (hF a).2 (.inl h)) hM fun _ _ _ e => e) (.ret (r.pres (.less fun a h => (hF a).2 (.inl h))))
theorem StR.for {it : PySem.Expr} (h : SrcR c n sc it t ρ σ xs vers σ1) (hl : LoopB c n sc t b ρ σ1 xs vers fl ρ1 σ2) (hs : ∀ env x, foldedSetIterable it env x = pure x) : StR c n sc (.For t it b [] pos) ρ σ fl ρ1 σ2 := by
  intro A E F μ s env Q rm I N q
  refine wpAny_For (h rm I N fun J s' μ' F' Wr hF hWr g T => ?_) (hs env)
  have hd : ∀ a, F a → ¬Wr a := fun a x y => let ⟨_, e⟩ := I.flt a (.inl x); absent e (hWr a y)
  exact hl rm hF hWr hd N.mem (g.weaken fun _ h => h.elim) (N.pres (g.pres (fun _ h => h.elim) fun a x => ((hF a).1 x).imp id (hWr a)) (fun a m => (hF a).2 (.inl (N.mem a m))) fun a o m e => g.same a o (fun h => h) (I.fm a (N.mem a m)) (fun t => (I.ft a t).1 (N.mem a m)) e) T q
end
end Mine
namespace Mine
open PySem PySem.Calls PyProof.Rows PySem.W
section
variable {c : Cx} {n : Nat} {sc : Scope} {ρ ρ1 ρ2 ρ3 : Ro} {σ σ1 σ2 σ3 : Sto} {b b2 : List Stmt} {fl fl1 : Fl} {v : AV} {e t : PySem.Expr} {pos : Pos} {k : Bool}
theorem Go.own {F W : Addr → Prop} {μ μ' : List Addr} {s s' : Shared} (p : Go c F NoW μ s σ μ' s' σ1) : Go c F W μ s σ μ' s' σ1 := p.weaken fun _ h => h.elim
theorem StR.if (h : IsT c n sc e ρ σ k σ1) (h2 : StB c n sc (if k then b else b2) ρ σ1 fl ρ1 σ2) : StR c n sc (.If e b b2 pos) ρ σ fl ρ1 σ2 := by
  intro A E F μ s env Q rm I N q
  refine wpAny_If (h rm I N fun s' μ' p => ?_)
  have := h2 (E := E) rm p.inv (N.go I p) fun f s2 μ2 p2 N2 r => q f s2 μ2 (p.own.trans p2) N2 r
  cases k <;> exact this
theorem StR.ret (h : EvE c n sc e ρ σ v σ1) : StR c n sc (.Return (some e) pos) ρ σ (.ret v) ρ σ1 := fun _ _ _ _ _ _ _ rm I N q =>
  wpAny_Return_some (h rm I N fun x s' μ' p r => q _ _ _ p.own (N.go I p) (.ret r))
theorem StR.expr (h : EvE c n sc e ρ σ v σ1) (hs : ∀ env, swapsWith e none pos.line env = pure false) : StR c n sc (.Expr e pos) ρ σ .nxt ρ σ1 := by
  intro A E F μ s env Q rm I N q
  rw [exec_Expr env e pos (by unfold interactive; rw [N.kind]; rfl) (hs env)]
  exact wpAny_bind (wpAny_standAt (wpAny_bind (h rm I N fun x s' μ' p r => wpAny_dropValue (q _ _ _ p.own (N.go I p) .nxt))))
theorem StR.assign (h : EvE c n sc e ρ σ v σ1) (ha : AsR c sc t v ρ ρ1) (he : ∀ env, assignEach [t] env = [(false, assign t env)]) (hs : ∀ env, swapsWithSole [t] e pos.line env = pure false) (hw : ∀ env, swappedStores [t] e env = pure none) :
    StR c n sc (.Assign [t] e pos) ρ σ .nxt ρ1 σ1 := by
  intro A E F μ s env Q rm I N q
  refine wpAny_Assign_stores (h rm I N fun x s' μ' p r => ?_) (hs env) (hw env)
  rw [he]
  exact ha rm.hh p.inv (N.go I p) r fun s2 p2 N2 => q _ _ _ (p.own.trans p2) N2 .nxt
noncomputable def WhB (c : Cx) (n : Nat) (sc : Scope) (e : PySem.Expr) (b : List Stmt) (ρ : Ro) (σ : Sto) (fl : Fl) (ρ' : Ro) (σ' : Sto) : Prop :=
  ∀ ⦃A : Around⦄ ⦃F : Addr → Prop⦄ ⦃μ : List Addr⦄ ⦃s : Shared⦄ ⦃env : Env⦄ ⦃R : Result → Shared → Prop⦄, Room A n → Inv c F μ s σ → EnvR F μ s.heap env sc ρ →
    (∀ f s' μ', Go c F (Own env sc) μ s σ μ' s' σ' → EnvR F μ' s'.heap env sc ρ' → FlR F μ' s'.heap fl f → R (.ok f) s') → codeAny c.M A (.whileLoop e b [] env) R s
theorem while_step {A : Around} {env : Env} {s : Shared} {R : Result → Shared → Prop}
    (h : ∀ E : Value → Shared → Prop, wpAny c.M A (isTrue e env (eval e env)) (fun k s1 => (k = false ∧ R (.ok .next) s1) ∨ (k = true ∧ wpAny c.M A (execs b env) (fun f s4 => match f with
          | .next | .cont => codeAny c.M A (.whileLoop e b [] env) R s4
          | .brk => R (.ok .next) s4
          | .ret v => R (.ok (.ret v)) s4) E s1)) E s) : codeAny c.M A (.whileLoop e b [] env) R s := by
  refine codeAny_of_tree ?_
  rw [Around.under_of_weight (c := .whileLoop e b [] env) rfl rfl]
  show wpAny _ A ((whileTurn e b [] env).onRaise (fun x => do noteFrame x env; theTreesLotGoes x)) _ _ s
  refine wpAny_noted ?_
  simp only [whileTurn]
  refine wpAny_bind (wpAny_mono (h _) (fun k s₂ h₂ => ?_) fun _ _ h' => h')
  rcases h₂ with ⟨rfl, h₂⟩ | ⟨rfl, h₂⟩
  · exact wpAny_bind (wpAny_execs_nil (wpAny_pure h₂))
  · refine wpAny_bind (wpAny_mono h₂ (fun f s₃ h₃ => ?_) fun _ _ h' => h')
    cases f with
    | next => exact wpAny_pure ⟨rfl, h₃⟩
    | cont => exact wpAny_pure ⟨rfl, h₃⟩
    | brk => exact wpAny_pure h₃
    | ret v => exact wpAny_pure h₃
theorem WhB.stop (h : IsT c n sc e ρ σ false σ1) : WhB c n sc e b ρ σ .nxt ρ σ1 := fun A F μ s env R rm I N q =>
  while_step fun E => h rm I N fun s' μ' p => .inl ⟨rfl, q _ _ _ p.own (N.go I p) .nxt⟩
theorem WhB.on (h : IsT c n sc e ρ σ true σ1) (h2 : StB c n sc b ρ σ1 fl1 ρ1 σ2) (hf : fl1 = .nxt ∨ fl1 = .cont) (h3 : WhB c n sc e b ρ1 σ2 fl ρ2 σ3) : WhB c n sc e b ρ σ fl ρ2 σ3 := fun A F μ s env R rm I N q =>
  while_step fun E => h rm I N fun s' μ' p => .inr ⟨rfl, h2 rm p.inv (N.go I p) fun f s2 μ2 p2 N2 r2 => by
    have fin := h3 rm p2.inv N2 fun f s3 μ3 p3 N3 r3 => q f s3 μ3 ((p.own.trans p2).trans p3) N3 r3
    rcases hf with rfl | rfl <;> cases r2 <;> exact fin⟩
theorem WhB.ret (h : IsT c n sc e ρ σ true σ1) (h2 : StB c n sc b ρ σ1 (.ret v) ρ1 σ2) : WhB c n sc e b ρ σ (.ret v) ρ1 σ2 := fun A F μ s env R rm I N q =>
  while_step fun E => h rm I N fun s' μ' p => .inr ⟨rfl, h2 rm p.inv (N.go I p) fun f s2 μ2 p2 N2 r2 => by
    cases r2 with | ret r => exact q _ _ _ (p.own.trans p2) N2 (.ret r)⟩
theorem StR.while (h : WhB c n sc e b ρ σ fl ρ1 σ1) : StR c n sc (.While e b [] pos) ρ σ fl ρ1 σ1 := fun _ _ _ _ _ _ _ rm I N q => wpAny_While (h rm I N q)
end
end Mine
namespace Mine
open PySem PySem.Calls PyProof.Rows PySem.W
section
variable {c : Cx} {n : Nat} {sc : Scope} {ρ : Ro} {σ σ1 : Sto} {a : AV} {e t : PySem.Expr} {xs : List AV} {vers : List (Nat × Nat)}
theorem keep_pres {F : Addr → Prop} {μ : List Addr} {h h' : Heap} {wr : List Addr} (hw : ∀ b ∈ wr, F b) (k : ∀ b o, b ∉ wr → h.get? b = some o → h'.get? b = some o) : Pres F μ h F μ h' :=
  ⟨fun b o n e => ⟨k b o (fun m => n (.inl (hw b m))) e, n⟩, fun _ _ e => e⟩
theorem itr_new {A : Around} {F : Addr → Prop} {μ μ1 : List Addr} {s s1 : Shared} {h' : Heap} {I : Addr} {wr fp : List Addr} {P : Nat → Heap → Heap → Value → Prop} {St : Nat → Heap → Prop} {Q : Value → Shared → Prop} {tk : Nat} (p1 : Go c F NoW μ s σ μ1 s1 σ1) (kp : Kp s1 { s1 with heap := h', toks := tk })
    (hw : ∀ b ∈ wr, s1.heap.get? b = none) (R : Run c A t I wr fp xs.length P St) (st : St 0 h') (hf : ∀ b ∈ fp, b ∈ wr ∨ (¬Hid F μ1 b ∧ ∃ o, s1.heap.get? b = some o) ∨ ∃ j o, μ1[j]? = some b ∧ σ1[j]? = some o ∧ (j, o.ver) ∈ vers)
    (hx : ∀ (i : Nat) (x : AV), xs[i]? = some x → ∀ (F' : Addr → Prop) (μ' : List Addr) (h h2 : Heap) (v : Value), Pres F μ1 s1.heap F' μ' h → Pres F' μ' h F' μ' h2 → (∀ a, h.get? a = none → ¬Hid F' μ' a) → P i h h2 v → VR F' μ' h2 x v)
    (q : ∀ I s' μ' F' Wr, (∀ a, F' a ↔ F a ∨ Wr a) → (∀ a, Wr a → s.heap.get? a = none) → Go c F' NoW μ s σ μ' s' σ1 → Itr c A F' Wr μ' s' σ1 t I xs vers → Q (.ref I) s') : Q (.ref I) { s1 with heap := h', toks := tk } := by
  have ex := R.ex 0 h' st
  have g : Go c (fun a => F a ∨ a ∈ wr) NoW μ1 s1 σ1 μ1 { s1 with heap := h', toks := tk, gens := s1.gens } σ1 := p1.inv.step p1.inv.bare (fun _ h => h.elim) (fun b o _ e => kp b o e) fun a h => h.imp id fun m => ⟨hw a m, ex a m⟩
  have pr : Pres F μ1 s1.heap (fun a => F a ∨ a ∈ wr) μ1 h' := g.pres (fun _ h => h.elim) fun a h => h.imp id (hw a)
  refine q I _ μ1 (fun a => F a ∨ a ∈ wr) (fun a => a ∈ wr) (fun _ => .rfl) (fun a m => ?_) (p1.trans g) ⟨wr, fp, P, St, 0, by rw [Nat.zero_add]; exact R, st, fun b m => ⟨.inr m, m⟩, fun b hb => ?_, fun i x e F' μ' h h2 v p2 q1 q2 q3 q4 => hx i x e F' μ' h h2 v (pr.trans p2) (keep_pres q1 q4) q2 (by rw [Nat.zero_add] at q3; exact q3)⟩
  · cases e : s.heap.get? a with
    | none => rfl
    | some o => obtain ⟨o', e'⟩ := p1.ex a o e; exact absent e' (hw a m)
  · rcases hf b hb with h | ⟨h, o, e⟩ | h
    · exact .inl h
    · exact .inr (.inl ⟨(pr.at_ b o h e).2, o, (pr.at_ b o h e).1⟩)
    · exact .inr (.inr h)
noncomputable def LsR (σ : Sto) (a : AV) (xs : List AV) (vers : List (Nat × Nat)) : Prop := (a = .lst xs ∧ vers = []) ∨ ∃ i v, a = .mref i ∧ σ[i]? = some ⟨v, none, xs⟩ ∧ vers = [(i, v)]
theorem ls_ok {F : Addr → Prop} {μ : List Addr} {s : Shared} {x : Value} (I : Inv c F μ s σ) (h : LsR σ a xs vers) (r : VR F μ s.heap a x) : ∃ l vs, x = .ref l ∧ PList s.heap l vs ∧ VRs F μ s.heap xs vs ∧
    ((¬Hid F μ l ∧ ∃ o, s.heap.get? l = some o) ∨ ∃ j o, μ[j]? = some l ∧ σ[j]? = some o ∧ (j, o.ver) ∈ vers) := by
  rcases h with ⟨rfl, rfl⟩ | ⟨i, v, rfl, h, rfl⟩
  · obtain ⟨l, vs, rfl, hn, ⟨m, e⟩, _, rs⟩ := r.lst_inv
    exact ⟨l, vs, rfl, ⟨m, e⟩, rs, .inl ⟨hn, _, e⟩⟩
  · obtain ⟨l, rfl, hl⟩ := r.mref_inv
    obtain ⟨_, vs, m, rs, e, _⟩ := I.mo i _ l h hl
    exact ⟨l, vs, rfl, ⟨m, e rfl⟩, rs, .inr ⟨i, _, hl, h, .head _⟩⟩
theorem SrcR.seq (h : EvE c n sc e ρ σ a σ1) (hl : LsR σ1 a xs vers) : SrcR c n sc e t ρ σ xs vers σ1 := by
  intro A E F μ s env Q rm I N q
  refine h rm I N fun x s1 μ1 p1 r1 => ?_
  obtain ⟨l, vs, rfl, pl, rs, hf⟩ := ls_ok p1.inv hl r1
  have hne : l ≠ s1.heap.objs.size := fun w => by obtain ⟨m, e⟩ := pl; exact absent e (w ▸ fresh_at _)
  refine wpAny_pyIter_list pl.isList ?_
  have hn : vs.toArray.size = xs.length := rs.len.symm
  have R := Run.of (c := c) (t := t) (Walks.list (prog := c.prog) (w := c.w) rm.hh s1.heap.objs.size l hne vs.toArray) (fun i h st b m => by rw [List.mem_singleton.mp m]; obtain ⟨⟨o, e, _⟩, _⟩ := st; exact ⟨o, e⟩) fun i h st => by obtain ⟨⟨o, e, e2, _⟩, _⟩ := st; exact ⟨o, _, e, e2, by decide⟩
  refine itr_new (wr := [s1.heap.objs.size]) (fp := [s1.heap.objs.size, l]) (tk := s1.toks) p1 (.push _) (fun b m => by rw [List.mem_singleton.mp m]; exact fresh_at _) (hn ▸ R)
    ⟨⟨_, Heap.get?_push_size _ rfl, rfl, rfl⟩, pl.isList.push _⟩ (fun b m => ?_) (fun i x e F' μ' h h2 v pr pr2 _ hp => ((rs.at_ i x v e (by simpa using hp)).pres pr).pres pr2) q
  · rcases List.mem_cons.mp m with rfl | m
    · exact .inl (.head _)
    · rw [List.mem_singleton.mp m]; exact .inr hf
theorem SrcR.tup (h : EvE c n sc e ρ σ (.tup xs) σ1) : SrcR c n sc e t ρ σ xs [] σ1 := by
  intro A E F μ s env Q rm I N q
  refine h rm I N fun x s1 μ1 p1 r1 => ?_
  obtain ⟨l, vs, rfl, hd, pl, _, rs⟩ := r1.tup_inv
  have hne : l ≠ s1.heap.objs.size := fun w => by obtain ⟨o, e, _⟩ := pl; exact absent e (w ▸ fresh_at _)
  refine wpAny_pyIter_tuple pl ?_
  have hn : vs.toArray.size = xs.length := rs.len.symm
  have R := Run.of (c := c) (t := t) (Walks.tuple (prog := c.prog) (w := c.w) rm.hh s1.heap.objs.size l hne vs.toArray) (fun i h st b m => by rw [List.mem_singleton.mp m]; obtain ⟨⟨o, e, _⟩, _⟩ := st; exact ⟨o, e⟩) fun i h st => by obtain ⟨⟨o, e, e2, _⟩, _⟩ := st; exact ⟨o, _, e, e2, by decide⟩
  refine itr_new (wr := [s1.heap.objs.size]) (fp := [s1.heap.objs.size, l]) (tk := s1.toks) p1 (.push _) (fun b m => by rw [List.mem_singleton.mp m]; exact fresh_at _) (hn ▸ R)
    ⟨⟨_, Heap.get?_push_size _ rfl, rfl, rfl⟩, pl.push _⟩ (fun b m => ?_) (fun i x e F' μ' h h2 v pr pr2 _ hp => ((rs.at_ i x v e (by simpa using hp)).pres pr).pres pr2) q
  · rcases List.mem_cons.mp m with rfl | m
    · exact .inl (.head _)
    · rw [List.mem_singleton.mp m]; obtain ⟨o, e, _⟩ := pl; exact .inr (.inl ⟨hd, o, e⟩)
end
end Mine
namespace Mine
open PySem PySem.Calls PyProof.Rows PySem.W
section
variable {c : Cx} {n : Nat} {sc : Scope} {ρ : Ro} {σ σ1 σ2 σ3 : Sto} {a a2 : AV} {e e2 t f : PySem.Expr} {xs xs2 : List AV} {vers vers2 : List (Nat × Nat)} {pos tp : Pos} {ts : List PySem.Expr} {tk : Nat}
theorem EvL.one (h : EvE c n sc e ρ σ a σ1) (hs : ∀ env, starEach [e] env = (false, eval e env) :: starEach [] env) : EvL c n sc [e] ρ σ [a] σ1 := .cons h .nil hs
theorem src_call {T : String} {args : List PySem.Expr} {vs : List AV} {A : Around} {E : Value → Shared → Prop} {F : Addr → Prop} {μ : List Addr} {s : Shared} {env : Env} {Q : Value → Shared → Prop} (hf : EvE c n sc f ρ σ (.val (.type T)) σ1) (h1 : EvL c n sc (e :: args) ρ σ1 vs σ2)
    (he : ∀ env, eval (.Call f (e :: args) [] pos) env = (do callWith pos (← eval f env) [] (backTo pos (starEach (e :: args) env)) (backToKw pos (keywordEach [] env)))) (hs : ∀ env, starEach (e :: args) env = (false, eval e env) :: starEach args env) (hp : ∀ env, (backTo pos (starEach args env)).any (·.1) = false)
    (rm : Room A n) (I : Inv c F μ s σ) (N : EnvR F μ s.heap env sc ρ) (q : ∀ ys s' μ', Go c F NoW μ s σ μ' s' σ2 → VRs F μ' s'.heap vs ys → wpAny c.M A (call (.type T) ys) Q E s') : wpAny c.M A (eval (.Call f (e :: args) [] pos) env) Q E s := by
  refine Call_ (hf rm I N fun x s1 μ1 p1 r1 => ?_) (he env)
  obtain rfl := r1.val_inv
  exact callWith_type1 (h1 rm p1.inv (N.go I p1) fun ys s2 μ2 p2 r2 => by
    have := q ys s2 μ2 (p1.trans p2) r2
    simpa using this) (hs env) (hp env)
theorem SrcR.enum (hf : EvE c n sc f ρ σ (.val (.type "enumerate")) σ1) (h : EvE c n sc e ρ σ1 a σ2) (hl : LsR σ2 a xs vers)
    (he : ∀ env, eval (.Call f [e] [] pos) env = (do callWith pos (← eval f env) [] (backTo pos (starEach [e] env)) (backToKw pos (keywordEach [] env)))) (hs : ∀ env, starEach [e] env = (false, eval e env) :: starEach [] env) :
    SrcR c n sc (.Call f [e] [] pos) (.Tuple ts tk tp) ρ σ (xs.zipIdx.map fun p => .tup [.int p.2, p.1]) vers σ2 := by
  intro A E F μ s env Q rm I N q
  refine src_call hf (.one h hs) he hs (fun _ => rfl) rm I N fun ys s1 μ1 p1 r1 => ?_
  obtain ⟨x, rfl, r⟩ := r1.inv1
  obtain ⟨l, vs, rfl, pl, rs, hk⟩ := ls_ok p1.inv hl r
  obtain ⟨m, hm⟩ := id pl
  have hlt : l < s1.heap.objs.size := Heap.lt_size hm
  refine call_enumerate_1 hm fun h' h1 h2 h3 kp => ?_
  have W := WalksT.enumerate (prog := c.prog) (w := c.w) rm.hh (s1.heap.objs.size + 1) s1.heap.objs.size l (Nat.succ_ne_self _) (Nat.ne_of_lt (Nat.lt_succ_of_lt hlt)) (Nat.ne_of_lt hlt) vs.toArray
  have st : (∃ old, IsEnum h' (s1.heap.objs.size + 1) s1.heap.objs.size 0 old) ∧ h'.IsListIter s1.heap.objs.size l 0 ∧ h'.IsList l vs.toArray := ⟨⟨_, h1⟩, h2, ⟨_, kp _ _ hm, rfl, _, rfl⟩⟩
  refine W.self 0 { s1 with heap := h' } _ E st ?_
  have hn : vs.toArray.size = (xs.zipIdx.map fun p => AV.tup [.int p.2, p.1]).length := by rw [List.size_toArray, List.length_map, List.length_zipIdx]; exact rs.len.symm
  have R := Run.ofT (c := c) (es := ts) (k := tk) (pos := tp) W (fun i h st b m => by
    obtain ⟨⟨old, e1⟩, ⟨o, e2, _⟩, _⟩ := st
    rcases List.mem_cons.mp m with rfl | m
    · exact ⟨_, e1⟩
    · rw [List.mem_singleton.mp m]; exact ⟨o, e2⟩)
  rw [hn] at R
  have none_ : ∀ b, s1.heap.objs.size ≤ b → s1.heap.get? b = none := fun b hb => by
    cases e : s1.heap.get? b with
    | none => rfl
    | some o => exact absurd (Heap.lt_size e) (Nat.not_lt.mpr hb)
  refine itr_new (tk := s1.toks) p1 kp (fun b m => none_ b ?_) R st (fun b m => ?_) (fun i x ex F' μ' h h2 v pr pr2 hfr hp => ?_) q
  · rcases List.mem_cons.mp m with rfl | m
    · exact Z20
    · rw [List.mem_singleton.mp m]; exact Nat.le_refl _
  · rcases List.mem_cons.mp m with rfl | m
    · exact .inl (.head _)
    · rcases List.mem_cons.mp m with rfl | m
      · exact .inl (.tail _ (.head _))
      · rw [List.mem_singleton.mp m]; exact .inr hk
  · obtain ⟨T, vals, rfl, ⟨tt, y, hy, rfl⟩, hT, hfT⟩ := hp
    rw [List.getElem?_map, List.getElem?_zipIdx] at ex
    cases ei : xs[i]? with
    | none => rw [ei] at ex; cases ex
    | some z =>
      rw [ei] at ex
      simp only [Option.map_some, Option.some.injEq, Nat.zero_add] at ex
      subst ex
      have rz := ((rs.at_ i z y ei (by simpa using hy)).pres pr).pres pr2
      have rr : VRs F' μ' h2 [.int (i : Int), z] [.int i tt, y] := .cons (.int _ _) (.one rz)
      exact .tup (fun hh => hfr T hfT hh) hT (by show 2 ≤ lim; decide) rr.len rr.at_
theorem SrcR.range {m : Nat} (hf : EvE c n sc f ρ σ (.val (.type "range")) σ1) (h : EvE c n sc e ρ σ1 (.int m) σ2) (hm : m ≤ lim)
    (he : ∀ env, eval (.Call f [e] [] pos) env = (do callWith pos (← eval f env) [] (backTo pos (starEach [e] env)) (backToKw pos (keywordEach [] env)))) (hs : ∀ env, starEach [e] env = (false, eval e env) :: starEach [] env) :
    SrcR c n sc (.Call f [e] [] pos) t ρ σ ((List.range m).map fun (k : Nat) => AV.int k) [] σ2 := by
  intro A E F μ s env Q rm I N q
  refine src_call hf (.one h hs) he hs (fun _ => rfl) rm I N fun ys s1 μ1 p1 r1 => ?_
  obtain ⟨x, rfl, r⟩ := r1.inv1
  obtain ⟨u, rfl⟩ := r.int_inv
  have hl : (lim : Int) = 1048576 := rfl
  refine call_range_1 (wpAny_pyIter_range (.new _ _ _ _ _ _ _) (small_one (by lia) (by lia) (by lia) (by lia)) ?_)
  have W := Walks.range (prog := c.prog) (w := c.w) rm.hh (s1.heap.objs.size + 1) 0 1 m
  have hz : (s1.heap.push { cls := .type "range", data := .fields #[.int 0 s1.toks, .int m u, .int 1 (s1.toks + 1)] }).objs.size = s1.heap.objs.size + 1 := Heap.size_push ..
  have R := Run.of (c := c) (t := t) W (fun i h st b k => by rw [List.mem_singleton.mp k]; exact ⟨_, st⟩) fun i h st => ⟨_, _, st, rfl, by decide⟩
  have hn : m = ((List.range m).map fun (k : Nat) => AV.int k).length := by simp
  rw [hn] at R
  show Q (.ref (s1.heap.push { cls := .type "range", data := .fields #[.int 0 s1.toks, .int m u, .int 1 (s1.toks + 1)] }).objs.size) _
  rw [hz]
  refine itr_new (s1 := s1) (tk := s1.toks + 1 + 1) p1 (fun b o e => Heap.get?_push_of_some _ (Heap.get?_push_of_some _ e)) (fun b k => ?_) R ?_ (fun b k => .inl k) (fun i x ex F' μ' h h2 v pr pr2 hfr hp => ?_) q
  · rw [List.mem_singleton.mp k]
    cases e : s1.heap.get? (s1.heap.objs.size + 1) with
    | none => rfl
    | some o => exact absurd (Heap.lt_size e) (Nat.not_lt.mpr (Nat.le_succ _))
  · rw [← hn]
    show IsRangeIter _ _ (0 + ((0 : Nat) : Int) * 1) ((m : Int) - ((0 : Nat) : Int)) 1
    have e1 : Builtin.Range.rangeSize 0 m 1 = m := by rw [rangeSize_one]; split <;> lia
    rw [e1]
    have := Heap.get?_push_size (s1.heap.push { cls := .type "range", data := .fields #[.int 0 s1.toks, .int m u, .int 1 (s1.toks + 1)] }) (o := { cls := .type "range_iterator", data := .fields #[rawInt 0, rawInt m, rawInt 1] }) rfl
    rw [hz] at this
    simpa using this
  · obtain ⟨tt, rfl⟩ := hp
    have hi := (List.getElem?_eq_some_iff.mp ex).1
    rw [List.getElem?_map, List.getElem?_range (by simpa using hi)] at ex
    cases ex
    rw [show (0 : Int) + (i : Int) * 1 = i by lia]
    exact .int _ _
theorem SrcR.zip (hf : EvE c n sc f ρ σ (.val (.type "zip")) σ1) (h : EvE c n sc e ρ σ1 a σ2) (h2 : EvE c n sc e2 ρ σ2 a2 σ3) (hl : LsR σ3 a xs vers) (hl2 : LsR σ3 a2 xs2 vers2)
    (he : ∀ env, eval (.Call f [e, e2] [] pos) env = (do callWith pos (← eval f env) [] (backTo pos (starEach [e, e2] env)) (backToKw pos (keywordEach [] env)))) (hs : ∀ env, starEach [e, e2] env = (false, eval e env) :: starEach [e2] env) (hs2 : ∀ env, starEach [e2] env = (false, eval e2 env) :: starEach [] env) :
    SrcR c n sc (.Call f [e, e2] [] pos) (.Tuple ts tk tp) ρ σ ((xs.zip xs2).map fun p => .tup [p.1, p.2]) (vers ++ vers2) σ3 := by
  intro A E F μ s env Q rm I N q
  refine src_call hf (.cons h (.one h2 hs2) hs) he hs (fun env => by rw [hs2]; rfl) rm I N fun ys s1 μ1 p1 r1 => ?_
  obtain ⟨x, y, rfl, r, r'⟩ := r1.inv2
  obtain ⟨l, vs, rfl, pl, rs, hk⟩ := ls_ok p1.inv hl r
  obtain ⟨l', vs', rfl, pl', rs', hk'⟩ := ls_ok p1.inv hl2 r'
  have hlt : l < s1.heap.objs.size := by obtain ⟨m, hm⟩ := id pl; exact Heap.lt_size hm
  have hlt' : l' < s1.heap.objs.size := by obtain ⟨m, hm⟩ := id pl'; exact Heap.lt_size hm
  have kl : ∀ k, l ≠ s1.heap.objs.size + k := fun k => Nat.ne_of_lt (Nat.lt_of_lt_of_le hlt (Nat.le_add_right _ _))
  have kl' : ∀ k, l' ≠ s1.heap.objs.size + k := fun k => Nat.ne_of_lt (Nat.lt_of_lt_of_le hlt' (Nat.le_add_right _ _))
  have nn : ∀ j k : Nat, j ≠ k → s1.heap.objs.size + j ≠ s1.heap.objs.size + k := fun j k h e => h (Nat.add_left_cancel e)
  refine call_zip_2 pl.isList pl'.isList fun h' a1 a2 a3 a4 a5 a6 kp => ?_
  have W := WalksT.zip2 (prog := c.prog) (w := c.w) rm.hh (s1.heap.objs.size + 4) (s1.heap.objs.size + 2) (s1.heap.objs.size + 3) s1.heap.objs.size (s1.heap.objs.size + 1) l l'
    ⟨nn 2 4 (by decide), nn 3 4 (by decide), nn 0 4 (by decide), nn 1 4 (by decide), nn 2 3 (by decide), nn 2 0 (by decide), nn 2 1 (by decide), nn 3 0 (by decide), nn 3 1 (by decide), nn 0 1 (by decide), kl 4, kl 3, kl 0, kl 1, kl' 4, kl' 3, kl' 0, kl' 1⟩ vs.toArray vs'.toArray
  have is_ : ∀ {l : Addr} {vs : List Value}, PList s1.heap l vs → h'.IsList l vs.toArray := fun p => by obtain ⟨m, hm⟩ := p; exact ⟨_, kp _ _ hm, rfl, _, rfl⟩
  refine W.self 0 { s1 with heap := h' } _ E ⟨a1, a2, ⟨_, _, a3⟩, a4, a5, is_ pl, is_ pl'⟩ ?_
  have hn : min vs.toArray.size vs'.toArray.size = ((xs.zip xs2).map fun p => AV.tup [p.1, p.2]).length := by rw [List.size_toArray, List.size_toArray, List.length_map, List.length_zip, rs.len, rs'.len]
  have ex5 : ∀ (i : Nat) (h : Heap), (IsZip h (s1.heap.objs.size + 4) (s1.heap.objs.size + 2) (s1.heap.objs.size + 3) .none ∧ IsPair h (s1.heap.objs.size + 2) (.ref s1.heap.objs.size) (.ref (s1.heap.objs.size + 1)) ∧ (∃ a b, IsPair h (s1.heap.objs.size + 3) a b) ∧ h.IsListIter s1.heap.objs.size l i ∧ h.IsListIter (s1.heap.objs.size + 1) l' i ∧ h.IsList l vs.toArray ∧ h.IsList l' vs'.toArray) →
      ∀ b ∈ [s1.heap.objs.size + 4, s1.heap.objs.size + 2, s1.heap.objs.size + 3, s1.heap.objs.size, s1.heap.objs.size + 1], ∃ o, h.get? b = some o := fun i h st b m => by
    obtain ⟨b1, b2, ⟨_, _, b3⟩, ⟨_, b4, _⟩, ⟨_, b5, _⟩, _⟩ := st
    simp only [List.mem_cons, List.not_mem_nil, or_false] at m
    rcases m with rfl | rfl | rfl | rfl | rfl
    · exact ⟨_, b1⟩
    · exact ⟨_, b2⟩
    · exact ⟨_, b3⟩
    · exact ⟨_, b4⟩
    · exact ⟨_, b5⟩
  have sub5 : ∀ b ∈ [s1.heap.objs.size + 4, s1.heap.objs.size + 3, s1.heap.objs.size, s1.heap.objs.size + 1], b ∈ [s1.heap.objs.size + 4, s1.heap.objs.size + 2, s1.heap.objs.size + 3, s1.heap.objs.size, s1.heap.objs.size + 1] := fun b m => (List.mem_cons.mp m).elim (fun e => e ▸ .head _) fun m => .tail _ (.tail _ m)
  have R := (Run.ofT (c := c) (es := ts) (k := tk) (pos := tp) W fun i h st b m => ex5 i h st b (sub5 b m)).more sub5 ex5
  rw [hn] at R
  have none_ : ∀ k, s1.heap.get? (s1.heap.objs.size + k) = none := fun k => by
    cases e : s1.heap.get? (s1.heap.objs.size + k) with
    | none => rfl
    | some o => exact absurd (Heap.lt_size e) (Nat.not_lt.mpr (Nat.le_add_right _ _))
  refine itr_new (tk := s1.toks) p1 kp (fun b m => ?_) R ⟨a1, a2, ⟨_, _, a3⟩, a4, a5, is_ pl, is_ pl'⟩ (fun b m => ?_) (fun i x ex F' μ' h h2 v pr pr2 hfr hp => ?_) q
  · simp only [List.mem_cons, List.not_mem_nil, or_false] at m
    rcases m with rfl | rfl | rfl | rfl | rfl <;> first | exact none_ _ | exact none_ 0
  · simp only [List.mem_cons, List.not_mem_nil, or_false] at m
    have old : ∀ {b : Addr} {vers' : List (Nat × Nat)}, (∀ x ∈ vers', x ∈ vers ++ vers2) → ((¬Hid F μ1 b ∧ ∃ o, s1.heap.get? b = some o) ∨ ∃ j o, μ1[j]? = some b ∧ σ3[j]? = some o ∧ (j, o.ver) ∈ vers') → (¬Hid F μ1 b ∧ ∃ o, s1.heap.get? b = some o) ∨ ∃ j o, μ1[j]? = some b ∧ σ3[j]? = some o ∧ (j, o.ver) ∈ vers ++ vers2 := fun h k =>
      k.imp id fun ⟨j, o, h1, h2, h3⟩ => ⟨j, o, h1, h2, h _ h3⟩
    rcases m with rfl | rfl | rfl | rfl | rfl | rfl | rfl
    · exact .inl (by simp)
    · exact .inl (by simp)
    · exact .inl (by simp)
    · exact .inl (by simp)
    · exact .inl (by simp)
    · exact .inr (old (fun x m => List.mem_append_left _ m) hk)
    · exact .inr (old (fun x m => List.mem_append_right _ m) hk')
  · obtain ⟨T, vals, rfl, ⟨z, z', hz, hz', rfl⟩, hT, hfT⟩ := hp
    rw [List.getElem?_map] at ex
    cases ei : (xs.zip xs2)[i]? with
    | none => rw [ei] at ex; cases ex
    | some w =>
      rw [ei] at ex
      cases ex
      obtain ⟨e1, e2⟩ := List.getElem?_zip_eq_some.mp ei
      have rr : VRs F' μ' h2 [w.1, w.2] [z, z'] := .cons (((rs.at_ i _ z e1 (by simpa using hz)).pres pr).pres pr2) (.one (((rs'.at_ i _ z' e2 (by simpa using hz')).pres pr).pres pr2))
      exact .tup (fun hh => hfr T hfT hh) hT (by show 2 ≤ lim; decide) rr.len rr.at_
end
end Mine
namespace Mine
open PySem PySem.Calls PyProof.Rows PySem.W
noncomputable def Lo (n : Nat) (v : AV) : Prop := ∀ ⦃F : Addr → Prop⦄ ⦃μ : List Addr⦄ ⦃h : Heap⦄ ⦃x : Value⦄, VR F μ h v x → VR F (μ.take n) h v x
section
variable {n : Nat} {v : AV} {xs : List AV} {F : Addr → Prop} {μ : List Addr} {h : Heap} {vs : List Value}
theorem Hid.take {a : Addr} (x : Hid F (μ.take n) a) : Hid F μ a := x.imp id fun y => y.imp List.mem_of_mem_take id
theorem Lo.none : Lo n .none := fun _ _ _ _ r => by obtain rfl := r.none_inv; exact .none
theorem Lo.bool {b : Bool} : Lo n (.bool b) := fun _ _ _ _ r => by obtain rfl := r.bool_inv; exact .bool b
theorem Lo.int {i : Int} : Lo n (.int i) := fun _ _ _ _ r => by obtain ⟨t, rfl⟩ := r.int_inv; exact .int i t
theorem Lo.str {s : Str} : Lo n (.str s) := fun _ _ _ _ r => by obtain ⟨t, rfl, k⟩ := r.str_inv; exact .str t k
theorem Lo.val {u : Value} : Lo n (.val u) := fun _ _ _ _ r => by obtain rfl := r.val_inv; exact .val _
theorem Lo.mref {i : Nat} (hi : i < n) : Lo n (.mref i) := fun _ _ _ _ r => by obtain ⟨a, rfl, e⟩ := r.mref_inv; exact .mref (by rw [List.getElem?_take, if_pos hi]; exact e)
theorem Lo.all (k : ∀ x ∈ xs, Lo n x) (r : VRs F μ h xs vs) : VRs F (μ.take n) h xs vs := ⟨r.len, fun i x v e1 e2 => k x (List.mem_of_getElem? e1) (r.at_ i x v e1 e2)⟩
theorem Lo.tup (k : ∀ x ∈ xs, Lo n x) : Lo n (.tup xs) := fun _ _ _ _ r => by
  obtain ⟨a, vs, rfl, hn, e, l, r⟩ := r.tup_inv
  exact .tup (fun x => hn x.take) e l r.len (Lo.all k r).at_
theorem Lo.lst (k : ∀ x ∈ xs, Lo n x) : Lo n (.lst xs) := fun _ _ _ _ r => by
  obtain ⟨a, vs, rfl, hn, e, l, r⟩ := r.lst_inv
  exact .lst (fun x => hn x.take) e l r.len (Lo.all k r).at_
end
noncomputable def LoSto (n : Nat) (σ : Sto) : Prop := ∀ (i : Nat) (o : MO), i < n → σ[i]? = some o → ∀ x ∈ o.items, Lo n x
noncomputable def OutR (n : Nat) (v0 : AV) (σ1 : Sto) (v : AV) : Prop := (Lo n v0 ∧ v = v0) ∨ ∃ i w xs, v0 = .mref i ∧ n ≤ i ∧ σ1[i]? = some ⟨w, none, xs⟩ ∧ v = .lst xs ∧ ∀ x ∈ xs, Lo n x
section
variable {c : Cx} {n : Nat} {F F' W : Addr → Prop} {μ μ1 : List Addr} {s s1 : Shared} {σ σ1 : Sto} {v v0 : AV} {x : Value}
theorem Go.cut {W0 : Addr → Prop} (p : Go c F' W μ s σ μ1 s1 σ1) (hμ : μ.length = σ.length) (hW : ∀ a, W a → W0 a ∨ s.heap.get? a = none) (hl : LoSto σ.length σ1) : Go c F' W0 μ s σ μ s1 (σ1.take σ.length) ∧ μ1.take σ.length = μ := by
  have hlen : σ.length ≤ σ1.length := by
    cases hk : σ.length with
    | zero => exact Nat.zero_le _
    | succ k =>
      obtain ⟨o', e', _⟩ := p.mono k σ[k] (List.getElem?_eq_getElem (by exact Nat.le_of_eq hk.symm))
      exact (List.getElem?_eq_some_iff.mp e').1
  have tk : μ1.take σ.length = μ := by
    apply List.ext_getElem?
    intro i
    rw [List.getElem?_take]
    split
    · rename_i hi
      have hi' : i < μ.length := hμ ▸ hi
      rw [List.getElem?_eq_getElem hi']
      exact p.pre i _ (List.getElem?_eq_getElem hi')
    · rename_i hi
      rw [List.getElem?_eq_none (by rw [hμ]; exact Nat.le_of_not_lt hi)]
  have upm : ∀ a ∈ μ, a ∈ μ1 := fun a x => List.mem_of_mem_take (tk ▸ x)
  have up : ∀ a, Hid F' μ a → Hid F' μ1 a := fun a x => x.imp id fun y => y.imp (upm a) id
  have tab : ∀ {q P}, TabOk q P F' μ1 s1.heap → TabOk q P F' μ s1.heap := fun ⟨ps, e, t, r⟩ => ⟨ps, e, t, fun pos k hk => let ⟨a, o, e1, e2, e3⟩ := r pos k hk; ⟨a, o, e1, fun y => e2 (up a y), e3⟩⟩
  have I := p.inv
  refine ⟨⟨fun a o w n t e => p.same a o (fun x => (hW a x).elim w (absent e)) n t e, p.ex, fun _ _ e => e, fun _ h => .inl h, fun i o e => ?_,
    ⟨I.keep, fun a x => I.fg a (up a x), fun a x => I.flt a (up a x), fun a x y => I.fm a x (upm a y), fun a t => ⟨(I.ft a t).1, fun y => (I.ft a t).2 (upm a y)⟩, fun i j a e1 e2 => I.nd i j a (p.pre i a e1) (p.pre j a e2), by rw [List.length_take, hμ]; exact Nat.le_antisymm (Nat.le_of_eq (Nat.min_eq_left hlen).symm) (Nat.min_le_left _ _), fun i o a e1 e2 => ?_, I.bare, I.os, tab I.lam, tab I.gen⟩⟩, tk⟩
  · obtain ⟨o', e', r⟩ := p.mono i o e
    exact ⟨o', by rw [List.getElem?_take, if_pos (List.getElem?_eq_some_iff.mp e).1]; exact e', r⟩
  · rw [List.getElem?_take] at e1
    split at e1
    · rename_i hi
      obtain ⟨l, vs, m, r, h1, h2⟩ := I.mo i o a e1 (p.pre i a e2)
      refine ⟨l, vs, m, tk ▸ Lo.all (hl i o hi e1) r, h1, fun k hk => ?_⟩
      obtain ⟨d, e, hn, r⟩ := h2 k hk
      exact ⟨d, e, fun y => hn (up d y), r⟩
    · cases e1
theorem Go.ret (p : Go c F' W μ s σ μ1 s1 σ1) (I : Inv c F μ s σ) (hF : ∀ a, F a → F' a) (hW : ∀ a, W a → s.heap.get? a = none) (hl : LoSto σ.length σ1) : Go c F NoW μ s σ μ s1 (σ1.take σ.length) ∧ μ1.take σ.length = μ :=
  have ⟨g, e⟩ := p.cut (W0 := NoW) I.len (fun a h => .inr (hW a h)) hl
  ⟨g.less hF, e⟩
theorem OutR.okF (h : OutR σ.length v0 σ1 v) (p : Go c F' W μ s σ μ1 s1 σ1) (hμ : μ.length = σ.length) (tk : μ1.take σ.length = μ) (r : VR F' μ1 s1.heap v0 x) : VR F' μ s1.heap v x := by
  rcases h with ⟨hl, rfl⟩ | ⟨i, w, xs, rfl, hi, e, rfl, hl⟩
  · exact tk ▸ hl r
  · obtain ⟨a, rfl, ha⟩ := r.mref_inv
    obtain ⟨l, vs, m, rs, h1, _⟩ := p.inv.mo i _ a e ha
    have := Lo.all hl rs
    rw [tk] at this
    refine .lst (fun y => ?_) ⟨m, h1 rfl⟩ l this.len this.at_
    rcases y with y | y | y
    · exact p.inv.fm a y (List.mem_of_getElem? ha)
    · obtain ⟨j, hj, e2⟩ := List.getElem_of_mem y
      have := p.inv.nd i j a ha (p.pre j a (by rw [List.getElem?_eq_getElem hj, e2]))
      exact Z21 hj hμ hi this
    · exact (p.inv.ft a y).2 (List.mem_of_getElem? ha)
theorem OutR.ok (h : OutR σ.length v0 σ1 v) (p : Go c F' W μ s σ μ1 s1 σ1) (I : Inv c F μ s σ) (hF : ∀ a, F a → F' a) (tk : μ1.take σ.length = μ) (r : VR F' μ1 s1.heap v0 x) : VR F μ s1.heap v x := (h.okF p I.len tk r).pres (.less hF)
end
end Mine
namespace Mine
open PySem PySem.Calls PyProof.Rows PySem.W
theorem cells_of {x : Str} : ∀ {names : List (Str × NameKind)} {acc : List (Str × Addr)} {m : Nat}, (names.lookup x = some .cell ∨ (acc.lookup x).isSome = true) → ((cellsFrom m names acc).lookup x).isSome = true
  | [], acc, m, h => by rcases h with h | h; (· cases h); exact h
  | (y, k) :: r, acc, m, h => by
    unfold cellsFrom
    rw [List.lookup_cons] at h
    by_cases hy : x = y
    · subst hy
      rw [beq_self_eq_true] at h
      split
      · exact cells_of (.inr (by rw [List.lookup_cons, beq_self_eq_true]; rfl))
      · rename_i hk
        rcases h with h | h
        · simp only [Option.some.injEq] at h; subst h; exact absurd rfl hk
        · exact cells_of (.inr h)
    · have e : (x == y) = false := beq_eq_false_iff_ne.mpr hy
      rw [e] at h
      split
      · exact cells_of (h.imp id fun h => by rw [List.lookup_cons, e]; exact h)
      · exact cells_of h
theorem bind_skip {kf : Str → Option NameKind} {x : Str} : ∀ {bs : List (Str × Value)} {m cm : Str → Option Value}, x ∉ bs.map (·.1) → bindL kf bs m x = m x ∧ bindC kf bs cm x = cm x
  | [], _, _, _ => ⟨rfl, rfl⟩
  | (y, v) :: r, m, cm, h => by
    simp only [List.map_cons, List.mem_cons, not_or] at h
    unfold bindL bindC
    obtain ⟨h1, h2⟩ := bind_skip (kf := kf) (bs := r) (m := if kf y = some .local then fun z => if z = y then some v else m z else m) (cm := if kf y = some .local then cm else fun z => if z = y then some v else cm z) h.2
    rw [h1, h2]
    split <;> simp [h.1]
theorem bind_get {kf : Str → Option NameKind} {x : Str} {y : Value} : ∀ {bs : List (Str × Value)} {m cm : Str → Option Value}, (bs.map (·.1)).Nodup → (x, y) ∈ bs → (kf x = some .local → bindL kf bs m x = some y) ∧ (kf x ≠ some .local → bindC kf bs cm x = some y)
  | (z, v) :: r, m, cm, hn, hm => by
    rw [List.map_cons, List.nodup_cons] at hn
    unfold bindL bindC
    rcases List.mem_cons.mp hm with e | hm
    · cases e
      obtain ⟨h1, h2⟩ := bind_skip (kf := kf) (bs := r) (m := if kf x = some .local then fun z => if z = x then some y else m z else m) (cm := if kf x = some .local then cm else fun z => if z = x then some y else cm z) hn.1
      rw [h1, h2]
      exact ⟨fun k => by rw [if_pos k, if_pos rfl], fun k => by rw [if_neg k, if_pos rfl]⟩
    · exact bind_get hn.2 hm
section
variable {c : Cx} {n : Nat} {F : Addr → Prop} {μ : List Addr} {s s1 : Shared} {σ : Sto} {ρ : Ro} {env : Env} {sc : Scope} {bs : List (Str × Value)}
theorem bind_at {h : Heap} (hnm : ρ.map (·.1) = bs.map (·.1)) (r : VRs F μ h (ρ.map (·.2)) (bs.map (·.2))) {x : Str} {v : AV} (e : ρ.lookup x = some v) : ∃ y, (x, y) ∈ bs ∧ VR F μ h v y := by
  obtain ⟨i, hi⟩ := List.getElem?_of_mem (mem_of_lookup e)
  have e1 : (bs.map (·.1))[i]? = some x := by rw [← hnm, List.getElem?_map, hi]; rfl
  have e2 : (ρ.map (·.2))[i]? = some v := by rw [List.getElem?_map, hi]; rfl
  rw [List.getElem?_map] at e1
  obtain ⟨y, e3, e4⟩ := r.get e2
  rw [List.getElem?_map] at e3
  cases hb : bs[i]? with
  | none => rw [hb] at e1; cases e1
  | some p =>
    rw [hb] at e1 e3
    cases e1; cases e3
    exact ⟨p.2, List.mem_of_getElem? hb, e4⟩
theorem enter_ok (I : Inv c F μ s σ) (he : env = newEnv sc s.heap.objs.size mainGlobals (cellsFrom (s.heap.objs.size + 1) sc.names []) env.qual env.func env.code none builtinsNs) (hk : sc.kind = .function) (hfree : ∀ x, sc.names.lookup x ≠ some .free)
    (hnm : ρ.map (·.1) = bs.map (·.1)) (hnd : (bs.map (·.1)).Nodup) (r : VRs F μ s.heap (ρ.map (·.2)) (bs.map (·.2)))
    (tag : TagR sc env) (x : InCallC s env.locals (bindL env.kindOf bs fun _ => none) env.cells (bindC env.kindOf bs fun _ => none) s1) :
    Go c (fun a => F a ∨ Mem env a) NoW μ s σ μ s1 σ ∧ EnvR (fun a => F a ∨ Mem env a) μ s1.heap env sc ρ ∧ (∀ a, Mem env a → s.heap.get? a = none) := by
  have hL : env.locals = s.heap.objs.size := by rw [he]; rfl
  have hC : env.cells = cellsFrom (s.heap.objs.size + 1) sc.names [] := by rw [he]; rfl
  have hS : env.scope = sc := by rw [he]; rfl
  have none_ : ∀ b, s.heap.objs.size ≤ b → s.heap.get? b = none := fun b hb => by
    cases e : s.heap.get? b with
    | none => rfl
    | some o => exact absurd (Heap.lt_size e) (Nat.not_lt.mpr hb)
  have new : ∀ a, Mem env a → s.heap.get? a = none := fun a m => by
    rcases m with rfl | ⟨y, _, e⟩
    · exact none_ _ (Nat.le_of_eq hL.symm)
    · exact none_ _ (Nat.le_of_lt (hL ▸ x.above y a (mem_of_lookup e)))
  have ex : ∀ a, Mem env a → ∃ o, s1.heap.get? a = some o := fun a m => by
    rcases m with rfl | ⟨y, _, e⟩
    · obtain ⟨o, _, _, e, _⟩ := x.toInCall.ns; exact ⟨o, e⟩
    · obtain ⟨o, e, _⟩ := x.cell y a e; exact ⟨o, e⟩
  have kp := x.toInCall.keep
  obtain ⟨h1, tk, hs1⟩ := x.toInCall.same
  have g : Go c (fun a => F a ∨ Mem env a) NoW μ s σ μ s1 σ := by
    subst hs1
    exact I.step (tk := tk) (gs := s.gens) I.bare (fun _ h => h.elim) (fun b o _ e => kp b o e) fun a h => h.imp id fun m => ⟨new a m, ex a m⟩
  have pr : Pres F μ s.heap (fun a => F a ∨ Mem env a) μ s1.heap := g.pres (fun _ h => h.elim) fun a h => h.imp id (new a)
  refine ⟨g, ⟨hS ▸ hk, fun y k e => .inl (hS ▸ e), by rw [he]; rfl, by rw [he]; rfl, .inr (.inl rfl), ⟨_, x.toInCall.ns, fun y v e hl => ?_⟩, fun y hy => ?_, fun y z a e1 e2 => name_of_addr x.apart (mem_of_lookup e1) (mem_of_lookup e2), tag⟩, new⟩
  · obtain ⟨w, hm, rv⟩ := bind_at hnm r e
    exact ⟨w, (bind_get (cm := fun _ => none) hnd hm).1 hl, rv.pres pr⟩
  · have hy : sc.names.lookup y = some .cell := by
      rw [hS] at hy
      exact hy.resolve_right (hfree y)
    obtain ⟨ca, hca⟩ := Option.isSome_iff_exists.mp (cells_of (acc := []) (m := s.heap.objs.size + 1) (.inl hy))
    rw [← hC] at hca
    refine ⟨ca, _, hca, .inr (.inr ⟨y, .inl (hS ▸ hy), hca⟩), fun q => ?_, x.cell y ca hca, fun v e => ?_⟩
    · exact absurd (x.above y ca (mem_of_lookup hca)) (by rw [q]; exact Nat.lt_irrefl _)
    · obtain ⟨w, hm, rv⟩ := bind_at hnm r e
      exact ⟨w, (bind_get (m := fun _ => none) hnd hm).2 (by unfold Env.kindOf; rw [hS, hy]; decide), rv.pres pr⟩
end
end Mine
namespace Mine
open PySem PySem.Calls PyProof.Rows PySem.W
structure FnAt (c : Cx) (ad : Addr) (fd : FuncData) (body : List Stmt) : Prop where
  at_ : ∃ o, c.g.get? ad = some o ∧ o.data = .func fd
  code : c.g.CodeRec fd.code fd.qualname
  lim : c.g.NoLimit
  body : fd.body = .stmts body
  clo : fd.closure = []
  gl : fd.globals = mainGlobals
  bn : fd.builtins = builtinsNs
  co : fd.scope.isCoroutine = false
  gen : fd.scope.isGenerator = false
  kind : fd.scope.kind = .function
  free : ∀ x, fd.scope.names.lookup x ≠ some .free
  tag : fd.scope.names.lookup ("script" : Str) = some .local → fd.code = .ref 168 ∧ fd.qualname ++ ".<locals>." ++ "<lambda>" = qLam
noncomputable def BindR (c : Cx) (fd : FuncData) (σ : Sto) (vs : List AV) (kw : List (Str × AV)) (ρ : Ro) : Prop :=
  ∀ ⦃F : Addr → Prop⦄ ⦃μ : List Addr⦄ ⦃s : Shared⦄ ⦃ys : List Value⦄ ⦃kws : List (Str × Value)⦄, Inv c F μ s σ → VRs F μ s.heap vs ys → KR F μ s.heap kw kws → ∃ bs, BindsTo s fd ⟨ys, kws⟩ bs ∧ ρ.map (·.1) = bs.map (·.1) ∧ VRs F μ s.heap (ρ.map (·.2)) (bs.map (·.2))
section
variable {c : Cx} {n : Nat} {σ σ1 : Sto} {ad : Addr} {fd : FuncData} {body : List Stmt} {vs : List AV} {kw : List (Str × AV)} {ρ ρ1 : Ro} {fl : Fl} {v v0 : AV}
theorem CallR.fn (H : FnAt c ad fd body) (hb : BindR c fd σ vs kw ρ) (hk : ∀ x ∈ ρ.map (·.1), fd.scope.names.lookup x = some .local ∨ fd.scope.names.lookup x = some .cell) (hnd : (ρ.map (·.1)).Nodup)
    (hB : StB c n fd.scope body ρ σ fl ρ1 σ1) (hfl : fl = .ret v0 ∨ (fl = .nxt ∧ v0 = .none)) (hlo : LoSto σ.length σ1) (hout : OutR σ.length v0 σ1 v) : CallR c (n + 1) (.val (.ref ad)) vs kw σ v (σ1.take σ.length) := by
  intro A E F μ s f ys kws Q rm I rf r rk q
  obtain rfl := rf.val_inv
  obtain ⟨o, ho, hd⟩ := H.at_
  obtain ⟨bs, hbt, hnm, rb⟩ := hb I r rk
  have hcd : s.heap.CodeRec fd.code fd.qualname := by
    obtain ⟨k, ok, us, t, e1, e2, e3⟩ := H.code
    exact ⟨k, ok, us, t, e1, I.keep _ _ e2, e3⟩
  refine wpAny_call (codeAny_call_function rm.depth (I.keep _ _ ho) hd H.co H.gen H.body hcd (hbt _ _ _ _ ?_))
  rw [H.clo, H.gl, H.bn]
  refine wpAny_newFunctionEnv_cells H.kind (fun x hx => ?_) fun env he s1 x => ?_
  · have := hk x.1 (by rw [hnm]; exact List.mem_map_of_mem hx)
    exact this.imp id fun h => ⟨h, cells_of (.inl h)⟩
  · obtain ⟨g, N, new⟩ := enter_ok I (ρ := ρ) (by rw [he]; rfl) H.kind H.free hnm (hnm ▸ hnd) rb (by rw [he]; exact H.tag) x
    refine ⟨H.lim.keeps fun b o e => x.toInCall.keep b o (I.keep b o e), codeAny_func (hB (rm.deeper env) g.inv N fun fw s2 μ2 p2 N2 r2 => ?_)⟩
    have p := (g.weaken (W' := Own env fd.scope) fun _ h => h.elim).trans p2
    obtain ⟨pr, tk⟩ := p.ret I (fun _ h => .inl h) (fun a h => new a (by
      rcases h with h | ⟨y, h, h'⟩
      · exact .inl h
      · exact .inr ⟨y, .inl ((N.kinds y _ h).resolve_right fun q => absurd q.1 (by decide)), h'⟩)) hlo
    have fin : ∀ y, VR (fun a => F a ∨ Mem env a) μ2 s2.heap v0 y → Q y s2 := fun y ry => q y s2 μ pr (hout.ok p I (fun _ h => .inl h) tk ry)
    rcases hfl with rfl | ⟨rfl, rfl⟩
    · cases r2 with | ret ry => exact fin _ ry
    · cases r2; exact fin _ .none
end
end Mine
namespace Mine
open PySem PySem.Calls PyProof.Rows PySem.W
section
variable {c : Cx} {n : Nat} {sc : Scope} {ρ : Ro} {σ σ1 σ2 σ3 : Sto} {e i u : PySem.Expr} {pos tp : Pos} {j w : Nat} {k old m : Int} {xs : List AV}
theorem setItem_plain {A : Around} {E : Value → Shared → Prop} {s : Shared} {l : Addr} {items : Array Value} {k : Int} {t : Tok} {v : Value} {ne : Nat} {Q : Unit → Shared → Prop} (ho : s.heap.get? l = some { cls := .type "list", data := .seq items ne })
    (h0 : 0 ≤ k) (hfit : k < 2 ^ 63) (hn : k < items.size)
    (hQ : ∀ h' ne', h'.get? l = some { cls := .type "list", data := .seq (items.setIfInBounds k.toNat v) ne' } → Heap.SameBut l s.heap h' → Q () { s with heap := h' }) :
    wpAny c.M A (setItem (.ref l) (.int k t) v) Q E s := by
  have hl : s.heap.IsList l items := ⟨_, ho, rfl, ne, rfl⟩
  unfold setItem
  try with_reducible refine wpAny_holding ?_
  first | refine wpAny_bind (wpAny_pure ?_) | skip
  refine wpAny_bind (wpAny_sequenceKey hl.typeIs (by decide) ?_)
  refine wpAny_bind (wpAny_callSpecial?_slot (name := Str.ofString "__setitem__") hl.typeIs slot_list_setitem
    (wpAny_call_entry slot_list_setitem hl.typeIs entry_list_setitem ?_ (args_list_setitem _ _ _)))
  show wpAny _ _ (Builtin.List.listSubscript? (.int k t) >>= _) _ _ s
  refine wpAny_bind (wpAny_listSubscript_int (fitsIndex_of h0 hfit) ?_)
  clear hfit
  obtain ⟨j, rfl⟩ := Int.eq_ofNat_of_zero_le h0
  have hj : j < items.size := by lia
  have hx' : items[j]? = some items[j] := Array.getElem?_eq_getElem hj
  show wpAny _ _ ((seqItemAt l j >>= fun r => pure (r.map (j, ·))) >>= _) _ _ s
  refine wpAny_bind (wpAny_bind (wpAny_seqItemAt ho rfl (wpAny_pure ?_)))
  rw [hx']
  show wpAny _ _ (setSeqItemAt l j v >>= _) _ _ s
  have fin := hQ _ _ (Heap.get?_update_self (Obj.mapSeq (·.setIfInBounds j v)) ho rfl) (Heap.SameBut.update ..)
  refine wpAny_bind (wpAny_setSeqItemAt ho rfl ?_)
  first
    | exact wpAny_bind (wpAny_pure (wpAny_pure ⟨.none, rfl, wpAny_pure fin⟩))
    | exact wpAny_pure ⟨.none, rfl, wpAny_pure fin⟩
theorem StR.aug (h1 : EvE c n sc e ρ σ (.mref j) σ1) (h2 : EvE c n sc i ρ σ1 (.int k) σ2) (ho : σ2[j]? = some ⟨w, none, xs⟩) (hk : 0 ≤ k) (hx : xs[k.toNat]? = some (.int old)) (h3 : EvE c n sc u ρ σ2 (.int m) σ3) (ho3 : σ3[j]? = some ⟨w, none, xs⟩)
    (hi : ∀ ov iv new, augStore i ov iv new = (do holding [new, ov, iv] (setItem ov iv new); release [new, ov, iv] []; pure .next)) :
    StR c n sc (.AugAssign (.Subscript e i tp) .Add u pos) ρ σ .nxt ρ (chg σ3 j ⟨w, none, xs⟩ (xs.set k.toNat (.int (old + m)))) := by
  intro A E F μ s env Q rm I N q
  refine wpAny_AugAssign_SubscriptAny (h1 rm I N fun x s1 μ1 p1 r1 => h2 rm p1.inv (N.go I p1) fun y s2 μ2 p2 r2 => ?_) hi
  have p12 := p1.trans p2
  obtain ⟨l, rfl, ha⟩ := (r1.pres p2.pres0).mref_inv
  obtain ⟨t, rfl⟩ := r2.int_inv
  obtain ⟨hl, vs, ne, rs, hg, _⟩ := p2.inv.mo j _ l ho ha
  have hg := hg rfl
  have hm : (lim : Int) = 1048576 := rfl
  have hkl := (List.getElem?_eq_some_iff.mp hx).1
  have hl' : xs.length ≤ lim := hl
  obtain ⟨z, ez, rz⟩ := rs.get hx
  obtain ⟨t2, rfl⟩ := rz.int_inv
  refine wpAny_getItem_list ⟨_, hg, rfl, ne, rfl⟩ hk (by lia) (by simpa using ez) (h3 rm p2.inv (N.go I p12) fun b s3 μ3 p3 r3 => ?_)
  obtain ⟨t3, rfl⟩ := r3.int_inv
  refine wpAny_iadd_int ?_
  have ha3 := p3.pre j l ha
  obtain ⟨_, vs3, ne3, rs3, hg3, _⟩ := p3.inv.mo j _ l ho3 ha3
  have hlen : xs.length = vs3.length := rs3.len
  refine setItem_plain (hg3 rfl) hk (by lia) (by rw [List.size_toArray]; lia) fun h' ne' e' hs => ?_
  have g := p3.inv.change (tk := s3.toks + 1) (xs := xs.set k.toNat (.int (old + m))) ho3 ha3 hs (fun p => ⟨by rw [List.length_set]; exact hl', vs3.set k.toNat (.int (old + m) s3.toks), ne', VRs.set (rs3.pres p) k.toNat (.int _ _), fun _ => by simpa using e', fun _ e => nomatch e⟩) ⟨_, e'⟩
  have gg := (p12.trans p3).trans g
  exact q _ _ _ gg.own (N.go I gg) .nxt
end
end Mine
namespace Mine
open PySem PySem.Calls PyProof.Rows PySem.W
section
variable {c : Cx} {n : Nat} {σ : Sto} {a : AV} {xs : List AV}
theorem CallR.len (e : SeqR σ a xs) : CallR c n (.val (.builtin "len")) [a] [] σ (.int xs.length) σ := by
  intro A E F μ s f ys kws Q _ I rf r rk q
  obtain rfl := rf.val_inv
  obtain rfl := rk.nil_inv
  obtain ⟨u, rfl, r1⟩ := r.inv1
  obtain ⟨l, vs, rfl, hl, rs, hlim⟩ := seq_ok I e r1
  have hm : (lim : Int) = 1048576 := rfl
  have hlen := rs.len
  refine call_len_list hl.isList (by rw [List.size_toArray, ← hlen]; lia) ?_
  rw [List.size_toArray, ← hlen]
  exact q_same I (q_end (.refl I) q) _ (.int _ _)
theorem CallR.lenStr {x : Str} (hl : x.length ≤ lim) : CallR c n (.val (.builtin "len")) [.str x] [] σ (.int x.length) σ := by
  intro A E F μ s f ys kws Q _ I rf r rk q
  obtain rfl := rf.val_inv
  obtain rfl := rk.nil_inv
  obtain ⟨u, rfl, r1⟩ := r.inv1
  obtain ⟨t, rfl, _⟩ := r1.str_inv
  have hm : (lim : Int) = 1048576 := rfl
  exact P.len_str (by lia) (q_same I (q_end (.refl I) q) _ (.int _ _))
theorem CallR.abs {i : Int} : CallR c n (.val (.builtin "abs")) [.int i] [] σ (.int (if i < 0 then -i else i)) σ := by
  intro A E F μ s f ys kws Q _ I rf r rk q
  obtain rfl := rf.val_inv
  obtain rfl := rk.nil_inv
  obtain ⟨u, rfl, r1⟩ := r.inv1
  obtain ⟨t, rfl⟩ := r1.int_inv
  exact call_abs_int fun u tk => q_same I (q_end (.refl I) q) _ (.int _ _)
theorem sorted_same : ∀ {xs ys : List Int}, xs.Perm ys → xs.Pairwise (· ≤ ·) → ys.Pairwise (· ≤ ·) → xs = ys
  | [], ys, p, _, _ => (List.nil_perm.mp p).symm ▸ rfl
  | x :: xs, [], p, _, _ => nomatch List.perm_nil.mp p
  | x :: xs, y :: ys, p, h1, h2 => by
    have e : x = y := by
      have m1 := p.mem_iff.mp (List.mem_cons_self (a := x) (l := xs))
      have m2 := p.mem_iff.mpr (List.mem_cons_self (a := y) (l := ys))
      have a1 := (List.pairwise_cons.mp h1).1
      have a2 := (List.pairwise_cons.mp h2).1
      rcases List.mem_cons.mp m1 with h | h
      · exact h
      · rcases List.mem_cons.mp m2 with h' | h'
        · exact h'.symm
        · exact Int.le_antisymm (a1 y h') (a2 x h)
    subst e
    rw [sorted_same (List.Perm.cons_inv p) (List.pairwise_cons.mp h1).2 (List.pairwise_cons.mp h2).2]
theorem ints_back {F : Addr → Prop} {μ : List Addr} {h : Heap} : ∀ {ns : List Int} {vs : List Value}, IntsAre vs ns → VRs F μ h (ns.map AV.int) vs
  | _, _, .nil => .nil
  | _, _, .cons _ _ r => .cons (.int _ _) (ints_back r)
theorem CallR.sorted {ns : List Int} (e : SeqR σ a (ns.map .int)) (hs : ns.Pairwise (· ≤ ·)) (h64 : ns.length < 64) : CallR c n (.val (.builtin "sorted")) [a] [] σ (.lst (ns.map .int)) σ := by
  intro A E F μ s f ys kws Q _ I rf r rk q
  obtain rfl := rf.val_inv
  obtain rfl := rk.nil_inv
  obtain ⟨u, rfl, r1⟩ := r.inv1
  obtain ⟨l, vs, rfl, hl, rs, hlim⟩ := seq_ok I e r1
  have hi := ints_of rs
  refine sorted_ints hl.isList hi (by rw [hi.length]; exact h64) fun out ns' h1 h2 h3 => ?_
  obtain rfl := sorted_same h2 h3 hs
  have k : Kp s { s with heap := sortedAll s.heap vs out } := fun b o e => sortedAll_old e
  have g : Go c F NoW μ s σ μ { s with heap := sortedAll s.heap vs out, toks := s.toks } σ := I.grow k
  obtain ⟨m, hm⟩ := sortedAll_at s.heap vs out
  have none_ : s.heap.get? (s.heap.objs.size + 1) = none := by
    cases e : s.heap.get? (s.heap.objs.size + 1) with
    | none => rfl
    | some o => exact absurd (Heap.lt_size e) (Nat.not_lt.mpr (Nat.le_succ _))
  have rr := ints_back (F := F) (μ := μ) (h := sortedAll s.heap vs out) h1
  exact q _ _ _ g (.lst (I.newN none_) ⟨m, hm⟩ hlim rr.len rr.at_)
theorem list_walk {A : Around} {E : Value → Shared → Prop} {s : Shared} {l : Addr} {vs : List Value} {R : Value → Shared → Prop} (hh : A.handled = none) (hl : PList s.heap l vs)
    (h : ∀ I s2, Walks c.prog c.w A I [I, l] [I] vs.toArray.size (fun i v => vs.toArray[i]? = some v) (fun i h => h.IsListIter I l i ∧ h.IsList l vs.toArray) → (s2.heap.IsListIter I l 0 ∧ s2.heap.IsList l vs.toArray) → (∀ b ∈ [I, l], b < s2.heap.objs.size) →
      (∀ h' tk, (∀ b o, b ∉ [I] → s2.heap.get? b = some o → h'.get? b = some o) → Kp s { s2 with heap := h', toks := tk }) → (∃ h', s2 = { s with heap := h' }) → R (.ref I) s2) : wpAny c.M A (pyIter (.ref l)) R E s := by
  obtain ⟨m, hm⟩ := id hl
  have hlt : l < s.heap.objs.size := Heap.lt_size hm
  refine wpAny_pyIter_list hl.isList (h _ _ (Walks.list hh _ l (Nat.ne_of_lt hlt) _) ⟨⟨_, Heap.get?_push_size _ rfl, rfl, rfl⟩, hl.isList.push _⟩ (fun b hb => ?_) (fun h' tk k b o e => k b o (fun hb => absent e (List.mem_singleton.mp hb ▸ fresh_at _)) (Heap.get?_push_of_some _ e)) ⟨_, rfl⟩)
  rw [Heap.size_push]
  rcases List.mem_cons.mp hb with rfl | hb
  · exact Nat.lt_succ_self _
  · rw [List.mem_singleton.mp hb]; exact Nat.lt_succ_of_lt hlt
theorem ints_val {F : Addr → Prop} {μ : List Addr} {h : Heap} {ns : List Int} {vs : List Value} (rs : VRs F μ h (ns.map AV.int) vs) (i : Nat) (v : Value) (hv : vs.toArray[i]? = some v) : ∃ t, v = .int (ns.getD i 0) t := by
  have hv : vs[i]? = some v := by simpa using hv
  have hi : i < ns.length := by have := (List.getElem?_eq_some_iff.mp hv).1; have := rs.len; rw [List.length_map] at this; exact Z15 (by assumption) this
  have := rs.at_ i (.int (ns.getD i 0)) v (by rw [List.getElem?_map, List.getElem?_eq_getElem hi, List.getD_eq_getElem?_getD, List.getElem?_eq_getElem hi]; rfl) hv
  exact this.int_inv
theorem CallR.sum {ns : List Int} (e : SeqR σ a (ns.map .int)) (hb : ∀ j, j < ns.length → InLong (ns.getD j 0) ∧ InLong (preSum (fun i => ns.getD i 0) (j + 1))) : CallR c n (.val (.builtin "sum")) [a] [] σ (.int (preSum (fun i => ns.getD i 0) ns.length)) σ := by
  intro A E F μ s f ys kws Q rm I rf r rk q
  obtain rfl := rf.val_inv
  obtain rfl := rk.nil_inv
  obtain ⟨u, rfl, r1⟩ := r.inv1
  obtain ⟨l, vs, rfl, hl, rs, hlim⟩ := seq_ok I e r1
  have hn : vs.toArray.size = ns.length := by rw [List.size_toArray, ← rs.len, List.length_map]
  refine call_sum_walk (list_walk (c := c) (A := A.in1) rm.hh hl fun J s2 W st hf kp hs => ⟨J, _, _, _, _, _, fun i => ns.getD i 0, rfl, W, st, hf, ints_val rs, hn ▸ hb, fun h' tk t' k => ?_⟩)
  rw [hn]
  obtain ⟨h2, rfl⟩ := hs
  exact q _ _ _ (I.grow (kp h' tk k)) (.int _ _)
theorem CallR.max {ns : List Int} (e : SeqR σ a (ns.map .int)) (hne : 0 < ns.length) : CallR c n (.val (.builtin "max")) [a] [] σ (.int (ns.getD (argBest (fun i j => decide (ns.getD i 0 > ns.getD j 0)) (ns.length - 1)) 0)) σ := by
  intro A E F μ s f ys kws Q rm I rf r rk q
  obtain rfl := rf.val_inv
  obtain rfl := rk.nil_inv
  obtain ⟨u, rfl, r1⟩ := r.inv1
  obtain ⟨l, vs, rfl, hl, rs, hlim⟩ := seq_ok I e r1
  have hn : vs.toArray.size = ns.length := by rw [List.size_toArray, ← rs.len, List.length_map]
  refine call_max_walk (list_walk (c := c) (A := A.in1) rm.hh hl fun J s2 W st hf kp hs => ⟨J, _, _, _, _, _, fun i j => decide (ns.getD i 0 > ns.getD j 0), rfl, W, st, hf, hn ▸ hne, CmpOf.ints_gt (fun i => ns.getD i 0) (ints_val rs), fun v h' tk hv k => ?_⟩)
  rw [hn] at hv
  obtain ⟨t, rfl⟩ := ints_val rs _ _ hv
  obtain ⟨h2, rfl⟩ := hs
  exact q _ _ _ (I.grow (kp h' tk k)) (.int _ _)
end
end Mine
namespace Mine
open PySem PySem.Calls PyProof.Rows PySem.W
theorem cellsFrom_acc : ∀ (names : List (Str × NameKind)) (m : Nat) (acc : List (Str × Addr)), cellsFrom m names acc = cellsFrom m names [] ++ acc
  | [], _, _ => rfl
  | (x, k) :: r, m, acc => by
    unfold cellsFrom
    split
    · rw [cellsFrom_acc r (m + 1) ((x, m) :: acc), cellsFrom_acc r (m + 1) [(x, m)], List.append_assoc]; rfl
    · exact cellsFrom_acc r m acc
theorem comp_env {M : Model} {A : Around} {E : Value → Shared → Prop} {s : Shared} {env : Env} {csc : Scope} {cl : List (Str × Addr)} {Q : Env → Shared → Prop}
    (h : ∀ h', h'.Ns s.heap.objs.size (fun _ => none) → (∀ b o, s.heap.get? b = some o → h'.get? b = some o) → CellsOk h' (s.heap.objs.size + 1) (cellsFrom (s.heap.objs.size + 1) csc.names []) →
      Q { scope := csc, locals := s.heap.objs.size, globals := env.globals, cells := cellsFrom (s.heap.objs.size + 1) csc.names [] ++ cl, qual := env.qual, func := none, code := env.code, frame := env.frame, builtins := env.builtins } { s with heap := h' }) :
    wpAny M A (newFunctionEnv csc env.globals cl [] env.qual none .none (some env)) Q E s := by
  simp only [newFunctionEnv, Option.isSome_some, if_true]
  refine wpAny_bind (wpAny_alloc ?_)
  refine wpAny_bind (wpAny_layCells _ (fun name kind cells => by cases hkc : kind == NameKind.cell <;> simp [hkc]) _ _ _ _ ?_)
  have ok := cellsFrom_ok csc.names (s.heap.push { cls := .type "dict", data := .dict #[] }) (s.heap.objs.size + 1) [] ⟨fun _ _ hm => (nomatch hm), List.Pairwise.nil⟩ (by rw [Heap.size_push]; exact Nat.le_refl _)
  rw [Heap.size_push] at ok
  rw [show ({ s with heap := s.heap.push { cls := .type "dict", data := .dict #[] } } : Shared).heap.objs.size = s.heap.objs.size + 1 from Heap.size_push .., cellsFrom_acc]
  refine wpAny_bind ?_
  rw [List.forIn_nil]
  exact wpAny_pure (wpAny_pure (h _ ((Heap.Ns.new s.heap (.type "dict")).keeps (pushCells_keeps _ _)) (fun b o e => pushCells_keeps _ _ b o (Heap.get?_push_of_some _ e)) ok))
noncomputable def closL (env : Env) : List (Str × NameKind) → List (Str × Addr) → List (Str × Addr)
  | [], acc => acc
  | (x, k) :: r, acc => if k == .free then closL env r ((x, (env.cells.lookup x).getD 0) :: acc) else closL env r acc
theorem closure_ok {env : Env} {csc : Scope} (h : ∀ x, (x, NameKind.free) ∈ csc.names → ∃ a, env.cells.lookup x = some a) : closureFor csc env = pure (closL env csc.names []) := by
  have main : ∀ (names : List (Str × NameKind)) (acc : List (Str × Addr)), (∀ x, (x, NameKind.free) ∈ names → ∃ a, env.cells.lookup x = some a) →
      (forIn names acc fun (p : Str × NameKind) (cs : List (Str × Addr)) => (if p.2 == .free then do let a ← cellOf env p.1; pure (.yield ((p.1, a) :: cs)) else pure (.yield cs) : Sem (ForInStep (List (Str × Addr))))) = pure (closL env names acc) := by
    intro names
    induction names with
    | nil => intro acc _; rfl
    | cons p r ih =>
      intro acc h
      obtain ⟨x, k⟩ := p
      have hr : ∀ y, (y, NameKind.free) ∈ r → ∃ a, env.cells.lookup y = some a := fun y hy => h y (List.mem_cons_of_mem _ hy)
      rw [List.forIn_cons]
      unfold closL
      by_cases hk : k = .free
      · subst hk
        obtain ⟨a, ha⟩ := h x List.mem_cons_self
        simp only [beq_self_eq_true, if_true, cellOf, ha, pure_bind, Option.getD_some]
        exact ih _ hr
      · have hk' : (k == NameKind.free) = false := by simpa using hk
        simp only [hk', Bool.false_eq_true, if_false, pure_bind]
        exact ih _ hr
  have := main csc.names [] h
  unfold closureFor
  rw [← bind_pure (pure (closL env csc.names []) : Sem _), ← this]
theorem closL_look {env : Env} {x : Str} : ∀ {names : List (Str × NameKind)} {acc : List (Str × Addr)}, (∀ y a, acc.lookup y = some a → env.cells.lookup y = some a) → (∀ y, (y, NameKind.free) ∈ names → ∃ a, env.cells.lookup y = some a) →
    (∀ a, (closL env names acc).lookup x = some a → env.cells.lookup x = some a) ∧ (((x, NameKind.free) ∈ names ∨ (acc.lookup x).isSome = true) → ((closL env names acc).lookup x).isSome = true)
  | [], acc, ha, _ => ⟨fun a e => ha x a e, fun h => h.elim (fun h => nomatch h) id⟩
  | (y, k) :: r, acc, ha, hf => by
    have hr : ∀ z, (z, NameKind.free) ∈ r → ∃ a, env.cells.lookup z = some a := fun z hz => hf z (List.mem_cons_of_mem _ hz)
    unfold closL
    by_cases hk : k = .free
    · subst hk
      obtain ⟨b, hb⟩ := hf y List.mem_cons_self
      have ha' : ∀ z a, (((y, (env.cells.lookup y).getD 0) :: acc).lookup z) = some a → env.cells.lookup z = some a := fun z a e => by
        rw [List.lookup_cons] at e
        by_cases hz : z = y
        · subst hz; rw [beq_self_eq_true, hb] at e; cases e; exact hb
        · rw [beq_eq_false_iff_ne.mpr hz] at e; exact ha z a e
      obtain ⟨h1, h2⟩ := closL_look (x := x) ha' hr
      rw [if_pos (by decide)]
      refine ⟨h1, fun h => h2 ?_⟩
      rw [List.lookup_cons]
      by_cases hx : x = y
      · subst hx; rw [beq_self_eq_true]; exact .inr rfl
      · rw [beq_eq_false_iff_ne.mpr hx]
        exact h.imp (fun h => (List.mem_cons.mp h).resolve_left fun e => hx (by cases e; rfl)) id
    · obtain ⟨h1, h2⟩ := closL_look (x := x) ha hr
      rw [if_neg (by simpa using hk)]
      exact ⟨h1, fun h => h2 (h.imp (fun h => (List.mem_cons.mp h).resolve_left fun e => hk (by cases e; rfl)) id)⟩
end Mine
namespace Mine
open PySem PySem.Calls PyProof.Rows PySem.W
theorem lookup_relabel {env : Env} {x : Str} : ∀ {names : List (Str × NameKind)}, (names.map fun (n, k) => if (k == NameKind.free && env.scope.kind == .function && env.kindOf n == some .cell) then (n, NameKind.cell) else (n, k)).lookup x =
    (names.lookup x).map fun k => if (k == NameKind.free && env.scope.kind == .function && env.kindOf x == some .cell) then .cell else k
  | [] => rfl
  | (y, k) :: r => by
    rw [List.map_cons]
    have e : (if (k == NameKind.free && env.scope.kind == .function && env.kindOf y == some .cell) = true then (y, NameKind.cell) else (y, k)) = (y, if (k == NameKind.free && env.scope.kind == .function && env.kindOf y == some .cell) = true then NameKind.cell else k) := by split <;> rfl
    show List.lookup x ((if (k == NameKind.free && env.scope.kind == .function && env.kindOf y == some .cell) = true then (y, NameKind.cell) else (y, k)) :: _) = _
    rw [e, List.lookup_cons, List.lookup_cons]
    by_cases h : x = y
    · subst h; rw [beq_self_eq_true]; rfl
    · rw [beq_eq_false_iff_ne.mpr h]; exact lookup_relabel
theorem cells_from {x : Str} {a : Addr} : ∀ {names : List (Str × NameKind)} {m : Nat}, (x, a) ∈ cellsFrom m names [] → (x, NameKind.cell) ∈ names
  | [], _, h => nomatch h
  | (y, k) :: r, m, h => by
    unfold cellsFrom at h
    split at h
    · rename_i hk
      rw [cellsFrom_acc, List.mem_append] at h
      rcases h with h | h
      · exact .tail _ (cells_from h)
      · have e := List.mem_singleton.mp h
        cases e
        rw [eq_of_beq hk]; exact .head _
    · exact .tail _ (cells_from h)
theorem lookup_of_mem {x : Str} {k : NameKind} : ∀ {names : List (Str × NameKind)}, (names.map (·.1)).Nodup → (x, k) ∈ names → names.lookup x = some k
  | (y, k') :: r, hn, h => by
    rw [List.map_cons, List.nodup_cons] at hn
    rw [List.lookup_cons]
    rcases List.mem_cons.mp h with e | h2
    · cases e; rw [beq_self_eq_true]
    · have hne : x ≠ y := fun q => by subst q; exact hn.1 (List.mem_map_of_mem (f := (·.1)) h2)
      rw [beq_eq_false_iff_ne.mpr hne]
      exact lookup_of_mem hn.2 h2
theorem closL_mem {env : Env} {x : Str} : ∀ {names : List (Str × NameKind)} {acc : List (Str × Addr)}, ((closL env names acc).lookup x).isSome = true → (x, NameKind.free) ∈ names ∨ (acc.lookup x).isSome = true
  | [], _, h => .inr h
  | (y, k) :: r, acc, h => by
    unfold closL at h
    split at h
    · rename_i hk
      rcases closL_mem h with h | h
      · exact .inl (.tail _ h)
      · rw [List.lookup_cons] at h
        by_cases hx : x = y
        · subst hx; rw [eq_of_beq hk]; exact .inl (.head _)
        · rw [beq_eq_false_iff_ne.mpr hx] at h; exact .inr h
    · exact (closL_mem h).imp (.tail _) id
noncomputable def Wn (s : Shared) (csc : Scope) (a : Addr) : Prop := a = s.heap.objs.size ∨ ∃ x, (x, a) ∈ cellsFrom (s.heap.objs.size + 1) csc.names []
noncomputable abbrev compE (env : Env) (csc : Scope) (s : Shared) : Env :=
  { scope := relabel csc env, locals := s.heap.objs.size, globals := env.globals, cells := cellsFrom (s.heap.objs.size + 1) csc.names [] ++ closL env csc.names [], qual := env.qual, func := none, code := env.code, frame := env.frame, builtins := env.builtins }
section
variable {c : Cx} {F : Addr → Prop} {μ : List Addr} {s : Shared} {σ : Sto} {env : Env} {sc csc : Scope} {ρ ρ' : Ro} {h' : Heap}
theorem comp_enter (I : Inv c F μ s σ) (N : EnvR F μ s.heap env sc ρ) (hk : csc.kind = .function) (hnd : (csc.names.map (·.1)).Nodup) (htag : csc.names.lookup ("script" : Str) ≠ some .local) (hfree : ∀ x, (x, NameKind.free) ∈ csc.names → sc.names.lookup x = some .cell ∨ sc.names.lookup x = some .free)
    (hρ : ∀ x v, ρ'.lookup x = some v → csc.names.lookup x = some .free ∧ ρ.lookup x = some v)
    (hns : h'.Ns s.heap.objs.size (fun _ => none)) (kp : ∀ b o, s.heap.get? b = some o → h'.get? b = some o) (ok : CellsOk h' (s.heap.objs.size + 1) (cellsFrom (s.heap.objs.size + 1) csc.names [])) :
    Go c (fun a => F a ∨ Wn s csc a) NoW μ s σ μ { s with heap := h' } σ ∧ EnvR (fun a => F a ∨ Wn s csc a) μ h' (compE env csc s) csc ρ' ∧ (∀ a, Wn s csc a → s.heap.get? a = none) ∧ (∀ a, Own (compE env csc s) csc a → Wn s csc a) ∧ ∀ a, Mem (compE env csc s) a → Wn s csc a ∨ Mem env a := by
  have none_ : ∀ b, s.heap.objs.size ≤ b → s.heap.get? b = none := fun b hb => by
    cases e : s.heap.get? b with
    | none => rfl
    | some o => exact absurd (Heap.lt_size e) (Nat.not_lt.mpr hb)
  have new : ∀ a, Wn s csc a → s.heap.get? a = none := fun a w => by
    rcases w with rfl | ⟨x, w⟩
    · exact none_ _ (Nat.le_refl _)
    · exact none_ _ (Nat.le_of_succ_le (ok.empty x a w).2)
  have ex : ∀ a, Wn s csc a → ∃ o, h'.get? a = some o := fun a w => by
    rcases w with rfl | ⟨x, w⟩
    · obtain ⟨o, _, _, e, _⟩ := hns; exact ⟨o, e⟩
    · obtain ⟨o, e, _⟩ := (ok.empty x a w).1; exact ⟨o, e⟩
  have g : Go c (fun a => F a ∨ Wn s csc a) NoW μ s σ μ { s with heap := h', toks := s.toks, gens := s.gens } σ := I.step I.bare (fun _ h => h.elim) (fun b o _ e => kp b o e) fun a h => h.imp id fun w => ⟨new a w, ex a w⟩
  have pr : Pres F μ s.heap (fun a => F a ∨ Wn s csc a) μ h' := g.pres (fun _ h => h.elim) fun a h => h.imp id (new a)
  have outer : ∀ x, (x, NameKind.free) ∈ csc.names → env.scope.names.lookup x = some .cell ∨ env.scope.names.lookup x = some .free := fun x hx => by
    rcases hfree x hx with h | h
    · exact .inl ((N.kinds x _ h).resolve_right fun q => absurd q.1 (by decide))
    · exact (N.kinds x _ h).elim .inr fun q => .inl q.2
  have clo : ∀ x, (x, NameKind.free) ∈ csc.names → ∃ a, env.cells.lookup x = some a := fun x hx => let ⟨a, _, e, _⟩ := N.cell x (outer x hx); ⟨a, e⟩
  have app : ∀ {x : Str} {l1 l2 : List (Str × Addr)}, (l1 ++ l2).lookup x = (l1.lookup x).or (l2.lookup x) := fun {x l1 l2} => List.lookup_append
  have own : ∀ x a, csc.names.lookup x = some .cell → (compE env csc s).cells.lookup x = some a → (x, a) ∈ cellsFrom (s.heap.objs.size + 1) csc.names [] := fun x a hx e => by
    obtain ⟨b, hb⟩ := Option.isSome_iff_exists.mp (cells_of (acc := []) (m := s.heap.objs.size + 1) (.inl hx))
    rw [show (compE env csc s).cells.lookup x = _ from app, hb] at e
    cases e
    exact mem_of_lookup hb
  have hfr : ∀ x, csc.names.lookup x = some .free → (cellsFrom (s.heap.objs.size + 1) csc.names []).lookup x = none := fun x hx => by
    cases e : (cellsFrom (s.heap.objs.size + 1) csc.names []).lookup x with
    | none => rfl
    | some a =>
      have := lookup_of_mem hnd (cells_from (mem_of_lookup e))
      rw [hx] at this; cases this
  have rel : ∀ x, (compE env csc s).scope.names.lookup x = (csc.names.lookup x).map fun k => if (k == NameKind.free && env.scope.kind == .function && env.kindOf x == some .cell) then .cell else k := fun x => lookup_relabel
  have relk : ∀ x k, csc.names.lookup x = some k → (compE env csc s).scope.names.lookup x = some (if (k == NameKind.free && env.scope.kind == .function && env.kindOf x == some .cell) = true then .cell else k) := fun x k e => (rel x).trans (by rw [e]; rfl)
  have look : ∀ x a, (compE env csc s).cells.lookup x = some a → (x, a) ∈ cellsFrom (s.heap.objs.size + 1) csc.names [] ∨ ((x, NameKind.free) ∈ csc.names ∧ env.cells.lookup x = some a) := fun x a e => by
    rw [show (compE env csc s).cells.lookup x = _ from app] at e
    cases e2 : (cellsFrom (s.heap.objs.size + 1) csc.names []).lookup x with
    | some b => rw [e2] at e; cases e; exact .inl (mem_of_lookup e2)
    | none =>
      rw [e2] at e
      have e : (closL env csc.names []).lookup x = some a := e
      exact .inr ⟨(closL_mem (acc := []) (by rw [e]; rfl)).resolve_right (fun h => nomatch h), (closL_look (acc := []) (fun y a e => nomatch e) clo).1 a e⟩
  refine ⟨g, ⟨hk, fun x k e => ?_, N.glob, N.bns, .inr (.inl rfl), ⟨_, hns, fun x v e hl => ?_⟩, fun x hx => ?_, fun x y a e1 e2 => ?_, fun h => absurd h htag⟩, new, fun a h => h.elim .inl fun ⟨x, hx, e⟩ => .inr ⟨x, own x a hx e⟩, fun a h => h.elim (fun e => .inl (.inl e)) fun ⟨x, _, e⟩ => (look x a e).imp (fun m => .inr ⟨x, m⟩) fun m => .inr ⟨x, outer x m.1, m.2⟩⟩
  · rw [relk x k e]
    by_cases q : (k == NameKind.free && env.scope.kind == .function && env.kindOf x == some .cell) = true
    · refine .inr ⟨?_, by rw [if_pos q]⟩
      simp only [Bool.and_eq_true] at q
      exact eq_of_beq q.1.1
    · exact .inl (by rw [if_neg q])
  · rw [relk x _ (hρ x v e).1] at hl
    simp only [Option.some.injEq] at hl
    split at hl <;> cases hl
  · cases e : csc.names.lookup x with
    | none => rw [rel, e] at hx; rcases hx with hx | hx <;> cases hx
    | some k =>
      by_cases q : k = .cell
      · subst q
        obtain ⟨b, hb⟩ := Option.isSome_iff_exists.mp (cells_of (acc := []) (m := s.heap.objs.size + 1) (.inl e))
        have hm := mem_of_lookup hb
        refine ⟨b, none, by rw [show (compE env csc s).cells.lookup x = _ from app, hb]; rfl, .inr (.inr ⟨x, hm⟩), fun q => ?_, (ok.empty x b hm).1, fun v hv => ?_⟩
        · exact absurd (ok.empty x b hm).2 (by rw [q]; exact Nat.not_succ_le_self _)
        · have := (hρ x v hv).1
          rw [e] at this
          cases this
      · have hf : k = .free := by
          rw [relk x k e] at hx
          by_cases q2 : k = .free
          · exact q2
          · rw [show (k == NameKind.free) = false by simpa using q2] at hx
            simp only [Bool.false_and, Bool.false_eq_true, if_false, Option.some.injEq] at hx
            exact hx.elim (fun h => absurd h q) id
        subst hf
        have hm := mem_of_lookup e
        obtain ⟨b, cv, e1, e2, e3, ⟨o, e4, e4'⟩, e5⟩ := N.cell x (outer x hm)
        obtain ⟨b', hb'⟩ := Option.isSome_iff_exists.mp ((closL_look (x := x) (acc := []) (fun y a e => nomatch e) clo).2 (.inl hm))
        have hbb := (closL_look (x := x) (acc := []) (fun y a e => nomatch e) clo).1 b' hb'
        rw [e1] at hbb
        cases hbb
        refine ⟨b, cv, by rw [show (compE env csc s).cells.lookup x = _ from app, hfr x e]; exact hb', .inl e2, fun q => ?_, ⟨o, kp b o e4, e4'⟩, fun v hv => ?_⟩
        · exact absent e4 (by rw [q]; exact none_ _ (Nat.le_refl _))
        · obtain ⟨y, r1, r2⟩ := e5 v (hρ x v hv).2
          exact ⟨y, r1, r2.pres pr⟩
  · have at_ : ∀ {z : Str}, (z, a) ∈ cellsFrom (s.heap.objs.size + 1) csc.names [] → ∀ {z' : Str}, ((z', NameKind.free) ∈ csc.names ∧ env.cells.lookup z' = some a) → False := fun {z} m {z'} e => by
      obtain ⟨b, cv, f1, f2, f3, ⟨o, f4, _⟩, _⟩ := N.cell z' (outer z' e.1)
      rw [e.2] at f1
      cases f1
      exact absent f4 (new a (.inr ⟨z, m⟩))
    rcases look x a e1 with h1 | h1 <;> rcases look y a e2 with h2 | h2
    · exact name_of_addr ok.apart h1 h2
    · exact (at_ h1 h2).elim
    · exact (at_ h2 h1).elim
    · exact N.inj x y a h1.2 h2.2
end
end Mine
namespace Mine
open PySem PySem.Calls PyProof.Rows PySem.W
noncomputable def emitOf (e elt : PySem.Expr) (gens : List Comprehension) (d : Nat) (acc : Value) (env : Env) : Sem Unit := match gens[d + 1]? with
  | some g => do
    let x ← eval g.iter env
    standAt g.iter.pos
    let x ← foldedSetIterable g.iter env x
    let _ ← runOwn (.compStart e (d + 1) (← holding [x] (pyIter x)) acc env) env
  | none => do let _ ← call (.builtin "list.append") [acc, ← eval elt env]
noncomputable def testsOf (ifs : List PySem.Expr) (env : Env) : Sem Bool := forIn ifs true fun c r => if r = true then do let ok ← isTrue c env (eval c env); pure (ForInStep.yield ok) else pure (ForInStep.yield r)
section
variable {c : Cx} {n : Nat} {csc : Scope} {ρ ρ1 ρ2 ρ3 : Ro} {σ σ1 σ2 σ3 : Sto} {elt : PySem.Expr} {gens : List Comprehension} {pos : Pos} {d a : Nat} {g : Comprehension}
theorem comp_step {it acc : Value} {A : Around} {env : Env} {s : Shared} {R : Result → Shared → Prop} (hg : gens[d]? = some g) (hb : ∀ g ∈ gens, g.is_async = 0)
    (h : ∀ E : Value → Shared → Prop, wpAny c.M A (pyNext it) (fun r s1 => (r = none ∧ R (.ok .next) s1) ∨ ∃ x, r = some x ∧ wpAny c.M A (letOwnedTupleGo g.target it x) (fun _ s2 => wpAny c.M A (assign g.target env x) (fun _ s3 =>
      wpAny c.M A (testsOf g.ifs env) (fun ok s4 => wpAny c.M A (if ok then emitOf (.ListComp elt gens csc pos) elt gens d acc env else pure ()) (fun _ s5 => codeAny c.M A (.compLoop (.ListComp elt gens csc pos) d it acc env) R s5) E s4) E s3) E s2) E s1) E s) :
    codeAny c.M A (.compLoop (.ListComp elt gens csc pos) d it acc env) R s := by
  refine codeAny_of_tree ?_
  rw [Around.under_of_weight (c := .compLoop (.ListComp elt gens csc pos) d it acc env) rfl rfl]
  show wpAny _ A ((compTurn (.ListComp elt gens csc pos) d it acc env).onRaise (fun x => do noteFrame x env; theTreesLotGoes x)) _ _ s
  refine wpAny_noted ?_
  have ha : (g.is_async != 0) = false := by rw [hb g (List.mem_of_getElem? hg)]; rfl
  unfold compTurn
  simp only [hg, ha, Bool.false_eq_true, if_false]
  refine wpAny_bind (wpAny_standAt (wpAny_bind (wpAny_mono (h _) (fun r s₁ h₁ => ?_) fun _ _ x => x)))
  rcases h₁ with ⟨rfl, h₁⟩ | ⟨x, rfl, h₁⟩
  · exact wpAny_pure h₁
  · refine wpAny_bind (wpAny_mono h₁ (fun _ s₂ h₂ => wpAny_bind (wpAny_mono h₂ (fun _ s₃ h₃ => ?_) fun _ _ x => x)) fun _ _ x => x)
    refine wpAny_bind (wpAny_mono h₃ (fun ok s₄ h₄ => ?_) fun _ _ x => x)
    have fin : wpAny c.M A ((if ok then emitOf (.ListComp elt gens csc pos) elt gens d acc env else pure ()) >>= fun _ => again (.compLoop (.ListComp elt gens csc pos) d it acc env)) (fun fin s' => match fin with | .done f => R (.ok f) s' | .again c' => c'.quiet = true ∧ codeAny c.M A c' R s') (notedBy c.M A env fun e s' => R (.error e) s') s₄ := wpAny_bind (wpAny_mono h₄ (fun _ _ q => wpAny_pure ⟨rfl, q⟩) fun _ _ x => x)
    cases ok with
    | false => exact fin
    | true =>
      simp only [if_true] at fin ⊢
      unfold emitOf at fin
      cases hn : gens[d + 1]? with
      | none => rw [hn] at fin; exact fin
      | some g' =>
        rw [hn] at fin
        have hb' : (g'.is_async != 0) = false := by rw [hb g' (List.mem_of_getElem? hn)]; rfl
        simp only [hb', Bool.false_eq_true, if_false]
        simp only [bind_assoc, pure_bind] at fin ⊢
        exact fin
noncomputable def CompL (c : Cx) (n : Nat) (e : PySem.Expr) (csc : Scope) (t : PySem.Expr) (d a : Nat) (ρ : Ro) (σ : Sto) (xs : List AV) (vers : List (Nat × Nat)) (ρ' : Ro) (σ' : Sto) : Prop :=
  ∀ ⦃A : Around⦄ ⦃F F0 Wr : Addr → Prop⦄ ⦃μ0 μ : List Addr⦄ ⦃s0 s : Shared⦄ ⦃σ0 : Sto⦄ ⦃env : Env⦄ ⦃I ad : Addr⦄ ⦃R : Result → Shared → Prop⦄, Room A n → (∀ a, F a ↔ F0 a ∨ Wr a) → (∀ a, Wr a → s0.heap.get? a = none) → (∀ a, F0 a → ¬Wr a) →
    (∀ a, Mem env a → F0 a) →
    Go c F (fun a => Own env csc a ∨ Wr a) μ0 s0 σ0 μ s σ → EnvR F μ s.heap env csc ρ → Itr c A F Wr μ s σ t I xs vers → μ[a]? = some ad →
    (∀ s' μ', Go c F0 (Own env csc) μ0 s0 σ0 μ' s' σ' → EnvR F0 μ' s'.heap env csc ρ' → μ'[a]? = some ad → R (.ok .next) s') → codeAny c.M A (.compLoop e d (.ref I) (.ref ad) env) R s
noncomputable def CompT (c : Cx) (n : Nat) (e elt : PySem.Expr) (gens : List Comprehension) (csc : Scope) (d a : Nat) (ρ : Ro) (σ : Sto) (ρ' : Ro) (σ' : Sto) : Prop :=
  ∀ ⦃A : Around⦄ ⦃E : Value → Shared → Prop⦄ ⦃F : Addr → Prop⦄ ⦃μ : List Addr⦄ ⦃s : Shared⦄ ⦃env : Env⦄ ⦃ad : Addr⦄ ⦃Q : Unit → Shared → Prop⦄, Room A n → Inv c F μ s σ → EnvR F μ s.heap env csc ρ → μ[a]? = some ad →
    (∀ s' μ', Go c F (Own env csc) μ s σ μ' s' σ' → EnvR F μ' s'.heap env csc ρ' → Q () s') → wpAny c.M A (emitOf e elt gens d (.ref ad) env) Q E s
noncomputable def TestR (c : Cx) (n : Nat) (csc : Scope) (ifs : List PySem.Expr) (ρ : Ro) (σ : Sto) (k : Bool) : Prop := (ifs = [] ∧ k = true) ∨ ∃ i, ifs = [i] ∧ IsT c n csc i ρ σ k σ
variable {xs : List AV} {x v : AV} {vers : List (Nat × Nat)} {k : Bool}
theorem CompL.nil (hg : gens[d]? = some g) (hb : ∀ g ∈ gens, g.is_async = 0) : CompL c n (.ListComp elt gens csc pos) csc g.target d a ρ σ [] vers ρ σ := by
  intro A F F0 Wr μ0 μ s0 s σ0 env I ad R rm hF hW hd hM p N T ha q
  refine comp_step hg hb fun E => ?_
  refine wpAny_mono (T.done (F0 := F0) p hW (fun a x => ⟨(hF a).2 (.inl x), hd a x⟩) (Q := fun r s' => r = none ∧ R (.ok .next) s') fun s' g pr k => ⟨rfl, q _ _ (g.weaken fun a x => x.imp id (hW a)) (N.pres pr hM fun a o m e => k a o (hM a m) e) ha⟩) (fun r s1 h => .inl h) fun _ _ x => x
theorem CompL.cons (hg : gens[d]? = some g) (hb : ∀ g ∈ gens, g.is_async = 0) (h1 : AsR c csc g.target x ρ ρ1) (hi : TestR c n csc g.ifs ρ1 σ k) (h2 : k = true → CompT c n (.ListComp elt gens csc pos) elt gens csc d a ρ1 σ ρ2 σ1) (h2' : k = false → ρ2 = ρ1 ∧ σ1 = σ) (hv : VersOk σ1 vers)
    (h3 : CompL c n (.ListComp elt gens csc pos) csc g.target d a ρ2 σ1 xs vers ρ3 σ2) : CompL c n (.ListComp elt gens csc pos) csc g.target d a ρ σ (x :: xs) vers ρ3 σ2 := by
  intro A F F0 Wr μ0 μ s0 s σ0 env I ad R rm hF hW hd hM p N T ha q
  have hWF : ∀ a, Wr a → F a := fun a h => (hF a).2 (.inr h)
  refine comp_step hg hb fun E => wpAny_mono (T.turn (Q := fun x s2 => wpAny c.M A (assign g.target env x) (fun _ s3 => wpAny c.M A (testsOf g.ifs env) (fun ok s4 => wpAny c.M A (if ok then emitOf (.ListComp elt gens csc pos) elt gens d (.ref ad) env else pure ()) (fun _ s5 => codeAny c.M A (.compLoop (.ListComp elt gens csc pos) d (.ref I) (.ref ad) env) R s5) E s4) E s3) E s2)
    p.inv fun v s1 g1 rv T1 => ?_) (fun r s1 h => .inr h) fun _ _ x => x
  have N1 : EnvR F μ s1.heap env csc ρ := N.pres (g1.pres hWF fun _ h => .inl h) N.mem fun a o m e => g1.sameF p.inv (N.mem a m) (hd a (hM a m)) e
  refine h1 rm.hh g1.inv N1 rv fun s2 g2 N2 => ?_
  have on : ∀ {s3 μ3}, Go c F (Own env csc) μ s2 σ μ3 s3 σ1 → EnvR F μ3 s3.heap env csc ρ2 → codeAny c.M A (.compLoop (.ListComp elt gens csc pos) d (.ref I) (.ref ad) env) R s3 := fun g3 N3 => by
    have g23 := g2.trans g3
    refine h3 rm hF hW hd hM ((p.trans (g1.weaken fun a h => .inl (.inr h))).trans (g23.weaken fun a h => .inl (.inl h))) N3 (T1.go g23 g1.inv (fun a h => ⟨N.own h, hd a (hM a ?_)⟩) hv) (g3.pre _ _ ha) q
    rcases h with h | ⟨y, h, h'⟩
    · exact .inl h
    · exact .inr ⟨y, .inl ((N.kinds y _ h).resolve_right fun q => absurd q.1 (by decide)), h'⟩
  have test : ∀ {Q : Bool → Shared → Prop}, (∀ s3 μ3, Go c F NoW μ s2 σ μ3 s3 σ → Q k s3) → wpAny c.M A (testsOf g.ifs env) Q E s2 := fun {Q} hq => by
    rcases hi with ⟨e, rfl⟩ | ⟨i, e, hi⟩
    · rw [e]; exact wpAny_pure (hq _ _ (.refl g2.inv))
    · rw [e]; exact wpAny_tests_one (hi rm g2.inv N2 hq)
  refine test fun s3 μ3 g3 => ?_
  have N3 := N2.go g2.inv g3
  cases k with
  | false =>
    obtain ⟨rfl, rfl⟩ := h2' rfl
    exact wpAny_pure (on g3.own N3)
  | true => exact h2 rfl rm g3.inv N3 (g3.pre _ _ ha) fun s4 μ4 g4 N4 => on (g3.own.trans g4) N4
theorem CompT.emit {ys : List AV} {w : Nat} (hg : gens[d + 1]? = none) (h : EvE c n csc elt ρ σ v σ1) (ho : σ1[a]? = some ⟨w, none, ys⟩) (hl : ys.length < lim) : CompT c n (.ListComp elt gens csc pos) elt gens csc d a ρ σ ρ (chg σ1 a ⟨w, none, ys⟩ (ys ++ [v])) := by
  intro A E F μ s env ad Q rm I N ha q
  unfold emitOf
  rw [hg]
  refine wpAny_bind (h rm I N fun x s1 μ1 p1 r1 => wpAny_bind (CallR.append (c := c) (n := n) ho hl rm p1.inv (.val _) (.cons (.mref (p1.pre _ _ ha)) (.one r1)) ⟨rfl, .nil⟩ fun y s2 μ2 p2 _ => wpAny_pure ?_))
  exact q _ _ (p1.trans p2).own (N.go I (p1.trans p2))
end
end Mine
namespace Mine
open PySem PySem.Calls PyProof.Rows PySem.W
noncomputable def SubEnv (csc : Scope) (ρ : Ro) : Ro → Prop
  | [] => True
  | (x, v) :: r => csc.names.lookup x = some .free ∧ ρ.lookup x = some v ∧ SubEnv csc ρ r
theorem SubEnv.look {csc : Scope} {ρ : Ro} {x : Str} {v : AV} : ∀ {r : Ro}, SubEnv csc ρ r → r.lookup x = some v → csc.names.lookup x = some .free ∧ ρ.lookup x = some v
  | (y, w) :: r, h, e => by
    rw [List.lookup_cons] at e
    by_cases hx : x = y
    · subst hx; rw [beq_self_eq_true] at e; cases e; exact ⟨h.1, h.2.1⟩
    · rw [beq_eq_false_iff_ne.mpr hx] at e; exact h.2.2.look e
structure InSc (csc sc : Scope) : Prop where
  kind : csc.kind = .function
  nd : (csc.names.map (·.1)).Nodup
  tag : csc.names.lookup ("script" : Str) ≠ some .local
  free : ∀ p ∈ csc.names, p.2 = .free → sc.names.lookup p.1 = some .cell ∨ sc.names.lookup p.1 = some .free
section
variable {c : Cx} {n : Nat} {sc csc : Scope} {ρ ρ0 ρ1 ρ2 ρ3 : Ro} {σ σ1 σ2 σ3 : Sto} {elt : PySem.Expr} {gens : List Comprehension} {pos : Pos} {d a : Nat} {g : Comprehension} {xs ys : List AV} {vers : List (Nat × Nat)}
theorem comp_start {it acc : Value} {A : Around} {env : Env} {s : Shared} {R : Result → Shared → Prop} (hg : gens[d]? = some g) (hb : ∀ g ∈ gens, g.is_async = 0)
    (h : ∀ E : Value → Shared → Prop, wpAny c.M A (pyIter it) (fun it' s' => codeAny c.M A (.compLoop (.ListComp elt gens csc pos) d it' acc env) R s') E s) (h0 : codeAny c.M A (.compLoop (.ListComp elt gens csc pos) d it acc env) R s) :
    codeAny c.M A (.compStart (.ListComp elt gens csc pos) d it acc env) R s := by
  refine codeAny_of_tree ?_
  rw [Around.under_of_weight (c := .compStart (.ListComp elt gens csc pos) d it acc env) rfl rfl]
  show wpAny _ A ((compStart (.ListComp elt gens csc pos) d it acc env).onRaise (fun x => do noteFrame x env; standAt theWindowsPlace)) _ _ s
  refine wpAny_notedAt ?_
  unfold compStart
  have ha : (g.is_async != 0) = false := by rw [hb g (List.mem_of_getElem? hg)]; rfl
  have e : (clausesOf (.ListComp elt gens csc pos))[d]? = some g := hg
  simp only [e, Option.elim_some, ha, Bool.false_eq_true, if_false]
  refine wpAny_bind (wpAny_askSetting (wpAny_ite ?_))
  split
  · first
      | exact wpAny_bind (wpAny_pure (wpAny_pure (And.intro rfl h0)))
      | exact wpAny_pure (And.intro rfl h0)
  · exact wpAny_bind (wpAny_rule (wpAny_bind (wpAny_standAt (wpAny_bind (wpAny_mono (h _) (fun it' s' h' => wpAny_pure (And.intro rfl h')) fun _ _ x => x)))))
theorem CompT.inner (hg : gens[d + 1]? = some g) (hb : ∀ g ∈ gens, g.is_async = 0) (hs : ∀ env x, foldedSetIterable g.iter env x = pure x) (h : SrcR c n csc g.iter g.target ρ σ xs vers σ1) (hl : CompL c n (.ListComp elt gens csc pos) csc g.target (d + 1) a ρ σ1 xs vers ρ1 σ2) :
    CompT c n (.ListComp elt gens csc pos) elt gens csc d a ρ σ ρ1 σ2 := by
  intro A E F μ s env ad Q rm I N ha q
  unfold emitOf
  rw [hg]
  refine wpAny_bind (wpAny_mono (h rm I N fun J s' μ' F' Wr hF hWr g1 T => ?_) (fun x s1 h1 => wpAny_bind (wpAny_standAt (wpAny_bind (wpAny_of_eq (hs env x) (wpAny_bind (wpAny_holding (wpAny_mono h1 (fun it s2 h2 =>
    wpAny_bind (wpAny_runOwn h2)) fun _ _ y => y))))))) fun _ _ y => y)
  have hd : ∀ a, F a → ¬Wr a := fun a x y => let ⟨_, e⟩ := I.flt a (.inl x); absent e (hWr a y)
  have fin := hl rm hF hWr hd N.mem (g1.weaken fun _ h => h.elim) (N.pres (g1.pres (fun _ h => h.elim) fun a x => ((hF a).1 x).imp id (hWr a)) (fun a m => (hF a).2 (.inl (N.mem a m))) fun a o m e => g1.same a o (fun h => h) (I.fm a (N.mem a m)) (fun t => (I.ft a t).1 (N.mem a m)) e) T (g1.pre _ _ ha)
    (R := fun r s' => match r with | .ok f => wpAny c.M A (pure () : Sem Unit) Q E s' | .error e => cameBackBy c.M A env E e s') fun s2 μ2 p2 N2 _ => wpAny_pure (q _ _ p2 N2)
  exact comp_start hg hb (fun E => T.self fin) fin
theorem comp_core {A : Around} {E : Value → Shared → Prop} {F : Addr → Prop} {μ : List Addr} {s : Shared} {env : Env} {p0 : Pos} {use : Option (Value → Sem Unit)} {Q : Value → Shared → Prop} (S : InSc csc sc) (hρ : SubEnv csc ρ ρ0) (hb : ∀ x ∈ g :: gens, x.is_async = 0) (hs : ∀ env x, foldedSetIterable g.iter env x = pure x)
    (h : SrcR c n sc g.iter g.target ρ σ xs vers σ1) (hv : VersOk σ1 vers) (hl : CompL c n (.ListComp elt (g :: gens) csc pos) csc g.target 0 σ1.length ρ0 (σ1 ++ [⟨0, none, []⟩]) xs vers ρ1 σ2) (rm : Room A n) (I : Inv c F μ s σ) (N : EnvR F μ s.heap env sc ρ)
    (q : ∀ ad C s' μ' F' W, Go c F' W μ s σ μ' s' σ2 → (∀ a, F a → F' a) → (∀ a, F' a → F a ∨ s.heap.get? a = none) → (∀ a, W a → s.heap.get? a = none) → μ'[σ1.length]? = some ad → F' C → s.heap.get? C = none → (∃ m, s'.heap.Ns C m) → compPost c.M A E use Q (.ref ad) C (.ok .next) s') :
    wpAny c.M A (comprehension (.ListComp elt (g :: gens) csc pos) csc env p0 (newList []) false (eval g.iter env) use) Q E s := by
  have outer : ∀ x, (x, NameKind.free) ∈ csc.names → ∃ a, env.cells.lookup x = some a := fun x hx => by
    have k : env.scope.names.lookup x = some .cell ∨ env.scope.names.lookup x = some .free := by
      rcases S.free _ hx rfl with h | h
      · exact .inl ((N.kinds x _ h).resolve_right fun q => absurd q.1 (by decide))
      · exact (N.kinds x _ h).elim .inr fun q => .inl q.2
    obtain ⟨a, _, e, _⟩ := N.cell x k
    exact ⟨a, e⟩
  refine wpAny_comprehension_free rfl (hs env) (closure_ok outer) S.kind (fun x hx hk => by obtain ⟨y, k⟩ := x; cases hk; exact lookup_of_mem S.nd hx) (h rm I N fun J s1 μ1 F1 Wr hF hWr g1 T => ?_)
  refine wpAny_newObj_type ?_ (Nat.zero_le _)
  have g2 := g1.inv.newM (h' := s1.heap.push { cls := .type "list", data := .seq [].toArray }) (tk := s1.toks) (ad := s1.heap.objs.size) (o := ⟨0, Option.none, []⟩) (.push _) (fresh_at _) ⟨_, Heap.get?_push_size _ rfl⟩
    fun pr => ⟨Nat.zero_le _, [], _, .nil, fun _ => Heap.get?_push_size _ rfl, fun _ e => by cases e⟩
  have T2 := T.go (W := NoW) g2 g1.inv (fun _ h => h.elim) fun p m => let ⟨o, e, r⟩ := hv p m; ⟨o, by rw [List.getElem?_append_left (List.getElem?_eq_some_iff.mp e).1]; exact e, r⟩
  have g12 := g1.trans g2
  have toF : ∀ a, F1 a → F a ∨ s.heap.get? a = none := fun a x => ((hF a).1 x).imp id (hWr a)
  have hF1 : ∀ a, F a → F1 a := fun a x => (hF a).2 (.inl x)
  have N2 := N.pres (g12.pres (fun _ h => h.elim) toF) (fun a m => hF1 a (N.mem a m)) fun a o m e => g12.same a o (fun h => h) (I.fm a (N.mem a m)) (fun t => (I.ft a t).1 (N.mem a m)) e
  refine comp_env fun h' hns kp ok => ?_
  obtain ⟨g3, N3, new, own, hM⟩ := comp_enter (csc := csc) g12.inv N2 S.kind S.nd S.tag (fun x hx => S.free _ hx rfl) (fun x v e => hρ.look e) hns kp ok
  have T3 := T2.goF g3 g2.inv (fun _ h => h.elim) (fun a h => .inl h) (fun a h => h.imp id (new a)) fun p m => let ⟨o, e, r⟩ := hv p m; ⟨o, by rw [List.getElem?_append_left (List.getElem?_eq_some_iff.mp e).1]; exact e, r⟩
  let s2_ : Shared := { s1 with heap := s1.heap.push { cls := .type "list", data := .seq [].toArray } }
  have new0 : ∀ a, Wn { s1 with heap := s1.heap.push { cls := .type "list", data := .seq [].toArray } } csc a → s.heap.get? a = none := fun a w => by
    cases e : s.heap.get? a with
    | none => rfl
    | some o => obtain ⟨o', e'⟩ := g12.ex a o e; exact absent e' (new a w)
  have fin : ∀ {R : Result → Shared → Prop}, R = compPost c.M A E use Q (.ref s1.heap.objs.size) s2_.heap.objs.size → codeAny c.M A (.compLoop (.ListComp elt (g :: gens) csc pos) 0 (.ref J) (.ref s1.heap.objs.size) (compE env csc s2_)) R _ := fun {R} hR => by
    subst hR
    refine hl rm (F0 := fun a => F a ∨ Wn s2_ csc a) (fun a => ⟨fun h => h.elim (fun h => ((hF a).1 h).imp .inl id) fun h => .inl (.inr h), fun h => h.elim (fun h => h.imp (hF1 a) id) fun h => .inl ((hF a).2 (.inr h))⟩) hWr (fun a h w => ?_) (fun a m => (hM a m).elim .inr fun m => .inl (N.mem a m)) ((g12.trans g3).weaken fun _ h => h.elim) N3 T3
      (by rw [← g1.inv.len]; simp) fun s' μ' p' N' ha => q _ _ s' μ' _ _ p' (fun a h => .inl h) (fun a h => h.imp id (new0 a)) (fun a h => new0 a (own a h)) ha (.inr (.inl rfl)) (new0 _ (.inl rfl)) ?_
    · rcases h with h | h
      · obtain ⟨_, e⟩ := I.flt a (.inl h); exact absent e (hWr a w)
      · obtain ⟨_, e⟩ := g12.inv.flt a (.inl ((hF a).2 (.inr w))); exact absent e (new a h)
    · obtain ⟨m, hm, _⟩ := N'.ns
      exact ⟨m, hm⟩
  exact comp_start rfl hb (fun E => T3.self (fin rfl)) (fin rfl)
theorem comp_out {F F' W : Addr → Prop} {μ μ' : List Addr} {s s' : Shared} {ad C : Addr} {w : Nat} (I : Inv c F μ s σ) (p : Go c F' W μ s σ μ' s' σ2) (hF : ∀ a, F a → F' a) (hW : ∀ a, W a → s.heap.get? a = none) (ha : μ'[σ.length]? = some ad) (hC : F' C) (hCn : s.heap.get? C = none)
    (ho : σ2[σ.length]? = some ⟨w, none, ys⟩) (hy : ∀ y ∈ ys, Lo σ.length y) (hlo : LoSto σ.length σ2) : Go c F' NoW μ s σ μ s' (σ2.take σ.length) ∧ VR F' μ s'.heap (.lst ys) (.ref ad) ∧ ∀ b ∈ [C], F' b ∧ s.heap.get? b = none :=
  have ⟨g, tk⟩ := p.cut (W0 := NoW) I.len (fun a h => .inr (hW a h)) hlo
  ⟨g, OutR.okF (.inr ⟨_, _, _, rfl, Nat.le_refl _, ho, rfl, hy⟩) p I.len tk (.mref ha), fun b m => by rw [List.mem_singleton.mp m]; exact ⟨hC, hCn⟩⟩
theorem comp_less {F F' : Addr → Prop} {μ : List Addr} {s : Shared} {C : Addr} (I : Inv c F μ s σ) (hF : ∀ a, F a → F' a) (hCn : s.heap.get? C = none) : ∀ a, F a → F' a ∧ a ∉ [C] := fun a h => ⟨hF a h, fun m => by
  obtain ⟨_, e⟩ := I.flt a (.inl h)
  exact absent e (List.mem_singleton.mp m ▸ hCn)⟩
theorem EvE.comp {w : Nat} (S : InSc csc sc) (hρ : SubEnv csc ρ ρ0) (hb : ∀ x ∈ g :: gens, x.is_async = 0) (hs : ∀ env x, foldedSetIterable g.iter env x = pure x) (h : SrcR c n sc g.iter g.target ρ σ xs vers σ) (hv : VersOk σ vers)
    (hl : CompL c n (.ListComp elt (g :: gens) csc pos) csc g.target 0 σ.length ρ0 (σ ++ [⟨0, Option.none, []⟩]) xs vers ρ1 σ2) (ho : σ2[σ.length]? = some ⟨w, Option.none, ys⟩) (hy : ∀ y ∈ ys, Lo σ.length y) (hlo : LoSto σ.length σ2) :
    EvE c n sc (.ListComp elt (g :: gens) csc pos) ρ σ (.lst ys) (σ2.take σ.length) := by
  intro A E F μ s env Q rm I N q
  have h0 : firstAsync (g :: gens) = false := by
    have := hb g (.head _)
    obtain ⟨t, i, f, a⟩ := g
    cases this; rfl
  have h1 : firstIter (g :: gens) env = eval g.iter env := by cases g; rfl
  rw [eval_ListComp, h0, h1]
  refine comp_core S hρ hb hs h hv hl rm I N fun ad C s' μ' F' W p hF hF' hW ha hC hCn ⟨m, hm⟩ => ⟨m, hm, fun h' hs => ?_⟩
  obtain ⟨g1, r, hc⟩ := comp_out I p hF hW ha hC hCn ho hy hlo
  obtain ⟨g2, pr, _⟩ := g1.release (tk := s'.toks) hc (comp_less I hF hCn) fun b o nb e => (hs.2 b fun q => nb (List.mem_singleton.mpr q)).trans e
  exact q _ _ _ g2 (r.pres pr)
theorem StR.assignComp {w : Nat} {y : Str} {py spos : Pos} (S : InSc csc sc) (hρ : SubEnv csc ρ ρ0) (hb : ∀ x ∈ g :: gens, x.is_async = 0) (hs : ∀ env x, foldedSetIterable g.iter env x = pure x) (h : SrcR c n sc g.iter g.target ρ σ xs vers σ) (hv : VersOk σ vers)
    (hl : CompL c n (.ListComp elt (g :: gens) csc pos) csc g.target 0 σ.length ρ0 (σ ++ [⟨0, none, []⟩]) xs vers ρ1 σ2) (ho : σ2[σ.length]? = some ⟨w, none, ys⟩) (hy : ∀ y ∈ ys, Lo σ.length y) (hlo : LoSto σ.length σ2)
    (hk : sc.names.lookup y = some .local) (hp : (py.line == pos.line) = true) (hn : (csc.names.any fun (n, k) => n == y && (k == .local || k == .cell)) = false) :
    StR c n sc (.Assign [.Name y py] (.ListComp elt (g :: gens) csc pos) spos) ρ σ .nxt (put y (.lst ys) ρ) (σ2.take σ.length) := by
  intro A E F μ s env Q rm I N q
  have h0 : firstAsync (g :: gens) = false := by
    have := hb g (.head _)
    obtain ⟨t, i, f, a⟩ := g
    cases this; rfl
  have h1 : firstIter (g :: gens) env = eval g.iter env := by cases g; rfl
  have hl0 : env.kindOf y = some .local := (N.kinds y _ hk).resolve_right fun q => absurd q.1 (by decide)
  have hb0 : env.blockKind = .function := by unfold Env.blockKind; rw [N.kind]; rfl
  have hsw : swapsWith (.ListComp elt (g :: gens) csc pos) (some (.Name y py)) spos.line env = pure true := by
    show (pure (env.blockKind == .function && env.kindOf y == some .local && py.line == pos.line && !(csc.names.any fun (n, k) => n == y && (k == .local || k == .cell))) : Sem Bool) = pure true
    rw [hl0, hb0, hp, hn]; rfl
  rw [exec_Assign_Name_used _ _ _ _ hsw]
  refine wpAny_bind (wpAny_standAt (wpAny_bind ?_))
  show wpAny _ A (do let _ ← comprehension (.ListComp elt (g :: gens) csc pos) csc env (firstIterPos (g :: gens) pos) (newList []) (firstAsync (g :: gens)) (firstIter (g :: gens) env) (some (PySem.assign (.Name y py) env))) _ _ s
  rw [h0, h1]
  refine wpAny_bind (wpAny_mono (comp_core (Q := fun _ s' => Q .next s') S hρ hb hs h hv hl rm I N fun ad C s' μ' F' W p hF hF' hW ha hC hCn ⟨m, hm⟩ => ?_) (fun _ s' hq => wpAny_pure (wpAny_pure hq)) fun _ _ e => e)
  obtain ⟨g1, r, hc⟩ := comp_out I p hF hW ha hC hCn ho hy hlo
  have N1 : EnvR F' μ s'.heap env sc ρ := N.pres (g1.pres (fun _ h => h.elim) hF') (fun a m => hF a (N.mem a m)) fun a o m e => g1.same a o (fun h => h) (I.fm a (N.mem a m)) (fun t => (I.ft a t).1 (N.mem a m)) e
  refine AsR.name (c := c) (sc := sc) (.inl hk) rm.hh g1.inv N1 r fun s2 g2 N2 => ?_
  have nC : ¬Own env sc C := fun o => by obtain ⟨_, e⟩ := I.flt C (.inl (N.own o)); exact absent e hCn
  obtain ⟨o, es, ep, e, hr⟩ := hm
  refine ⟨m, ⟨o, es, ep, g2.sameF g1.inv hC nC e, hr⟩, fun h' hs => ?_⟩
  obtain ⟨g3, pr, kk⟩ := (g1.own.trans g2).release (tk := s2.toks) hc (comp_less I hF hCn) fun b o nb e => (hs.2 b fun q => nb (List.mem_singleton.mpr q)).trans e
  exact q _ _ _ g3 (N2.pres pr N.mem fun a o m e => kk a o (N.mem a m) e) .nxt
theorem StR.assignCell {y : Str} {py spos : Pos} {v : AV} (h : EvE c n sc (.ListComp elt gens csc pos) ρ σ v σ1) (hk : sc.names.lookup y = some .cell) : StR c n sc (.Assign [.Name y py] (.ListComp elt gens csc pos) spos) ρ σ .nxt (put y v ρ) σ1 := by
  intro A E F μ s env Q rm I N q
  have hl0 : env.kindOf y = some .cell := (N.kinds y _ hk).resolve_right fun q => absurd q.1 (by decide)
  refine wpAny_Assign_stores (h rm I N fun x s' μ' p r => ?_) ?_ rfl
  · exact AsR.name (c := c) (sc := sc) (.inr hk) rm.hh p.inv (N.go I p) r fun s2 p2 N2 => q _ _ _ (p.own.trans p2) N2 .nxt
  · show (pure (env.blockKind == .function && env.kindOf y == some .local && py.line == pos.line && !(csc.names.any fun (n, k) => n == y && (k == .local || k == .cell))) : Sem Bool) = pure false
    rw [hl0]
    have : (some NameKind.cell == some NameKind.local) = false := rfl
    rw [this, Bool.and_false]; rfl
end
end Mine
namespace Mine
open PySem PySem.Calls PyProof.Rows PySem.W
section
variable {c : Cx} {n : Nat} {sc : Scope} {ρ ρ1 ρ2 : Ro} {σ σ1 : Sto} {e : PySem.Expr} {ts vs : List PySem.Expr} {k k2 : Nat} {pos tp vp : Pos} {v : AV}
theorem swapped_cell {env : Env} {x : Str} {p : Pos} (hx : env.kindOf x = some .cell) (hm : .Name x p ∈ ts) : swappedStores [.Tuple ts k tp] (.Tuple vs k2 vp) env = pure none := by
  unfold swappedStores
  dsimp only
  split
  · rfl
  · split
    · rfl
    · rw [if_pos]
      · simp only [Bool.or_eq_true, bne_iff_ne, ne_eq]
        refine .inl fun h => ?_
        rw [List.filterMap_length_eq_length] at h
        have := h _ hm
        dsimp only at this
        rw [hx, show (some NameKind.cell == some NameKind.local) = false from rfl, Bool.false_and, if_neg (by decide)] at this
        cases this
theorem swapped_const {env : Env} (h : vs.all (foldedForSure 8) = true) : swappedStores [.Tuple ts k tp] (.Tuple vs k2 vp) env = pure none := by
  unfold swappedStores
  dsimp only
  split
  · rfl
  · split
    · rfl
    · split
      · rfl
      · first | rfl | rw [if_pos h]
theorem StR.assignT {x : Str} {p : Pos} (h : EvE c n sc (.Tuple vs k2 vp) ρ σ v σ1) (ha : AsR c sc (.Tuple ts k tp) v ρ ρ1) (hk : (sc.names.lookup x = some .cell ∧ .Name x p ∈ ts) ∨ vs.all (foldedForSure 8) = true) (he : ∀ env, assignEach [.Tuple ts k tp] env = [(false, PySem.assign (.Tuple ts k tp) env)]) :
    StR c n sc (.Assign [.Tuple ts k tp] (.Tuple vs k2 vp) pos) ρ σ .nxt ρ1 σ1 := by
  intro A E F μ s env Q rm I N q
  refine wpAny_Assign_stores (h rm I N fun x s' μ' p r => ?_) rfl (hk.elim (fun h => swapped_cell ((N.kinds _ _ h.1).resolve_right fun q => absurd q.1 (by decide)) h.2) swapped_const)
  rw [he]
  exact ha rm.hh p.inv (N.go I p) r fun s2 p2 N2 => q _ _ _ (p.own.trans p2) N2 .nxt
theorem StR.swap2 {x y : Str} {p1 p2 : Pos} {e1 e2 : PySem.Expr} {a b : AV} (h : EvE c n sc (.Tuple [e1, e2] k2 vp) ρ σ (.tup [a, b]) σ1) (hx : sc.names.lookup x = some .local) (hy : sc.names.lookup y = some .local)
    (hw : ∀ env : Env, env.blockKind = .function → env.kindOf x = some .local → env.kindOf y = some .local → swappedStores [.Tuple [.Name x p1, .Name y p2] k tp] (.Tuple [e1, e2] k2 vp) env = pure (some [x, y])) :
    StR c n sc (.Assign [.Tuple [.Name x p1, .Name y p2] k tp] (.Tuple [e1, e2] k2 vp) pos) ρ σ .nxt (put x a (put y b ρ)) σ1 := by
  intro A E F μ s env Q rm I N q
  have hb0 : env.blockKind = .function := by unfold Env.blockKind; rw [N.kind]; rfl
  have kd : ∀ x, sc.names.lookup x = some .local → env.kindOf x = some .local := fun x h => (N.kinds x _ h).resolve_right fun q => absurd q.1 (by decide)
  refine Assign_Tuple_swapped (names := [x, y]) (h rm I N fun z s' μ' p r => ?_) rfl (hw env hb0 (kd x hx) (kd y hy))
  obtain ⟨ad, ys, rfl, _, ht, _, rs⟩ := r.tup_inv
  obtain ⟨u, w, rfl, r1, r2⟩ := rs.inv2
  refine wpAny_unpackItems_tuple (items := [u, w].toArray) rm.hh ht fun h' he => ?_
  have kk : Kp s' { s' with heap := h' } := fun b o e => he b o (fun q => absent (q ▸ e) (fresh_at _)) e
  have g : Go c F (Own env sc) μ' s' σ1 μ' { s' with heap := h', toks := s'.toks } σ1 := p.inv.grow kk
  have N1 := (N.go I p).pres kk.pres (N.go I p).mem fun a o _ e => kk a o e
  refine wpAny_bind (wpAny_holding (wpAny_bindName (store_ok g.inv N1 (.inl hy) (r2.pres kk.pres) fun s2 g2 N2 => wpAny_bind (wpAny_holding (wpAny_bindName (store_ok g2.inv N2 (.inl hx) ((r1.pres kk.pres).pres (g2.pres (fun a => N2.own) fun _ h => .inl h)) fun s3 g3 N3 => wpAny_pure ?_))))))
  exact q _ _ _ (p.own.trans (g.trans (g2.trans g3))) N3 .nxt
end
end Mine
namespace Mine
open PySem PySem.Calls PyProof.Rows PySem.W
structure TopR (c : Cx) : Prop where
  lam : CodeHd c.g 168 166
  gen : CodeHd c.g 85 81
  mg : ∃ mg, c.g.Ns mainGlobals mg ∧ c.g.BuiltinsAt mg 166 ∧ c.g.BuiltinsAt mg 81
  lim : c.g.NoLimit
theorem code_old {pos : Pos} {a b : Int} {c x : Value} (l : List Value) (h : TriplesOk l) (e : codeAmong pos (l ++ [rawInt a, rawInt b, c]) = some x) : codeAmong pos l = some x ∨ x = c := by
  fun_induction TriplesOk l with
  | case1 =>
    simp only [List.nil_append, codeAmong, rawInt] at e
    split at e
    · cases e; exact .inr rfl
    · cases e
  | case2 a' t b' u y rest ih =>
    simp only [List.cons_append, codeAmong] at e ⊢
    split at e
    · rename_i h2; rw [if_pos h2]; exact .inl e
    · rename_i h2; rw [if_neg h2]; exact ih h e
  | case3 l h1 h2 => exact h.elim
theorem builtinsAt_keeps {h h' : Heap} {mg : Str → Option Value} {P : Addr} (k : ∀ b o, h.get? b = some o → h'.get? b = some o) (x : h.BuiltinsAt mg P) : h'.BuiltinsAt mg P :=
  let ⟨bm, o, h1, h2, h3, h4, h5, r⟩ := x; ⟨bm, o, h1, h2, h3, h4, k _ _ h5, r⟩
section
variable {c : Cx} {n : Nat} {sc lsc : Scope} {ρ : Ro} {σ σ1 : Sto} {pos : Pos} {v : AV} {F : Addr → Prop} {μ : List Addr} {s : Shared}
theorem Inv.tab (I : Inv c F μ s σ) {h' : Heap} {tk : Nat} {P : Addr} (hP : Tab P) (hk : ∀ b o, b ≠ P → s.heap.get? b = some o → h'.get? b = some o) (hx : ∃ o, h'.get? P = some o)
    (h1 : Pres F μ s.heap F μ h' → TabOk qLam 166 F μ h') (h2 : Pres F μ s.heap F μ h' → TabOk qGen 81 F μ h') : Go c F NoW μ s σ μ { s with heap := h', toks := tk } σ := by
  have p : Pres F μ s.heap F μ h' := ⟨fun b o n e => ⟨hk b o (fun q => n (.inr (.inr (q ▸ hP)))) e, n⟩, fun _ _ e => e⟩
  have km : ∀ a ∈ μ, ∀ o, s.heap.get? a = some o → h'.get? a = some o := fun a m o e => hk a o (fun q => (I.ft P hP).2 (q ▸ m)) e
  have ex : ∀ a o, s.heap.get? a = some o → ∃ o', h'.get? a = some o' := fun a o e => (Classical.em (a = P)).elim (fun q => q ▸ hx) fun q => ⟨o, hk a o q e⟩
  exact ⟨fun a o _ _ nt e => hk a o (fun q => nt (q ▸ hP)) e, ex, fun _ _ e => e, fun _ h => .inl h, fun i o e => ⟨o, e, Nat.le_refl _, rfl, fun _ => ⟨rfl, fun a ob ha hb => km a (List.mem_of_getElem? ha) ob hb⟩⟩,
    ⟨fun a o e => hk a o (fun q => absent e (q ▸ I.fg P (.inr (.inr hP)))) (I.keep a o e), I.fg, fun a h => let ⟨o, e⟩ := I.flt a h; ex a o e, I.fm, I.ft, I.nd, I.len, fun i o a e1 e2 => (I.mo i o a e1 e2).pres p (km a (List.mem_of_getElem? e2)), I.bare, I.os, h1 p, h2 p⟩⟩
theorem TabOk.add {q : Str} {P k : Addr} {h h' : Heap} {ps : Array Value} {oc : Obj} {vs : Array Value} {t : Tok} {a b : Int} (p : Pres F μ h F μ h') (x : TabOk q P F μ h) (e : h.get? P = some (tabObj ps)) (e' : h'.get? P = some (tabObj (ps ++ #[rawInt a, rawInt b, .ref k])))
    (hn : ¬Hid F μ k) (hk : h'.get? k = some oc) (hd : oc.data = .fields vs) (hv : vs[1]? = some (.str q t)) : TabOk q P F μ h' := by
  obtain ⟨ps', e0, ht, r⟩ := x
  rw [e] at e0; cases e0
  have hl : (ps ++ #[rawInt a, rawInt b, Value.ref k]).toList = ps.toList ++ [rawInt a, rawInt b, .ref k] := by simp
  refine ⟨_, e', by rw [hl]; exact TriplesOk_snoc _ _ _ _ ht, fun pos x hx => ?_⟩
  rw [hl] at hx
  rcases code_old _ ht hx with h | rfl
  · obtain ⟨a, o, rfl, n, e1, e2⟩ := r pos x h
    exact ⟨a, o, rfl, (p.at_ a o n e1).2, (p.at_ a o n e1).1, e2⟩
  · exact ⟨k, oc, rfl, hn, hk, vs, t, hd, hv⟩
theorem lam_raw {ps : Arguments} {body : PySem.Expr} {clos : List (Str × Addr)} {A : Around} {E : Value → Shared → Prop} {env : Env} {Q : Value → Shared → Prop} (T : TopR c) (I : Inv c F μ s σ) (N : EnvR F μ s.heap env sc ρ) (hs : sc.names.lookup ("script" : Str) = some .local) (hcl : closureFor lsc env = pure clos)
    (he : eval (.Lambda ps body lsc pos) env = makeFunction "<lambda>" (env.qual ++ "<lambda>") ps (.expr body) lsc env [] [] [] pos pos.line)
    (q : ∀ a s', Go c F NoW μ s σ μ s' σ → ¬Hid F μ a → LamC clos F μ s'.heap a ps body lsc → Q (.ref a) s') : wpAny c.M A (eval (.Lambda ps body lsc pos) env) Q E s := by
  rw [he]
  obtain ⟨hcode, hq⟩ := N.tag hs
  obtain ⟨mg, hg, hb, _⟩ := T.mg
  obtain ⟨tb, e0, ht, hr⟩ := id I.lam
  have hgs : s.heap.Ns mainGlobals mg := hg.keeps I.keep
  have C := T.lam.keeps I.keep
  have hbs := builtinsAt_keeps I.keep hb
  have hP : Tab 166 := .inl rfl
  cases hc : codeAmong pos tb.toList with
  | some cv =>
    obtain ⟨k, ok, rfl, hn, e1, us, t, e2, e3⟩ := hr pos cv hc
    refine kla_makeFunctionHit hcl N.glob hgs hcode C e0 ht hc hbs fun ctv h' tk kp hz => ?_
    have kk : Kp s { s with heap := h'.push { cls := .type "function", data := .func (kla_fn "<lambda>" (env.qual ++ "<lambda>") ps body lsc clos ((mg "__name__").getD .none) (.ref k) ctv) }, toks := tk } := fun b o e => Heap.get?_push_of_some _ (kp b o e)
    have fr : s.heap.get? h'.objs.size = Option.none := by
      cases e : s.heap.get? h'.objs.size with
      | none => rfl
      | some o => exact absurd (Heap.lt_size e) (Nat.not_lt.mpr hz)
    exact q _ _ (I.grow kk) (I.newN fr) ⟨_, _, k, ok, Heap.get?_push_size _ rfl, rfl, rfl, rfl, rfl, rfl, rfl, rfl, rfl, rfl, rfl, hn, kk _ _ e1, us, t, e2, by rw [e3, ← hq]⟩
  | none =>
    refine kla_makeFunction hcl N.glob hgs hcode C e0 ht hc (fun w => by rw [← w] at e0; obtain ⟨o, _, _, e, hd, _⟩ := hgs; rw [e0] at e; cases e; cases hd) hbs fun k ctv h' tk kx hz hlt hcr hnew => ?_
    obtain ⟨k', oc, us, t, ek, e1, e2, e3⟩ := hcr
    cases ek
    have fr : ∀ b, s.heap.objs.size ≤ b → s.heap.get? b = Option.none := fun b hb => by
      cases e : s.heap.get? b with
      | none => rfl
      | some o => exact absurd (Heap.lt_size e) (Nat.not_lt.mpr hb)
    have hk : ∀ b o, b ≠ 166 → s.heap.get? b = some o → (h'.push { cls := .type "function", data := .func (kla_fn "<lambda>" (env.qual ++ "<lambda>") ps body lsc clos ((mg "__name__").getD .none) (.ref k) ctv) }).get? b = some o := fun b o hb e => Heap.get?_push_of_some _ (kx b o hb e)
    have hn : ¬Hid F μ k := I.newN (fr k hz)
    rw [hq] at e3
    have g := I.tab (h' := h'.push _) (tk := tk) hP hk ⟨_, Heap.get?_push_of_some _ hnew⟩ (fun p => I.lam.add p e0 (Heap.get?_push_of_some _ hnew) hn (Heap.get?_push_of_some _ e1) e2 e3) (fun p => I.gen.pres p fun o e => hk _ o (by decide) e)
    refine q _ _ g (I.newN (fr _ (Nat.le_trans hz (Nat.le_of_lt hlt)))) ⟨_, _, k, oc, Heap.get?_push_size _ rfl, rfl, rfl, rfl, rfl, rfl, rfl, rfl, rfl, rfl, rfl, hn, Heap.get?_push_of_some _ e1, us, t, e2, by rw [e3, ← hq]⟩
theorem EvE.lam {ps : Arguments} {body : PySem.Expr} (T : TopR c) (hs : sc.names.lookup ("script" : Str) = some .local) (hfree : ∀ x ∈ lsc.names, x.2 ≠ .free)
    (he : ∀ env, eval (.Lambda ps body lsc pos) env = makeFunction "<lambda>" (env.qual ++ "<lambda>") ps (.expr body) lsc env [] [] [] pos pos.line) : EvE c n sc (.Lambda ps body lsc pos) ρ σ (.lam ps body lsc) σ :=
  fun A E F μ s env Q rm I N q => lam_raw T I N hs (closureFor_none hfree) (he env) fun a s' g n L => q _ _ _ g (.lam n L)
theorem KeepR.lam {ps : Arguments} {body : PySem.Expr} : KeepR c σ (.lam ps body lsc) := fun F μ s f I r => by
  obtain ⟨a, rfl, _, o, fd, k, ok, e, hd, _⟩ := r.lam_inv
  exact ⟨.frame, .inl rfl, (Looks.ld (part := Option.none) e).andThen (by rw [hd]; exact .now)⟩
theorem CallR.lam {ap : Pos} {body : PySem.Expr} {a v : AV} (T : TopR c) (hx : lsc.names.lookup ("piece" : Str) = some .local) (hk : lsc.kind = .function) (hco : lsc.isCoroutine = false) (hgen : lsc.isGenerator = false) (hfree : ∀ y, lsc.names.lookup y ≠ some .free)
    (htag : lsc.names.lookup ("script" : Str) ≠ some .local) (hb : EvE c n lsc body [(("piece" : Str), a)] σ v σ) (hlo : LoSto σ.length σ) (hv : Lo σ.length v) : CallR c (n + 1) (.lam ⟨[], [⟨"piece", none, ap⟩], none, [], [], none, []⟩ body lsc) [a] [] σ v σ := by
  intro A E F μ s f ys kws Q rm I rf r rk q
  obtain rfl := rk.nil_inv
  obtain ⟨y, rfl, ry⟩ := r.inv1
  obtain ⟨ad, rfl, _, o, fd, k, ok, e, hd, e1, e2, e3, e4, e5, e6, e7, e8, e9, _, e10, us, t, e11, e12⟩ := rf.lam_inv
  have hcd : s.heap.CodeRec fd.code fd.qualname := ⟨k, ok, us, t, e9, e10, e11, e12⟩
  have hbd : bindArgs fd ⟨[y], []⟩ = pure [(("piece" : Str), y)] := by
    obtain ⟨nm, qn, prm, bd, scp⟩ := fd
    dsimp only at e1 e7 e8
    subst e1 e7 e8
    rfl
  refine wpAny_call (kla_callFunE rm.depth e hd (e3 ▸ hco) (e3 ▸ hgen) e2 hcd ?_)
  rw [hbd, e3, e4, e5, e6]
  refine wpAny_pure (wpAny_newFunctionEnv_cells hk (fun z hz => by rw [List.mem_singleton.mp hz]; exact .inl hx) fun env he s1 xx => ?_)
  obtain ⟨g, N, new⟩ := enter_ok I (ρ := [(("piece" : Str), a)]) (bs := [(("piece" : Str), y)]) (by rw [he]; rfl) hk hfree rfl (by simp) (.one ry) (fun h => absurd h htag) xx
  refine ⟨T.lim.keeps fun b o e => xx.toInCall.keep b o (I.keep b o e), kla_codeExpr (hb (rm.deeper env) g.inv N fun w s2 μ2 p2 r2 => ?_)⟩
  have p := g.trans p2
  obtain ⟨pr, tk⟩ := p.ret I (fun _ h => .inl h) (fun a h => h.elim) hlo
  rw [List.take_length] at pr
  exact q w s2 μ pr (OutR.ok (.inl ⟨hv, rfl⟩) p I (fun _ h => .inl h) tk r2)
end
end Mine
namespace Mine
open PySem PySem.Calls PyProof.Rows PySem.W
structure AccK (c : Cx) : Prop where
  x : c.K.In c.g
  getitem : findIn c.K (.ref 119) "__getitem__" = some (some (.builtin "list.__getitem__"))
  setitem : findIn c.K (.ref 119) "__setitem__" = some (some (.builtin "list.__setitem__"))
  iter : findIn c.K (.ref 119) "__iter__" = some (some (.builtin "list.__iter__"))
  sub : subIn c.K (.ref 119) (.type "list") = some true
  noSeq : noSeq c.K 119 = true
  ga : findIn c.K (.ref 119) "__getattribute__" = some (some (.builtin "list.__getattribute__"))
  gattr : findIn c.K (.ref 119) "__getattr__" = some none
  cls : ∃ cd, clsIn c.K 119 = some cd ∧ cd.mro = [.ref 119, .type "list", .type "object"] ∧ cd.qualname.toString = "_Accumulator"
  meta_ : typeIn c.K (.ref 119) = some (.type "type")
  noMod : subIn c.K (.ref 119) (.type "module") = some false
  opq : nsIn c.K cStatics "thirdparty.any" = some none
noncomputable def SeqAt (h : Heap) (a : Addr) (vs : Array Value) : Prop := ∃ o n, h.get? a = some o ∧ o.data = .seq vs n
noncomputable abbrev accO (d : Addr) (vs : List Value) (n : Nat) : Obj := { cls := .ref 119, dict := some d, data := .seq vs.toArray n }
theorem look_of {es : Array DictEntry} {m : Nat} {od : Obj} {nm : Str} (hd : od.data = .dict es m) (hk : StrKeys es) : lookIn nm od = some (nsFind es nm) := by
  have hany : es.toList.any (·.refKey) = false := by
    rw [List.any_eq_false]; intro e he; obtain ⟨n, t, h⟩ := hk e (by simpa using he); simp [DictEntry.refKey, h]
  unfold lookIn
  rw [hd]
  show (match es.toList.find? (·.key.isStr nm) with | some e => some (some e.val) | none => if es.toList.any (·.refKey) then none else some none) = _
  rw [hany]
  simp only [nsFind, findBy, ← Array.find?_toList]
  cases es.toList.find? (·.key.isStr nm) <;> rfl
section
variable {c : Cx} {n : Nat} {F : Addr → Prop} {μ : List Addr} {s : Shared} {σ : Sto} {i v : Nat} {k : Int} {xs : List AV} {A : Around} {E : Value → Shared → Prop} {a : Addr}
theorem acc_ok (I : Inv c F μ s σ) (ho : σ[i]? = some ⟨v, some k, xs⟩) (ha : μ[i]? = some a) : ∃ vs d od t e, s.heap.get? a = some (accO d vs e) ∧ s.heap.get? d = some od ∧
    lookIn "_initial_size" od = some (some (.int k t)) ∧ (∀ nm, nm ≠ ("_initial_size" : Str) → lookIn nm od = some none) ∧ VRs F μ s.heap xs vs ∧ xs.length ≤ lim ∧
    ∀ F' μ' h' vs' e' xs', Pres F μ s.heap F' μ' h' → h'.get? a = some (accO d vs' e') → VRs F' μ' h' xs' vs' → xs'.length ≤ lim → ∀ ver, MOk F' μ' h' a ⟨ver, some k, xs'⟩ := by
  obtain ⟨hl, vs, e, rs, _, h2⟩ := I.mo i _ a ho ha
  obtain ⟨d, h3, h4, od, es, m, t, h5, h0, h6, h7, h8⟩ := h2 k rfl
  exact ⟨vs, d, od, t, e, h3, h5, by rw [look_of h0 h6, h7], fun nm hn => by rw [look_of h0 h6, h8 nm hn], rs, hl, fun F' μ' h' vs' e' xs' p hg rs' hl' ver =>
    ⟨hl', vs', e', rs', (fun q => nomatch q), fun k' q => by cases q; exact ⟨d, hg, (p.at_ d _ h4 h5).2, od, es, m, t, (p.at_ d _ h4 h5).1, h0, h6, h7, h8⟩⟩⟩
theorem acc_inst {h : Heap} {d : Addr} {vs : List Value} {e : Nat} {od : Obj} (h1 : h.get? a = some (accO d vs e)) (h2 : h.get? d = some od) : InstAt h a (accO d vs e) 119 (some od) := ⟨h1, rfl, rfl, h2⟩
theorem acc_check {M : Model} {ob : Obj} {id n : String} {rest : List Value} {kw : List (Str × Value)} {Q : Unit → Shared → Prop} (KA : AccK c) (X : c.K.In s.heap) (ho : s.heap.get? a = some ob) (hc : ob.cls = .ref 119) (hsplit : splitId id = some ("list", n))
    (hkind : builtinKind id = some .slot ∨ builtinKind id = some .method) (ha : argsOk id ⟨.ref a :: rest, kw⟩) (hQ : Q () s) : wpAny M A (checkBuiltinCall id ⟨.ref a :: rest, kw⟩) Q E s := by
  rcases hkind with h | h <;>
  · simp only [checkBuiltinCall, h, hsplit]
    simp only [isInstance]
    refine wpAny_bind (wpAny_bind ((acc_type ho hc).here ((looks_subIn X KA.sub).here ?_)))
    simp only [Bool.not_true, Bool.false_eq_true, if_false]
    cases hsig : Manifest.signature? id with
    | none => exact wpAny_pure hQ
    | some sig =>
      simp only [argsOk, hsig] at ha
      have h2 : Bind.checkArgs id sig ⟨.ref a :: rest, kw⟩ = pure () := ha
      show wpAny M A (Bind.checkArgs id sig ⟨.ref a :: rest, kw⟩) Q E s
      rw [h2]; exact wpAny_pure hQ
theorem acc_entry {ob : Obj} {id n : String} {b : Builtin} {rest : List Value} {Q : Value → Shared → Prop} (KA : AccK c) (X : c.K.In s.heap) (ho : s.heap.get? a = some ob) (hc : ob.cls = .ref 119) (hsplit : splitId id = some ("list", n))
    (hkind : builtinKind id = some .slot ∨ builtinKind id = some .method) (hp : plainId id = true) (hb : entryFor table id = some b) (ha : argsOk id ⟨.ref a :: rest, []⟩)
    (h : wpAny c.M A.in1 (b ⟨.ref a :: rest, []⟩) (fun fin s' => ∃ v, fin = .done (.ret v) ∧ Q v s') E s) : wpAny c.M A (call (.builtin id) (.ref a :: rest)) Q E s := by
  refine wpAny_call (codeAny_call_builtin hp hb (acc_check KA X ho hc hsplit hkind ha (wpAny_mono h (fun fin s' h' => ?_) fun _ _ h' => h')))
  obtain ⟨v, rfl, hv⟩ := h'; exact hv
theorem acc_special {M : Model} {ob : Obj} {T id n : String} {name : Str} {args : List Value} {Q : Option Value → Shared → Prop} (X : c.K.In s.heap) (ho : s.heap.get? a = some ob) (hc : ob.cls = .ref 119)
    (hf : findIn c.K (.ref 119) name = some (some (.builtin id))) (hs : Slot T n id) (h : wpAny M A (call (.builtin id) (.ref a :: args)) (fun v => Q (some v)) E s) : wpAny M A (callSpecial? (.ref a) name args) Q E s := by
  simp only [callSpecial?, specialOf]
  refine wpAny_bind (wpAny_bind ((acc_type ho hc).here ((looks_findIn X hf).here ?_)))
  simp only [hs.bind]
  exact wpAny_holding (wpAny_bind (wpAny_pure (wpAny_bind (wpAny_mono h (fun v s' h' => wpAny_pure h') fun _ _ h' => h'))))
theorem acc_seqKey {M : Model} {ob : Obj} {k : Value} {name : Str} {Q : Value → Shared → Prop} (KA : AccK c) (X : c.K.In s.heap) (ho : s.heap.get? a = some ob) (hc : ob.cls = .ref 119) (h : Q k s) : wpAny M A (sequenceKey (.ref a) k name) Q E s := by
  unfold sequenceKey
  refine wpAny_bind ((acc_type ho hc).here ?_)
  have e : subIn c.K (.ref 119) (.type "collections.deque") = some false := by
    have := KA.noSeq
    unfold PySem.W.noSeq seqItemTypes at this
    simpa using this
  show wpAny M A ((["collections.deque"].anyM fun n => isSubtype (.ref 119) (.type n)) >>= _) Q E s
  refine wpAny_bind ?_
  show wpAny M A (isSubtype (.ref 119) (.type "collections.deque") >>= _) _ E s
  refine wpAny_bind ((looks_subIn X e).here ?_)
  exact wpAny_pure (wpAny_pure h)
theorem acc_getItem {ob : Obj} {k : Int} {t : Tok} {items : Array Value} {n : Nat} {x : Value} {Q : Value → Shared → Prop} (KA : AccK c) (X : c.K.In s.heap) (ho : s.heap.get? a = some ob) (hc : ob.cls = .ref 119) (hd : ob.data = .seq items n)
    (h0 : 0 ≤ k) (hfit : k < 2 ^ 63) (hx : items[k.toNat]? = some x) (h : Q x s) : wpAny c.M A (getItem (.ref a) (.int k t)) Q E s := by
  unfold getItem
  refine wpAny_holding ?_
  refine wpAny_bind (acc_seqKey KA X ho hc ?_)
  refine wpAny_bind (acc_special X ho hc KA.getitem slot_list_getitem (acc_entry (n := "__getitem__") KA X ho hc (by decide +kernel) (by decide +kernel) slot_list_getitem.plain entry_list_getitem (args_list_getitem _ _) ?_))
  show wpAny _ _ (Builtin.List.listSubscript? (.int k t) >>= _) _ _ s
  refine wpAny_bind (wpAny_listSubscript_int (fitsIndex_of h0 hfit) ?_)
  clear hfit
  obtain ⟨j, rfl⟩ := Int.eq_ofNat_of_zero_le h0
  have hx' : items[j]? = some x := hx
  show wpAny _ _ ((seqItemAt a j >>= fun r => pure (r.map (j, ·))) >>= _) _ _ s
  refine wpAny_bind (wpAny_bind (wpAny_seqItemAt ho hd (wpAny_pure ?_)))
  rw [hx']
  first
    | exact wpAny_bind (wpAny_pure (wpAny_pure ⟨x, rfl, wpAny_pure h⟩))
    | exact wpAny_pure ⟨x, rfl, wpAny_pure h⟩
theorem AccK.at_ (KA : AccK c) (I : Inv c F μ s σ) : c.K.In s.heap := KA.x.keeps I.keep
theorem acc_tail {ob : Obj} {value slice : PySem.Expr} {y : Value} {ops : List Value} {Q : Value → Shared → Prop} (KA : AccK c) (X : c.K.In s.heap) (ho : s.heap.get? a = some ob) (hc : ob.cls = .ref 119) (hg : wpAny c.M A (getItem (.ref a) y) Q E s)
    (hs : subscripted slice false (.ref a) y = operate ops (getItem (.ref a) y)) : wpAny c.M A (subscriptTail value slice (.ref a) y) Q E s := by
  unfold subscriptTail getitemInPython specialOf
  refine wpAny_bind (wpAny_bind (wpAny_bind ((acc_type ho hc).here ((looks_findIn X KA.getitem).here ?_))))
  refine wpAny_pure ?_
  rw [hs]
  exact wpAny_bind (wpAny_operating (wpAny_mono hg (fun r s₃ h₃ => wpAny_bind (wpAny_letTemporaryGo (wpAny_pure h₃))) fun _ _ x => x))
theorem SubR.acc {j : Nat} {v0 : AV} (KA : AccK c) (ho : σ[i]? = some ⟨v, some k, xs⟩) (hj : xs[j]? = some v0) : SubR c σ (.mref i) (.int j) v0 := by
  intro value slice A E F μ s x y Q _ I r1 r2 q
  obtain ⟨ops, hs⟩ := subscripted_any slice x y
  obtain ⟨l, rfl, ha⟩ := r1.mref_inv
  obtain ⟨t, rfl⟩ := r2.int_inv
  obtain ⟨vs, d, od, tt, e, h1, h2, h3, h4, rs, hl, _⟩ := acc_ok I ho ha
  obtain ⟨z, e3, r3⟩ := rs.get hj
  have hm : (lim : Int) = 1048576 := rfl
  have hjl := (List.getElem?_eq_some_iff.mp hj).1
  have fin : wpAny c.M A (getItem (.ref l) (.int j t)) Q E s := acc_getItem (n := e) KA (KA.at_ I) h1 rfl rfl (by lia) (by lia) (by simpa using e3) (q _ _ .refl I r3)
  exact acc_tail KA (KA.at_ I) h1 rfl fin hs
theorem acc_method {ob : Obj} {od : Option Obj} {nm : Str} {f t : Value} {pl : Sem Bool} {Q : Value × List Value → Shared → Prop} (KA : AccK c) (X : c.K.In s.heap) (I : InstAt s.heap a ob 119 od)
    (hf : findIn c.K (.ref 119) nm = some (some f)) (ht : typeIn c.K f = some t) (h3 : (t != .type "function" && t != .type "method_descriptor" && t != .type "wrapper_descriptor") = false) (hs : shadowIn od nm = some false) (h : Q (f, [.ref a]) s) :
    wpAny c.M A (getMethod (.ref a) nm pl) Q E s := by
  have hcan := PySem.canon_list_getattribute
  unfold getMethod specialOf
  refine wpAny_bind (wpAny_bind (I.type.here ((looks_findIn X KA.ga).here ?_)))
  dsimp only
  rw [hcan, if_neg (by decide)]
  refine wpAny_bind (wpAny_bind (I.type.here ((looks_findIn X KA.gattr).here ?_)))
  refine wpAny_bind (wpAny_bind (I.type.here ((looks_findIn X hf).here (wpAny_bind ((looks_typeIn X ht).here ?_)))))
  rw [h3, if_neg (by decide)]
  refine wpAny_bind (wpAny_loadPart I.at_ ?_)
  have hd := I.dict
  cases e : ob.dict with
  | none => exact wpAny_bind (wpAny_rule (wpAny_pure h))
  | some dx =>
    cases od with
    | none => rw [e] at hd; exact hd.elim
    | some o =>
      rw [e] at hd
      obtain ⟨r, a, b⟩ := Option.map_eq_some_iff.mp hs
      refine wpAny_bind (wpAny_bind (wpAny_loadPart hd ?_))
      rw [nsLook_of a]
      refine wpAny_pure ?_
      rw [b]
      exact wpAny_bind (wpAny_rule (wpAny_pure h))
theorem GetR.acc {nm : Str} {f t : Value} (KA : AccK c) (ho : σ[i]? = some ⟨v, some k, xs⟩) (hf : findIn c.K (.ref 119) nm = some (some f)) (ht : typeIn c.K f = some t) (h3 : (t != .type "function" && t != .type "method_descriptor" && t != .type "wrapper_descriptor") = false)
    (hn : nm ≠ ("_initial_size" : Str)) : GetR c σ (.mref i) nm f := fun A E F μ s y pl Q I r q => by
  obtain ⟨l, rfl, ha⟩ := r.mref_inv
  obtain ⟨vs, d, od, tt, e, h1, h2, _, h4, _⟩ := acc_ok I ho ha
  exact acc_method KA (KA.at_ I) (acc_inst h1 h2) hf ht h3 (by show (lookIn nm _).map _ = _; rw [h4 nm hn]; rfl) q
end
end Mine
namespace Mine
open PySem PySem.Calls PyProof.Rows PySem.W
theorem acc_upd {h : Heap} {a d : Addr} {vs : List Value} {e : Nat} {f : Array Value → Array Value} {ws : List Value} (ho : h.get? a = some (accO d vs e)) (hf : f vs.toArray = ws.toArray) : ∃ e', (h.update a (Obj.mapSeq f)).get? a = some (accO d ws e') := by
  rw [Heap.get?_update_self (Obj.mapSeq f) ho rfl]
  simp only [Obj.mapSeq, hf]
  exact ⟨_, rfl⟩
section
variable {c : Cx} {n : Nat} {sc : Scope} {ρ : Ro} {F : Addr → Prop} {μ : List Addr} {s : Shared} {σ σ1 σ2 σ3 : Sto} {i v w : Nat} {k : Int} {xs : List AV} {A : Around} {E : Value → Shared → Prop} {a : Addr}
theorem CallR.appendA {x : AV} (KA : AccK c) (ho : σ[i]? = some ⟨v, some k, xs⟩) (hl : xs.length < lim) : CallR c n (.val (.builtin "list.append")) [.mref i, x] [] σ .none (chg σ i ⟨v, some k, xs⟩ (xs ++ [x])) := by
  intro A E F μ s f ys kws Q _ I rf r rk q
  obtain rfl := rf.val_inv
  obtain rfl := rk.nil_inv
  obtain ⟨u, y, rfl, r1, r2⟩ := r.inv2
  obtain ⟨ad, rfl, ha⟩ := r1.mref_inv
  obtain ⟨vs, d, od, tt, e, h1, h2, _, _, rs, _, hb⟩ := acc_ok I ho ha
  refine acc_entry (n := "append") KA (KA.at_ I) h1 rfl (by decide +kernel) (by decide +kernel) (by decide +kernel) PySem.F.entry_list_append (PySem.F.args_list_append_2 _ _) ?_
  show wpAny _ _ (Builtin.List.listUpdate (.ref ad) (·.push y) >>= fun _ => ret .none) _ _ s
  have hs := rs.size (Nat.le_of_lt hl)
  refine wpAny_bind (listUpdate_at h1 rfl (wpAny_pure ⟨.none, rfl, ?_⟩) hs (by rw [Array.size_push]; exact Nat.succ_le_succ hs))
  obtain ⟨e', he⟩ := acc_upd (f := (·.push y)) (ws := vs ++ [y]) h1 (by simp)
  exact q _ _ _ (I.change (tk := s.toks) (xs := xs ++ [x]) ho ha (Heap.SameBut.update ..) (fun p => hb _ _ _ _ _ _ p he ((rs.pres p).append (.one (r2.pres p))) (by rw [List.length_append, List.length_singleton]; exact Nat.succ_le_of_lt hl) _) ⟨_, he⟩) .none
theorem clip_nat {n k : Nat} (h : k ≤ n) : clipAt n (k : Int) = k := by
  have := clipAt_cast n k
  rw [if_neg (by lia)] at this
  lia
theorem slice_parts {α : Type} {sl : Addr} {vl : Value} {k : Int} {Q : α → Shared → Prop} {u : Value × Value × Value → Sem α} (hs : s.heap.IsSliceOf sl vl .none .none) (pl : IsPart vl (some k))
    (h : wpAny c.M A (u (rawPart (some k), rawPart none, rawPart none)) Q E s) : wpAny c.M A (Builtin.List.listSliceParts (.ref sl) >>= u) Q E s := by
  obtain ⟨os, hos, _, hds⟩ := id hs
  rw [listSliceParts_eq]
  refine wpAny_bind (wpAny_bind (wpAny_field hos hds (x := .none) rfl (wpAny_bind (wpAny_listPart .none ?_))))
  rw [if_neg (show ¬ ((rawPart none == rawInt 0) = true) from Bool.false_ne_true)]
  refine wpAny_bind (wpAny_field hos hds (x := vl) rfl (wpAny_bind (wpAny_listPart pl ?_)))
  exact wpAny_bind (wpAny_field hos hds (x := .none) rfl (wpAny_bind (wpAny_listPart .none (wpAny_pure h))))
theorem slice_idx {k m : Nat} {Q : Int × Int × Int → Shared → Prop} (hk : k ≤ m) (h : Q ((k : Int), (m : Int), 1) s) : wpAny c.M A (sliceIndices (rawPart (some (k : Int))) (rawPart none) (rawPart none) m) Q E s := by
  refine wpAny_of_eq (sliceIndices_raw (some (k : Int)) none none m (by simp)) ?_
  rw [sliceBounds_plain]
  simp only [Option.elim_some, Option.elim_none, clip_nat hk]
  exact h
theorem noIndex {sl : Addr} {Q : Option Int → Shared → Prop} (hT : s.TypeIs (.ref sl) "slice") (h : Q none s) : wpAny c.M A (Builtin.List.listSubscript? (.ref sl)) Q E s := by
  unfold Builtin.List.listSubscript?
  refine wpAny_bind (wpAny_specialOf hT slice_no_index ?_)
  simp only [Option.isNone_none, if_true]
  exact wpAny_pure h
theorem SliR.acc {j : Nat} (KA : AccK c) (ho : σ[i]? = some ⟨v, some k, xs⟩) (hj : j ≤ xs.length) : SliR c σ (.mref i) (.int j) .none .none (.lst (xs.drop j)) := by
  intro value slice A E F μ s x l u t sl Q I r r1 r2 r3 hsl fin
  obtain ⟨ops, hs⟩ := subscripted_any slice x (.ref sl)
  obtain ⟨ad, rfl, ha⟩ := r.mref_inv
  obtain ⟨tj, rfl⟩ := r1.int_inv
  obtain rfl := r2.none_inv
  obtain rfl := r3.none_inv
  obtain ⟨vs, d, od, tt, e, h1, h2, _, _, rs, hlim, _⟩ := acc_ok I ho ha
  have X := KA.at_ I
  obtain ⟨os, hos, hcs, hds⟩ := id hsl
  have hT : s.TypeIs (.ref sl) "slice" := ⟨os, hos, hcs⟩
  refine acc_tail KA X h1 rfl ?_ hs
  unfold getItem
  refine wpAny_holding ?_
  refine wpAny_bind (acc_seqKey KA X h1 rfl ?_)
  refine wpAny_bind (acc_special X h1 rfl KA.getitem slot_list_getitem (acc_entry (n := "__getitem__") KA X h1 rfl (by decide +kernel) (by decide +kernel) slot_list_getitem.plain entry_list_getitem (args_list_getitem _ _) ?_))
  show wpAny _ _ (Builtin.List.listSubscript? (.ref sl) >>= _) _ _ s
  refine wpAny_bind (noIndex hT ?_)
  show wpAny _ _ (typeOf (.ref sl) >>= _) _ _ s
  refine wpAny_bind (wpAny_typeOf hT ?_)
  rw [if_neg (by decide)]
  have sz := rs.size hlim
  refine slice_parts hsl (.int _ _) (wpAny_bind (listItems_at h1 rfl (wpAny_bind (slice_idx (by rw [List.size_toArray, ← rs.len]; exact hj) ?_))))
  dsimp only
  rw [sliceRange_one, pick_run, List.take_of_length_le (by simp)]
  refine wpAny_bind (wpAny_newObj_type (wpAny_pure ⟨_, rfl, wpAny_pure ?_⟩) (Nat.le_trans (by simp) sz))
  exact q_lst (tk := s.toks) I (rs.drop _) (Nat.le_trans (by simp) hlim) fin
theorem StR.setSlice {e i0 e0 : PySem.Expr} {tp sp pos : Pos} {j : Nat} {ys : List AV} {a0 : AV} {σ4 : Sto} (KA : AccK c) (h0 : EvE c n sc e0 ρ σ a0 σ1) (hy : a0 = .lst ys) (h1 : EvE c n sc e ρ σ1 (.mref i) σ2) (h2 : EvE c n sc i0 ρ σ2 (.int j) σ3) (ho : σ3[i]? = some ⟨v, some k, xs⟩) (hj : j ≤ xs.length)
    (hl : xs.length + ys.length ≤ lim) (h4 : σ4 = chg σ3 i ⟨v, some k, xs⟩ (xs.take j ++ ys)) (hs : ∀ env, swapsWith e0 (some (.Subscript e (.Slice (some i0) none none sp) tp)) pos.line env = pure false) :
    StR c n sc (.Assign [.Subscript e (.Slice (some i0) none none sp) tp] e0 pos) ρ σ .nxt ρ σ4 := by
  subst h4 hy
  intro A E F μ s env Q rm I N q
  refine wpAny_Assign_Subscript (h0 rm I N fun y s1 μ1 p1 r0 => h1 rm p1.inv (N.go I p1) fun x s2 μ2 p2 r => wpAny_Slice ?_) (hs env)
  have p12 := p1.trans p2
  refine h2 rm p2.inv (N.go I p12) fun u s3 μ3 p3 r1 => wpAny_pure (wpAny_pure ?_)
  have kp : Kp s3 { s3 with heap := s3.heap.push { cls := .type "slice", data := .fields #[u, .none, .none] } } := .push _
  have g4 := p3.inv.grow (W := NoW) (tk := s3.toks) kp
  have I4 := g4.inv
  obtain ⟨ad, rfl, ha⟩ := (r.pres p3.pres0).mref_inv
  obtain ⟨tj, rfl⟩ := r1.int_inv
  obtain ⟨l, us, rfl, _, ⟨ne, hg⟩, _, ry⟩ := (((r0.pres p2.pres0).pres p3.pres0).pres (kp.pres (F := F) (μ := μ3))).lst_inv
  obtain ⟨vs, d, od, tt, ee, e1, e2, _, _, rs, hlim, hb⟩ := acc_ok I4 ho ha
  have X := KA.at_ I4
  have hT : ({ s3 with heap := s3.heap.push { cls := .type "slice", data := .fields #[.int j tj, .none, .none] } } : Shared).TypeIs (.ref s3.heap.objs.size) "slice" := ⟨_, Heap.get?_push_size _ rfl, rfl⟩
  show wpAny _ A (setItem (.ref ad) (.ref s3.heap.objs.size) (.ref l)) _ _ _
  unfold setItem
  refine wpAny_holding ?_
  refine wpAny_bind (acc_seqKey KA X e1 rfl ?_)
  refine wpAny_bind (acc_special X e1 rfl KA.setitem slot_list_setitem (acc_entry (n := "__setitem__") KA X e1 rfl (by decide +kernel) (by decide +kernel) slot_list_setitem.plain entry_list_setitem (args_list_setitem _ _ _) ?_))
  show wpAny _ _ (Builtin.List.listSubscript? (.ref s3.heap.objs.size) >>= _) _ _ _
  refine wpAny_bind (noIndex hT ?_)
  show wpAny _ _ (typeOf (.ref s3.heap.objs.size) >>= _) _ _ _
  refine wpAny_bind (wpAny_typeOf hT ?_)
  rw [if_neg (by decide)]
  refine slice_parts (.new _ _ _ _) (.int _ _) ?_
  have hne : l ≠ ad := fun q => by rw [q, e1] at hg; cases hg
  have h1' : (Builtin.List.listSameRef (.ref ad) (.ref l)) = false := by
    show (ad == l) = false
    simpa using Ne.symm hne
  dsimp only
  rw [h1', if_neg (by decide)]
  have items : ∀ {Q : Array Value → Shared → Prop}, Q us.toArray _ → wpAny c.M A.in1 (Builtin.List.listAllItems (.ref l) "must assign iterable to extended slice") Q E { s3 with heap := s3.heap.push { cls := .type "slice", data := .fields #[.int j tj, .none, .none] } } := fun hq => by
    unfold Builtin.List.listAllItems
    refine wpAny_bind (wpAny_typeOf ⟨_, hg, rfl⟩ ?_)
    rw [if_pos (by decide)]
    exact listItems_at hg rfl hq
  refine wpAny_bind (items (wpAny_bind (listItems_at e1 rfl (wpAny_bind (slice_idx (by rw [List.size_toArray, ← rs.len]; exact hj) ?_)))))
  have sz := rs.len
  have sz2 := ry.len
  have lm : lim ≤ sizeLine := lim_le1 (Nat.le_refl _)
  dsimp only
  rw [if_pos (by decide)]
  refine wpAny_bind (wpAny_rule ?_)
  have tl : (Builtin.List.listTooLong (vs.toArray.size + us.toArray.size)) = false := by
    unfold Builtin.List.listTooLong
    simp only [List.size_toArray, gt_iff_lt, decide_eq_false_iff_not]
    exact Z22 hl sz sz2 lm
  rw [tl, if_neg (by decide)]
  have e3 : (vs.toArray.extract 0 (j : Int).toNat ++ us.toArray ++ vs.toArray.extract (max (j : Int) (vs.toArray.size : Int)).toNat vs.toArray.size) = (vs.take j ++ us).toArray := by
    apply Array.toList_inj.mp
    simp only [Int.toNat_natCast, Array.toList_append, Array.toList_extract, List.size_toArray, List.extract_eq_take_drop, Nat.sub_zero, List.drop_zero]
    rw [List.drop_eq_nil_of_le (by lia), List.take_nil, List.append_nil]
  obtain ⟨e', he⟩ := acc_upd (f := fun xs => xs.extract 0 (j : Int).toNat ++ us.toArray ++ xs.extract (max (j : Int) (vs.toArray.size : Int)).toNat xs.size) (ws := vs.take j ++ us) e1 e3
  have lt : (xs.take j ++ ys).length ≤ lim := by rw [List.length_append, List.length_take]; exact Z411 hl
  have g := I4.change (tk := s3.toks) (xs := xs.take j ++ ys) ho ha (Heap.SameBut.update ..) (fun p => hb _ _ _ _ _ _ p he (((rs.pres p).take _).append (ry.pres p)) lt _) ⟨_, he⟩
  refine wpAny_bind (listUpdate_at e1 rfl (wpAny_bind (wpAny_letGo (wpAny_pure ⟨.none, rfl, wpAny_pure ?_⟩))) (by rw [List.size_toArray]; exact Z23 sz hlim lm) (by rw [e3, List.size_toArray, List.length_append, List.length_take]; exact Z412 hj hl sz2 lm))
  have gg := (p12.trans p3).trans (g4.trans g)
  exact q _ _ _ gg.own (N.go I gg) .nxt
end
end Mine
namespace Mine
open PySem PySem.Calls PyProof.Rows PySem.W
theorem SeqAt.at {h h' : Heap} {a : Addr} {vs : Array Value} (x : SeqAt h a vs) (e : ∀ o, h.get? a = some o → h'.get? a = some o) : SeqAt h' a vs := let ⟨o, n, q, r⟩ := x; ⟨o, n, e _ q, r⟩
theorem acc_next {prog : Program} {w : World} {A : Around} {E : Value → Shared → Prop} {s : Shared} {it l : Addr} {i : Nat} {items : Array Value} {x : Value} {Q : Option Value → Shared → Prop} (hit : s.heap.IsListIter it l i) (hl : SeqAt s.heap l items) (hx : items[i]? = some x)
    (hQ : ∀ h', h'.IsListIter it l (i + 1) → Heap.SameBut it s.heap h' → Q (some x) { s with heap := h' }) : wpAny (model prog w) A (pyNext (.ref it)) Q E s := by
  obtain ⟨o, ho, hc, hd⟩ := id hit
  obtain ⟨ol, nl, hol, hdl⟩ := hl
  unfold pyNext
  refine wpAny_bind (wpAny_attempt (wpAny_callSpecial?_slot (name := Str.ofString "__next__") hit.typeIs slot_listiter_next
    (wpAny_call_entry slot_listiter_next hit.typeIs entry_listiter_next ?_ (args_listiter_next _))))
  show wpAny _ _ (field (.ref it) 0 >>= _) _ _ s
  refine wpAny_bind (wpAny_field ho hd (x := .ref l) rfl ?_)
  show wpAny _ _ (if (Value.ref l == Value.none) = true then _ else _) _ _ s
  rw [if_neg (show ¬ ((Value.ref l == Value.none) = true) from Bool.false_ne_true)]
  show wpAny _ _ (field (.ref it) 1 >>= _) _ _ s
  refine wpAny_bind (wpAny_field ho hd (x := .int i 0) rfl ?_)
  show wpAny _ _ (seqItems? (.ref l) >>= _) _ _ s
  refine wpAny_bind (wpAny_seqItems hol hdl ?_)
  simp only [Int.toNat_natCast, hx]
  refine wpAny_bind (wpAny_setField ho hd (by simp) (wpAny_pure ⟨x, rfl, wpAny_pure (hQ _ ?_ (Heap.SameBut.update ..))⟩))
  exact ⟨_, Heap.get?_update_self _ ho (Obj.isFreed_of_fields (Obj.data_mapFields hd _)), (Obj.cls_mapFields ..).trans hc, by
    rw [Obj.data_mapFields hd]; simp [rawInt]⟩
theorem acc_end {prog : Program} {w : World} {A : Around} {E : Value → Shared → Prop} {s : Shared} {it l : Addr} {i : Nat} {items : Array Value} {Q : Option Value → Shared → Prop} (hh : A.handled = none) (hit : s.heap.IsListIter it l i) (hl : SeqAt s.heap l items) (hx : items[i]? = none)
    (hQ : ∀ h', Heap.ExtBut it s.heap h' → Q none { s with heap := h' }) : wpAny (model prog w) A (pyNext (.ref it)) Q E s := by
  obtain ⟨o, ho, hc, hd⟩ := id hit
  obtain ⟨ol, nl, hol, hdl⟩ := hl
  unfold pyNext
  refine wpAny_bind (wpAny_attempt (wpAny_callSpecial?_slot (name := Str.ofString "__next__") hit.typeIs slot_listiter_next
    (wpAny_call_entry slot_listiter_next hit.typeIs entry_listiter_next ?_ (args_listiter_next _))))
  show wpAny _ _ (field (.ref it) 0 >>= _) _ _ s
  refine wpAny_bind (wpAny_field ho hd (x := .ref l) rfl ?_)
  show wpAny _ _ (if (Value.ref l == Value.none) = true then _ else _) _ _ s
  rw [if_neg (show ¬ ((Value.ref l == Value.none) = true) from Bool.false_ne_true)]
  show wpAny _ _ (field (.ref it) 1 >>= _) _ _ s
  refine wpAny_bind (wpAny_field ho hd (x := .int i 0) rfl ?_)
  show wpAny _ _ (seqItems? (.ref l) >>= _) _ _ s
  refine wpAny_bind (wpAny_seqItems hol hdl ?_)
  simp only [Int.toNat_natCast, hx]
  refine wpAny_bind (wpAny_rule (wpAny_bind (wpAny_setField ho hd (by simp) ?_)))
  show wpAny _ _ (newExc (.type "StopIteration") [] >>= _) _ _ _
  refine wpAny_bind ?_
  simp only [newExc, newTuple]
  refine wpAny_bind (wpAny_newObj_type ?_ (by size_fits))
  refine wpAny_bind (m := firstArgMember _ _) (wpAny_of_eq (a := Value.none) (by first | rfl | (simp only [firstArgMember]; rfl)) ?_)
  refine wpAny_newObj_type ?_ (by size_fits)
  simp only [raiseNew]
  refine wpAny_bind (wpAny_handled ?_)
  rw [show A.in1.handled = none from hh]
  refine wpAny_bind (wpAny_pure (wpAny_throw ?_))
  refine wpAny_bind (wpAny_isInstance (T := "StopIteration") (b := true) ⟨_, Heap.get?_push_size _ rfl, rfl⟩ (by rw [isSubtype_type]; kernel_rfl) ?_)
  exact wpAny_pure (hQ _ (((Heap.SameBut.update ..).extBut.push _).push _))
theorem acc_walk {prog : Program} {w : World} {A : Around} (hh : A.handled = none) (I ax : Addr) (hne : ax ≠ I) (items : Array Value) :
    Walks prog w A I [I, ax] [I] items.size (fun i v => items[i]? = some v) (fun i h => h.IsListIter I ax i ∧ SeqAt h ax items) where
  sub := fun b hb => by simp at hb; simp [hb]
  frame := fun _ _ _ st hk => ⟨st.1.at fun o e => hk I (by simp) o e, st.2.at fun o e => hk ax (by simp) o e⟩
  item := fun i s Q E hi st hQ => by
    refine acc_next st.1 st.2 (x := items[i]) (by simp [hi]) fun h' hit' hs' => ?_
    exact hQ _ h' s.toks (by simp [hi]) ⟨hit', st.2.at fun o e => hs'.extBut _ o hne e⟩ fun b o hb e => hs'.extBut b o (fun h => hb (by simp [h])) e
  done := fun s Q E st hQ => acc_end hh st.1 st.2 (by simp) fun h' he' => hQ h' s.toks fun b o hb e => he' b o (fun h => hb (by simp [h])) e
  self := fun _ _ _ _ st hQ => wpAny_pyIter_listiter st.1 hQ
section
variable {c : Cx} {n : Nat} {sc : Scope} {ρ : Ro} {F : Addr → Prop} {μ : List Addr} {s : Shared} {σ σ1 σ2 σ3 : Sto} {i v w : Nat} {k : Int} {xs : List AV} {A : Around} {E : Value → Shared → Prop} {a : Addr}
theorem acc_iter {ob : Obj} {Q : Value → Shared → Prop} (KA : AccK c) (X : c.K.In s.heap) (ho : s.heap.get? a = some ob) (hc : ob.cls = .ref 119)
    (hQ : Q (.ref s.heap.objs.size) { s with heap := s.heap.push { cls := .type "list_iterator", data := .fields #[.ref a, .int 0 0] } }) : wpAny c.M A (pyIter (.ref a)) Q E s := by
  unfold pyIter specialOf
  refine wpAny_bind (wpAny_bind ((acc_type ho hc).here ((looks_findIn X KA.iter).here ?_)))
  show wpAny _ A (callSpecialIfBoundUnlessNone? (.ref a) "__iter__" _ >>= _) Q E s
  refine wpAny_bind ?_
  have hcall : wpAny c.M A (call (.builtin "list.__iter__") [.ref a]) (fun it s' => ∃ T' r, s'.TypeIs it T' ∧ typeLookup (.type T') "__next__" = pure (some r) ∧ Q it s') E s := by
    refine acc_entry (n := "__iter__") KA X ho hc (by decide +kernel) (by decide +kernel) slot_list_iter.plain entry_list_iter (args_list_iter _) ?_
    show wpAny _ _ (do ret (← newFields "list_iterator" [.ref a, rawInt 0])) _ _ s
    exact wpAny_bind (wpAny_newObj_type (wpAny_pure ⟨_, rfl, "list_iterator", _, ⟨_, Heap.get?_push_size _ rfl, rfl⟩, slot_listiter_next.lookup, hQ⟩))
  simp only [callSpecialIfBoundUnlessNone?, bindSpecialIfBound?, specialOf]
  refine wpAny_holding (wpAny_bind (wpAny_bind (wpAny_bind ((acc_type ho hc).here ((looks_findIn X KA.iter).here ?_)))))
  simp only [slot_list_iter.bind]
  refine wpAny_bind (wpAny_askSetting (wpAny_ite ?_))
  split
  · refine wpAny_bind (wpAny_pure (wpAny_pure ?_))
    dsimp only
    simp only [builtin_beq_none, Bool.false_eq_true, if_false]
    refine wpAny_bind (wpAny_mono hcall (fun v s' h' => wpAny_pure ?_) fun _ _ h' => h')
    obtain ⟨T', r, hT', hl, hq⟩ := h'
    exact wpAny_bind (wpAny_bind (wpAny_typeOf hT' (wpAny_of_eq hl (wpAny_pure hq))))
  · refine wpAny_tryCatch (wpAny_bind (wpAny_pure (wpAny_pure ?_)))
    dsimp only
    simp only [builtin_beq_none, Bool.false_eq_true, if_false]
    refine wpAny_bind (wpAny_mono hcall (fun v s' h' => wpAny_pure ?_) fun _ _ h' => h')
    obtain ⟨T', r, hT', hl, hq⟩ := h'
    exact wpAny_bind (wpAny_bind (wpAny_typeOf hT' (wpAny_of_eq hl (wpAny_pure hq))))
theorem SrcR.acc {e t : PySem.Expr} (KA : AccK c) (h : EvE c n sc e ρ σ (.mref i) σ1) (ho : σ1[i]? = some ⟨v, some k, xs⟩) : SrcR c n sc e t ρ σ xs [(i, v)] σ1 := by
  intro A E F μ s env Q rm I N q
  refine h rm I N fun x s1 μ1 p1 r1 => ?_
  obtain ⟨l, rfl, ha⟩ := r1.mref_inv
  obtain ⟨vs, d, od, tt, e, h1, h2, _, _, rs, hlim, _⟩ := acc_ok p1.inv ho ha
  have hne : l ≠ s1.heap.objs.size := fun w => absent h1 (w ▸ fresh_at _)
  refine acc_iter KA (KA.at_ p1.inv) h1 rfl ?_
  have hn : vs.toArray.size = xs.length := rs.len.symm
  have R := Run.of (c := c) (t := t) (acc_walk (prog := c.prog) (w := c.w) rm.hh s1.heap.objs.size l hne vs.toArray) (fun i h st b m => by rw [List.mem_singleton.mp m]; obtain ⟨⟨o, e, _⟩, _⟩ := st; exact ⟨o, e⟩) fun i h st => by obtain ⟨⟨o, e, e2, _⟩, _⟩ := st; exact ⟨o, _, e, e2, by decide⟩
  refine itr_new (wr := [s1.heap.objs.size]) (fp := [s1.heap.objs.size, l]) (tk := s1.toks) p1 (.push _) (fun b m => by rw [List.mem_singleton.mp m]; exact fresh_at _) (hn ▸ R)
    ⟨⟨_, Heap.get?_push_size _ rfl, rfl, rfl⟩, _, _, Heap.get?_push_of_some _ h1, rfl⟩ (fun b m => ?_) (fun i x e F' μ' h h2 v pr pr2 _ hp => ((rs.at_ i x v e (by simpa using hp)).pres pr).pres pr2) q
  · rcases List.mem_cons.mp m with rfl | m
    · exact .inl (.head _)
    · rw [List.mem_singleton.mp m]; exact .inr (.inr ⟨i, _, ha, ho, .head _⟩)
end
end Mine
namespace Mine
open PySem PySem.Calls PyProof.Rows PySem.W
theorem slot_wd : Slot "wrapper_descriptor" "__get__" "wrapper_descriptor.__get__" := .of (owner := "wrapper_descriptor") (n := "__get__") (by rw [typeLookup_type, builtinLookup_eq_fast]; kernel_rfl) (by decide +kernel) (by decide +kernel) (by decide +kernel)
  (by first | exact .inl (by decide +kernel) | exact .inr (by decide +kernel)) (by rw [isSubtype_type]; kernel_rfl)
theorem slot_md : Slot "method_descriptor" "__get__" "method_descriptor.__get__" := .of (owner := "method_descriptor") (n := "__get__") (by rw [typeLookup_type, builtinLookup_eq_fast]; kernel_rfl) (by decide +kernel) (by decide +kernel) (by decide +kernel)
  (by first | exact .inl (by decide +kernel) | exact .inr (by decide +kernel)) (by rw [isSubtype_type]; kernel_rfl)
theorem entry_wd : entryFor table "wrapper_descriptor.__get__" = some Builtin.«wrapper_descriptor.__get__» := entryFor_of_tree (by kernel_rfl)
theorem entry_md : entryFor table "method_descriptor.__get__" = some Builtin.«method_descriptor.__get__» := entryFor_of_tree (by kernel_rfl)
noncomputable abbrev bndO (W id : String) (a : Addr) : Obj := { cls := .type W, data := .fields #[.builtin id, .ref a] }
structure Bi (c : Cx) (nm : Str) (id T G W : String) : Prop where
  along : alongIn c.K nm [.type "list", .type "object"] = some (some (.builtin id))
  ty : typeOf (.builtin id) = pure (.type T)
  slot : Slot T "__get__" G
  run : ∀ ⦃A : Around⦄ ⦃E : Value → Shared → Prop⦄ ⦃s : Shared⦄ ⦃a : Addr⦄ ⦃Q : Value → Shared → Prop⦄, Looks c.M s.heap (isInstance (.ref a) (.type "list")) true → Q (.ref s.heap.objs.size) { s with heap := s.heap.push (bndO W id a) } → wpAny c.M A (call (.builtin G) [.builtin id, .ref a, .ref 119]) Q E s
  check : ∀ ⦃A : Around⦄ ⦃E : Value → Shared → Prop⦄ ⦃s : Shared⦄ ⦃a : Addr⦄ ⦃ob : Obj⦄ ⦃Q : Unit → Shared → Prop⦄, AccK c → c.K.In s.heap → s.heap.get? a = some ob → ob.cls = .ref 119 → (∀ c, ob.data ≠ .cls c) → Q () s → wpAny c.M A (checkBoundCall id ⟨[.ref a], []⟩) Q E s
  plain : plainId id = true
  w : W = "method-wrapper" ∨ W = "builtin_function_or_method"
section
variable {c : Cx} {A : Around} {E : Value → Shared → Prop} {s : Shared} {a : Addr} {Q : Value → Shared → Prop}
theorem bi_len (h : alongIn c.K "__len__" [.type "list", .type "object"] = some (some (.builtin "list.__len__"))) : Bi c "__len__" "list.__len__" "wrapper_descriptor" "wrapper_descriptor.__get__" "method-wrapper" := by
  refine ⟨h, by kernel_rfl, slot_wd, fun A E s a Q L q => wpAny_call_entry slot_wd (by show typeOf _ = _; kernel_rfl) entry_wd ?_ (by unfold argsOk; kernel_rfl), fun A E s a ob Q _ _ _ _ _ q => wpAny_of_eq (a := ()) (by kernel_rfl) q, by decide +kernel, .inl rfl⟩
  show wpAny c.M _ (Builtin.«wrapper_descriptor.__get__» _) _ E s
  unfold Builtin.«wrapper_descriptor.__get__»
  refine wpAny_bind (wpAny_of_eq (a := (.builtin "list.__len__", some (.ref a), some (.ref 119))) (by kernel_rfl) ?_)
  refine wpAny_bind (wpAny_bind (wpAny_of_eq (a := (("__len__" : Str), Value.type "list")) (by kernel_rfl) ?_))
  refine wpAny_bind (L.here ?_)
  rw [if_neg (by decide)]
  exact wpAny_pure (wpAny_bind (wpAny_newObj_type (wpAny_pure ⟨_, rfl, q⟩) (by size_fits)))
theorem bi_init (h : alongIn c.K "__init__" [.type "list", .type "object"] = some (some (.builtin "list.__init__"))) : Bi c "__init__" "list.__init__" "wrapper_descriptor" "wrapper_descriptor.__get__" "method-wrapper" := by
  refine ⟨h, by kernel_rfl, slot_wd, fun A E s a Q L q => wpAny_call_entry slot_wd (by show typeOf _ = _; kernel_rfl) entry_wd ?_ (by unfold argsOk; kernel_rfl), fun A E s a ob Q _ _ _ _ _ q => wpAny_of_eq (a := ()) (by kernel_rfl) q, by decide +kernel, .inl rfl⟩
  show wpAny c.M _ (Builtin.«wrapper_descriptor.__get__» _) _ E s
  unfold Builtin.«wrapper_descriptor.__get__»
  refine wpAny_bind (wpAny_of_eq (a := (.builtin "list.__init__", some (.ref a), some (.ref 119))) (by kernel_rfl) ?_)
  refine wpAny_bind (wpAny_bind (wpAny_of_eq (a := (("__init__" : Str), Value.type "list")) (by kernel_rfl) ?_))
  refine wpAny_bind (L.here ?_)
  rw [if_neg (by decide)]
  exact wpAny_pure (wpAny_bind (wpAny_newObj_type (wpAny_pure ⟨_, rfl, q⟩) (by size_fits)))
theorem bi_pop (h : alongIn c.K "pop" [.type "list", .type "object"] = some (some (.builtin "list.pop"))) : Bi c "pop" "list.pop" "method_descriptor" "method_descriptor.__get__" "builtin_function_or_method" := by
  refine ⟨h, by kernel_rfl, slot_md, fun A E s a Q L q => wpAny_call_entry slot_md (by show typeOf _ = _; kernel_rfl) entry_md ?_ (by unfold argsOk; kernel_rfl), fun A E s a ob Q KA X ho hc hn q => ?_, by decide +kernel, .inr rfl⟩
  case refine_2 =>
    obtain ⟨cd, h1, h2, h3⟩ := KA.cls
    have L1 : Looks c.M s.heap (typeOf (.ref a)) (.ref 119) := acc_type ho hc
    have L2 : Looks c.M s.heap (isInstance (.ref a) (.type "module")) false := L1.andThen (looks_subIn X KA.noMod)
    have L3 := looks_clsIn (M := c.M) X h1
    have L4 := looks_typeIn (M := c.M) X KA.meta_
    obtain ⟨hp, g, d, tk, os⟩ := s
    have hk : builtinKind "list.pop" = some .method := by decide +kernel
    obtain ⟨sig, hs⟩ : ∃ sig, Manifest.signature? "list.pop" = some sig := Option.isSome_iff_exists.mp (by decide +kernel)
    have hs2 : Bind.checkArgs "list.pop" { sig with full := s!"{"_Accumulator"}.{Bind.lastOf "list.pop"}" } ⟨[.ref a], []⟩ = pure () := by
      have : (Manifest.signature? "list.pop").map (fun sig => Bind.checkArgs "list.pop" { sig with full := s!"{"_Accumulator"}.{Bind.lastOf "list.pop"}" } ⟨[.ref a], []⟩) = some (pure ()) := by kernel_rfl
      rw [hs] at this
      exact Option.some.inj this
    have hv : Manifest.varargsMethods.contains "list.pop" = false := by decide +kernel
    unfold checkBoundCall
    simp only [hs, hk]
    rw [if_neg (by decide)]
    refine wpAny_bind (L2.at ?_)
    rw [hv]
    simp only [Bool.or_self, Bool.false_eq_true, if_false]
    refine wpAny_bind (ks_wpAny_isType_inst ho hn ?_)
    simp only [Bool.false_eq_true, if_false]
    refine wpAny_bind (L1.at ?_)
    dsimp only
    refine wpAny_bind (L3.at (wpAny_bind (L4.at ?_)))
    rw [if_pos (by decide), h3, hs2]
    exact wpAny_pure q
  show wpAny c.M _ (Builtin.«method_descriptor.__get__» _) _ E s
  unfold Builtin.«method_descriptor.__get__»
  refine wpAny_bind (wpAny_of_eq (a := (.builtin "list.pop", some (.ref a), some (.ref 119))) (by kernel_rfl) ?_)
  dsimp only
  rw [if_neg (by decide +kernel)]
  refine wpAny_bind (wpAny_bind (wpAny_of_eq (a := (("pop" : Str), Value.type "list")) (by kernel_rfl) ?_))
  refine wpAny_bind (L.here ?_)
  rw [if_neg (by decide)]
  exact wpAny_pure (wpAny_bind (wpAny_newObj_type (wpAny_pure ⟨_, rfl, q⟩) (by size_fits)))
end
end Mine
namespace Mine
open PySem PySem.Calls PyProof.Rows PySem.W
section
variable {c : Cx} {A : Around} {E : Value → Shared → Prop} {s : Shared} {a so : Addr} {Q : Value → Shared → Prop} {nm : Str} {id T G W : String} {ob : Obj}
theorem super_get {pl : Sem Bool} {Q : Value × List Value → Shared → Prop} (B : Bi c nm id T G W) (KA : AccK c) (X : c.K.In s.heap) (hso : s.heap.get? so = some (ks_superObj 119 a 119)) (ho : s.heap.get? a = some ob) (hc : ob.cls = .ref 119) (ha : a ≠ 119)
    (hn : (nm == ("__class__" : Str)) = false) (hg : typeLookup (.type T) "__get__" = pure (some (.builtin G))) (q : Q (.ref s.heap.objs.size, []) { s with heap := s.heap.push (bndO W id a), toks := s.toks + 1 }) :
    wpAny c.M A (getMethod (.ref so) nm pl) Q E s := by
  obtain ⟨h, g, d, t, os⟩ := s
  obtain ⟨cd, c1, c2, _⟩ := KA.cls
  have hlk := F.ks_slot_super_ga.lookup
  have hT : ∀ t', (⟨h, g, d, t', os⟩ : Shared).TypeIs (.ref so) "super" := fun _ => ⟨_, hso, rfl⟩
  have hmro : Looks c.M h (mroOf (.ref 119)) cd.mro := (looks_clsIn X c1).andThen .now
  have hl : (cd.mro.dropWhile (· != .ref 119)).drop 1 = [.type "list", .type "object"] := by rw [c2]; rfl
  have hno := looks_opaque (M := c.M) (C := 119) X KA.opq
  have hne : (Value.ref a == Value.ref 119) = false := by simp [ha]
  have L : Looks c.M h (isInstance (.ref a) (.type "list")) true := (acc_type (s := ⟨h, g, d, t, os⟩) ho hc).andThen (looks_subIn X KA.sub)
  have f0 : (#[.ref 119, .ref a, .ref 119] : Array Value)[0]? = some (.ref 119) := rfl
  have f1 : (#[.ref 119, .ref a, .ref 119] : Array Value)[1]? = some (.ref a) := rfl
  have f2 : (#[.ref 119, .ref a, .ref 119] : Array Value)[2]? = some (.ref 119) := rfl
  have hdt : (ks_superObj 119 a 119).data = .fields #[.ref 119, .ref a, .ref 119] := rfl
  have hty := B.ty
  have ga : ∀ {A : Around} {E : Value → Shared → Prop} {Q : Fin → Shared → Prop} {tk : Tok}, Q (.done (.ret (.ref h.objs.size))) ⟨h.push (bndO W id a), g, d, t + 1, os⟩ → wpAny c.M A (Builtin.«super.__getattribute__» ⟨[.ref so, .str nm tk], []⟩) Q E ⟨h, g, d, t + 1, os⟩ := by
    intro A E Q tk q
    unfold Builtin.«super.__getattribute__»
    repeat (first
      | (with_reducible refine wpAny_field hso hdt f0 ?_) | (with_reducible refine wpAny_field hso hdt f1 ?_) | (with_reducible refine wpAny_field hso hdt f2 ?_)
      | (with_reducible refine ks_wpAny_notOpaque hno ?_)
      | (with_reducible refine Looks.at hmro ?_; rw [hl])
      | (refine ks_forIn_along X (fun _ _ => rfl) rfl ?_ B.along)
      | (with_reducible refine wpAny_of_eq hty ?_)
      | (with_reducible refine B.run (s := ⟨h, g, d, t + 1, os⟩) L ?_)
      | (with_reducible refine wpAny_of_eq hg ?_)
      | (simp only [hn, hne, Bool.or_false, Bool.false_eq_true, if_false])
      | wp_step
      | dsimp only)
    all_goals exact q
  unfold getMethod
  refine wpAny_bind (wpAny_specialOf (hT _) hlk ?_)
  show wpAny _ _ (if (Manifest.canonical "super.__getattribute__" != "object.__getattribute__") = true then _ else _) _ _ _
  rw [if_pos F.ks_canon_super_ga]
  unfold getAttr getAttrBy
  refine wpAny_bind (wpAny_bind (wpAny_mkText (wpAny_holding (wpAny_bind (wpAny_typeOf (hT _) (wpAny_bind (wpAny_of_eq hlk ?_)))))))
  show wpAny _ _ (getAttrByItsOwn (.ref so) (.str nm t) (.type "super") (.builtin "super.__getattribute__") true false) _ _ _
  unfold getAttrByItsOwn hookBefore callGetattribute boundAndCalled
  refine wpAny_bind (wpAny_of_eq (show (if onTheHeap (.type "super") then typeLookup (.type "super") "__getattr__" else pure none) = pure none from rfl) ?_)
  refine wpAny_bind (wpAny_attempt (wpAny_holding ?_))
  show wpAny _ _ (bindSpecial (.builtin "super.__getattribute__") (.ref so) >>= _) _ _ _
  refine wpAny_bind (wpAny_of_eq (F.ks_slot_super_ga.bind _) ?_)
  refine wpAny_mono (Q := fun v s' => v = .ref h.objs.size ∧ s' = ⟨h.push (bndO W id a), g, d, t + 1, os⟩) (E := fun _ _ => False)
    (wpAny_call_entry F.ks_slot_super_ga (hT _) F.ks_entry_super_ga (ga ⟨_, rfl, rfl, rfl⟩) (F.ks_gaArgs_super _ _)) (fun v s' hv => ?_) fun _ _ z => z.elim
  obtain ⟨rfl, rfl⟩ := hv
  exact wpAny_pure (wpAny_pure q)
theorem bound_call {b : Addr} {bi : Builtin} (B : Bi c nm id T G W) (KA : AccK c) (X : c.K.In s.heap) (hb : s.heap.get? b = some (bndO W id a)) (ho : s.heap.get? a = some ob) (hc : ob.cls = .ref 119) (hnc : ∀ c, ob.data ≠ .cls c) (he : entryFor table id = some bi)
    (h : wpAny c.M A.in1 (bi ⟨[.ref a], []⟩) (fun fin s' => ∃ v, fin = .done (.ret v) ∧ Q v s') E s) : wpAny c.M A (call (.ref b) []) Q E s := by
  refine wpAny_call (codeAny_of_tree ?_)
  show wpAny _ A.in1 (callAny (.ref b) ⟨[], []⟩) _ _ _
  unfold callAny
  refine wpAny_bind (wpAny_load hb ?_)
  have f1 : (#[.builtin id, .ref a] : Array Value)[0]? = some (.builtin id) := rfl
  have f2 : (#[.builtin id, .ref a] : Array Value)[1]? = some (.ref a) := rfl
  rcases B.w with rfl | rfl
  all_goals
    simp only [f1, f2]
    rw [if_pos (by decide), if_pos (by decide)]
    refine wpAny_bind (B.check KA X ho hc hnc (wpAny_pure ⟨plainId_quiet B.plain _, codeAny_builtin he ?_⟩))
    rw [Around.under_plainId B.plain _]
    refine wpAny_mono h (fun fin s' h' => ?_) fun _ _ z => z
    obtain ⟨v, rfl, hv⟩ := h'
    exact hv
end
end Mine
namespace Mine
open PySem PySem.Calls PyProof.Rows PySem.W
structure SupFn (c : Cx) (f : Addr) (fd : FuncData) (body : List Stmt) : Prop where
  at_ : ∃ o, c.g.get? f = some o ∧ o.data = .func fd
  code : ∃ cda oc vs file tf t, fd.code = .ref cda ∧ c.g.get? cda = some oc ∧ oc.data = .fields vs ∧ vs[2]? = some (.str file tf) ∧ ((c.prog.main.file : Str) == file) = true ∧ vs[1]? = some (.str fd.qualname t)
  body : fd.body = .stmts body
  clo : fd.closure = [(("__class__" : Str), 43)]
  gl : fd.globals = mainGlobals
  bn : fd.builtins = builtinsNs
  co : fd.scope.isCoroutine = false
  gen : fd.scope.isGenerator = false
  kind : fd.scope.kind = .function
  nocell : ∀ x ∈ fd.scope.names, x.2 ≠ .cell
  ks : fd.scope.names.lookup ("super" : Str) = some .globalImplicit
  kc : fd.scope.names.lookup ("__class__" : Str) = some .free
  self : fd.scope.names.lookup ("self" : Str) = some .local
  first : ∃ ar, (fd.params.posonlyargs ++ fd.params.args).head? = some ar ∧ ar.arg = ("self" : Str)
structure SupTop (c : Cx) : Prop where
  top : (c.prog.main.scope.names.lookup ("super" : Str)).isSome = false
  cell : c.g.IsCell 43 (some (.ref 119))
  cls : ∃ oD cdD, c.g.get? 119 = some oD ∧ oD.data = .cls cdD
  sup : ∃ mg mb, c.g.Ns mainGlobals mg ∧ c.g.Ns builtinsNs mb ∧ mg "super" = none ∧ mb "super" = some (.type "super")
section
variable {c : Cx} {A : Around} {E : Value → Shared → Prop} {s : Shared} {a f L : Addr} {Q : Value → Shared → Prop} {nm : Str} {id T G W : String} {fd : FuncData} {body : List Stmt} {vs : List Value} {d : Addr} {e : Nat} {m : Str → Option Value} {p0 p1 apos pos : Pos} {bi : Builtin} {pl : Sem Bool}
theorem super_at (S : SupFn c f fd body) (ST : SupTop c) (B : Bi c nm id T G W) (KA : AccK c) (k : ∀ b o, c.g.get? b = some o → s.heap.get? b = some o) (hns : s.heap.Ns L m) (hm : m ("self" : Str) = some (.ref a)) (ho : s.heap.get? a = some (accO d vs e))
    (hn : (nm == ("__class__" : Str)) = false) (hg : typeLookup (.type T) "__get__" = pure (some (.builtin G))) (he : entryFor table id = some bi)
    (hev : eval (.Call (.Attribute (.Call (.Name "super" p0) [] [] p1) nm apos) [] [] pos) (callEnv fd L f) = (do
      let ov ← attributeBase (.Call (.Name "super" p0) [] [] p1) nm (callEnv fd L f) (eval (.Call (.Name "super" p0) [] [] p1) (callEnv fd L f))
      standAt apos.atName
      let (g, first) ← holding [ov] (getMethod ov nm pl)
      callWith pos g first (backTo pos (starEach [] (callEnv fd L f))) []))
    (h : ∀ s', Kp s s' → (∃ h' t, s' = { s with heap := h', toks := t }) → wpAny c.M A.in1 (bi ⟨[.ref a], []⟩) (fun fin s' => ∃ v, fin = .done (.ret v) ∧ Q v s') E s') :
    PySem.wpAt c.M A (.func body (callEnv fd L f)) (eval (.Call (.Attribute (.Call (.Name "super" p0) [] [] p1) nm apos) [] [] pos) (callEnv fd L f)) Q E s := by
  obtain ⟨of, hof, hofd⟩ := S.at_
  obtain ⟨cda, oc, ws, file, tf, t, g1, g2, g3, g4, g5, _⟩ := S.code
  obtain ⟨ar, r1, r2⟩ := S.first
  obtain ⟨oD, cdD, d1, d2⟩ := ST.cls
  obtain ⟨mg, mb, n1, n2, n3, n4⟩ := ST.sup
  have X := KA.x.keeps k
  have hne : a ≠ 119 := fun q => by rw [q, k _ _ d1] at ho; cases ho; cases d2
  obtain ⟨hh, g, dd, tt, os⟩ := s
  refine ks_wpAt_MethodCall ?_ hev
  refine ks_wpAt_super_base (env := callEnv fd L f) S.ks S.kc hn rfl (k _ _ hof) hofd r1 g1 (k _ _ g2) g3 g4 g5 ST.top ?_
  refine ks_loadName_global S.kind S.ks (loadGlobal_builtin (env := callEnv fd L f) (show Heap.Ns hh fd.globals mg from S.gl.symm ▸ n1.keeps k) n3 (show Heap.Ns hh fd.builtins mb from S.bn.symm ▸ n2.keeps k) n4 ⟨rfl, ?_⟩)
  have hcl : (callEnv fd L f).cells = [(("__class__" : Str), 43)] := S.clo
  refine wpAny_loadName_free S.kind S.kc (by rw [hcl]; rfl) (let ⟨o, q, r⟩ := ST.cell; ⟨o, k _ _ q, r⟩) ?_
  rw [r2]
  refine wpAny_loadName_local S.kind S.self hns hm ?_
  refine ks_wpAny_isType_cls (k _ _ d1) d2 ⟨rfl, ?_⟩
  have hsub : Looks c.M hh (isSubtype (.ref 119) (.ref 119)) true := by
    obtain ⟨cd, c1, c2, _⟩ := KA.cls
    exact looks_mroIn X (by unfold mroIn; rw [c1, Option.bind_some, c2]; rfl)
  refine ks_wpAny_call_super (k _ _ d1) d2 ho rfl (fun _ q => nomatch q) hsub (fun h' e1 kk => ?_)
  have X' := X.keeps kk
  have ho' := kk _ _ ho
  refine super_get (s := ⟨h', g, dd, tt, os⟩) B KA X' e1 ho' rfl hne hn hg ?_
  have hb : (h'.push (bndO W id a)).get? h'.objs.size = some (bndO W id a) := Heap.get?_push_size _ rfl
  have kk2 : Kp ⟨hh, g, dd, tt, os⟩ ⟨h'.push (bndO W id a), g, dd, tt + 1, os⟩ := fun b o e => Heap.get?_push_of_some _ (kk b o e)
  refine callWith_of (P := fun h => h.get? h'.objs.size = some (bndO W id a)) rfl (fun h hb => ⟨.machine, .inr (.inl rfl), (Looks.ld (part := none) hb).andThen ?_⟩) (evalArgs_nil3 ⟨hb, ?_⟩)
  · dsimp only
    rcases B.w with rfl | rfl <;> (rw [if_pos (by decide), if_pos (by decide)]; exact .now)
  · exact bound_call B KA (KA.x.keeps fun b o e => kk2 b o (k b o e)) hb (kk2 _ _ ho) rfl (fun _ q => nomatch q) he (h _ kk2 ⟨_, _, rfl⟩)
end
end Mine
namespace Mine
open PySem PySem.Calls PyProof.Rows PySem.W
theorem hg_wd : typeLookup (.type "wrapper_descriptor") "__get__" = pure (some (.builtin "wrapper_descriptor.__get__")) := slot_wd.lookup
theorem hg_md : typeLookup (.type "method_descriptor") "__get__" = pure (some (.builtin "method_descriptor.__get__")) := slot_md.lookup
noncomputable abbrev MethE (e0 : PySem.Expr) (nm : Str) (apos pos : Pos) (args : List PySem.Expr) (env : Env) : Prop := ∃ pl : Sem Bool, eval (.Call (.Attribute e0 nm apos) args [] pos) env = (do
  let ov ← attributeBase e0 nm env (eval e0 env)
  standAt apos.atName
  let (g, first) ← holding [ov] (getMethod ov nm pl)
  callWith pos g first (backTo pos (starEach args env)) [])
noncomputable abbrev SelfB (c : Cx) (fd : FuncData) : Prop := ∀ (s : Shared) (x : Value), c.K.In s.heap → BindsTo s fd ⟨[x], []⟩ [(("self" : Str), x)]
section
variable {c : Cx} {n : Nat} {A : Around} {E : Value → Shared → Prop} {s : Shared} {a f d : Addr} {e : Nat} {vs : List Value} {Q : Value → Shared → Prop} {fd : FuncData} {body : List Stmt} {p0 p1 p2 p3 p4 p5 p6 p7 p8 p9 s0 s1 apos pos rp : Pos}
theorem sup_enter {bs : List (Str × Value)} {args : Args} (S : SupFn c f fd body) (T : TopR c) (hb : BindsTo s fd args bs) (hl : ∀ x ∈ bs, fd.scope.names.lookup x.1 = some .local) (hd : A.depth < recursionLimit) (k : ∀ b o, c.g.get? b = some o → s.heap.get? b = some o)
    (h : ∀ h' tk, h'.Ns s.heap.objs.size (fun x => bs.reverse.lookup x) → Kp s { s with heap := h', toks := tk } → PySem.wpAt c.M (A.deeper (callEnv fd s.heap.objs.size f)) (.func body (callEnv fd s.heap.objs.size f)) (execs body (callEnv fd s.heap.objs.size f))
      (fun fl s' => Q (match fl with | .ret v => v | _ => .none) s') (fun e s' => wpAny c.M (A.deeper (callEnv fd s.heap.objs.size f)) (leaving (callEnv fd s.heap.objs.size f) e) (fun _ s'' => E e s'') (fun e' s'' => E e' s'') s') { s with heap := h', toks := tk }) :
    wpAny c.M A (call (.ref f) args.pos args.kw) Q E s := by
  obtain ⟨o, ho, hdt⟩ := S.at_
  obtain ⟨cda, oc, ws, file, tf, t, g1, g2, g3, _, _, g6⟩ := S.code
  exact wpAny_call (ks_codeAny_call_defAt hd (k _ _ ho) hdt (T.lim.keeps k) ⟨cda, oc, ws, t, g1, k _ _ g2, g3, g6⟩ S.body hb S.nocell hl (fun h₀ hns kk => h h₀ _ hns kk) S.co S.gen S.kind)
theorem part_raw (S : SupFn c 116 fd [.Return (some (.Call (.Attribute (.Call (.Name "super" p0) [] [] p1) "__len__" apos) [] [] pos)) rp]) (SB : SelfB c fd) (T : TopR c) (ST : SupTop c) (B : Bi c "__len__" "list.__len__" "wrapper_descriptor" "wrapper_descriptor.__get__" "method-wrapper") (KA : AccK c)
    (hev : ∀ L, MethE (.Call (.Name "super" p0) [] [] p1) "__len__" apos pos [] (callEnv fd L 116))
    (hd : A.depth < recursionLimit) (k : ∀ b o, c.g.get? b = some o → s.heap.get? b = some o) (ho : s.heap.get? a = some (accO d vs e)) (q : ∀ h' tk t, Kp s { s with heap := h', toks := tk } → Q (.int vs.length t) { s with heap := h', toks := tk }) : wpAny c.M A (call (.ref 116) [.ref a]) Q E s := by
  refine sup_enter (args := ⟨[.ref a], []⟩) S T (SB _ _ (KA.x.keeps k)) (fun x m => by rw [List.mem_singleton.mp m]; exact S.self) hd k fun h' tk hns kk => ?_
  obtain ⟨pl, hev⟩ := hev s.heap.objs.size
  refine ks_wpAt_execs_cons (ks_wpAt_Return_some (super_at S ST B KA (fun b o e => kk b o (k b o e)) hns rfl (kk _ _ ho) (by decide +kernel) hg_wd entry_list_len hev fun s' k2 hs => ?_))
  obtain ⟨h2, t2, rfl⟩ := hs
  show wpAny _ _ (do retInt (← seqSize a)) _ _ _
  unfold seqSize
  refine wpAny_bind (wpAny_bind (wpAny_loadPart (k2 _ _ (kk _ _ ho)) (wpAny_pure ?_)))
  rw [List.size_toArray]
  exact wpAny_bind (wpAny_mkInt (wpAny_pure ⟨_, rfl, q _ _ _ fun b o e => k2 b o (kk b o e)⟩))
theorem meth_fn {env : Env} {L g : Addr} {m : Str → Option Value} {nm : Str} {od : Obj} (KA : AccK c) (X : c.K.In s.heap) (hk : env.scope.kind = .function) (hx : env.kindOf ("self" : Str) = some .local) (hL : env.locals = L) (hns : s.heap.Ns L m) (hm : m ("self" : Str) = some (.ref a)) (ho : s.heap.get? a = some (accO d vs e)) (hod : s.heap.get? d = some od)
    (hf : findIn c.K (.ref 119) nm = some (some (.ref g))) (ht : typeIn c.K (.ref g) = some (.type "function")) (hs : (lookIn nm od).map (·.isSome) = some false) (hg : ∃ o fd, s.heap.get? g = some o ∧ o.data = .func fd) (hev : MethE (.Name "self" p0) nm apos pos [] env) (h : wpAny c.M A (call (.ref g) [.ref a]) Q E s) :
    wpAny c.M A (eval (.Call (.Attribute (.Name "self" p0) nm apos) [] [] pos) env) Q E s := by
  obtain ⟨pl, hev⟩ := hev
  obtain ⟨o, gd, g1, g2⟩ := hg
  subst hL
  refine MethodCall_ (wpAny_Name (wpAny_loadName_local hk hx hns hm ?_) (by decide +kernel)) (pl := pl) hev
  refine acc_method (od := some od) KA X ⟨ho, rfl, rfl, hod⟩ hf ht (by decide) hs ?_
  exact callWith_of (P := fun h => h.get? g = some o) rfl (fun h hb => ⟨.frame, .inl rfl, (Looks.ld (part := none) hb).andThen (by rw [g2]; exact .now)⟩) (evalArgs_nil3 ⟨g1, h⟩)
theorem eq0 {n : Nat} {t t' : Tok} {Q : Bool → Shared → Prop} (h : Q (decide (n = 0)) s) : wpAny c.M A (compareOp .Eq (.int n t) (.int 0 t')) (fun v s' => wpAny c.M A (truthy v) Q E s') E s := by
  refine P.eq_int ?_
  have e : ((n : Int) == 0) = decide (n = 0) := by
    rw [Bool.eq_iff_iff, beq_iff_eq, decide_eq_true_iff]; lia
  rw [e]
  exact wpAny_truthy_bool h
theorem era {vs : List Value} : vs.toArray.eraseIdxIfInBounds (vs.length - 1) = vs.dropLast.toArray := by
  rw [Array.eraseIdxIfInBounds]
  split
  · rename_i h
    simp only [List.size_toArray] at h
    simp only [List.eraseIdx_toArray]
    rw [List.eraseIdx_eq_take_drop_succ, List.drop_eq_nil_of_le (by exact Z24), List.append_nil, List.dropLast_eq_take]
  · rename_i h
    simp only [List.size_toArray] at h
    rw [List.eq_nil_of_length_eq_zero (l := vs) (by exact Z413 h)]; rfl
theorem seq_last (m : Nat) : seqIndex? (-1) (m + 1) = some m := by
  have h : ((-1 : Int) + ((m + 1 : Nat) : Int)) = m := by lia
  unfold seqIndex?
  dsimp only
  rw [if_pos (show (-1 : Int) < 0 by decide), h, if_pos (by simp; lia), Int.toNat_natCast]
theorem pop_raw {od : Obj} (S : SupFn c 79 fd [.If (.Compare (.Call (.Attribute (.Name "self" p0) "part_count" p1) [] [] p2) [.Eq] [.Constant (.int 0) 0 p3] p4) [.Return (some (.Tuple [.Constant (.str "") 0 p5, .Constant (.str "") 0 p6] 0 p7)) p8] [] p9,
      .Return (some (.Call (.Attribute (.Call (.Name "super" s0) [] [] s1) "pop" apos) [] [] pos)) rp]) (SB : SelfB c fd) (T : TopR c) (ST : SupTop c) (B : Bi c "pop" "list.pop" "method_descriptor" "method_descriptor.__get__" "builtin_function_or_method") (KA : AccK c)
    (hev : ∀ L, MethE (.Call (.Name "super" s0) [] [] s1) "pop" apos pos [] (callEnv fd L 79)) (hev2 : ∀ L, MethE (.Name "self" p0) "part_count" p1 p2 [] (callEnv fd L 79))
    (hf : findIn c.K (.ref 119) "part_count" = some (some (.ref 116))) (ht : typeIn c.K (.ref 116) = some (.type "function")) (hg : ∃ o fd, c.g.get? 116 = some o ∧ o.data = .func fd)
    (hpart : ∀ {A : Around} {E : Value → Shared → Prop} {s : Shared} {Q : Value → Shared → Prop}, A.depth < recursionLimit → (∀ b o, c.g.get? b = some o → s.heap.get? b = some o) → s.heap.get? a = some (accO d vs e) → (∀ h' tk t, Kp s { s with heap := h', toks := tk } → Q (.int vs.length t) { s with heap := h', toks := tk }) → wpAny c.M A (call (.ref 116) [.ref a]) Q E s)
    (hd : A.depth + 3 < recursionLimit) (k : ∀ b o, c.g.get? b = some o → s.heap.get? b = some o) (ho : s.heap.get? a = some (accO d vs e)) (hl0 : vs.length ≤ lim) (hod : s.heap.get? d = some od) (hs : (lookIn "part_count" od).map (·.isSome) = some false)
    (q1 : vs = [] → ∀ h' tk ad t t', Kp s { s with heap := h', toks := tk } → s.heap.get? ad = none → h'.IsTuple ad #[.str ⟨#[]⟩ t, .str ⟨#[]⟩ t'] → Q (.ref ad) { s with heap := h', toks := tk })
    (q2 : ∀ x, vs.getLast? = some x → ∀ h' tk, Kp s { s with heap := h', toks := tk } → Q x { s with heap := h'.update a (Obj.mapSeq (·.eraseIdxIfInBounds (vs.length - 1))), toks := tk }) : wpAny c.M A (call (.ref 79) [.ref a]) Q E s := by
  have X := KA.x.keeps k
  refine sup_enter (args := ⟨[.ref a], []⟩) S T (SB _ _ X) (fun x m => by rw [List.mem_singleton.mp m]; exact S.self) (by exact Z25 hd) k fun h' tk hns kk => ?_
  obtain ⟨pl, hev⟩ := hev s.heap.objs.size
  obtain ⟨o, gd, g1, g2⟩ := hg
  have k' : ∀ b o, c.g.get? b = some o → h'.get? b = some o := fun b o e => kk b o (k b o e)
  refine ks_wpAt_execs_cons (ks_wpAt_If (wpAt_of_wpAny (wpAny_isTrue_Compare1 (meth_fn KA (KA.x.keeps k') S.kind S.self rfl hns rfl (kk _ _ ho) (kk _ _ hod) hf ht hs ⟨o, gd, k' _ _ g1, g2⟩ (hev2 _) (hpart ?_ k' (kk _ _ ho) fun h2 t2 t k2 => wpAny_Constant_int (eq0 ?_))))))
  · show A.depth + 1 < recursionLimit
    exact Z26 hd
  · by_cases hv : vs = []
    · subst hv
      simp only [List.length_nil, decide_true, if_true]
      refine ks_wpAt_execs_cons (ks_wpAt_Return_some (wpAt_of_wpAny ?_))
      rw [arm_eval_Tuple]
      refine wpAny_bind (wpAny_standAt (wpAny_bind ?_))
      show wpAny _ _ (spliced [(false, eval (.Constant (.str "") 0 p5) _), (false, eval (.Constant (.str "") 0 p6) _)]) _ _ _
      refine spliced_cons (wpAny_Constant_str ?_)
      refine spliced_cons (wpAny_Constant_str (spliced_nil (wpAny_newObj_type ?_ (lim_le1 (n := 2) (by decide)))))
      have fr : ∀ {hh : Heap}, (∀ b o, s.heap.get? b = some o → hh.get? b = some o) → s.heap.get? hh.objs.size = none := fun {hh} kk => by
        cases e : s.heap.get? hh.objs.size with
        | none => rfl
        | some o => exact absurd (Heap.lt_size (kk _ _ e)) (Nat.lt_irrefl _)
      have k3 : ∀ b o, s.heap.get? b = some o → h2.get? b = some o := fun b o e => k2 b o (kk b o e)
      exact q1 rfl _ _ _ _ _ (fun b o e => Heap.get?_push_of_some _ (k3 b o e)) (fr k3) ⟨_, Heap.get?_push_size _ rfl, rfl, _, rfl⟩
    · have hl : decide (vs.length = 0) = false := by simpa using hv
      rw [hl]
      simp only [Bool.false_eq_true, if_false]
      refine wpAt_of_wpAny (wpAny_execs_nil ?_)
      refine ks_wpAt_execs_cons (ks_wpAt_Return_some (super_at S ST B KA (fun b o e => k2 b o (k' b o e)) (hns.keeps k2) rfl (k2 _ _ (kk _ _ ho)) (by decide +kernel) hg_md PySem.F.entry_list_pop hev fun s' k3 hs3 => ?_))
      obtain ⟨h4, t4, rfl⟩ := hs3
      have ho4 := k3 _ _ (k2 _ _ (kk _ _ ho))
      obtain ⟨x, hx⟩ : ∃ x, vs.getLast? = some x := by
        cases h : vs.getLast? with
        | none => exact absurd (List.getLast?_eq_none_iff.mp h) hv
        | some x => exact ⟨x, rfl⟩
      have hlen : vs.length ≠ 0 := by simpa using hv
      show wpAny _ _ (Builtin.List.listItems (.ref a) >>= _) _ _ _
      refine wpAny_bind (listItems_at ho4 rfl ?_)
      rw [if_neg (by simpa using hv)]
      have hi : ((seqIndex? (-1) vs.toArray.size).bind fun k => vs.toArray[k]?.map (k, ·)) = some (vs.length - 1, x) := by
        have e1 : seqIndex? (-1) vs.toArray.size = some (vs.length - 1) := by
          have := seq_last (vs.length - 1)
          rwa [show vs.length - 1 + 1 = vs.toArray.size by rw [List.size_toArray]; exact Z27 hlen] at this
        rw [e1, Option.bind_some, List.getElem?_toArray, ← List.getLast?_eq_getElem?, hx]; rfl
      rw [hi]
      have sz : vs.toArray.size ≤ sizeLine := by rw [List.size_toArray]; exact lim_le1 hl0
      exact wpAny_bind (listUpdate_at ho4 rfl (wpAny_pure ⟨_, rfl, q2 x hx _ _ fun b o e => k3 b o (k2 b o (kk b o e))⟩) sz (by rw [era, List.size_toArray, List.length_dropLast]; rw [List.size_toArray] at sz; exact Z28 sz))
end
end Mine
namespace Mine
open PySem PySem.Calls PyProof.Rows PySem.W
structure MakeK (c : Cx) : Prop where
  obj : ∃ oc od cd sl, c.g.get? 119 = some ⟨oc, od, .cls cd, sl⟩ ∧ cd.abstract = false ∧ cd.hasDel = false ∧ clsIn c.K 119 = some cd ∧ (sl.toList[4]?).join = some (.builtin "list.__new__")
  call : specialIn c.K (.ref 119) "__call__" = some (some (.builtin "type.__call__"))
  typ : instIn c.K (.ref 119) (.type "type") = some true
  init : findIn c.K (.ref 119) "__init__" = some (some (.ref 56))
  fn : typeIn c.K (.ref 56) = some (.type "function")
noncomputable abbrev eDict : Obj := { cls := .type "dict", data := .dict #[] }
section
variable {c : Cx} {A : Around} {E : Value → Shared → Prop} {s : Shared} {Q : Value → Shared → Prop}
theorem acc_made (MK : MakeK c) (KA : AccK c) {h : Heap} (k : ∀ b o, c.g.get? b = some o → h.get? b = some o) : Looks c.M h (Bind.madeBy (.ref 119)) (some "list.__new__") ∧ Looks c.M h (Bind.staticBase (.ref 119)) (.ref 119) := by
  obtain ⟨oc, od, cd, sl, h1, _, _, h4, h5⟩ := MK.obj
  obtain ⟨cd', c1, c2, _⟩ := KA.cls
  rw [h4] at c1; cases c1
  have X := KA.x.keeps k
  have hm : Looks c.M h (mroOf (.ref 119)) cd.mro := (looks_clsIn X h4).andThen .now
  have made : Looks c.M h (Bind.madeBy (.ref 119)) (some "list.__new__") := by
    intro A Q E s k' q
    unfold Bind.madeBy
    refine wpAny_bind (hm A _ E s k' ?_)
    rw [c2, List.forIn_cons]
    refine wpAny_bind (wpAny_bind (wpAny_bind (wpAny_bind (wpAny_loadPart (k' _ _ (k _ _ h1)) (wpAny_pure ?_)))))
    dsimp only
    rw [← Array.getElem?_toList, h5]
    exact wpAny_pure (wpAny_pure (wpAny_pure q))
  refine ⟨made, ?_⟩
  intro A Q E s k' q
  unfold Bind.staticBase
  refine wpAny_bind (hm A _ E s k' ?_)
  rw [c2, List.forIn_cons]
  exact wpAny_bind (wpAny_bind (wpAny_bind (made A _ E s k' (wpAny_pure (wpAny_pure (wpAny_pure q))))))
theorem new_list {hv : Value} {R : Result → Shared → Prop} {h : Heap} {g : Array GenState} {d : Drawn} {t : Nat} {os : OsState} (MK : MakeK c) (KA : AccK c) (k : ∀ b o, c.g.get? b = some o → h.get? b = some o)
    (hq : R (.ok (.ret (.ref (h.objs.size + 1)))) ⟨(h.push eDict).push (accO h.objs.size [] 0), g, d, t, os⟩) : codeAny c.M A (.call (.builtin "list.__new__") ⟨[.ref 119, hv], []⟩) R ⟨h, g, d, t, os⟩ := by
  obtain ⟨oc, od, cd, sl, h1, e1, e2, h4, h5⟩ := MK.obj
  obtain ⟨made, base⟩ := acc_made MK KA k
  have X := KA.x.keeps k
  have sub := looks_subIn (M := c.M) X KA.sub
  have hk1 : builtinKind "list.__new__" = some .builtinFn := by decide +kernel
  have hk2 : splitId "list.__new__" = some ("list", "__new__") := by decide +kernel
  have ty : ∀ {A E} {Q : Bool → Shared → Prop}, Q true ⟨h, g, d, t, os⟩ → wpAny c.M A (isType (.ref 119)) Q E ⟨h, g, d, t, os⟩ := fun q => ks_wpAny_isType_cls (k _ _ h1) rfl q
  refine codeAny_call_builtin_code (plainId_quiet F.plain_list_new _) ?_
  simp only [checkBuiltinCall, hk1, hk2]
  rw [if_pos (by decide)]
  have args : ∀ {A E} {Q : Unit → Shared → Prop}, Q () ⟨h, g, d, t, os⟩ → wpAny c.M A (match Manifest.signature? "list.__new__" with | some sig => Bind.checkArgs "list.__new__" sig ⟨[.ref 119, hv], []⟩ | none => pure ()) Q E ⟨h, g, d, t, os⟩ := fun q => wpAny_of_eq (a := ()) (by kernel_rfl) q
  have own := owner_list_new
  refine wpAny_bind (ty ?_)
  simp only [Bool.not_true, Bool.false_eq_true, if_false]
  refine wpAny_bind (sub.at ?_)
  simp only [Bool.not_true, Bool.false_eq_true, if_false]
  refine wpAny_bind (base.at (wpAny_bind (made.at ?_)))
  simp only [bne_self_eq_false, Bool.false_eq_true, if_false]
  refine args ?_
  refine codeAny_builtin_stack F.entry_list_new rfl fun p st => ?_
  rw [Around.under_plainId F.plain_list_new _]
  simp only [own]
  refine wpAny_bind (ty ?_)
  simp only [Bool.not_true, Bool.false_eq_true, if_false]
  refine wpAny_bind (sub.at ?_)
  simp only [Bool.not_true, Bool.false_eq_true, if_false]
  refine wpAny_bind (wpAny_pure ?_)
  rw [if_neg (show ¬ ((!typeHasDict (.ref 119)) = true) from Bool.false_ne_true)]
  refine wpAny_bind ?_
  show wpAny _ _ (newObj (.type "dict") (.dict #[])) _ _ _
  refine wpAny_newObj_type ?_ (Nat.zero_le _)
  dsimp only
  refine wpAny_bind ?_
  show wpAny _ _ (newObjAsIs (.ref 119) (.seq #[]) (some h.objs.size)) _ _ _
  unfold newObjAsIs classHasDel
  refine wpAny_bind (wpAny_alloc (wpAny_bind (wpAny_bind (wpAny_load (Heap.get?_push_of_some _ (Heap.get?_push_of_some _ (k _ _ h1))) (wpAny_pure ?_)))))
  rw [e2]
  refine wpAny_pure (wpAny_pure ?_)
  show R _ _
  rw [Heap.size_push]
  exact hq
theorem make_raw {hv : Value} (MK : MakeK c) (KA : AccK c) (k : ∀ b o, c.g.get? b = some o → s.heap.get? b = some o)
    (hinit : wpAny c.M (A.under (.builtin "type.__call__" ⟨[.ref 119, hv], []⟩)) (call (.ref 56) [.ref (s.heap.objs.size + 1), hv]) (fun r s' => r = .none ∧ Q (.ref (s.heap.objs.size + 1)) s') E { s with heap := (s.heap.push eDict).push (accO s.heap.objs.size [] 0) }) :
    wpAny c.M A (call (.ref 119) [hv]) Q E s := by
  obtain ⟨h, g, d, t, os⟩ := s
  obtain ⟨oc, od, cd, sl, h1, e1, e2, h4, h5⟩ := MK.obj
  obtain ⟨cd', c1, c2, _⟩ := KA.cls
  rw [h4] at c1; cases c1
  have X := KA.x.keeps k
  obtain ⟨made, base⟩ := acc_made MK KA k
  have call_ : Looks c.M h (specialOf (.ref 119) "__call__") (some (.builtin "type.__call__")) := looks_specialIn X MK.call
  have typ : Looks c.M h (isInstance (.ref 119) (.type "type")) true := looks_instIn X MK.typ
  refine wpAny_call (codeAny_of_tree ?_)
  show wpAny _ _ (callAny (.ref 119) _) _ _ _
  refine nd_load (k _ _ h1) ?_
  show wpAny _ _ (callAny.viaDunder (.ref 119) _) _ _ _
  unfold callAny.viaDunder
  refine wpAny_bind (call_.at ?_)
  dsimp only
  rw [tc_bind]
  refine wpAny_bind (wpAny_pure (wpAny_bind (wpAny_pure ?_)))
  refine wpAny_pure (a := Fin.again (.call (.builtin "type.__call__") ⟨[.ref 119, hv], []⟩)) (And.intro rfl ?_)
  refine codeAny_call_builtin_at (Code.quiet_builtin _ (by decide +kernel)) entry_typeCall (check_slot tc_kind tc_split typ (tc_args _ _ _) ?_)
  unfold Builtin.«type.__call__»
  have hm : Looks c.M h (mroOf (.ref 119)) cd.mro := ((Looks.ld (part := none) (k _ _ h1)).andThen .now).andThen .now
  have e4 : cd.mro.isEmpty = false := by rw [c2]; rfl
  have k2 : ∀ b o, h.get? b = some o → ((h.push eDict).push (accO h.objs.size [] 0)).get? b = some o := fun b o e => Heap.get?_push_of_some _ (Heap.get?_push_of_some _ e)
  have hx : ((h.push eDict).push (accO h.objs.size [] 0)).get? (h.objs.size + 1) = some (accO h.objs.size [] 0) := by
    have := Heap.get?_push_size (h.push eDict) (o := accO h.objs.size [] 0) rfl
    rwa [Heap.size_push] at this
  have t1 : Looks c.M ((h.push eDict).push (accO h.objs.size [] 0)) (typeOf (.ref (h.objs.size + 1))) (.ref 119) := (Looks.ld hx).andThen .now
  have X2 := X.keeps k2
  have self : Looks c.M ((h.push eDict).push (accO h.objs.size [] 0)) (isSubtype (.ref 119) (.ref 119)) true := looks_mroIn X2 (by unfold mroIn; rw [h4, Option.bind_some, c2]; rfl)
  have i1 : Looks c.M ((h.push eDict).push (accO h.objs.size [] 0)) (isInstance (.ref (h.objs.size + 1)) (.ref 119)) true := t1.andThen self
  have hi := looks_findIn (M := c.M) X2 MK.init
  have b1 := bind_fn (M := c.M) X2 (f := 56) (.ref (h.objs.size + 1)) MK.fn
  dsimp only
  rw [if_neg (by decide)]
  refine wpAny_bind (hm.at ?_)
  rw [e4]
  simp only [Bool.false_eq_true, if_false]
  refine wpAny_bind (made.at ?_)
  dsimp only
  refine wpAny_bind (wpAny_pure (wpAny_bind (wpAny_holding (wpAny_call (new_list MK KA k ?_)))))
  refine wpAny_bind (i1.at ?_)
  simp only [Bool.not_true, Bool.false_eq_true, if_false]
  refine wpAny_bind (wpAny_holding ?_)
  unfold callSpecial? specialOf
  refine wpAny_bind (wpAny_bind (t1.at (hi.at (wpAny_holding (wpAny_bind (b1.at (wpAny_bind ?_)))))))
  refine wpAny_mono hinit (fun r s' hr => ?_) fun _ _ z => z
  obtain ⟨rfl, hq⟩ := hr
  refine wpAny_pure ?_
  dsimp only
  rw [if_neg (by decide)]
  exact wpAny_pure hq
end
end Mine
namespace Mine
open PySem PySem.Calls PyProof.Rows PySem.W Builtin Builtin.ObjectAttr Builtin.Getset_descriptor
structure StoreK (c : Cx) : Prop where
  set : findIn c.K (.ref 119) "__setattr__" = some (some (.builtin "object.__setattr__"))
  none_ : findIn c.K (.ref 119) "_initial_size" = some none
  dict : (clsIn c.K 119).any (·.hasDict) = true
theorem refuse_acc (self : Value) : refuseLoop self "__setattr__" [.ref 119, .type "list", .type "object"] = pure () := by
  rw [refuseLoop_ref]
  kernel_rfl
noncomputable abbrev oneD (k : Int) (t : Tok) (v : Value) : Obj := { cls := .type "dict", data := .dict #[⟨k, .str "_initial_size" t, v⟩] 1 }
theorem put_one {k : Int} {t : Tok} {v : Value} : Obj.putName "_initial_size" k (.str "_initial_size" t) v eDict = oneD k t v := rfl
section
variable {c : Cx} {A : Around} {E : Value → Shared → Prop} {s : Shared} {a d : Addr} {vs : List Value} {e : Nat} {od : Obj} {m0 : Str → Option Value} {v : Value}
theorem acc_store {Q : Unit → Shared → Prop} (KA : AccK c) (SK : StoreK c) (X : c.K.In s.heap) (ho : s.heap.get? a = some (accO d vs e)) (hod : s.heap.get? d = some eDict)
    (q : ∀ h' tk k t, h'.get? d = some (oneD k t v) → Heap.SameBut d s.heap h' → Q () { s with heap := h', toks := tk }) : wpAny c.M A (setAttr (.ref a) "_initial_size" v) Q E s := by
  have I := acc_inst ho hod
  obtain ⟨cd, c1, c2, _⟩ := KA.cls
  refine set_plain X I SK.set ?_
  obtain ⟨hh, g, dd, t, os⟩ := s
  have SF := PySem.F.store_object
  have ty : Looks c.M hh (typeOf (.ref a)) (.ref 119) := I.type
  have hc : Looks c.M hh (classData 119) cd := looks_clsIn X c1
  have hm : Looks c.M hh (mroOf (.ref 119)) cd.mro := hc.andThen .now
  have look : Looks c.M hh (typeLookup (.ref 119) "_initial_size") none := looks_findIn X SK.none_
  have sub : Looks c.M hh (isInstance (.ref a) (.type "object")) true := ty.andThen (looks_mroIn X (by unfold mroIn; rw [c1, Option.bind_some, c2]; rfl))
  refine codeAny_call_builtin SF.slot.plain SF.entry (@check_slot c.M _ _ ⟨hh, g, dd, t + 1, os⟩ "object.__setattr__" "object" "__setattr__" (.ref a) [.str "_initial_size" t, v] [] _ SF.kind SF.split sub (SF.args (.ref a) (.str "_initial_size" t) v) ?_)
  rw [osa_eq, refuse_eq]
  refine wpAny_bind (wpAny_bind (ty.at (wpAny_bind (hm.at ?_))))
  rw [c2, refuse_acc]
  refine wpAny_pure (wpAny_bind (ty.at (wpAny_bind (look.at (wpAny_bind (Looks.now.at ?_))))))
  have hd' : cd.hasDict = true := by have := SK.dict; rw [c1] at this; exact this
  refine wpAny_bind (wpAny_pure (wpAny_bind (wpAny_bind (wpAny_loadPart ho (wpAny_bind (hc.at ?_))))))
  rw [hd']
  refine wpAny_pure (a := some d) (wpAny_bind (wpAny_pure (wpAny_bind ?_)))
  unfold nsSet
  refine wpAny_bind (wpAny_bind (wpAny_askSetting (wpAny_pure (wpAny_bind (wpAny_mkText (wpAny_bind (wpAny_loadPart hod ?_)))))))
  dsimp only
  rw [aRefKeyMayBeTheName_at]
  have c0 : (!(#[] : Array DictEntry).any (·.key.isStr ("_initial_size" : Str)) && (#[] : Array DictEntry).any (·.refKey)) = false := by simp
  rw [c0]
  refine wpAny_updatePart hod ?_
  have D' := Heap.get?_update_self (Obj.putName "_initial_size" (PyData.keyHash c.w.params "_initial_size") (.str "_initial_size" (t + 1)) v) hod rfl
  rw [put_one] at D'
  refine wpAny_bind (wpAny_lookBehind D' (pastItsLine_dict (Nat.succ_le_succ (Nat.zero_le _))) ?_)
  exact wpAny_pure (q _ _ _ _ D' (Heap.SameBut.update ..))
variable {fd : FuncData} {Q : Value → Shared → Prop} {hv : Value} {p0 p1 p2 p3 s0 s1 apos pos rp : Pos}
theorem init_raw (S : SupFn c 56 fd [.Assign [.Attribute (.Name "self" p0) "_initial_size" p1] (.Name "initial_size" p2) p3, .Expr (.Call (.Attribute (.Call (.Name "super" s0) [] [] s1) "__init__" apos) [] [] pos) rp])
    (SB : ∀ (s : Shared) (x y : Value), c.K.In s.heap → BindsTo s fd ⟨[x, y], []⟩ [(("self" : Str), x), (("initial_size" : Str), y)]) (T : TopR c) (ST : SupTop c) (B : Bi c "__init__" "list.__init__" "wrapper_descriptor" "wrapper_descriptor.__get__" "method-wrapper") (KA : AccK c) (SK : StoreK c)
    (hi : fd.scope.names.lookup ("initial_size" : Str) = some .local) (hev : ∀ L, MethE (.Call (.Name "super" s0) [] [] s1) "__init__" apos pos [] (callEnv fd L 56))
    (hsw : ∀ L, swapsWith (.Name "initial_size" p2) (some (.Attribute (.Name "self" p0) "_initial_size" p1)) p3.line (callEnv fd L 56) = pure false) (hsw2 : ∀ L, swapsWith (.Call (.Attribute (.Call (.Name "super" s0) [] [] s1) "__init__" apos) [] [] pos) none rp.line (callEnv fd L 56) = pure false)
    (hd : A.depth < recursionLimit) (k : ∀ b o, c.g.get? b = some o → s.heap.get? b = some o) (ho : s.heap.get? a = some (accO d [] 0)) (hod : s.heap.get? d = some eDict) (hga : c.g.get? d = none) (hne : a ≠ d)
    (q : ∀ h' tk k t e, h'.get? a = some (accO d [] e) → h'.get? d = some (oneD k t hv) → (∀ b o, b ≠ a → b ≠ d → s.heap.get? b = some o → h'.get? b = some o) → Q .none { s with heap := h', toks := tk }) : wpAny c.M A (call (.ref 56) [.ref a, hv]) Q E s := by
  refine sup_enter (args := ⟨[.ref a, hv], []⟩) S T (SB _ _ _ (KA.x.keeps k)) (fun x m => by
    rcases List.mem_cons.mp m with rfl | m
    · exact S.self
    · rw [List.mem_singleton.mp m]; exact hi) hd k fun h' tk hns kk => ?_
  have k' : ∀ b o, c.g.get? b = some o → h'.get? b = some o := fun b o e => kk b o (k b o e)
  have hLd : s.heap.objs.size ≠ d := fun q => absent (q ▸ hod) (fresh_at _)
  obtain ⟨pl, hev⟩ := hev s.heap.objs.size
  refine ks_wpAt_execs_cons (ks_wpAt_Assign_Attr (wpAt_of_wpAny (wpAny_Name (wpAny_loadName_local S.kind hi hns rfl (wpAny_Name (wpAny_loadName_local S.kind S.self hns rfl ?_) (by decide +kernel))) (by decide +kernel))) (hsw _))
  refine acc_store KA SK (KA.x.keeps k') (kk _ _ ho) (kk _ _ hod) fun h2 t2 k2 t2' e2 sb => ?_
  have k3 : ∀ b o, c.g.get? b = some o → h2.get? b = some o := fun b o e => (sb.2 b fun q => absent (q ▸ e) hga).trans (k' b o e)
  refine ks_wpAt_execs_cons (ks_wpAt_Expr_any (super_at S ST B KA k3 (hns.sameBut sb hLd) rfl ((sb.2 a hne).trans (kk _ _ ho)) (by decide +kernel) hg_wd PySem.F.entry_list_init hev fun s' k4 hs => ?_) (by unfold interactive; rw [show (callEnv fd s.heap.objs.size 56).scope.kind = .function from S.kind]; rfl) (hsw2 _))
  obtain ⟨h4, t4, rfl⟩ := hs
  have ho4 := k4 _ _ ((sb.2 a hne).trans (kk _ _ ho))
  show wpAny _ _ (do let old ← Builtin.List.listItems (.ref a); Builtin.List.listUpdate (.ref a) (fun _ => #[]); letGo old.toList.reverse; ret .none) _ _ _
  refine wpAny_bind (listItems_at ho4 rfl (wpAny_bind (listUpdate_at ho4 rfl ?_ (Nat.zero_le _) (Nat.zero_le _))))
  obtain ⟨e', he⟩ := acc_upd (f := fun _ => #[]) (ws := []) ho4 rfl
  have sb2 := Heap.SameBut.update h4 a (Obj.mapSeq fun _ => (#[] : Array Value))
  refine wpAny_bind (wpAny_letGo (wpAny_pure ⟨.none, rfl, ?_⟩))
  refine wpAt_of_wpAny (wpAny_execs_nil ?_)
  exact q _ _ _ _ _ he ((sb2.2 d (Ne.symm hne)).trans (k4 _ _ e2)) fun b o h1 h2 e => (sb2.2 b h1).trans (k4 _ _ ((sb.2 b h2).trans (kk _ _ e)))
end
end Mine
namespace Mine
open PySem PySem.Calls PyProof.Rows PySem.W
section
variable (c : Cx)
structure AccF : Prop where
  KA : AccK c
  T : TopR c
  part : ∀ ⦃A : Around⦄ ⦃E : Value → Shared → Prop⦄ ⦃s : Shared⦄ ⦃Q : Value → Shared → Prop⦄ ⦃a d : Addr⦄ ⦃e : Nat⦄ ⦃vs : List Value⦄, A.depth < recursionLimit → (∀ b o, c.g.get? b = some o → s.heap.get? b = some o) → s.heap.get? a = some (accO d vs e) →
    (∀ h' tk t, Kp s { s with heap := h', toks := tk } → Q (.int vs.length t) { s with heap := h', toks := tk }) → wpAny c.M A (call (.ref 116) [.ref a]) Q E s
  pop : ∀ ⦃A : Around⦄ ⦃E : Value → Shared → Prop⦄ ⦃s : Shared⦄ ⦃Q : Value → Shared → Prop⦄ ⦃a d : Addr⦄ ⦃e : Nat⦄ ⦃vs : List Value⦄ ⦃od : Obj⦄, A.depth + 3 < recursionLimit → (∀ b o, c.g.get? b = some o → s.heap.get? b = some o) → s.heap.get? a = some (accO d vs e) →
    vs.length ≤ lim → s.heap.get? d = some od → (lookIn "part_count" od).map (·.isSome) = some false →
    (vs = [] → ∀ h' tk ad t t', Kp s { s with heap := h', toks := tk } → s.heap.get? ad = none → h'.IsTuple ad #[.str ⟨#[]⟩ t, .str ⟨#[]⟩ t'] → Q (.ref ad) { s with heap := h', toks := tk }) →
    (∀ x, vs.getLast? = some x → ∀ h' tk, Kp s { s with heap := h', toks := tk } → Q x { s with heap := h'.update a (Obj.mapSeq (·.eraseIdxIfInBounds (vs.length - 1))), toks := tk }) → wpAny c.M A (call (.ref 79) [.ref a]) Q E s
  make : ∀ ⦃A : Around⦄ ⦃E : Value → Shared → Prop⦄ ⦃s : Shared⦄ ⦃Q : Value → Shared → Prop⦄ ⦃hv : Value⦄, A.depth + 1 < recursionLimit → (∀ b o, c.g.get? b = some o → s.heap.get? b = some o) → c.g.get? s.heap.objs.size = none → s.heap.objs.size ≠ 166 → s.heap.objs.size ≠ 81 →
    (∀ h' tk k t e, h'.get? (s.heap.objs.size + 1) = some (accO s.heap.objs.size [] e) → h'.get? s.heap.objs.size = some (oneD k t hv) → Kp s { s with heap := h', toks := tk } → Q (.ref (s.heap.objs.size + 1)) { s with heap := h', toks := tk }) → wpAny c.M A (call (.ref 119) [hv]) Q E s
  keep : ∀ ⦃h : Heap⦄, (∀ b o, c.g.get? b = some o → h.get? b = some o) → Looks c.M h (keeperOf (.ref 119)) .machine
end
section
variable {c : Cx} {n : Nat} {σ : Sto} {i v : Nat} {k : Int} {xs : List AV}
theorem CallR.part (H : AccF c) (ho : σ[i]? = some ⟨v, some k, xs⟩) : CallR c n (.val (.ref 116)) [.mref i] [] σ (.int xs.length) σ := by
  intro A E F μ s f ys kws Q rm I rf r rk q
  obtain rfl := rf.val_inv
  obtain rfl := rk.nil_inv
  obtain ⟨u, rfl, r1⟩ := r.inv1
  obtain ⟨ad, rfl, ha⟩ := r1.mref_inv
  obtain ⟨vs, d, od, tt, e, h1, h2, _, _, rs, _, _⟩ := acc_ok I ho ha
  refine H.part rm.depth I.keep h1 fun h' tk t kk => ?_
  rw [← rs.len]
  exact q _ _ _ (I.grow kk) (.int _ _)
theorem CallR.pop0 (H : AccF c) (ho : σ[i]? = some ⟨v, some k, []⟩) : CallR c n (.val (.ref 79)) [.mref i] [] σ (.tup [.str ⟨#[]⟩, .str ⟨#[]⟩]) σ := by
  intro A E F μ s f ys kws Q rm I rf r rk q
  obtain rfl := rf.val_inv
  obtain rfl := rk.nil_inv
  obtain ⟨u, rfl, r1⟩ := r.inv1
  obtain ⟨ad, rfl, ha⟩ := r1.mref_inv
  obtain ⟨vs, d, od, tt, e, h1, h2, _, h4, rs, hl, _⟩ := acc_ok I ho ha
  obtain rfl := rs.nil_inv
  refine H.pop (by have := rm.d; show _ < 1000; exact Z29 this) I.keep h1 (Nat.zero_le _) h2 (by rw [h4 _ (by decide +kernel)]; rfl) (fun _ h' tk ad t t' kk fr ht => ?_) fun x hx => nomatch hx
  have g := I.grow (W := NoW) kk
  refine q _ _ _ g (.tup (vs := [.str ⟨#[]⟩ t, .str ⟨#[]⟩ t']) (I.newN fr) ht (by show 2 ≤ lim; decide) rfl ?_)
  have rr : VRs F μ h' [.str ⟨#[]⟩, .str ⟨#[]⟩] [.str ⟨#[]⟩ t, .str ⟨#[]⟩ t'] := .cons (.str _ (by decide +kernel)) (.one (.str _ (by decide +kernel)))
  exact rr.at_
theorem CallR.pop {x : AV} (H : AccF c) (ho : σ[i]? = some ⟨v, some k, xs ++ [x]⟩) : CallR c n (.val (.ref 79)) [.mref i] [] σ x (chg σ i ⟨v, some k, xs ++ [x]⟩ xs) := by
  intro A E F μ s f ys kws Q rm I rf r rk q
  obtain rfl := rf.val_inv
  obtain rfl := rk.nil_inv
  obtain ⟨u, rfl, r1⟩ := r.inv1
  obtain ⟨ad, rfl, ha⟩ := r1.mref_inv
  obtain ⟨vs, d, od, tt, e, h1, h2, _, h4, rs, hl, hb⟩ := acc_ok I ho ha
  have hlen := rs.len
  refine H.pop (by have := rm.d; show _ < 1000; exact Z29 this) I.keep h1 (rs.len ▸ hl) h2 (by rw [h4 _ (by decide +kernel)]; rfl) (fun q0 => ?_) fun y hy h' tk kk => ?_
  · subst q0
    simp at hlen
  · have g1 := I.grow (W := NoW) kk
    obtain ⟨e', he⟩ := acc_upd (f := (·.eraseIdxIfInBounds (vs.length - 1))) (ws := vs.dropLast) (kk _ _ h1) era
    have hx : (xs ++ [x])[xs.length]? = some x := by simp
    have hy' : vs[xs.length]? = some y := by
      rw [List.getLast?_eq_getElem?] at hy
      rw [List.length_append, List.length_singleton] at hlen
      rw [← hy, ← hlen]; rfl
    have ry := rs.at_ _ _ _ hx hy'
    have rd : VRs F μ s.heap xs vs.dropLast := by
      have := rs.take xs.length
      rw [List.take_left] at this
      rwa [List.dropLast_eq_take, ← rs.len, List.length_append, List.length_singleton, Nat.add_sub_cancel]
    have hl2 : xs.length ≤ lim := by rw [List.length_append] at hl; exact Z30 hl
    have g2 := g1.inv.change (tk := tk) (xs := xs) ho ha (Heap.SameBut.update h' ad (Obj.mapSeq (·.eraseIdxIfInBounds (vs.length - 1)))) (fun p => hb _ _ _ _ _ _ (kk.pres.trans p) he ((rd.pres kk.pres).pres p) hl2 _) ⟨_, he⟩
    exact q _ _ _ (g1.trans g2) ((ry.pres kk.pres).pres g2.pres0)
theorem CallR.make (H : AccF c) : CallR c n (.val (.ref 119)) [.int k] [] σ (.mref σ.length) (σ ++ [⟨0, some k, []⟩]) := by
  intro A E F μ s f ys kws Q rm I rf r rk q
  obtain rfl := rf.val_inv
  obtain rfl := rk.nil_inv
  obtain ⟨u, rfl, r1⟩ := r.inv1
  obtain ⟨t0, rfl⟩ := r1.int_inv
  have gn : ∀ a, s.heap.get? a = none → c.g.get? a = none := fun a h => by
    cases e : c.g.get? a with
    | none => rfl
    | some o => exact absent (I.keep a o e) h
  have tb : ∀ a, Tab a → s.heap.objs.size ≠ a := fun a ht q => by
    obtain ⟨o, e⟩ := I.flt a (.inr (.inr ht))
    exact absent e (q ▸ fresh_at _)
  have n1 : s.heap.get? (s.heap.objs.size + 1) = none := by
    cases e : s.heap.get? (s.heap.objs.size + 1) with
    | none => rfl
    | some o => exact absurd (Heap.lt_size e) (Nat.not_lt.mpr (Nat.le_succ _))
  refine H.make (show A.depth + 1 < 1000 by have := rm.d; exact Z31 this) I.keep (gn _ (fresh_at _)) (tb _ (.inl rfl)) (tb _ (.inr rfl)) fun h' tk kk t e h1 h2 h3 => ?_
  have g := I.newM (h' := h') (tk := tk) (ad := s.heap.objs.size + 1) (o := ⟨0, some k, []⟩) h3 n1 ⟨_, h1⟩ fun pr => ⟨Nat.zero_le _, [], e, .nil, (fun q => nomatch q), fun k' hk => ?_⟩
  · exact q _ _ _ g (.mref (by rw [← I.len]; simp))
  · cases hk
    refine ⟨s.heap.objs.size, h1, fun x => ?_, _, _, _, t0, h2, rfl, ?_, ?_, ?_⟩
    · rcases x with x | x | x
      · exact I.new (.inl x)
      · rcases List.mem_append.mp x with x | x
        · exact I.new (.inr (.inl x))
        · exact absurd (List.mem_singleton.mp x) (Nat.ne_of_lt (Nat.lt_succ_self _))
      · exact I.new (.inr (.inr x))
    · intro en hen
      rw [List.mem_toArray, List.mem_singleton] at hen
      subst hen
      exact ⟨_, _, rfl⟩
    · unfold nsFind findBy
      rw [← Array.find?_toList]
      rfl
    · intro x hx
      unfold nsFind findBy
      rw [← Array.find?_toList]
      have : (Value.str "_initial_size" t).isStr x = false := by
        show (_ == _) = false
        exact beq_eq_false_iff_ne.mpr (Ne.symm hx)
      simp only [List.find?_cons, this]
      rfl
theorem KeepR.acc (H : AccF c) : KeepR c σ (.val (.ref 119)) := fun _ _ _ _ I r => by obtain rfl := r.val_inv; exact ⟨.machine, .inr (.inl rfl), H.keep I.keep⟩
end
end Mine
namespace Mine
open PySem PySem.Calls PyProof.Rows PySem.W
theorem args_sum2 (a b : Value) : argsOk "sum" ⟨[a, b], []⟩ := by unfold argsOk; kernel_rfl
theorem shiftS {prog : Program} {w : World} {A : Around} {I : Addr} {fp wr : List Addr} {G : Array GenState → Array GenState → Prop} {n : Nat} {P : Nat → Value → Prop} {St : Nat → Shared → Prop} (W : WalksS prog w A I fp wr G n P St) :
    WalksS prog w A I fp wr G (n + 1) (fun i v => ∃ j, i = j + 1 ∧ P j v) (fun i s => ∃ j, i = j + 1 ∧ St j s) where
  sub := W.sub
  grefl := W.grefl
  gtrans := W.gtrans
  frame := fun _ s h' tk ⟨j, e, st⟩ ht hk => ⟨j, e, W.frame j s h' tk st ht hk⟩
  item := fun _ s Q E hi ⟨j, e, st⟩ hQ => W.item j s Q E (by exact Z32 hi e) st fun v s' hp st' hm => hQ v s' ⟨j, e, hp⟩ ⟨j + 1, by exact Z33 e, st'⟩ hm
  done := fun s Q E ⟨j, e, st⟩ hQ => W.done s Q E (by have : n = j := by exact Z34 e
                                                      exact this ▸ st) hQ
  self := fun _ s Q E ⟨j, _, st⟩ hQ => W.self j s Q E st hQ
noncomputable def preFrom (k : Int) (val : Nat → Int) (i : Nat) : Int := match i with | 0 => k | j + 1 => val j
theorem pre_from (k : Int) (val : Nat → Int) : ∀ n, preSum (preFrom k val) (n + 1) = k + preSum val n
  | 0 => by simp [preSum, preFrom]
  | n + 1 => by rw [preSum, pre_from k val n, preSum]; show _ + val n = _; lia
theorem call_sum2 {prog : Program} {w : World} {A : Around} {E : Value → Shared → Prop} {s : Shared} {x : Value} {k : Int} {tk : Tok} {Q : Value → Shared → Prop} (hk : InLong k)
    (h : wpAny (model prog w) A.in1 (pyIter x) (fun it s₂ => ∃ I fp wr G n P St val, it = .ref I ∧ WalksS prog w A.in1 I fp wr G n P St ∧ St 0 s₂ ∧ (∀ b ∈ fp, b < s₂.heap.objs.size) ∧
      (∀ i v, P i v → ∃ t, v = .int (val i) t) ∧ (∀ j, j < n → InLong (val j) ∧ InLong (k + preSum val (j + 1))) ∧
      ∀ s' t', Moved wr G s₂ s' → Q (.int (k + preSum val n) t') s') E s) :
    wpAny (model prog w) A (call (.builtin "sum") [x, .int k tk]) Q E s := by
  refine call_function_tree PySem.F.kind_sum PySem.F.plain_sum PySem.F.entry_sum (args_sum2 _ _) ?_
  unfold Builtin.«sum»
  simp only [List.length_cons, List.length_nil]
  rw [if_neg (by decide)]
  refine wpAny_bind (wpAny_of_eq (show Builtin.Builtins.bindParams "sum" ["start"] 0 ⟨[.int k tk], []⟩ = pure [some (.int k tk)] from rfl) ?_)
  refine wpAny_bind (wpAny_mono h (fun it s₂ h₂ => ?_) fun _ _ e => e)
  obtain ⟨I, fp, wr, G, n, P, St, val, rfl, W, hst, hfp, hval, hfit, hQ⟩ := h₂
  dsimp only
  rw [if_pos]
  rotate_left
  · show (decide (-(2 ^ 63) ≤ k) && decide (k < 2 ^ 63)) = true
    rw [decide_eq_true hk.1, decide_eq_true hk.2]; rfl
  refine wpAny_bind (wpAny_rule (wpAny_bind (wpAny_mkInt (wpAny_bind (wpAny_pure ?_)))))
  simp only [List.forIn_cons, List.forIn_nil]
  refine wpAny_bind (wpAny_bind (wpAny_bind (wpAny_isInstance (T := "int") (b := false) (typeIs_int _ _ _) PySem.sub_int_str ?_)))
  simp only [Bool.false_eq_true, if_false]
  refine wpAny_pure (wpAny_bind (wpAny_bind (wpAny_isInstance (T := "int") (b := false) (typeIs_int _ _ _) PySem.sub_int_bytes ?_)))
  simp only [Bool.false_eq_true, if_false]
  refine wpAny_pure (wpAny_bind (wpAny_bind (wpAny_isInstance (T := "int") (b := false) (typeIs_int _ _ _) PySem.sub_int_bytearray ?_)))
  simp only [Bool.false_eq_true, if_false]
  refine wpAny_pure (wpAny_pure ?_)
  refine wpAny_bind (wpAny_newObj_type ?_)
  have hSf : s₂.heap.objs.size ∉ fp := fun hm => Nat.lt_irrefl _ (hfp _ hm)
  refine wpAny_pure ⟨plainId_quiet PySem.F.plain_sum_loop _, codeAny_sum_loopS (shiftS W) (preFrom k val) (fun i v ⟨j, e, hp⟩ => by subst e; exact hval j v hp) (fun j hj => ?_) s₂.heap.objs.size hSf n 1 _ _ 0 (by exact Z35) (by exact Z36)
    ⟨0, rfl, W.frame 0 s₂ _ _ hst (by first | exact Nat.le_refl _ | exact Nat.le_succ _ | omega) fun b _ o e => Heap.get?_push_of_some _ e⟩ (by rw [show preSum (preFrom k val) 1 = k by simp [preSum, preFrom]]; exact Heap.get?_push_size _ rfl) fun s' t' hm => ?_⟩
  · rw [pre_from]
    cases j with
    | zero => exact ⟨hk, by simpa [preSum] using hk⟩
    | succ j => exact hfit j (by exact Z37 hj)
  · rw [pre_from]
    exact hQ s' t' (hm.drop_new (by first | exact Nat.le_refl _ | exact Nat.le_succ _ | omega))
section
variable {c : Cx} {n : Nat} {A : Around} {E : Value → Shared → Prop} {s : Shared} {a d : Addr} {e : Nat} {vs : List Value} {F : Addr → Prop} {μ : List Addr} {σ : Sto}
theorem acc_first {od : Obj} {v : Value} {expr : Bool} {Q : Value → Shared → Prop} (KA : AccK c) (SK : StoreK c) (X : c.K.In s.heap) (ho : s.heap.get? a = some (accO d vs e)) (hod : s.heap.get? d = some od) (hl : lookIn "_initial_size" od = some (some v)) (hv : handedIn v = true)
    (h : Q v { s with toks := s.toks + 1 }) : wpAny c.M A (getAttr (.ref a) "_initial_size" expr) Q E s := by
  obtain ⟨hh, g, d', t, os⟩ := s
  have I := acc_inst ho hod
  have L0 := I.type (M := c.M)
  have L1 := looks_findIn (M := c.M) X KA.ga
  have L2 := looks_findIn (M := c.M) X KA.gattr
  have L3 := looks_find (M := c.M) X I (findObj_own (name := "_initial_size") SK.dict SK.none_ rfl hl)
  unfold getAttr getAttrBy
  refine wpAny_bind (wpAny_mkText (wpAny_holding (wpAny_bind (L0.at (wpAny_bind (L1.at ?_))))))
  show wpAny _ _ (getAttrByItsOwn (.ref a) (.str "_initial_size" t) (.ref 119) (.builtin "list.__getattribute__") true expr) _ _ _
  unfold getAttrByItsOwn hookBefore callGetattribute boundAndCalled
  refine wpAny_bind (L2.at ?_)
  refine wpAny_bind (wpAny_attempt (wpAny_holding ?_))
  rw [show (expr && onTheHeap (.builtin "list.__getattribute__")) = false by cases expr <;> rfl, if_neg (by decide)]
  refine wpAny_bind (wpAny_of_eq (PySem.F.slot_list_getattribute.bind _) ?_)
  refine acc_entry (n := "__getattribute__") KA X ho rfl (by decide +kernel) (by first | exact .inl (by decide +kernel) | exact .inr (by decide +kernel)) (by decide +kernel) PySem.am_entry_list_getattribute (PySem.F.args_list_getattribute_2 _ _) ?_
  unfold Builtin.«object.__getattribute__»
  refine wpAny_bind (wpAny_pure (wpAny_bind (wpAny_pure (wpAny_bind (L0.at (wpAny_bind (L3.at ?_)))))))
  refine wpAny_pure ⟨_, rfl, ?_⟩
  show wpAny _ _ (handedOut v) _ _ _
  rw [handedOut_of hv]; exact wpAny_pure h
theorem pair_walk {A : Around} (hh : A.handled = none) (I ax : Addr) (hne : ax ≠ I) (items : Array Value) (fp : List Addr) (h1 : I ∈ fp) (h2 : ax ∈ fp) (Pt : Nat → Array Value → Prop) :
    WalksU c.prog c.w A I fp [I] items.size Pt (fun i h => h.IsListIter I ax i ∧ SeqAt h ax items ∧ ∀ (j : Nat) (v : Value), items[j]? = some v → ∃ T vals, v = .ref T ∧ T ≠ I ∧ T ∈ fp ∧ h.IsTuple T vals ∧ Pt j vals)
      (fun i T h => (h.IsListIter I ax (i + 1) ∧ SeqAt h ax items ∧ ∀ (j : Nat) (v : Value), items[j]? = some v → ∃ T vals, v = .ref T ∧ T ≠ I ∧ T ∈ fp ∧ h.IsTuple T vals ∧ Pt j vals) ∧ T ≠ I) where
  sub := fun b hb => by rw [List.mem_singleton.mp hb]; exact h1
  frame := fun _ _ _ st hk => ⟨st.1.at fun o e => hk I h1 o e, st.2.1.at fun o e => hk ax h2 o e, fun j v e => by
    obtain ⟨T, vals, r1, r2, r3, ⟨o, r4, r5⟩, r6⟩ := st.2.2 j v e
    exact ⟨T, vals, r1, r2, r3, ⟨o, hk T r3 o r4, r5⟩, r6⟩⟩
  item := fun i s Q E hi st hQ => by
    obtain ⟨T, vals, r1, r2, r3, r4, r6⟩ := st.2.2 i items[i] (by simp [hi])
    refine acc_next st.1 st.2.1 (x := items[i]) (by simp [hi]) fun h' hit' hs' => ?_
    have tup : ∀ {T : Addr} {vals : Array Value}, T ≠ I → s.heap.IsTuple T vals → h'.IsTuple T vals := fun hT ⟨o, e, r⟩ => ⟨o, hs'.extBut _ o hT e, r⟩
    rw [r1]
    refine hQ T vals h' s.toks r6 (tup r2 r4) ⟨⟨hit', st.2.1.at fun o e => hs'.extBut _ o hne e, fun j v e => ?_⟩, r2⟩ fun b o hb e => hs'.extBut b o (fun h => hb (by simp [h])) e
    obtain ⟨T', vals', q1, q2, q3, q4, q6⟩ := st.2.2 j v e
    exact ⟨T', vals', q1, q2, q3, tup q2 q4, q6⟩
  go := fun elts k pos i T s Q E hm hQ => by
    obtain ⟨o, e1, e2, _⟩ := id hm.1.1
    exact owned_none (c := c) e1 e2 (by decide) (hQ s.heap hm.1 fun _ _ _ e => e)
  apart := fun i T h hm hT => hm.2 (List.mem_singleton.mp hT)
  done := fun s Q E st hQ => acc_end hh st.1 st.2.1 (by simp) fun h' he' => hQ h' s.toks fun b o hb e => he' b o (fun h => hb (by simp [h])) e
  self := fun _ _ _ _ st hQ => wpAny_pyIter_listiter st.1 hQ
end
end Mine
namespace Mine
open PySem PySem.Calls PyProof.Rows PySem.W
noncomputable def GloB (c : Cx) (x : Str) (id : String) : Prop := ∃ mg mb, c.g.Ns mainGlobals mg ∧ c.g.Ns builtinsNs mb ∧ mg x = none ∧ mb x = some (.builtin id)
section
variable {c : Cx} {n : Nat} {A : Around} {E : Value → Shared → Prop} {s : Shared} {a d : Addr} {e : Nat} {F : Addr → Prop} {μ : List Addr} {σ : Sto}
theorem len_name {env : Env} {m mg mb : Str → Option Value} {x : Str} {y : Str} {t : Tok} {p q pos : Pos} {Q : Value → Shared → Prop} (hk : env.scope.kind = .function) (hx : env.kindOf x = some .local) (hd : (x == ("__debug__" : Str)) = false) (hn : s.heap.Ns env.locals m) (hm : m x = some (.str y t)) (hg : env.kindOf ("len" : Str) = some .globalImplicit)
    (G : s.heap.Ns env.globals mg) (hmg : mg "len" = none) (B : s.heap.Ns env.builtins mb) (hmb : mb "len" = some (.builtin "len")) (hy : y.length ≤ lim) (h : ∀ t tk, Q (.int y.length t) { s with toks := tk })
    (hs : starEach [.Name x q] env = [(false, eval (.Name x q) env)]) : wpAny c.M A (eval (.Call (.Name "len" p) [.Name x q] [] pos) env) Q E s := by
  refine wpAny_Call_NameR (wpAny_Name ?_ (by decide +kernel))
  rw [loadName_read hk hg]
  refine loadGlobal_builtin G hmg B hmb ?_
  rw [hs]
  refine callWith_of (P := Kept c.M (.builtin "len")) rfl (fun _ x => x) (evalArgs_gen rfl rfl (spliced_cons (wpAny_Name (wpAny_loadName_local hk hx hn hm ?_) hd)))
  refine spliced_nil (wpAny_pure ⟨⟨.machine, .inr (.inl rfl), .now⟩, ?_⟩)
  have hm : (lim : Int) = 1048576 := rfl
  exact P.len_str (by lia) (h _ _)
theorem quiet_pair {sc : Scope} {C : Addr} {code : Value} {env : Env} {ys : List (Str × Str)} {wr fp : List Addr} {href : Heap} {p0 p1 p2 p3 p4 p5 p6 : Pos} (hk : sc.kind = .function) (h1 : sc.names.lookup ("fws" : Str) = some .local) (h2 : sc.names.lookup ("part" : Str) = some .local) (h3 : sc.names.lookup ("len" : Str) = some .globalImplicit)
    (hgl : env.globals = mainGlobals) (G : GloB c "len" "len") (hy : ∀ p ∈ ys, p.1.length ≤ lim ∧ p.2.length ≤ lim) (hfp : ∀ b o, c.g.get? b = some o → b ∈ fp ∧ b ∉ wr ∧ href.get? b = some o) :
    QuietGenT c.prog c.w (genEnv sc [] C code builtinsNs env) "fws" "part" [] (.BinOp (.Call (.Name "len" p0) [.Name "fws" p1] [] p2) .Add (.Call (.Name "len" p3) [.Name "part" p4] [] p5) p6) fp wr
      (fun i vals => ∃ t t' p, ys[i]? = some p ∧ vals = #[.str p.1 t, .str p.2 t']) (fun _ => true) (fun i v => ∃ t p, ys[i]? = some p ∧ v = .int (p.1.length + p.2.length : Nat) t) href := by
  refine ⟨fun A' E' i va vb s₂ m₂ _ _ _ _ _ _ => wpAny_pure ⟨rfl, s₂.heap, s₂.toks, rfl, fun _ _ e => e⟩, fun A' E' i va vb s₂ m₂ _ hP _ hn ha hb hk2 => ?_⟩
  obtain ⟨t, t', p, ep, hv⟩ := hP
  cases hv
  obtain ⟨mg, mb, G1, B1, hmg, hmb⟩ := G
  have kp : ∀ b o, c.g.get? b = some o → s₂.heap.get? b = some o := fun b o e => by
    obtain ⟨x1, x2, x3⟩ := hfp b o e
    exact hk2 b x1 x2 o x3
  have hyp := hy p (List.mem_of_getElem? ep)
  have G2 : s₂.heap.Ns (genEnv sc [] C code builtinsNs env).globals mg := by show s₂.heap.Ns env.globals mg; rw [hgl]; exact G1.keeps kp
  have B2 : s₂.heap.Ns (genEnv sc [] C code builtinsNs env).builtins mb := B1.keeps kp
  refine wpAny_BinOp (len_name hk h1 (by decide +kernel) hn ha h3 G2 hmg B2 hmb hyp.1 (fun u tk => len_name (s := { s₂ with toks := tk }) hk h2 (by decide +kernel) hn hb h3 G2 hmg B2 hmb hyp.2 (fun u' tk' => ?_) rfl) rfl)
  exact wpAny_add_int ⟨⟨_, p, ep, by rw [Int.natCast_add]⟩, _, _, rfl, fun _ _ e => e⟩
theorem gen_code {env : Env} {pos : Pos} {q : Str} {sc : Scope} {Q : Value → Shared → Prop} (T : TopR c) (I : Inv c F μ s σ) (hc : env.code = .ref 85) (hq : q = qGen)
    (h : ∀ code h' tk, Go c F NoW μ s σ μ { s with heap := h', toks := tk } σ → (∀ b o, b ≠ 81 → s.heap.get? b = some o → h'.get? b = some o) → Q code { s with heap := h', toks := tk }) : wpAny c.M A (genexprCode env pos q sc) Q E s := by
  obtain ⟨ps, e0, ht, hr⟩ := id I.gen
  have C := T.gen.keeps I.keep
  have hok := C.code e0 ht
  cases hnf : codeAmong pos ps.toList with
  | none =>
    refine wpAny_genexprCodeX hc hok (C.tab e0) hnf fun k h' tk hx hge hlt hcode hcr htab _ => ?_
    obtain ⟨k', oc, us, t, ek, e1, e2, e3⟩ := hcr
    cases ek
    have fr : s.heap.get? k = none := by
      cases e : s.heap.get? k with
      | none => rfl
      | some o => exact absurd (Heap.lt_size e) (Nat.not_lt.mpr hge)
    have hk : ∀ b o, b ≠ 81 → s.heap.get? b = some o → h'.get? b = some o := fun b o hb e => hx b o hb e
    refine h _ _ _ (I.tab (tk := tk) (.inr rfl) hk ⟨_, htab.2⟩ (fun p => I.lam.pres p fun o e => hk _ o (by decide) e) fun p => I.gen.add p e0 htab.2 (I.newN fr) e1 e2 (hq ▸ e3)) hk
  | some cv =>
    obtain ⟨o, vs, file, tf, flags, tg, inF, text, tt, op, ho, hd, h11, h2, h7, h9, h10, hop, hpd, htr, hne⟩ := id hok
    unfold genexprCode codeAt
    rw [hc, if_neg (show ¬ ((Value.ref 85 == Value.none) = true) from Bool.false_ne_true)]
    refine wpAny_bind (wpAny_fieldsOf ho hd ?_)
    rw [h11]
    refine wpAny_bind (wpAny_fieldsOf hop hpd ?_)
    rw [hnf]
    exact wpAny_pure (h cv s.heap s.toks (.refl I) fun _ _ _ e => e)
theorem passing_all (n : Nat) : passing (fun _ => true) n 0 = List.range n := by unfold passing; rw [List.drop_zero]; exact List.filter_eq_self.mpr fun _ _ => rfl
theorem gen_made {env : Env} {sc gsc : Scope} {i v : Nat} {k : Int} {ys : List (Str × Str)} {kt : Nat} {p0 p1 p2 p3 p4 p5 p6 p7 p8 p9 p10 pos : Pos} {Q : Value → Shared → Prop} (KA : AccK c) (T : TopR c) (G : GloB c "len" "len") (I : Inv c F μ s σ) (N : EnvR F μ s.heap env sc [(("self" : Str), .mref i)]) (hself : sc.names.lookup ("self" : Str) = some .local)
    (rm : Room A n) (hc : env.code = .ref 85) (hq : env.qual ++ "<genexpr>" = qGen) (ho : σ[i]? = some ⟨v, some k, ys.map fun p => .tup [.str p.1, .str p.2]⟩) (hy : ∀ p ∈ ys, p.1.length ≤ lim ∧ p.2.length ≤ lim)
    (hco : gsc.isCoroutine = false) (hfree : ∀ x ∈ gsc.names, x.2 ≠ .free) (hcell : ∀ y ∈ gsc.names, y.2 ≠ .cell) (h0 : gsc.names.lookup (".0" : Str) = some .local) (h1 : gsc.names.lookup ("fws" : Str) = some .local) (h2 : gsc.names.lookup ("part" : Str) = some .local) (h3 : gsc.names.lookup ("len" : Str) = some .globalImplicit) (hk : gsc.kind = .function)
    (hs : ∀ x, genFold (.Name "self" p10) env x = pure x)
    (h : ∀ a s' μ' fp wr G n P St, (∀ s2, Moved wr (GenOnlyQ G) s' s2 → Go c F NoW μ s σ μ' s2 σ) → WalksS c.prog c.w A.in1 a fp wr (GenOnlyQ G) n P St → n = ys.length → (∀ i v, P i v → ∃ t p, ys[i]? = some p ∧ v = .int (p.1.length + p.2.length : Nat) t) → St 0 s' → (∀ b ∈ fp, b < s'.heap.objs.size) → Q (.ref a) s') :
    wpAny c.M A (eval (.GeneratorExp (.BinOp (.Call (.Name "len" p0) [.Name "fws" p1] [] p2) .Add (.Call (.Name "len" p3) [.Name "part" p4] [] p5) p6) [⟨.Tuple [.Name "fws" p7, .Name "part" p8] kt p9, .Name "self" p10, [], 0⟩] gsc pos) env) Q E s := by
  refine wpAny_GeneratorExp_walksQT rm.hh hco (closureFor_none hfree) hcell h0 h1 h2 (by decide) hk rm.depth (EvE.name (ρ := [(("self" : Str), .mref i)]) hself (.inl rfl) rfl (by decide +kernel) (by decide +kernel) rm I N fun x s1 μ1 g1 r1 => ?_) hs
  obtain ⟨ax, rfl, ha⟩ := r1.mref_inv
  obtain ⟨vs, d, od, tt, e, e1, e2, _, _, rs, hlim, _⟩ := acc_ok g1.inv ho ha
  have lt : ∀ {h : Heap} {b : Addr} {o : Obj}, h.get? b = some o → b < h.objs.size := fun e => Heap.lt_size e
  refine acc_iter KA (KA.at_ g1.inv) e1 rfl ?_
  have k2 : ∀ b o, s1.heap.get? b = some o → (s1.heap.push { cls := .type "list_iterator", data := .fields #[.ref ax, .int 0 0] }).get? b = some o := fun b o e => Heap.get?_push_of_some _ e
  have it : (s1.heap.push { cls := .type "list_iterator", data := .fields #[.ref ax, .int 0 0] }).get? s1.heap.objs.size = some { cls := .type "list_iterator", data := .fields #[.ref ax, .int 0 0] } := Heap.get?_push_size _ rfl
  have g2 : Go c (fun b => F b ∨ b = s1.heap.objs.size) NoW μ1 s1 σ μ1 { s1 with heap := s1.heap.push { cls := .type "list_iterator", data := .fields #[.ref ax, .int 0 0] }, toks := s1.toks, gens := s1.gens } σ :=
    g1.inv.step g1.inv.bare (fun _ h => h.elim) (fun b o _ e => k2 b o e) fun a h => h.imp id fun q => by subst q; exact ⟨fresh_at _, _, it⟩
  refine ⟨T.lim.keeps g2.inv.keep, gen_code T g2.inv hc hq fun code hc3 tk3 g3 k3 => ?_⟩
  obtain ⟨mg, hmg, _, hb⟩ := T.mg
  obtain ⟨bm, ob, b1, b2, _, _, b3, b4, b5, b6⟩ := hb
  refine wpAny_builtinsFor (N.glob ▸ hmg.keeps g3.inv.keep) b1 b2 (g3.inv.keep _ _ b3) b4 b5 b6 ?_
  have ne81 : s1.heap.objs.size ≠ 81 := fun q => by
    obtain ⟨o, e⟩ := g1.inv.flt 81 (.inr (.inr (.inr rfl)))
    exact absent e (q ▸ fresh_at _)
  have old : ∀ b o, s1.heap.get? b = some o → b ≠ 81 → hc3.get? b = some o := fun b o e q => k3 b o q (k2 b o e)
  have it3 : hc3.get? s1.heap.objs.size = some { cls := .type "list_iterator", data := .fields #[.ref ax, .int 0 0] } := k3 _ _ ne81 it
  have n81 : ∀ a, a ∈ μ1 → a ≠ 81 := fun a m q => (g1.inv.ft 81 (.inr rfl)).2 (q ▸ m)
  have ax3 : hc3.get? ax = some (accO d vs e) := old _ _ e1 (n81 _ (List.mem_of_getElem? ha))
  have kg : ∀ b o, c.g.get? b = some o → b ∈ List.range hc3.objs.size ∧ b ∉ [s1.heap.objs.size] ∧ hc3.get? b = some o := fun b o e => by
    refine ⟨List.mem_range.mpr (lt (g3.inv.keep b o e)), fun q => absent (g1.inv.keep b o e) ((List.mem_singleton.mp q) ▸ fresh_at _), g3.inv.keep b o e⟩
  have hn : vs.toArray.size = ys.length := by rw [List.size_toArray, ← rs.len, List.length_map]
  refine ⟨s1.heap.objs.size, List.range hc3.objs.size, [s1.heap.objs.size], _, _, _, _, fun _ => true, fun i v => ∃ t p, ys[i]? = some p ∧ v = .int (p.1.length + p.2.length : Nat) t, rfl,
    fun A' hA => pair_walk hA s1.heap.objs.size ax (fun q => absent e1 (q ▸ fresh_at _)) vs.toArray _ (List.mem_range.mpr (lt it3)) (List.mem_range.mpr (lt ax3)) (fun i vals => ∃ t t' p, ys[i]? = some p ∧ vals = #[.str p.1 t, .str p.2 t']), fun i vals ⟨t, t', p, _, e⟩ => ⟨_, _, e⟩,
    ⟨⟨_, it3, rfl, rfl⟩, ⟨_, _, ax3, rfl⟩, fun j v hv => ?_⟩, fun b hb => List.mem_range.mp hb, T.lim.keeps g3.inv.keep, fun hm => ?_, fun href kh => ?_, fun a h5 tk gs hgb hag hsz k5 W hat => ?_⟩
  · have hv : vs[j]? = some v := by simpa using hv
    have hj : j < ys.length := by have := (List.getElem?_eq_some_iff.mp hv).1; rw [← hn, List.size_toArray]; exact this
    have r := rs.at_ j (.tup [.str ys[j].1, .str ys[j].2]) v (by rw [List.getElem?_map, List.getElem?_eq_getElem hj]; rfl) hv
    obtain ⟨T', ws, rfl, nh, ⟨o, t1, t2⟩, _, rw⟩ := r.tup_inv
    obtain ⟨u1, u2, rfl, q1, q2⟩ := rw.inv2
    obtain ⟨t, rfl, _⟩ := q1.str_inv
    obtain ⟨t', rfl, _⟩ := q2.str_inv
    have h3' := old _ _ t1 fun q => nh (.inr (.inr (.inr q)))
    exact ⟨T', _, rfl, fun q => absent t1 (q ▸ fresh_at _), List.mem_range.mpr (lt h3'), ⟨o, h3', t2⟩, t, t', ys[j], List.getElem?_eq_getElem hj, rfl⟩
  · obtain ⟨_, ⟨o, _, _, eo, _⟩, _⟩ := T.lim
    exact absent (g1.inv.keep _ _ eo) ((List.mem_singleton.mp hm) ▸ fresh_at _)
  · exact quiet_pair hk h1 h2 h3 N.glob G hy fun b o e => ⟨(kg b o e).1, (kg b o e).2.1, kh b o (kg b o e).2.2⟩
  · have sz : vs.toArray.size = ys.length := hn
    have P0 : ∀ (j : Nat) (y : Value), (∃ i, (passing (fun _ => true) vs.toArray.size 0)[j]? = some i ∧ ∃ t p, ys[i]? = some p ∧ y = .int (p.1.length + p.2.length : Nat) t) → ∃ t p, ys[j]? = some p ∧ y = .int (p.1.length + p.2.length : Nat) t := fun j y ⟨i, e, t, p, e2, e3⟩ => by
      rw [passing_all] at e
      obtain ⟨hj, rfl⟩ := List.getElem?_eq_some_iff.mp e
      rw [List.getElem_range] at e2
      exact ⟨t, p, e2, e3⟩
    refine h a _ μ1 _ _ _ _ _ _ (fun s2 hm => ?_) W.in4_1 (by rw [passing_all, List.length_range, hn]) P0 hat fun b hb => ?_
    · obtain ⟨sh, sg, sd, st, so⟩ := s2
      have hd : sd = s1.drawn := hm.drawn.trans (by have := g3; rfl)
      have hos : so = s1.os := hm.os
      subst hd hos
      have kk : ∀ b o, b ≠ s1.heap.objs.size → hc3.get? b = some o → sh.get? b = some o := fun b o hb e => hm.heap b o (fun hm => by
        rcases List.mem_cons.mp hm with rfl | hm
        · exact absurd (lt e) (Nat.lt_irrefl _)
        · exact hb (List.mem_singleton.mp hm)) (k5 b o e)
      have k1 : ∀ b o, b ≠ 81 → s1.heap.get? b = some o → sh.get? b = some o := fun b o hb e => kk b o (fun q => absent e (q ▸ fresh_at _)) (old b o e hb)
      obtain ⟨ps, e81, _⟩ := id g3.inv.gen
      have k81 : ∀ o, hc3.get? 81 = some o → sh.get? 81 = some o := fun o e => kk _ _ (Ne.symm ne81) e
      have p3 : Pres (fun b => F b ∨ b = s1.heap.objs.size) μ1 hc3 (fun b => F b ∨ b = s1.heap.objs.size) μ1 sh := ⟨fun b o n e => ⟨kk b o (fun q => n (.inl (.inr q))) e, n⟩, fun _ _ e => e⟩
      have g4 := g1.inv.tab (h' := sh) (tk := st) (.inr rfl) k1 ⟨_, k81 _ e81⟩ (fun p => g1.inv.lam.pres p fun o e => k1 _ o (by decide) e) fun _ => (g3.inv.gen.pres p3 k81).pres (.less fun b hb => .inl hb) fun _ e => e
      exact (g1.trans g4).trans (g4.inv.step (W := NoW) (F' := F) (h' := sh) (tk := st) (gs := sg) ((g3.inv.bare.push hgb).moved hm.gens) (fun _ h => h.elim) (fun b o _ e => e) fun _ h => .inl h)
    · show b < h5.objs.size
      rw [hsz]
      rcases List.mem_cons.mp hb with rfl | hb
      · exact Nat.lt_succ_self _
      · rcases List.mem_cons.mp hb with rfl | hb
        · exact Nat.lt_succ_of_lt hag
        · exact Nat.lt_succ_of_lt (Nat.lt_trans (List.mem_range.mp hb) hag)
end
end Mine
namespace Mine
open PySem PySem.Calls PyProof.Rows PySem.W
theorem Room.in1 {A : Around} {n : Nat} (r : Room A (n + 1)) : Room A.in1 n := ⟨r.hh, by have := r.d; show A.depth + _ + _ < _; exact Z38 this, by have := r.u; simp; exact Z39 this⟩
noncomputable def signs (ys : List (Str × Str)) : Nat := (ys.map fun p => p.1.length + p.2.length).sum
noncomputable def sgAt (ys : List (Str × Str)) (j : Nat) : Int := match ys[j]? with | some p => ((p.1.length + p.2.length : Nat) : Int) | none => 0
theorem preSum_signs {ys : List (Str × Str)} (f : Nat → Int) (hf : ∀ i p, ys[i]? = some p → f i = ((p.1.length + p.2.length : Nat) : Int)) : ∀ j, j ≤ ys.length → preSum f j = (signs (ys.take j) : Nat)
  | 0, _ => rfl
  | j + 1, h => by
    have hj : j < ys.length := h
    rw [preSum, preSum_signs f hf j (Nat.le_of_lt hj), hf j ys[j] (List.getElem?_eq_getElem hj)]
    unfold signs
    rw [List.take_add_one, List.getElem?_eq_getElem hj, List.map_append, List.sum_append]
    simp
theorem signs_le {ys : List (Str × Str)} (h : ∀ p ∈ ys, p.1.length ≤ lim ∧ p.2.length ≤ lim) : signs ys ≤ ys.length * (2 * lim) := by
  induction ys with
  | nil => exact Nat.le_refl _
  | cons p r ih =>
    have := ih fun q hq => h q (List.mem_cons_of_mem _ hq)
    have hp := h p (List.mem_cons_self ..)
    unfold signs at this ⊢
    rw [List.map_cons, List.sum_cons, List.length_cons, Nat.add_mul]
    exact Z40 hp.1 hp.2 this
section
variable {c : Cx} {n : Nat} {A : Around} {E : Value → Shared → Prop} {s : Shared} {F : Addr → Prop} {μ : List Addr} {σ : Sto}
structure LenK (c : Cx) (fd : FuncData) (gsc : Scope) (kt : Nat) (p0 p1 p2 p3 p4 p5 p6 p7 p8 p9 p10 gp q0 q1 q2 q3 q4 : Pos) : Prop where
  fn : FnAt c 86 fd [.Return (some (.Call (.Name "sum" q0) [.GeneratorExp (.BinOp (.Call (.Name "len" p0) [.Name "fws" p1] [] p2) .Add (.Call (.Name "len" p3) [.Name "part" p4] [] p5) p6) [⟨.Tuple [.Name "fws" p7, .Name "part" p8] kt p9, .Name "self" p10, [], 0⟩] gsc gp, .Attribute (.Name "self" q1) "_initial_size" q2] [] q3)) q4]
  code : fd.code = .ref 85
  qual : fd.qualname ++ ".<locals>." ++ "<genexpr>" = qGen
  self : SelfB c fd
  nself : fd.scope.names.lookup ("self" : Str) = some .local
  nsum : fd.scope.names.lookup ("sum" : Str) = some .globalImplicit
  nscr : fd.scope.names.lookup ("script" : Str) ≠ some .local
  sum : Glo c "sum" (.builtin "sum")
  len : GloB c "len" "len"
  look : findIn c.K (.ref 119) "__len__" = some (some (.ref 86))
  isFn : typeIn c.K (.ref 86) = some (.type "function")
  gco : gsc.isCoroutine = false
  gfree : ∀ x ∈ gsc.names, x.2 ≠ .free
  gcell : ∀ y ∈ gsc.names, y.2 ≠ .cell
  g0 : gsc.names.lookup (".0" : Str) = some .local
  g1 : gsc.names.lookup ("fws" : Str) = some .local
  g2 : gsc.names.lookup ("part" : Str) = some .local
  g3 : gsc.names.lookup ("len" : Str) = some .globalImplicit
  gk : gsc.kind = .function
  fold : ∀ env x, genFold (.Name "self" p10) env x = pure x
  attr : ∀ env, eval (.Attribute (.Name "self" q1) "_initial_size" q2) env = (do
    let o ← eval (.Name "self" q1) env
    standAt q2.atName
    let r ← holding [o] (getAttr o "_initial_size" true)
    letTemporaryGo (.Name "self" q1) o r
    pure r)
  args : ∀ env, eval (.Call (.Name "sum" q0) [.GeneratorExp (.BinOp (.Call (.Name "len" p0) [.Name "fws" p1] [] p2) .Add (.Call (.Name "len" p3) [.Name "part" p4] [] p5) p6) [⟨.Tuple [.Name "fws" p7, .Name "part" p8] kt p9, .Name "self" p10, [], 0⟩] gsc gp, .Attribute (.Name "self" q1) "_initial_size" q2] [] q3) env =
    (do callWith q3 (← eval (.Name "sum" q0) env) [] [(false, eval (.GeneratorExp (.BinOp (.Call (.Name "len" p0) [.Name "fws" p1] [] p2) .Add (.Call (.Name "len" p3) [.Name "part" p4] [] p5) p6) [⟨.Tuple [.Name "fws" p7, .Name "part" p8] kt p9, .Name "self" p10, [], 0⟩] gsc gp) env), (false, eval (.Attribute (.Name "self" q1) "_initial_size" q2) env)] [])
theorem len_raw {fd : FuncData} {gsc : Scope} {kt i v : Nat} {k : Int} {ys : List (Str × Str)} {a : Addr} {Q : Value → Shared → Prop} {p0 p1 p2 p3 p4 p5 p6 p7 p8 p9 p10 gp q0 q1 q2 q3 q4 : Pos} (KA : AccK c) (SK : StoreK c) (T : TopR c) (L : LenK c fd gsc kt p0 p1 p2 p3 p4 p5 p6 p7 p8 p9 p10 gp q0 q1 q2 q3 q4)
    (I : Inv c F μ s σ) (rm : Room A (n + 1)) (ho : σ[i]? = some ⟨v, some k, ys.map fun p => .tup [.str p.1, .str p.2]⟩) (ha : μ[i]? = some a) (hy : ∀ p ∈ ys, p.1.length ≤ lim ∧ p.2.length ≤ lim) (hk : 0 ≤ k ∧ k ≤ lim)
    (q : ∀ s' μ' t, Go c F NoW μ s σ μ' s' σ → Q (.int (k + signs ys) t) s') : wpAny c.M A (call (.ref 86) [.ref a]) Q E s := by
  obtain ⟨o, hof, hd⟩ := L.fn.at_
  have hcd : s.heap.CodeRec fd.code fd.qualname := by
    obtain ⟨k, ok, us, t, e1, e2, e3⟩ := L.fn.code
    exact ⟨k, ok, us, t, e1, I.keep _ _ e2, e3⟩
  refine wpAny_call (codeAny_call_function rm.depth (I.keep _ _ hof) hd L.fn.co L.fn.gen L.fn.body hcd (L.self s (.ref a) (KA.x.keeps I.keep) _ _ _ _ ?_))
  rw [L.fn.clo, L.fn.gl, L.fn.bn]
  refine wpAny_newFunctionEnv_cells L.fn.kind (fun x hx => ?_) fun env he s1 x => ?_
  · rw [List.mem_singleton.mp hx]; exact .inl L.nself
  · obtain ⟨g, N, new⟩ := enter_ok I (ρ := [(("self" : Str), .mref i)]) (bs := [(("self" : Str), .ref a)]) (by rw [he]; rfl) L.fn.kind L.fn.free rfl (by simp) (.one (.mref ha)) (fun h => absurd h L.nscr) x
    refine ⟨L.fn.lim.keeps fun b o e => x.toInCall.keep b o (I.keep b o e), codeAny_func ?_⟩
    have rm2 := rm.deeper env
    refine wpAny_execs_cons (wpAny_Return_some ?_)
    rw [L.args]
    refine wpAny_bind (EvE.glob L.sum L.nsum (by decide +kernel) (fun _ _ _ => .val _) rm2 g.inv N fun f s2 μ2 p2 r2 => ?_)
    obtain rfl := r2.val_inv
    refine callWith_of (P := Kept c.M (.builtin "sum")) rfl (fun _ x => x) (evalArgs_gen rfl rfl (spliced_cons ?_))
    have g2 := g.trans p2
    refine gen_made KA T L.len p2.inv (N.go g.inv p2) L.nself rm2 (by rw [he]; exact L.code) (by rw [he]; exact L.qual) ho hy L.gco L.gfree L.gcell L.g0 L.g1 L.g2 L.g3 L.gk (L.fold env) fun a' s3 μ3 fp wr G m P St mv W hm hP st hfp => ?_
    have p3 := mv s3 (.refl fun _ => .inl rfl)
    have N3 := (N.go g.inv p2).go p2.inv p3
    obtain ⟨m, hns, hm2⟩ := N3.ns
    obtain ⟨y, hmy, ry⟩ := hm2 "self" (.mref i) rfl ((N3.kinds _ _ L.nself).resolve_right fun q => absurd q.1 (by decide))
    obtain ⟨a2, rfl, ha2⟩ := ry.mref_inv
    obtain ⟨vs, d, od, tt, e, e1, e2, e3, _, _, hlim, _⟩ := acc_ok p3.inv ho ha2
    refine spliced_cons (Attribute_any_ (wpAny_Name (wpAny_loadName_local N3.kind ((N3.kinds _ _ L.nself).resolve_right fun q => absurd q.1 (by decide)) hns hmy ?_) (by decide +kernel)) (L.attr env))
    refine acc_first KA SK (KA.x.keeps p3.inv.keep) e1 e2 e3 rfl (spliced_nil (wpAny_pure ⟨⟨.machine, .inr (.inl rfl), .now⟩, ?_⟩))
    have hll : (lim : Int) = 1048576 := rfl
    have hsg := signs_le hy
    rw [List.length_map] at hlim
    have hys : ys.length * (2 * lim) ≤ lim * (2 * lim) := Nat.mul_le_mul_right _ hlim
    have hl2 : lim * (2 * lim) = 2199023255552 := rfl
    have val : ∀ (j : Nat) (p : Str × Str), ys[j]? = some p → sgAt ys j = ((p.1.length + p.2.length : Nat) : Int) := fun j p e => by unfold sgAt; rw [e]
    have bnd : ∀ j, j ≤ ys.length → InLong (k + preSum (sgAt ys) j) := fun j hj => by
      rw [preSum_signs _ val j hj]
      have h1 := signs_le (ys := ys.take j) fun p hp => hy p (List.mem_of_mem_take hp)
      have h2 : (ys.take j).length * (2 * lim) ≤ lim * (2 * lim) := Nat.mul_le_mul_right _ (by rw [List.length_take]; exact Z414 hlim)
      unfold InLong
      lia
    refine call_sum2 (by unfold InLong; lia) (W.self 0 _ _ _ (W.frame 0 s3 _ (s3.toks + 1) st (Nat.le_succ _) fun _ _ _ e => e) ⟨_, _, _, _, _, _, _, (sgAt ys), rfl, W, W.frame 0 s3 _ (s3.toks + 1) st (Nat.le_succ _) fun _ _ _ e => e, hfp, fun j w hw => ?_, fun j hj => ?_, fun s' t' hmv => ?_⟩)
    · obtain ⟨t, p, e, rfl⟩ := hP j w hw
      exact ⟨t, by rw [← val j p e]⟩
    · rw [hm] at hj
      refine ⟨?_, bnd _ hj⟩
      rw [val j ys[j] (List.getElem?_eq_getElem hj)]
      have := hy ys[j] (List.getElem_mem hj)
      unfold InLong
      lia
    · have g5 := mv s' ⟨hmv.heap, hmv.gens, hmv.drawn, hmv.os, Nat.le_trans (Nat.le_succ _) hmv.toks⟩
      rw [hm, preSum_signs _ val _ (Nat.le_refl _), List.take_length]
      exact q _ _ _ ((g2.trans g5).less fun b hb => .inl hb)
theorem CallR.lenA {fd : FuncData} {gsc : Scope} {kt i v : Nat} {k : Int} {ys : List (Str × Str)} {p0 p1 p2 p3 p4 p5 p6 p7 p8 p9 p10 gp q0 q1 q2 q3 q4 : Pos} (KA : AccK c) (SK : StoreK c) (T : TopR c) (L : LenK c fd gsc kt p0 p1 p2 p3 p4 p5 p6 p7 p8 p9 p10 gp q0 q1 q2 q3 q4)
    (ho : σ[i]? = some ⟨v, some k, ys.map fun p => .tup [.str p.1, .str p.2]⟩) (hy : ∀ p ∈ ys, p.1.length ≤ lim ∧ p.2.length ≤ lim) (hk : 0 ≤ k ∧ k ≤ lim) : CallR c (n + 2) (.val (.builtin "len")) [.mref i] [] σ (.int (k + signs ys)) σ := by
  intro A E F μ s f ys kws Q rm I rf r rk q
  obtain rfl := rf.val_inv
  obtain rfl := rk.nil_inv
  obtain ⟨u, rfl, r1⟩ := r.inv1
  obtain ⟨ad, rfl, ha⟩ := r1.mref_inv
  obtain ⟨vs, d, od, tt, e, h1, h2, _, _, _, hlim, _⟩ := acc_ok I ho ha
  refine Calls.call_function_entry kind_len plain_len entry_len (args_len1 _) ?_
  unfold Builtin.«len»
  refine wpAny_bind (m := oneArg "len" _) (wpAny_pure ?_)
  refine wpAny_bind (m := callSpecial? (.ref ad) (Str.ofString "__len__")) (special_fn (KA.at_ I) (acc_inst h1 h2) L.look L.isFn (len_raw KA SK T L I rm.in1 ho ha hy hk fun s' μ' t g => ?_))
  have hll : (lim : Int) = 1048576 := rfl
  have hsg := signs_le hy
  rw [List.length_map] at hlim
  have hys := Nat.mul_le_mul_right (2 * lim) hlim
  have hl2 : lim * (2 * lim) = 2199023255552 := rfl
  refine wpAny_bind (wpAny_holding (wpAny_pure ?_))
  refine wpAny_bind (wpAny_letGo ?_)
  show wpAny _ _ (if _ < 0 then _ else _) _ _ _
  rw [if_neg (Int.not_lt.mpr (Int.add_nonneg hk.1 (Int.natCast_nonneg _)))]
  show wpAny _ _ (if _ ≥ 2 ^ 63 then _ else _) _ _ _
  rw [if_neg (Int.not_le.mpr (Int.lt_of_le_of_lt (Int.add_le_add (hll ▸ hk.2) (Int.ofNat_le.mpr (hl2 ▸ Nat.le_trans hsg hys))) (by decide)))]
  exact wpAny_bind (wpAny_mkInt (wpAny_pure ⟨_, rfl, q_same g.inv (q_end g q) _ (.int _ _)⟩))
end
end Mine
namespace Mine
open PySem PySem.Calls PyProof.Rows PySem.W
noncomputable def kev (r : Nat → Int) {α : Type} : KasT α → α
  | .ret a => a
  | .ask i j k => kev r (k (decide (r i < r j)))
section
variable {r : Nat → Int} {n : Nat} {p : Array Nat}
theorem kev_bind {α β : Type} {f : α → KasT β} : ∀ (t : KasT α), kev r (t.bind f) = kev r (f (kev r t))
  | .ret _ => rfl
  | .ask i j k => kev_bind (k (decide (r i < r j)))
noncomputable def Up (r : Nat → Int) (p : Array Nat) (m : Nat) : Prop := ∀ k, k + 1 < m → r (p.getD k 0) < r (p.getD (k + 1) 0)
noncomputable def Dn (r : Nat → Int) (p : Array Nat) (m : Nat) : Prop := ∀ k, k + 1 < m → r (p.getD (k + 1) 0) < r (p.getD k 0)
structure Pm (r : Nat → Int) (n : Nat) (p : Array Nat) : Prop where
  perm : p.Perm (List.range n).toArray
  inj : ∀ i j, i < n → j < n → r i = r j → i = j
theorem Pm.size (x : Pm r n p) : p.size = n := by have := x.perm.size_eq; simpa using this
theorem Pm.mem (x : Pm r n p) {k : Nat} (h : k < n) : p.getD k 0 < n := by
  have hk : k < p.size := by rw [x.size]; exact h
  have e : p.getD k 0 = p[k] := by simp [Array.getD, hk]
  have := (x.perm.mem_iff (a := p[k])).mp (Array.getElem_mem hk)
  rw [e]; simpa using this
theorem Pm.ne (x : Pm r n p) {k j : Nat} (hk : k < n) (hj : j < n) (h : k ≠ j) : r (p.getD k 0) ≠ r (p.getD j 0) := fun q => by
  have e := x.inj _ _ (x.mem hk) (x.mem hj) q
  have hk' : k < p.toList.length := by rw [Array.length_toList, x.size]; exact hk
  have hj' : j < p.toList.length := by rw [Array.length_toList, x.size]; exact hj
  have nd : p.toList.Nodup := (Array.perm_iff_toList_perm.mp x.perm).nodup_iff.mpr (by simpa using List.nodup_range)
  have e1 : ∀ {i : Nat} (hi : i < p.toList.length), p.getD i 0 = p.toList[i] := fun {i} hi => by
    have : i < p.size := by simpa using hi
    simp [Array.getD, this]
  rw [e1 hk', e1 hj'] at e
  exact h ((List.getElem_inj nd).mp e)
theorem Pm.of (x : Pm r n p) {p' : Array Nat} (h : p'.Perm p) : Pm r n p' := ⟨h.trans x.perm, x.inj⟩
theorem Up.lt {m : Nat} (u : Up r p m) : ∀ {k j : Nat}, k < j → j < m → r (p.getD k 0) < r (p.getD j 0)
  | k, 0, h, _ => absurd h (Nat.not_lt_zero _)
  | k, j + 1, h, hm => by
    have h1 := u j hm
    rcases Nat.lt_succ_iff_lt_or_eq.mp h with h2 | rfl
    · exact Int.lt_trans (u.lt h2 (Nat.lt_of_succ_lt hm)) h1
    · exact h1
theorem kev_asc (x : Pm r n p) : ∀ (f m : Nat), 1 ≤ m → m + f ≤ n → Up r p m → m ≤ kev r (kas_asc p f m) ∧ kev r (kas_asc p f m) ≤ m + f ∧ Up r p (kev r (kas_asc p f m)) ∧ (kev r (kas_asc p f m) < m + f → r (p.getD (kev r (kas_asc p f m)) 0) < r (p.getD (kev r (kas_asc p f m) - 1) 0))
  | 0, m, _, _, u => ⟨Nat.le_refl _, Nat.le_refl _, u, fun h => absurd h (Nat.lt_irrefl _)⟩
  | f + 1, m, h1, h2, u => by
    unfold kas_asc kev
    by_cases c : r (p.getD m 0) < r (p.getD (m - 1) 0)
    · rw [decide_eq_true c]; dsimp only; rw [if_pos rfl]
      exact ⟨Nat.le_refl _, by show m ≤ _; exact Z41, u, fun _ => c⟩
    · rw [decide_eq_false c]; dsimp only; rw [if_neg (by decide)]
      have ne := x.ne (k := m) (j := m - 1) (by exact Z42 h2) (by exact Z43 h1 h2) (by exact Z44 h1)
      have u2 : Up r p (m + 1) := fun k hk => by
        by_cases hk2 : k + 1 < m
        · exact u k hk2
        · have : k = m - 1 := by exact Z45 h1 hk hk2
          subst this
          rw [show m - 1 + 1 = m by exact Z46 hk hk2]; lia
      obtain ⟨a, b, d, e⟩ := kev_asc x f (m + 1) (by exact Z47 h1) (by exact Z48 h2) u2
      exact ⟨by exact Z49 a, by exact Z50 b, d, fun h => e (by exact Z51 h)⟩
theorem kev_desc (x : Pm r n p) : ∀ (f m : Nat), 1 ≤ m → m + f ≤ n → Dn r p m → ∃ m', kev r (kas_desc f p m 0) = (p, m', 0) ∧ m ≤ m' ∧ m' ≤ m + f ∧ Dn r p m'
  | 0, m, _, _, u => ⟨m, rfl, Nat.le_refl _, Nat.le_refl _, u⟩
  | f + 1, m, h1, h2, u => by
    unfold kas_desc kev
    by_cases c : r (p.getD m 0) < r (p.getD (m - 1) 0)
    · rw [decide_eq_true c]; dsimp only; rw [if_pos rfl, if_neg (by decide)]
      have u2 : Dn r p (m + 1) := fun k hk => by
        by_cases hk2 : k + 1 < m
        · exact u k hk2
        · have : k = m - 1 := by exact Z45 h1 hk hk2
          subst this
          rw [show m - 1 + 1 = m by exact Z46 hk hk2]; exact c
      obtain ⟨m', a, b, d, e⟩ := kev_desc x f (m + 1) (by exact Z47 h1) (by exact Z48 h2) u2
      exact ⟨m', a, by exact Z49 b, by exact Z50 d, e⟩
    · rw [decide_eq_false c]; dsimp only; rw [if_neg (by decide)]
      have ne := x.ne (k := m) (j := m - 1) (by exact Z42 h2) (by exact Z43 h1 h2) (by exact Z44 h1)
      have c2 : r (p.getD (m - 1) 0) < r (p.getD m 0) := by lia
      unfold kev
      rw [decide_eq_true c2]; dsimp only; rw [if_pos rfl]
      exact ⟨m, rfl, Nat.le_refl _, by exact Z41, u⟩
theorem kev_rev (x : Pm r n p) {m : Nat} (hm : m ≤ n) (u : Dn r p m) : Pm r n (kas_rev p 0 m) ∧ Up r (kas_rev p 0 m) m := by
  have hs := x.size
  have at_ : ∀ k, k < m → (kas_rev p 0 m).getD k 0 = p.getD (m - 1 - k) 0 := fun k hk => by
    have e := getElem?_mirror_all (xs := p) (i := 0) (j := m) (by exact Z52 hm hs) k
    rw [if_pos ⟨Nat.zero_le _, hk⟩, Nat.zero_add] at e
    rw [Array.getD_eq_getD_getElem?, Array.getD_eq_getD_getElem?]
    exact congrArg (Option.getD · 0) e
  refine ⟨x.of (mirror_perm _ _ _ _), fun k hk => ?_⟩
  rw [at_ k (by exact Z53 hk), at_ (k + 1) hk]
  have := u (m - 1 - (k + 1)) (by exact Z54 hk)
  rwa [show m - 1 - (k + 1) + 1 = m - 1 - k by exact Z55 hk] at this
theorem kev_count (x : Pm r n p) (h2 : 2 ≤ n) : ∃ m p', kev r (kas_count n p) = (m, p') ∧ 1 ≤ m ∧ m ≤ n ∧ Pm r n p' ∧ Up r p' m := by
  unfold kas_count
  rw [kev_bind]
  obtain ⟨a, b, d, e⟩ := kev_asc x (n - 1) 1 (Nat.le_refl _) (by exact Z56 h2) fun k hk => by exact (Z415 hk).elim
  generalize kev r (kas_asc p (n - 1) 1) = m at a b d e ⊢
  by_cases h : m = n
  · rw [if_pos (by simpa using h)]
    exact ⟨m, p, rfl, a, by exact Nat.le_of_eq h, x, d⟩
  · rw [if_neg (by simpa using h)]
    by_cases h1 : m > 1
    · rw [if_pos h1]
      unfold kev
      rw [decide_eq_true (d.lt (k := 0) (j := m - 1) (by exact Z57 h1) (by exact Z58 h1))]; dsimp only; rw [if_pos rfl]
      exact ⟨m, p, rfl, a, by exact Z59 h2 b h, x, d⟩
    · rw [if_neg h1]
      have m1 : m = 1 := by exact Z60 a h1
      subst m1
      have e := e (by exact Z61 h2)
      unfold kas_descPart
      rw [kev_bind]
      obtain ⟨m', a1, b1, d1, e1⟩ := kev_desc x (n - 2) 2 (by exact Z62) (by exact Z63 h2) fun k hk => by
        have : k = 0 := by exact Z64 hk
        subst this; exact e
      rw [a1]
      dsimp only
      rw [if_neg (by decide)]
      unfold kas_tail3
      rw [kev_bind]
      obtain ⟨y, u⟩ := kev_rev x (m := m') (by exact Z65 h2 d1) e1
      obtain ⟨a2, b2, d2, _⟩ := kev_asc y (n - m') m' (by exact Z66 b1) (by exact Z67 h2 d1) u
      exact ⟨_, _, rfl, by exact Z68 b1 a2, by exact Z69 h2 b2 d1, y, d2⟩
theorem kev_place (x : Pm r n p) {k : Nat} (hk : k < n) (u : Up r p k) : ∀ (f l q : Nat), l ≤ q → q ≤ k → q - l ≤ f → (∀ j, j < l → r (p.getD j 0) < r (p.getD k 0)) → (∀ j, q ≤ j → j < k → r (p.getD k 0) < r (p.getD j 0)) →
    ∃ m, kev r (kas_place p k f l q) = m ∧ m ≤ k ∧ (∀ j, j < m → r (p.getD j 0) < r (p.getD k 0)) ∧ (∀ j, m ≤ j → j < k → r (p.getD k 0) < r (p.getD j 0))
  | 0, l, q, h1, h2, h3, a, b => ⟨l, rfl, by exact Z70 h1 h2, a, fun j hj hj2 => b j (by exact Z71 h3 hj) hj2⟩
  | f + 1, l, q, h1, h2, h3, a, b => by
    unfold kas_place
    by_cases h : l ≥ q
    · rw [if_pos h]; exact ⟨l, rfl, by exact Z70 h1 h2, a, fun j hj hj2 => b j (by exact Z70 h hj) hj2⟩
    · rw [if_neg h]
      unfold kev
      by_cases c : r (p.getD k 0) < r (p.getD ((l + q) / 2) 0)
      · rw [decide_eq_true c]; dsimp only; rw [if_pos rfl]
        refine kev_place x hk u f l ((l + q) / 2) (by exact Z72 h) (by exact Z73 h2 h) (by exact Z74 h3 h) a fun j hj hj2 => ?_
        rcases Nat.eq_or_lt_of_le hj with rfl | hj
        · exact c
        · exact Int.lt_trans c (u.lt hj hj2)
      · rw [decide_eq_false c]; dsimp only; rw [if_neg (by decide)]
        have ne := x.ne (k := (l + q) / 2) (j := k) (by exact Z75 h2 hk h) hk (by exact Z76 h2 h)
        refine kev_place x hk u f ((l + q) / 2 + 1) q (by exact Z77 h) h2 (by exact Z78 h3 h) (fun j hj => ?_) b
        rcases Nat.eq_or_lt_of_le (Nat.le_of_lt_succ hj) with rfl | hj
        · lia
        · have := u.lt hj (by exact Z79 h2 h)
          omega
theorem kev_bin : ∀ (f k : Nat) (p : Array Nat), Pm r n p → 1 ≤ k → k + f = n → Up r p k → Pm r n (kev r (kas_bin f p k)) ∧ Up r (kev r (kas_bin f p k)) n
  | 0, k, p, x, _, h, u => ⟨x, by rw [← h]; exact u⟩
  | f + 1, k, p, x, h1, h, u => by
    unfold kas_bin
    rw [kev_bind]
    obtain ⟨l, e, hl, a, b⟩ := kev_place x (k := k) (by exact Z80 h) u k 0 k (Nat.zero_le _) (Nat.le_refl _) (by exact Z81) (fun j hj => absurd hj (Nat.not_lt_zero _)) fun j h1 h2 => absurd h2 (Nat.not_lt.mpr h1)
    rw [e]
    refine kev_bin f (k + 1) _ (x.of (bubble_perm _ _ _)) (by exact Z47 h1) (by exact Z82 h) fun j hj => ?_
    have at_ : ∀ j, j ≤ k → (bubble p k (k - l)).getD j 0 = if j < l then p.getD j 0 else if j = l then p.getD k 0 else p.getD (j - 1) 0 := fun j hj => by
      have e := getElem?_bubble (xs := p) (src := k) (by rw [x.size]; exact Z80 h) (k - l) (by exact Z83) j
      rw [show k - (k - l) = l by exact Z84 hl] at e
      simp only [Array.getD_eq_getD_getElem?]
      rw [e]
      repeat' split
      all_goals first | rfl | (exfalso; (first | exact Z85 (by assumption) (by assumption) | exact Z86 (by assumption) (by assumption) | exact Z416 hj (by assumption) (by assumption) (by assumption))) | (congr 2; omega)
    rw [at_ j (by exact Z87 hj), at_ (j + 1) (by exact Z88 hj)]
    by_cases c1 : j < l
    · rw [if_pos c1]
      by_cases c2 : j + 1 < l
      · rw [if_pos c2]; exact u j (by exact Z89 c2 hl)
      · rw [if_neg c2, if_pos (by exact Z90 c1 c2)]; exact a j c1
    · rw [if_neg c1, if_neg (show ¬ j + 1 < l by exact Z91 c1), if_neg (show ¬ j + 1 = l by exact Z92 c1), Nat.add_sub_cancel]
      by_cases c2 : j = l
      · rw [if_pos c2]; exact b j (by exact Nat.le_of_eq c2.symm) (by exact Z37 hj)
      · rw [if_neg c2]
        have := u (j - 1) (by exact Z93 hj c1 c2)
        rwa [Nat.sub_add_cancel (by exact Z94 c1 c2)] at this
theorem kev_sort (h2 : 2 ≤ n) (hi : ∀ i j, i < n → j < n → r i = r j → i = j) : Pm r n (kev r (kas_sort n)) ∧ Up r (kev r (kas_sort n)) n := by
  unfold kas_sort
  rw [kev_bind]
  obtain ⟨m, p', e, a, b, y, u⟩ := kev_count (r := r) (n := n) (p := (List.range n).toArray) ⟨.refl _, hi⟩ h2
  rw [e]
  dsimp only
  by_cases c : m < n
  · rw [if_pos c, Nat.max_eq_left a]
    exact kev_bin (n - m) m p' y a (by exact Z95 c) u
  · rw [if_neg c]
    have : m = n := by exact Z96 b c
    subst this
    exact ⟨y, u⟩
end
end Mine
namespace Mine
open PySem PySem.Calls PyProof.Rows PySem.W
noncomputable def Bd (n : Nat) {α : Type} (P : α → Prop) : KasT α → Prop
  | .ret a => P a
  | .ask i j k => i < n ∧ j < n ∧ ∀ b, Bd n P (k b)
theorem Bd.bind {n : Nat} {α β : Type} {P : α → Prop} {R : β → Prop} {f : α → KasT β} (h : ∀ a, P a → Bd n R (f a)) : ∀ (t : KasT α), Bd n P t → Bd n R (t.bind f)
  | .ret a, x => h a x
  | .ask _ _ k, x => ⟨x.1, x.2.1, fun b => Bd.bind h (k b) (x.2.2 b)⟩
noncomputable def Low (n : Nat) (p : Array Nat) : Prop := ∀ k, p.getD k 0 < n
theorem Low.perm {n : Nat} {p q : Array Nat} (hn : 0 < n) (x : Low n p) (h : q.Perm p) : Low n q := fun k => by
  by_cases hk : k < q.size
  · have e : q.getD k 0 = q[k] := by simp [Array.getD, hk]
    have m := (h.mem_iff (a := q[k])).mp (Array.getElem_mem hk)
    obtain ⟨j, hj, ej⟩ := Array.mem_iff_getElem.mp m
    have := x j
    have e2 : p.getD j 0 = p[j] := by simp [Array.getD, hj]
    rw [e, ← ej, ← e2]; exact this
  · have e : q.getD k 0 = 0 := by simp [Array.getD, hk]
    rw [e]; exact hn
section
variable {n : Nat} {p : Array Nat}
theorem bd_ite {α : Type} {P : α → Prop} {c : Bool} {t u : KasT α} (ht : Bd n P t) (hu : Bd n P u) : Bd n P (if c = true then t else u) := by split <;> assumption
theorem bd_asc (x : Low n p) : ∀ f m, Bd n (fun _ => True) (kas_asc p f m)
  | 0, _ => trivial
  | f + 1, m => ⟨x _, x _, fun b => bd_ite (t := .ret m) trivial (bd_asc x f (m + 1))⟩
theorem bd_desc (hn : 0 < n) : ∀ f (p : Array Nat) m q, Low n p → Bd n (fun r => Low n r.1) (kas_desc f p m q)
  | 0, _, _, _, x => x
  | f + 1, p, m, q, x => ⟨x _, x _, fun b => bd_ite (t := if q > 0 then kas_desc f (kas_rev p (m - (q + 1)) m) (m + 1) 0 else kas_desc f p (m + 1) 0) (by
      split
      · exact bd_desc hn f _ _ _ (x.perm hn (mirror_perm _ _ _ _))
      · exact bd_desc hn f _ _ _ x) ⟨x _, x _, fun d => bd_ite (t := .ret (p, m, q)) x (bd_desc hn f p (m + 1) (q + 1) x)⟩⟩
theorem bd_tail (hn : 0 < n) (m k : Nat) (x : Low n p) : Bd n (fun r => Low n r.2) (kas_tail3 m k p) :=
  Bd.bind (P := fun _ => True) (R := fun (r : Nat × Array Nat) => Low n r.2) (f := fun m' => .ret (m', kas_rev p 0 m)) (fun _ _ => x.perm hn (mirror_perm _ _ _ _)) _ (bd_asc (x.perm hn (mirror_perm _ _ _ _)) _ _)
theorem bd_descPart (hn : 0 < n) (m k : Nat) (x : Low n p) : Bd n (fun r => Low n r.2) (kas_descPart m k p) :=
  Bd.bind (P := fun r => Low n r.1) (fun a ha => by
    split
    · exact bd_tail hn _ _ (ha.perm hn (mirror_perm _ _ _ _))
    · exact bd_tail hn _ _ ha) _ (bd_desc hn _ _ _ _ x)
theorem bd_count (hn : 0 < n) (k : Nat) (x : Low n p) : Bd n (fun r => Low n r.2) (kas_count k p) :=
  Bd.bind (P := fun _ => True) (fun a _ => by
    split
    · exact x
    · split
      · exact ⟨x _, x _, fun b => bd_ite (t := .ret (a, p)) x (bd_descPart hn _ _ (x.perm hn (mirror_perm _ _ _ _)))⟩
      · exact bd_descPart hn _ _ x) _ (bd_asc x _ _)
theorem bd_place (x : Low n p) (k : Nat) : ∀ f l r, Bd n (fun _ => True) (kas_place p k f l r)
  | 0, _, _ => trivial
  | f + 1, l, r => by
    unfold kas_place
    split
    · trivial
    · exact ⟨x _, x _, fun b => bd_ite (bd_place x k f _ _) (bd_place x k f _ _)⟩
theorem bd_bin (hn : 0 < n) : ∀ f (p : Array Nat) k, Low n p → Bd n (fun _ => True) (kas_bin f p k)
  | 0, _, _, _ => trivial
  | f + 1, p, k, x => Bd.bind (P := fun _ => True) (fun l _ => bd_bin hn f _ _ (x.perm hn (bubble_perm _ _ _))) _ (bd_place x k k 0 k)
theorem bd_sort (hn : 0 < n) : Bd n (fun _ => True) (kas_sort n) :=
  Bd.bind (P := fun r => Low n r.2) (fun a ha => by
    split
    · exact bd_bin hn _ _ _ ha
    · trivial) _ (bd_count hn n fun k => by
      by_cases hk : k < (List.toArray (List.range n)).size
      · have e : (List.toArray (List.range n)).getD k 0 = k := by simp [Array.getD]; simp at hk; exact Z97 hk
        rw [e]; simpa using hk
      · have e : (List.toArray (List.range n)).getD k 0 = 0 := by simp [Array.getD]; simp at hk; exact Z98 hk
        rw [e]; exact hn)
theorem kev_wp {r : Nat → Int} {cmp : Nat → Nat → (Bool → Shared → Prop) → Shared → Prop} {R : Shared → Prop} {α : Type} {P : α → Prop} {Q : α → Shared → Prop} (hc : ∀ i j C s, i < n → j < n → R s → (∀ s', R s' → C (decide (r i < r j)) s') → cmp i j C s) :
    ∀ (t : KasT α) (s : Shared), Bd n P t → R s → (∀ s', R s' → Q (kev r t) s') → t.kasWp cmp Q s
  | .ret a, s, _, hs, q => q s hs
  | .ask i j k, s, b, hs, q => hc i j _ s b.1 b.2.1 hs fun s' hs' => kev_wp hc (k (decide (r i < r j))) s' (b.2.2 _) hs' q
end
end Mine
namespace Mine
open PySem PySem.Calls PyProof.Rows PySem.W
section
variable {c : Cx} {n : Nat} {lsc : Scope} {A : Around} {E : Value → Shared → Prop} {s : Shared} {F : Addr → Prop} {μ : List Addr} {σ : Sto} {v dv : AV}
theorem lamC_call {ap : Pos} {body : PySem.Expr} {x : Str} {i : Int} {t : Tok} {a ca : Addr} {y : Value} {Q : Value → Shared → Prop} (T : TopR c) (I : Inv c F μ s σ) (rm : Room A (n + 1)) (hL : LamC [(x, ca)] F μ s.heap a ⟨[], [⟨"k", none, ap⟩], none, [], [], none, []⟩ body lsc)
    (hF : F ca) (hc : s.heap.IsCell ca (some y)) (ry : VR F μ s.heap dv y) (hnames : lsc.names = [(("k" : Str), .local), (x, .free)]) (hxk : x ≠ ("k" : Str)) (hx2 : x ≠ ("script" : Str)) (hk : lsc.kind = .function) (hco : lsc.isCoroutine = false) (hgen : lsc.isGenerator = false)
    (hb : EvE c n lsc body [(("k" : Str), .int i), (x, dv)] σ v σ) (hlo : LoSto σ.length σ) (hv : Lo σ.length v) (q : ∀ u s', Go c F NoW μ s σ μ s' σ → VR F μ s'.heap v u → Q u s') : wpAny c.M A (call (.ref a) [.int i t]) Q E s := by
  obtain ⟨o, fd, k, ok, e, hd, e1, e2, e3, e4, e5, e6, e7, e8, e9, _, e10, us, t', e11, e12⟩ := hL
  have hcd : s.heap.CodeRec fd.code fd.qualname := ⟨k, ok, us, t', e9, e10, e11, e12⟩
  have hbd : bindArgs fd ⟨[.int i t], []⟩ = pure [(("k" : Str), .int i t)] := by
    obtain ⟨nm, qn, prm, bd, scp⟩ := fd
    dsimp only at e1 e7 e8
    subst e1 e7 e8
    rfl
  refine wpAny_call (kla_callFunE rm.depth e hd (e3 ▸ hco) (e3 ▸ hgen) e2 hcd ?_)
  rw [hbd, e3, e4, e5, e6]
  have lk : lsc.names.lookup ("k" : Str) = some .local := by rw [hnames]; rfl
  have lx : lsc.names.lookup x = some .free := by rw [hnames, List.lookup_cons, beq_eq_false_iff_ne.mpr hxk, List.lookup_cons, beq_self_eq_true]
  have only : ∀ z m, lsc.names.lookup z = some m → z = ("k" : Str) ∨ z = x := fun z m hz => by
    rw [hnames, List.lookup_cons] at hz
    by_cases h1 : z = ("k" : Str)
    · exact .inl h1
    · rw [beq_eq_false_iff_ne.mpr h1, List.lookup_cons] at hz
      by_cases h2 : z = x
      · exact .inr h2
      · rw [beq_eq_false_iff_ne.mpr h2] at hz; cases hz
  refine wpAny_pure (wpAny_newFunctionEnv (fun z hz => by rw [hnames] at hz; rcases List.mem_cons.mp hz with rfl | hz; (· decide); (· rw [List.mem_singleton.mp hz]; exact fun q => nomatch q)) (fun z hz => by rw [List.mem_singleton.mp hz]; exact lk) (fun h' hns hs => ?_) hk)
  have kp : Kp s { s with heap := h', toks := s.toks + 1 } := fun b o e => hs.extBut b o (Nat.ne_of_lt (Heap.lt_size e)) (Heap.get?_push_of_some _ e)
  have g1 : Go c (fun b => F b ∨ b = s.heap.objs.size) NoW μ s σ μ { s with heap := h', toks := s.toks + 1, gens := s.gens } σ := I.step I.bare (fun _ h => h.elim) (fun b o _ e => kp b o e) fun b hb => hb.imp id fun q => by subst q; exact ⟨fresh_at _, by obtain ⟨o, _, _, e, _⟩ := hns; exact ⟨o, e⟩⟩
  have p1 : Pres F μ s.heap (fun b => F b ∨ b = s.heap.objs.size) μ h' := g1.pres (fun _ h => h.elim) fun b hb => hb.imp id fun q => by subst q; exact fresh_at _
  obtain ⟨oc, eoc, hoc⟩ := hc
  have N : EnvR (fun b => F b ∨ b = s.heap.objs.size) μ h' (newEnv lsc s.heap.objs.size mainGlobals [(x, ca)] (fd.qualname ++ ".<locals>.") (some a) fd.code none builtinsNs) lsc [(("k" : Str), .int i), (x, dv)] := by
    refine ⟨hk, fun z m hz => .inl hz, rfl, rfl, .inr rfl, ⟨_, hns, fun z w hz hzl => ?_⟩, fun z hz => ?_, fun z z' a' e1 e2 => ?_, fun h => ?_⟩
    · rcases only z _ hzl with rfl | rfl
      · cases hz
        exact ⟨_, rfl, .int _ _⟩
      · rw [show (newEnv lsc s.heap.objs.size mainGlobals [(z, ca)] (fd.qualname ++ ".<locals>.") (some a) fd.code none builtinsNs).scope.names.lookup z = some .free from lx] at hzl
        cases hzl
    · have : z = x := by
        rcases hz with hz | hz <;> rcases only z _ hz with rfl | h <;> first | exact h | (have hz : lsc.names.lookup ("k" : Str) = _ := hz; rw [lk] at hz; cases hz)
      subst this
      refine ⟨ca, some y, ?_, .inl hF, fun q => absent eoc (by rw [q]; exact fresh_at _), ⟨oc, kp _ _ eoc, hoc⟩, fun w hw => ⟨y, rfl, ?_⟩⟩
      · show List.lookup z [(z, ca)] = _
        rw [List.lookup_cons, beq_self_eq_true]
      · rw [List.lookup_cons, beq_eq_false_iff_ne.mpr hxk, List.lookup_cons, beq_self_eq_true] at hw
        cases hw
        exact ry.pres p1
    · have one : ∀ z, List.lookup z [(x, ca)] = some a' → z = x := fun z h => by
        rw [List.lookup_cons] at h
        by_cases h2 : z = x
        · exact h2
        · rw [beq_eq_false_iff_ne.mpr h2] at h; cases h
      rw [one z e1, one z' e2]
    · rcases only _ _ h with q | q
      · exact absurd q (by decide)
      · exact absurd q.symm hx2
  refine ⟨T.lim.keeps fun b o e => kp b o (I.keep b o e), kla_codeExpr (hb (rm.deeper _) g1.inv N fun w s2 μ2 p2 r2 => ?_)⟩
  have p := g1.trans p2
  obtain ⟨pr, tk⟩ := p.ret I (fun _ h => .inl h) (fun a h => h.elim) hlo
  rw [List.take_length] at pr
  exact q w s2 pr (OutR.ok (.inl ⟨hv, rfl⟩) p I (fun _ h => .inl h) tk r2)
theorem collect_code {r : Addr} {m : Nat} {t u v : Tok} {R : Result → Shared → Prop} (hh : A.handled = none) (hr : IsRange s.heap r 0 m 1 t u v) (hm : m ≤ lim)
    (h : ∀ h' tk acc' c', (∀ b o, b ≠ s.heap.objs.size → (s.heap.push { cls := .type "list", data := .seq #[] }).get? b = some o → h'.get? b = some o) → h'.get? s.heap.objs.size = some { cls := .type "list", dict := none, data := .seq acc' c', slots := #[] } →
      ItemsOf (fun i v => ∃ t, v = .int (0 + i * 1) t) acc' m → R (.ok (.ret (.ref s.heap.objs.size))) { s with heap := h', toks := tk }) : codeAny c.M A (.builtin "proto.collect" ⟨[.ref r], []⟩) R s := by
  have hll : lim = 1048576 := rfl
  have hS : (s.heap.push { cls := .type "list", data := .seq ([] : List Value).toArray }).get? s.heap.objs.size = some { cls := .type "list", data := .seq #[] } := Heap.get?_push_size _ rfl
  refine codeAny_builtin PySem.F.entry_proto_collect ?_
  rw [Around.under_plainId PySem.F.plain_proto_collect _]
  show wpAny _ A.in1 (newList [] >>= fun l => again (.builtin "list.__iadd__" ⟨[l, .ref r], []⟩)) _ _ s
  refine wpAny_bind (wpAny_newObj_type ?_)
  refine wpAny_pure ⟨plainId_quiet PySem.F.plain_list_iadd _, codeAny_builtin PySem.F.entry_list_iadd ?_⟩
  rw [Around.under_plainId PySem.F.plain_list_iadd _]
  exact wpAny_extend_range (s := { s with heap := s.heap.push { cls := .type "list", data := .seq ([] : List Value).toArray } }) (n := m) hh (Heap.get?_push_of_some _ hr) (small_one (a := 0) (b := (m : Int)) (by lia) (by lia) (by lia) (by lia)) (by rw [rangeSize_one]; split <;> lia) (by lia) s.heap.objs.size _ 0 hS h
theorem collect_range {r : Addr} {m : Nat} {t u v : Tok} {Q : List Value → Shared → Prop} (hh : A.handled = none) (hr : IsRange s.heap r 0 m 1 t u v) (hm : m ≤ lim)
    (h : ∀ h' tk (vs : List Value), (∀ b o, s.heap.get? b = some o → h'.get? b = some o) → vs.length = m → (∀ (j : Nat) (x : Value), vs[j]? = some x → ∃ t, x = .int j t) → Q vs { s with heap := h', toks := tk }) : wpAny c.M A (collect (.ref r)) Q E s := by
  unfold collect
  refine wpAny_bind (wpAny_runValue (collect_code hh hr hm fun h' tk acc' c' hk hS' hacc => ?_))
  show wpAny _ A (load s.heap.objs.size >>= _) _ _ _
  refine wpAny_bind (wpAny_load hS' (wpAny_pure (h h' tk acc'.toList (fun b o e => hk b o (Nat.ne_of_lt (Heap.lt_size e)) (Heap.get?_push_of_some _ e)) (by rw [Array.length_toList]; exact hacc.1) fun j x e => ?_)))
  obtain ⟨t, e⟩ := hacc.2 j x (by simpa using e)
  exact ⟨t, by rw [e]; congr 1; lia⟩
end
end Mine
namespace Mine
open PySem PySem.Calls PyProof.Rows PySem.W
noncomputable def H0 : Heap := { objs := #[] }
theorem H0.none (b : Addr) : H0.get? b = none := by
  cases e : H0.get? b with
  | none => rfl
  | some o => exact absurd (Heap.lt_size e) (Nat.not_lt_zero _)
noncomputable def allBut (h : Heap) (ex : List Addr) : List (Addr × Obj) := (List.range h.objs.size).filterMap fun b => if b ∈ ex then none else (h.get? b).map (b, ·)
theorem mem_allBut {h : Heap} {ex : List Addr} {p : Addr × Obj} : p ∈ allBut h ex ↔ h.get? p.1 = some p.2 ∧ p.1 ∉ ex := by
  unfold allBut
  rw [List.mem_filterMap]
  constructor
  · rintro ⟨b, _, e⟩
    by_cases hb : b ∈ ex
    · rw [if_pos hb] at e; cases e
    · rw [if_neg hb] at e
      obtain ⟨o, e1, rfl⟩ := Option.map_eq_some_iff.mp e
      exact ⟨e1, hb⟩
  · rintro ⟨e, n⟩
    exact ⟨p.1, List.mem_range.mpr (Heap.lt_size e), by rw [if_neg n, e]; rfl⟩
theorem fr0 {L : Addr} {h : Heap} {m : Str → Option Value} (x : h.Ns L m) : Fr H0 L h m := ⟨x, fun b o e => absent e (H0.none b), Nat.zero_le _⟩
theorem news0 {L a : Addr} {h : Heap} {o : Obj} (hL : a ≠ L) (ho : h.get? a = some o) : News H0 L h ((a, o) :: allBut h [L, a]) := fun p hp => by
  rcases List.mem_cons.mp hp with rfl | hp
  · exact ⟨ho, hL, H0.none _⟩
  · obtain ⟨e, n⟩ := mem_allBut.mp hp
    exact ⟨e, fun q => n (q ▸ .head _), H0.none _⟩
theorem upd0 {L a : Addr} {h : Heap} {o : Obj} : UpdF a o ((a, o) :: allBut h [L, a]) (fun o' => (a, o') :: allBut h [L, a]) := .head fun p hp => fun q => (mem_allBut.mp hp).2 (q ▸ .tail _ (.head _))
theorem back0 {L a : Addr} {h h' : Heap} {o : Obj} (N : News H0 L h' ((a, o) :: allBut h [L, a])) : h'.get? a = some o ∧ ∀ b o', b ≠ L → b ≠ a → h.get? b = some o' → h'.get? b = some o' :=
  ⟨(N _ (.head _)).1, fun b o' h1 h2 e => (N (b, o') (.tail _ (mem_allBut.mpr ⟨e, by simp [h1, h2]⟩))).1⟩
section
variable {c : Cx} {n : Nat} {A : Around} {E : Value → Shared → Prop} {s : Shared}
theorem sorted_front {r f L : Addr} {mL : Str → Option Value} {m : Nat} {t u v : Tok} {Q : Value → Shared → Prop} (hh : A.handled = none) (hr : IsRange s.heap r 0 m 1 t u v) (h2 : 2 ≤ m) (h64 : m < 64) (hns : s.heap.Ns L mL)
    (h : ∀ h' tk vs D kS e1, vs.length = m → (∀ (j : Nat) (x : Value), vs[j]? = some x → ∃ t, x = .int j t) → s.heap.get? D = none → s.heap.get? kS = none → D ≠ kS → (∀ b o, b ≠ L → s.heap.get? b = some o → h'.get? b = some o) → h'.Ns L mL → h'.get? kS = some (seqObj "list" #[] 0) → h'.get? D = some (seqObj "list" #[] e1) →
      KatKeys c.prog c.w A.in1.in1 H0 L mL kS (.ref f) (fun ks e s' => wpAny c.M A.in1.in1 (keyKind' (List.toArray ks)) (fun κ s'' => (kas_sort vs.length).kasWp (kas_ask c.prog c.w A.in1.in1 κ ks) (fun p s3 => KatFin H0 L mL kS D ks e e1 (p.toList.map fun i => vs.getD i Value.none) (fun s4 => Q (.ref D) s4) s3) s'') (fun _ _ => False) s') vs [] 0 { s with heap := h', toks := tk }) :
    wpAny c.M A (call (.builtin "sorted") [.ref r] [("key", .ref f)]) Q E s := by
  refine call_function_entry_kw kind_sorted plain_sorted entry_sorted (ksk_s1 _ _) ?_
  unfold Builtin.«sorted»
  refine wpAny_bind (m := checkCount "sorted" 1 1 _) (wpAny_pure ?_)
  refine wpAny_bind (collect_range hh hr (by show m ≤ 1048576; exact Z99 h64) fun h1 tk vs k1 hl hv => ?_)
  refine wpAny_bind (wpAny_newList ?_ (by rw [sizeLine_eq]; exact Z100 hl h64))
  have hoL : (h1.push (seqObj "list" vs.toArray 0)).get? h1.objs.size = some (seqObj "list" vs.toArray 0) := Heap.get?_push_size _ rfl
  have k2 : ∀ b o, s.heap.get? b = some o → (h1.push (seqObj "list" vs.toArray 0)).get? b = some o := fun b o e => Heap.get?_push_of_some _ (k1 b o e)
  have nD : s.heap.get? h1.objs.size = none := by
    cases e : s.heap.get? h1.objs.size with
    | none => rfl
    | some o => exact absent (k1 _ _ e) (fresh_at _)
  have neL : h1.objs.size ≠ L := fun q => by obtain ⟨o, _, _, e, _⟩ := hns; exact absent e (q ▸ nD)
  show wpAny _ _ _ _ _ { s with heap := h1.push (seqObj "list" vs.toArray 0), toks := tk }
  refine wpAny_bind (wpAny_holding (wpAny_call_entry_kw slot_list_sort ⟨_, hoL, rfl⟩ entry_list_sort ?body (ksk_l1 _ _)))
  case body =>
    show wpAny c.M A.in1.in1 (Builtin.«list.sort» ⟨[.ref h1.objs.size], [("key", .ref f)]⟩) _ _ _
    rw [show Builtin.«list.sort» ⟨[.ref h1.objs.size], [("key", .ref f)]⟩ = ksk_tree h1.objs.size (.ref f) false from ksk_t1 f _]
    refine kat_keyed (s := { s with heap := h1.push (seqObj "list" vs.toArray 0), toks := tk }) (news := allBut (h1.push (seqObj "list" vs.toArray 0)) [L, h1.objs.size]) (fr0 (hns.keeps k2)) (fun p hp => ?_) hoL neL (H0.none _) (fun p hp q => (mem_allBut.mp hp).2 (q ▸ .tail _ (.head _))) (by exact Z101 h2 hl) (by exact Z102 hl h64) fun kS e1 h' F' N' l0 l1 => ?_
    · obtain ⟨e, n⟩ := mem_allBut.mp hp
      exact ⟨e, fun q => n (q ▸ .head _), H0.none _⟩
    have kk : ∀ b o, b ≠ L → s.heap.get? b = some o → h'.get? b = some o := fun b o hb e => (N' (b, o) (.tail _ (.tail _ (mem_allBut.mpr ⟨k2 b o e, by simp [hb]; exact fun q => absent e (q ▸ nD)⟩)))).1
    have nS : s.heap.get? kS = none := by
      cases e : s.heap.get? kS with
      | none => rfl
      | some o =>
        have := l1 (kS, o) (mem_allBut.mpr ⟨k2 _ _ e, by simp; exact ⟨fun q => (N' _ (.head _)).2.1 q, Nat.ne_of_gt l0⟩⟩)
        exact absurd this (Nat.lt_irrefl _)
    refine kat_keys_mono (h h' tk vs h1.objs.size kS e1 hl hv nD nS (Nat.ne_of_lt l0) kk F'.ns (N' _ (.head _)).1 (N' _ (.tail _ (.head _))).1) fun ks e s' hl' hd => ?_
    refine wpAny_mono hd (fun κ s'' hk => ?_) fun _ _ x => x
    have hl2 : ks.length = vs.length := by simpa using hl'
    rw [kat_ask_eq (vs := katRev false vs) (by rw [kat_len, kat_len, hl2])]
    rw [kat_ask_eq (vs := vs) hl2] at hk
    exact kas_wp_mono hk fun p s3 hk' => hk'.mono fun s4 hq => ⟨_, rfl, wpAny_pure ⟨_, rfl, hq⟩⟩
end
end Mine
namespace Mine
open PySem PySem.Calls PyProof.Rows PySem.W
section
variable {c : Cx} {n : Nat} {F : Addr → Prop} {μ : List Addr} {s s1 s2 : Shared} {σ : Sto} {L kS D a ca : Addr} {mL : Str → Option Value} {e1 e : Nat} {x : Str} {ps : Arguments} {body : PySem.Expr} {lsc : Scope} {dv : AV} {y : Value}
noncomputable abbrev FS (F : Addr → Prop) (kS D : Addr) : Addr → Prop := fun b => F b ∨ b = kS ∨ b = D
noncomputable abbrev WS (L kS D : Addr) : Addr → Prop := fun b => b = L ∨ b = kS ∨ b = D
structure KS (c : Cx) (F : Addr → Prop) (μ : List Addr) (s : Shared) (σ : Sto) (L kS D : Addr) (mL : Str → Option Value) (e1 : Nat) (x : Str) (a ca : Addr) (ps : Arguments) (body : PySem.Expr) (lsc : Scope) (dv : AV) (y : Value) (s1 : Shared) : Prop where
  base : Go c (FS F kS D) (WS L kS D) μ s σ μ s1 σ
  ns : s1.heap.Ns L mL
  lam : ¬Hid (FS F kS D) μ a ∧ LamC [(x, ca)] (FS F kS D) μ s1.heap a ps body lsc
  cell : ca ≠ L ∧ ca ≠ kS ∧ ca ≠ D ∧ F ca ∧ s1.heap.IsCell ca (some y)
  ry : VR (FS F kS D) μ s1.heap dv y
  d : s1.heap.get? D = some (seqObj "list" #[] e1)
  L : F L ∧ L ≠ kS ∧ L ≠ D ∧ D ≠ kS
theorem KS.same (K : KS c F μ s σ L kS D mL e1 x a ca ps body lsc dv y s1) {s2 : Shared} (p : Go c (FS F kS D) NoW μ s1 σ μ s2 σ) {b : Addr} {o : Obj} (hb : FS F kS D b) (e : s1.heap.get? b = some o) : s2.heap.get? b = some o := p.sameF K.base.inv hb (fun h => h) e
theorem KS.go (K : KS c F μ s σ L kS D mL e1 x a ca ps body lsc dv y s1) (p : Go c (FS F kS D) NoW μ s1 σ μ s2 σ) : KS c F μ s σ L kS D mL e1 x a ca ps body lsc dv y s2 := by
  obtain ⟨o, es, ep, en, rn⟩ := K.ns
  obtain ⟨c1, c2, c3, c4, oc, ec, rc⟩ := K.cell
  refine ⟨K.base.trans p.own, ⟨o, es, ep, K.same p (.inl K.L.1) en, rn⟩, ⟨?_, K.lam.2.pres p.pres0 K.lam.1⟩, ⟨c1, c2, c3, c4, oc, K.same p (.inl c4) ec, rc⟩, K.ry.pres p.pres0, K.same p (.inr (.inr rfl)) K.d, K.L⟩
  obtain ⟨ol, _, _, _, el, _⟩ := id K.lam.2
  exact (p.pres0.at_ _ _ K.lam.1 el).2
theorem KS.set (K : KS c F μ s σ L kS D mL e1 x a ca ps body lsc dv y s1) {h' : Heap} {o' : Obj} (hL : h'.Ns L mL) (hS : h'.get? kS = some o') (k : ∀ b o', b ≠ L → b ≠ kS → s1.heap.get? b = some o' → h'.get? b = some o') : KS c F μ s σ L kS D mL e1 x a ca ps body lsc dv y { s1 with heap := h' } := by
  have g : Go c (FS F kS D) (fun b => b = L ∨ b = kS) μ s1 σ μ { s1 with heap := h', toks := s1.toks, gens := s1.gens } σ := K.base.inv.step K.base.inv.bare (fun b hb => by
    rcases hb with rfl | rfl
    · obtain ⟨o, _, _, e, _⟩ := hL; exact ⟨.inl K.L.1, o, e⟩
    · exact ⟨.inr (.inl rfl), o', hS⟩) (fun b o hb e => k b o (fun q => hb (.inl q)) (fun q => hb (.inr q)) e) fun b hb => .inl hb
  have p := g.pres (F := FS F kS D) (fun b hb => hb.elim (fun q => .inl (q ▸ K.L.1)) fun q => .inr (.inl q)) fun b hb => .inl hb
  obtain ⟨c1, c2, c3, c4, oc, ec, rc⟩ := K.cell
  refine ⟨K.base.trans (g.weaken fun b hb => .inl (hb.imp id .inl)), hL, ⟨?_, K.lam.2.pres p K.lam.1⟩, ⟨c1, c2, c3, c4, oc, k _ _ c1 c2 ec, rc⟩, K.ry.pres p, k _ _ (Ne.symm K.L.2.2.1) K.L.2.2.2 K.d, K.L⟩
  obtain ⟨ol, _, _, _, el, _⟩ := id K.lam.2
  exact (p.at_ _ _ K.lam.1 el).2
theorem KS.pset (K : KS c F μ s σ L kS D mL e1 x a ca ps body lsc dv y s1) {h' : Heap} (k : ∀ b o', b ≠ L → b ≠ kS → s1.heap.get? b = some o' → h'.get? b = some o') : Pres (FS F kS D) μ s1.heap (FS F kS D) μ h' :=
  ⟨fun b o nb e => ⟨k b o (fun q => nb (.inl (.inl (q ▸ K.L.1)))) (fun q => nb (.inl (.inr (.inl q)))) e, nb⟩, fun _ _ e => e⟩
theorem keys_go {A : Around} {dn : Nat → Int} {vs : List Value} {m : Nat} {ap : Pos} {Fin : List Value → Nat → Shared → Prop} (T : TopR c) (rm : Room A (n + 1)) (hnames : lsc.names = [(("k" : Str), .local), (x, .free)]) (hxk : x ≠ ("k" : Str)) (hx2 : x ≠ ("script" : Str)) (hk : lsc.kind = .function) (hco : lsc.isCoroutine = false) (hgen : lsc.isGenerator = false)
    (hb : ∀ i, i < m → EvE c n lsc body [(("k" : Str), .int (i : Int)), (x, dv)] σ (.tup [.int (dn i), .int (i : Int)]) σ) (hlo : LoSto σ.length σ) (hvl : vs.length = m) (hv : ∀ (j : Nat) (w : Value), vs[j]? = some w → ∃ t, w = .int j t)
    (hfin : ∀ ks e s2, KS c F μ s σ L kS D mL e1 x a ca ⟨[], [⟨"k", none, ap⟩], none, [], [], none, []⟩ body lsc dv y s2 → s2.heap.get? kS = some (seqObj "list" (List.toArray ks) e) → VRs (FS F kS D) μ s2.heap ((List.range m).map fun (i : Nat) => AV.tup [.int (dn i), .int (i : Int)]) ks → Fin ks e s2) :
    ∀ (k j : Nat) (ks : List Value) (e : Nat) (s1 : Shared) (rest : List Value), rest = vs.drop j → j + k = m → KS c F μ s σ L kS D mL e1 x a ca ⟨[], [⟨"k", none, ap⟩], none, [], [], none, []⟩ body lsc dv y s1 → s1.heap.get? kS = some (seqObj "list" (List.toArray ks) e) →
      VRs (FS F kS D) μ s1.heap ((List.range j).map fun (i : Nat) => AV.tup [.int (dn i), .int (i : Int)]) ks → KatKeys c.prog c.w A H0 L mL kS (.ref a) Fin rest ks e s1
  | 0, j, ks, e, s1, _, rfl, hj, K, hS, r => by
    have : j = m := by exact Z103 hj
    subst this
    rw [List.drop_eq_nil_of_le (by exact Nat.le_of_eq hvl)]
    exact KatKeys.nil (hfin ks e s1 K hS r)
  | k + 1, j, ks, e, s1, _, rfl, hj, K, hS, r => by
    have hjl : j < vs.length := by exact Z104 hj hvl
    rw [List.drop_eq_getElem_cons hjl]
    obtain ⟨t, ht⟩ := hv j vs[j] (List.getElem?_eq_getElem hjl)
    rw [ht]
    refine KatKeys.cons (lamC_call T K.base.inv rm K.lam.2 (.inl K.cell.2.2.2.1) K.cell.2.2.2.2 K.ry hnames hxk hx2 hk hco hgen (hb j (by exact Z80 hj)) hlo (.tup fun z hz => ?_) fun u s2 g ru => ?_)
    · rcases List.mem_cons.mp hz with rfl | hz
      · exact .int
      · rw [List.mem_singleton.mp hz]; exact .int
    · have K2 := K.go g
      have hS2 := K.same g (.inr (.inl rfl)) hS
      refine KatBack.intro (fr0 K2.ns) (news0 (Ne.symm K.L.2.1) hS2) upd0 fun h' c' F' N' => ?_
      obtain ⟨hS', kk⟩ := back0 N'
      have K3 := K2.set F'.ns hS' kk
      refine keys_go T rm hnames hxk hx2 hk hco hgen hb hlo hvl hv hfin k (j + 1) (ks ++ [u]) c' { s2 with heap := h' } _ rfl (by exact Z82 hj) K3 hS' ?_
      rw [List.range_succ, List.map_append]
      exact ((r.pres g.pres0).append (.one ru)).pres (K2.pset kk)
end
end Mine
namespace Mine
open PySem PySem.Calls PyProof.Rows PySem.W
noncomputable def rk (dn : Nat → Int) (i : Nat) : Int := dn i * 64 + i
noncomputable def sortOrd (dn : Nat → Int) (m : Nat) : List Nat := (kev (rk dn) (kas_sort m)).toList
theorem rk_lt {dn : Nat → Int} {i j : Nat} (hi : i < 64) (hj : j < 64) : decide (rk dn i < rk dn j) = if (dn i == dn j) = true then (if ((i : Int) == (j : Int)) = true then false else decide ((i : Int) < (j : Int))) else decide (dn i < dn j) := by
  unfold rk
  by_cases h : dn i = dn j
  · rw [if_pos (by simpa using h), h]
    by_cases h2 : i = j
    · rw [if_pos (by rw [beq_iff_eq]; lia), h2]; exact decide_eq_false (by lia)
    · rw [if_neg (by rw [beq_iff_eq]; lia)]
      exact decide_eq_decide.mpr (by lia)
  · rw [if_neg (by simpa using h)]
    exact decide_eq_decide.mpr (by lia)
theorem rk_inj {dn : Nat → Int} {m : Nat} (hm : m ≤ 64) : ∀ i j, i < m → j < m → rk dn i = rk dn j → i = j := fun i j hi hj h => by
  unfold rk at h; lia
section
variable {c : Cx} {n : Nat} {F : Addr → Prop} {μ : List Addr} {s s1 s2 : Shared} {σ σ1 : Sto} {L kS D a ca : Addr} {mL : Str → Option Value} {e1 e : Nat} {x : Str} {ps : Arguments} {body : PySem.Expr} {lsc sc : Scope} {dv : AV} {y : Value} {ρ ρ1 : Ro}
theorem pair_kind {F : Addr → Prop} {μ : List Addr} {h : Heap} {dn : Nat → Int} : ∀ {js : List Nat} {ks : List Value}, VRs F μ h (js.map fun (i : Nat) => AV.tup [.int (dn i), .int (i : Int)]) ks → ∃ fs, KatTups h ks fs ∧ fs.length = js.length ∧ ∀ v ∈ fs, ∃ i t, v = .int i t
  | [], ks, r => by
    obtain rfl := VRs.nil_inv r
    exact ⟨[], .nil, rfl, fun _ h => nomatch h⟩
  | j :: js, ks, r => by
    obtain ⟨v, ws, rfl, r1, r2⟩ := VRs.cons_inv r
    obtain ⟨ad, us, rfl, _, ⟨o, e1, e2, m, e3⟩, _, ru⟩ := r1.tup_inv
    obtain ⟨u1, u2, rfl, q1, q2⟩ := ru.inv2
    obtain ⟨t, rfl⟩ := q1.int_inv
    obtain ⟨fs, k, hl, hf⟩ := pair_kind r2
    exact ⟨_ :: fs, .cons e1 e2 e3 rfl k, by simp [hl], fun v hv => by
      rcases List.mem_cons.mp hv with rfl | hv
      · exact ⟨_, _, rfl⟩
      · exact hf v hv⟩
theorem pair_ask {A : Around} {F : Addr → Prop} {μ : List Addr} {dn : Nat → Int} {m i j : Nat} {ks : List Value} {C : Bool → Shared → Prop} (hm : m ≤ 64) (r : VRs F μ s.heap ((List.range m).map fun (i : Nat) => AV.tup [.int (dn i), .int (i : Int)]) ks) (hi : i < m) (hj : j < m) {tk : Nat}
    (h : C (decide (rk dn i < rk dn j)) { s with toks := tk }) : kas_ask c.prog c.w A (tuples' true) ks i j C { s with toks := tk } := by
  have at_ : ∀ i, i < m → ∃ ad o k t t', ks.getD i Value.none = .ref ad ∧ s.heap.get? ad = some o ∧ o.data = .seq #[.int (dn i) t, .int (i : Int) t'] k := fun i hi => by
    have hk : i < ks.length := by have := r.len; simp at this; exact Z105 hi this
    have := r.at_ i (.tup [.int (dn i), .int (i : Int)]) ks[i] (by simp [hi]) (List.getElem?_eq_getElem hk)
    obtain ⟨ad, us, e0, _, ⟨o, e1, e2, k, e3⟩, _, ru⟩ := this.tup_inv
    obtain ⟨u1, u2, rfl, q1, q2⟩ := ru.inv2
    obtain ⟨t, rfl⟩ := q1.int_inv
    obtain ⟨t', rfl⟩ := q2.int_inv
    exact ⟨ad, o, k, t, t', by rw [List.getD_eq_getElem?_getD, List.getElem?_eq_getElem hk]; exact e0, e1, e3⟩
  obtain ⟨a1, o1, k1, t1, u1, e1, g1, d1⟩ := at_ i hi
  obtain ⟨a2, o2, k2, t2, u2, e2, g2, d2⟩ := at_ j hj
  unfold kas_ask
  rw [e1, e2]
  rw [rk_lt (by exact Z106 hi hm) (by exact Z106 hj hm)] at h
  refine kat_lt (s := { s with toks := tk }) g1 d1 g2 d2 (kat_cons (wpAny_eqBool_int (kat_go (fun q => ?_) fun q => ?_)))
  · rw [if_pos q] at h
    refine kat_yes (kat_cons (wpAny_eqBool_int (kat_go (fun q2 => ?_) fun q2 => ?_)))
    · rw [if_pos q2] at h
      exact kat_yes (kat_nil h)
    · rw [if_neg (by rw [q2]; decide)] at h
      exact kat_no (kat_one _ _ (P.lt_int h))
  · rw [if_neg (by rw [q]; decide)] at h
    exact kat_no (oneLt_int h)
theorem EnvR.presL {F' : Addr → Prop} {h h' : Heap} {env : Env} {m : Str → Option Value} (N : EnvR F μ h env sc ρ) (p : Pres F μ h F' μ h') (hF : ∀ a, Mem env a → F' a) (hm : ∀ x v, ρ.lookup x = some v → env.scope.names.lookup x = some .local → ∃ y, m x = some y ∧ VR F μ h v y) (hn : h'.Ns env.locals m)
    (k : ∀ a o, Mem env a → a ≠ env.locals → h.get? a = some o → h'.get? a = some o) : EnvR F' μ h' env sc ρ := by
  refine ⟨N.kind, N.kinds, N.glob, N.bns, hF _ (.inl rfl), ⟨m, hn, fun x v h1 h2 => let ⟨y, a, b⟩ := hm x v h1 h2; ⟨y, a, b.pres p⟩⟩, fun x hx => ?_, N.inj, N.tag⟩
  obtain ⟨c, cv, e1, e2, e3, ⟨o, e, r⟩, e5⟩ := N.cell x hx
  exact ⟨c, cv, e1, hF _ (.inr ⟨x, hx, e1⟩), e3, ⟨o, k _ o (.inr ⟨x, hx, e1⟩) e3 e, r⟩, fun v h1 => let ⟨y, a, b⟩ := e5 v h1; ⟨y, a, b.pres p⟩⟩
theorem StR.assignSorted {t e0 : PySem.Expr} {m : Nat} {dn : Nat → Int} {p0 p1 p3 lp ap kp cp pos : Pos} (T : TopR c) (hs0 : sc.names.lookup ("script" : Str) = some .local) (hcx : sc.names.lookup x = some .cell) (hx : ρ.lookup x = some dv)
    (h0 : EvE c (n + 3) sc (.Name "sorted" p0) ρ σ (.val (.builtin "sorted")) σ) (h1 : EvE c (n + 3) sc (.Name "range" p1) ρ σ (.val (.type "range")) σ) (h2 : EvE c (n + 3) sc e0 ρ σ (.int (m : Int)) σ) (hm2 : 2 ≤ m) (hm64 : m < 64)
    (hnames : lsc.names = [(("k" : Str), .local), (x, .free)]) (hxk : x ≠ ("k" : Str)) (hx2 : x ≠ ("script" : Str)) (hk : lsc.kind = .function) (hco : lsc.isCoroutine = false) (hgen : lsc.isGenerator = false)
    (hb : ∀ i, i < m → EvE c n lsc body [(("k" : Str), .int (i : Int)), (x, dv)] σ (.tup [.int (dn i), .int (i : Int)]) σ) (hlo : LoSto σ.length σ)
    (ha : AsR c sc t (.lst ((sortOrd dn m).map fun (i : Nat) => .int (i : Int))) ρ ρ1)
    (he : ∀ env, assignEach [t] env = [(false, PySem.assign t env)]) (hs : ∀ env, swapsWithSole [t] (.Call (.Name "sorted" p0) [.Call (.Name "range" p1) [e0] [] p3] [⟨some "key", .Lambda ⟨[], [⟨"k", none, ap⟩], none, [], [], none, []⟩ body lsc lp, kp⟩] cp) pos.line env = pure false)
    (hw : ∀ env, swappedStores [t] (.Call (.Name "sorted" p0) [.Call (.Name "range" p1) [e0] [] p3] [⟨some "key", .Lambda ⟨[], [⟨"k", none, ap⟩], none, [], [], none, []⟩ body lsc lp, kp⟩] cp) env = pure none)
    (hc : ∀ env, eval (.Call (.Name "sorted" p0) [.Call (.Name "range" p1) [e0] [] p3] [⟨some "key", .Lambda ⟨[], [⟨"k", none, ap⟩], none, [], [], none, []⟩ body lsc lp, kp⟩] cp) env =
      (do callWith cp (← eval (.Name "sorted" p0) env) [] [(false, eval (.Call (.Name "range" p1) [e0] [] p3) env)] [(some "key", do let v ← eval (.Lambda ⟨[], [⟨"k", none, ap⟩], none, [], [], none, []⟩ body lsc lp) env; standAt cp; pure v)]))
    (hc2 : ∀ env, eval (.Call (.Name "range" p1) [e0] [] p3) env = (do callWith p3 (← eval (.Name "range" p1) env) [] (backTo p3 (starEach [e0] env)) (backToKw p3 (keywordEach [] env)))) (hs2 : ∀ env, starEach [e0] env = (false, eval e0 env) :: starEach [] env)
    (hl : ∀ env, eval (.Lambda ⟨[], [⟨"k", none, ap⟩], none, [], [], none, []⟩ body lsc lp) env = makeFunction "<lambda>" (env.qual ++ "<lambda>") ⟨[], [⟨"k", none, ap⟩], none, [], [], none, []⟩ (.expr body) lsc env [] [] [] lp lp.line) :
    StR c (n + 3) sc (.Assign [t] (.Call (.Name "sorted" p0) [.Call (.Name "range" p1) [e0] [] p3] [⟨some "key", .Lambda ⟨[], [⟨"k", none, ap⟩], none, [], [], none, []⟩ body lsc lp, kp⟩] cp) pos) ρ σ .nxt ρ1 σ := by
  intro A E F μ s env Q rm I N q
  have hcx2 : env.scope.names.lookup x = some .cell := (N.kinds _ _ hcx).resolve_right fun q => absurd q.1 (by decide)
  have hcl : closureFor lsc env = pure [(x, (env.cells.lookup x).getD 0)] := by
    obtain ⟨ca, _, ec, _⟩ := N.cell x (.inl hcx2)
    have := closure_ok (env := env) (csc := lsc) fun z hz => by
      rw [hnames] at hz
      rcases List.mem_cons.mp hz with hz | hz
      · cases hz
      · cases List.mem_singleton.mp hz; exact ⟨ca, ec⟩
    rw [this, hnames]; rfl
  refine wpAny_Assign_stores ?_ (hs env) (hw env)
  rw [he, hc]
  refine wpAny_bind (h0 rm I N fun f s1 μ1 g1 r1 => ?_)
  obtain rfl := r1.val_inv
  refine callWith_of (P := Kept c.M (.builtin "sorted")) rfl (fun _ x => x) (evalArgs_gen rfl rfl (spliced_cons (src_call h1 (.one h2 hs2) hc2 hs2 (fun _ => rfl) rm g1.inv (N.go I g1) fun ys s2 μ2 g2 r2 => ?_)))
  obtain ⟨u, rfl, r3⟩ := r2.inv1
  obtain ⟨tm, rfl⟩ := r3.int_inv
  refine call_range_1 (spliced_nil (wpAny_evalAll_cons (wpAny_bind ?_)))
  have g3 : Go c F NoW μ2 s2 σ μ2 { s2 with heap := s2.heap.push { cls := .type "range", data := .fields #[.int 0 s2.toks, .int m tm, .int 1 (s2.toks + 1)] }, toks := s2.toks + 1 + 1 } σ := g2.inv.grow (Kp.push _)
  have gg := (g1.trans g2).trans g3
  have N3 := N.go I gg
  refine lam_raw T g3.inv N3 hs0 hcl (hl env) fun fa s4 g4 nfa L4 => ?_
  refine wpAny_bind (wpAny_standAt (wpAny_pure (wpAny_pure ⟨⟨.machine, .inr (.inl rfl), .now⟩, ?_⟩)))
  have g5 := gg.trans g4
  have N5 := N.go I g5
  obtain ⟨mL, hns, hmL⟩ := N5.ns
  obtain ⟨ca, cv, ec, hFc, hcL, hcell, hcv⟩ := N5.cell x (.inl hcx2)
  obtain ⟨y, rfl, ry⟩ := hcv dv hx
  have hr : IsRange s4.heap s2.heap.objs.size 0 m 1 s2.toks tm (s2.toks + 1) := (g4.pres0.at_ _ _ (g2.inv.newN (fresh_at _)) (Heap.get?_push_size _ rfl)).1
  rw [show (env.cells.lookup x).getD 0 = ca by rw [ec]; rfl] at L4
  have hLF : F env.locals := N.loc
  show wpAny c.M A (call (.builtin "sorted") [.ref s2.heap.objs.size] [(("key" : Str), .ref fa)]) _ E s4
  refine sorted_front rm.hh hr hm2 hm64 hns fun h' tk vs D kS e1 hl hv nD nS hDS kk hnL hS hD => ?_
  obtain ⟨oc, eoc, roc⟩ := hcell
  have neL : ∀ {b : Addr}, s4.heap.get? b = none → env.locals ≠ b := fun h q => by obtain ⟨o, _, _, e, _⟩ := hns; exact absent e (q ▸ h)
  have g6 : Go c (FS F kS D) (fun b => b = env.locals) _ s4 σ _ { s4 with heap := h', toks := tk, gens := s4.gens } σ := g5.inv.step g5.inv.bare (fun b hb => by
    subst hb; obtain ⟨o, _, _, e, _⟩ := hnL; exact ⟨hLF, o, e⟩) (fun b o hb e => kk b o hb e) fun b hb => hb.imp id fun q => by
      rcases q with rfl | rfl
      · exact ⟨nS, _, hS⟩
      · exact ⟨nD, _, hD⟩
  have p6 := g6.pres (F := F) (fun b hb => by subst hb; exact hLF) fun b hb => hb.imp id fun q => by rcases q with rfl | rfl <;> assumption
  obtain ⟨ol, _, _, _, el, _⟩ := id L4
  have K : KS c F _ s4 σ env.locals kS D mL e1 x fa ca ⟨[], [⟨"k", none, ap⟩], none, [], [], none, []⟩ body lsc dv y { s4 with heap := h', toks := tk } :=
    ⟨g6.weaken fun b hb => .inl (.inl hb), hnL, ⟨(p6.at_ _ _ nfa el).2, L4.pres p6 nfa⟩, ⟨hcL, fun q => absent eoc (q ▸ nS), fun q => absent eoc (q ▸ nD), hFc, oc, kk _ _ hcL eoc, roc⟩, ry.pres p6, hD, hLF, neL nS, neL nD, hDS⟩
  refine keys_go (m := m) (vs := vs) (dn := dn) (ap := ap) T rm.in1.in1 hnames hxk hx2 hk hco hgen hb hlo hl hv ?_ m 0 [] 0 _ vs List.drop_zero.symm (by exact Z107) K hS .nil
  · intro ks e s6 K6 hS6 r6
    obtain ⟨fs, kt, hfl, hf⟩ := pair_kind r6
    refine kat_kind kt (by rw [hfl, List.length_range]; exact Z108 hm2) (T := .type "int") (fun v hv => by obtain ⟨i, t, rfl⟩ := hf v hv; exact .now) rfl ?_
    rw [hl, show (Value.type "int" != Value.type "tuple") = true from rfl]
    refine kev_wp (n := m) (r := rk dn) (P := fun _ => True) (R := fun s' => ∃ tk, s' = { s6 with toks := tk }) (fun i j C s' hi hj hs' hC => ?_) _ s6 (bd_sort (by exact Z108 hm2)) ⟨s6.toks, rfl⟩ fun s' hs' => ?_
    · obtain ⟨tk', rfl⟩ := hs'
      exact pair_ask (by exact Z109 hm64) r6 hi hj (hC _ ⟨_, rfl⟩)
    · obtain ⟨tk', rfl⟩ := hs'
      have K7 := K6.go (K6.base.inv.grow (h' := s6.heap) (tk := tk') fun _ _ e => e)
      refine KatFin.intro (s := { s6 with toks := tk' }) (fr0 K7.ns) (news0 (Ne.symm K7.L.2.1) hS6) upd0 fun h7 c7 F7 N7 => ?_
      obtain ⟨hS7, kk7⟩ := back0 N7
      have K8 := K7.set F7.ns hS7 kk7
      refine KasFin.intro (fr0 K8.ns) (news0 (Ne.symm K8.L.2.2.1) K8.d) upd0 fun h8 c8 F8 N8 => ?_
      obtain ⟨hD8, kk8⟩ := back0 N8
      have g9 : Go c (FS F kS D) (fun b => b = env.locals ∨ b = D) μ2 { s6 with heap := h7, toks := tk' } σ μ2 { s6 with heap := h8, toks := tk', gens := s6.gens } σ := K8.base.inv.step K8.base.inv.bare (fun b hb => by
        rcases hb with rfl | rfl
        · obtain ⟨o, _, _, e, _⟩ := F8.ns; exact ⟨.inl hLF, o, e⟩
        · exact ⟨.inr (.inr rfl), _, hD8⟩) (fun b o hb e => kk8 b o (fun q => hb (.inl q)) (fun q => hb (.inr q)) e) fun b hb => .inl hb
      have gf : Go c F (fun b => b = env.locals) μ2 s4 σ μ2 { s6 with heap := h8, toks := tk', gens := s6.gens } σ := ((K8.base.trans (g9.weaken fun b hb => .inl (hb.imp id .inr))).weaken fun b hb => hb.imp id fun q => by rcases q with rfl | rfl <;> assumption).less fun b hb => .inl hb
      have pf := gf.pres (F := F) (fun b hb => by subst hb; exact hLF) fun b hb => .inl hb
      have N9 : EnvR F μ2 h8 env sc ρ := N5.presL pf N5.mem hmL F8.ns fun b o hb hne e => gf.same b o hne (g5.inv.fm b (N5.mem b hb)) (fun ht => (g5.inv.ft b ht).1 (N5.mem b hb)) e
      obtain ⟨pm, up⟩ := kev_sort (r := rk dn) hm2 (rk_inj (by exact Z109 hm64))
      have rr : VRs F μ2 h8 ((sortOrd dn m).map fun (i : Nat) => AV.int (i : Int)) ((kev (rk dn) (kas_sort m)).toList.map fun i => vs.getD i Value.none) := ⟨by simp [sortOrd], fun i z w e1 e2 => by
        unfold sortOrd at e1
        rw [List.getElem?_map] at e1 e2
        obtain ⟨j, ej, rfl⟩ := Option.map_eq_some_iff.mp e1
        rw [ej] at e2
        cases e2
        have hj : j < m := by
          have := (pm.perm.mem_iff (a := j)).mp (by rw [← Array.mem_toList_iff]; exact List.mem_of_getElem? ej)
          simpa using this
        obtain ⟨t, et⟩ := hv j vs[j] (List.getElem?_eq_getElem (by exact Z15 hj hl))
        show VR F μ2 h8 (.int (j : Int)) (vs.getD j Value.none)
        rw [List.getD_eq_getElem?_getD, List.getElem?_eq_getElem (by exact Z15 hj hl), Option.getD_some, et]
        exact .int _ _⟩
      refine ha rm.hh gf.inv N9 (.lst (fun hh => ?_) ⟨c8, hD8⟩ ?_ rr.len rr.at_) fun s9 g10 N10 => q _ _ _ ((g5.own.trans (gf.weaken fun b hb => .inl (.inl hb))).trans g10) N10 .nxt
      · exact g5.inv.newN nD hh
      · unfold sortOrd
        have := pm.size
        rw [List.length_map, Array.length_toList, this]
        show m ≤ 1048576
        exact Z99 hm64
end
end Mine
namespace Mine
noncomputable abbrev Bx := Option (Nat × Nat × Bool)
noncomputable abbrev Fil := Nat → Bx
noncomputable def inR (b : Bx) (r : Nat) : Nat := match b with | some (x, _, _) => if x = r then 1 else 0 | none => 0
noncomputable def inC (b : Bx) (c : Nat) : Nat := match b with | some (_, x, _) => if x = c then 1 else 0 | none => 0
noncomputable def nR (A : Fil) : Nat → Nat → Nat | 0, _ => 0 | v + 1, r => nR A v r + inR (A v) r
noncomputable def nC (A : Fil) : Nat → Nat → Nat | 0, _ => 0 | v + 1, c => nC A v c + inC (A v) c
noncomputable def Good (A : Fil) : Prop := ∀ v r c p, A v = some (r, c, p) → c = r + nR A v r ∧ r = nC A v c
theorem nR_congr {A B : Fil} : ∀ {v : Nat}, (∀ u, u < v → A u = B u) → nR A v = nR B v
  | 0, _ => rfl
  | v + 1, h => by funext r; rw [nR, nR, nR_congr fun u hu => h u (Nat.lt_succ_of_lt hu), h v (Nat.lt_succ_self v)]
theorem nC_congr {A B : Fil} : ∀ {v : Nat}, (∀ u, u < v → A u = B u) → nC A v = nC B v
  | 0, _ => rfl
  | v + 1, h => by funext r; rw [nC, nC, nC_congr fun u hu => h u (Nat.lt_succ_of_lt hu), h v (Nat.lt_succ_self v)]
theorem Good.mem {A : Fil} (g : Good A) : ∀ v r c, (r ≤ c ∧ c < r + nR A v r) ↔ r < nC A v c
  | 0, r, c => by simp only [nR, nC]; exact Z110
  | v + 1, r, c => by
    have ih := g.mem v r c
    rw [nR, nC]
    cases h : A v with
    | none => exact ih
    | some b =>
      obtain ⟨r0, c0, p⟩ := b
      obtain ⟨e1, e2⟩ := g v r0 c0 p h
      by_cases hr : r0 = r <;> by_cases hc : c0 = c <;> simp only [inR, inC, hr, hc, if_true, if_false] <;> subst_vars <;> (first | exact Z111 e1 | exact Z112 ih e1 hc | exact Z113 ih hr | exact Z114 ih)
noncomputable def stp (tn : Bool) (fR fC : Nat → Nat) (pt : Bool) (h a : Bx) : Bx × Bx :=
  if pt then (some (0, fR 0, false), some (0, fR 0, false)) else match h, a with
  | some (r, c, m), some (r', c', p) => if r = r' ∧ c = c' then (if ((if tn then p else m) || r == c) then (some (fC (c + 1), c + 1, tn), some (fC (c + 1), c + 1, true)) else (some (r + 1, r + 1 + fR (r + 1), false), some (r + 1, r + 1 + fR (r + 1), false))) else (some (r', c', p), some (r, c, m))
  | some b, none => (none, some b)
  | none, a => (a, none)
structure Sweep (tn : Bool) (M : Fil) (x : Nat) (M' H : Fil) : Prop where
  start : H 0 = none
  step : ∀ v, (M' v, H (v + 1)) = stp tn (nR M' v) (nC M' v) (v == x) (H v) (M v)
noncomputable def swp (tn : Bool) (M : Fil) (x : Nat) : Nat → Fil × Bx
  | 0 => (fun _ => none, none)
  | v + 1 => (fun u => if u = v then (stp tn (nR (swp tn M x v).1 v) (nC (swp tn M x v).1 v) (v == x) (swp tn M x v).2 (M v)).1 else (swp tn M x v).1 u, (stp tn (nR (swp tn M x v).1 v) (nC (swp tn M x v).1 v) (v == x) (swp tn M x v).2 (M v)).2)
theorem Sweep.ex (tn : Bool) (M : Fil) (x : Nat) : ∃ M' H, Sweep tn M x M' H := by
  have low : ∀ v u, u < v → (swp tn M x v).1 u = (swp tn M x (u + 1)).1 u := fun v => by
    induction v with
    | zero => intro u h; exact absurd h (Nat.not_lt_zero _)
    | succ v ih =>
      intro u h
      by_cases e : u = v
      · subst e; rfl
      · rw [← ih u (by exact Z115 h e), swp]; exact if_neg e
  refine ⟨fun u => (swp tn M x (u + 1)).1 u, fun v => (swp tn M x v).2, rfl, fun v => ?_⟩
  rw [nR_congr (A := fun u => (swp tn M x (u + 1)).1 u) (B := (swp tn M x v).1) fun u hu => (low v u hu).symm, nC_congr (A := fun u => (swp tn M x (u + 1)).1 u) (B := (swp tn M x v).1) fun u hu => (low v u hu).symm]
  show ((if v = v then _ else _), _) = _
  rw [if_pos rfl]
  rfl
section
variable {tn : Bool} {M M' H : Fil} {x : Nat}
theorem Sweep.before (s : Sweep tn M x M' H) : ∀ v, v ≤ x → H v = none
  | 0, _ => s.start
  | v + 1, h => by
    have e := s.step v
    rw [s.before v (by exact Z49 h), stp, if_neg (by simp; exact Z116 h)] at e
    exact (Prod.mk.inj e).2
theorem Sweep.cases (s : Sweep tn M x M' H) (hx : M x = none) (v : Nat) :
    (v = x ∧ H v = none ∧ M v = none ∧ M' v = some (0, nR M' v 0, false) ∧ H (v + 1) = some (0, nR M' v 0, false)) ∨ (v ≠ x ∧ M' v = M v ∧ H (v + 1) = H v ∧ ∀ r c m r' c' p, H v = some (r, c, m) → M v = some (r', c', p) → ¬(r = r' ∧ c = c')) ∨
    (v ≠ x ∧ ∃ r c m p, H v = some (r, c, m) ∧ M v = some (r, c, p) ∧ ((((if tn then p else m) || r == c) = true ∧ M' v = some (nC M' v (c + 1), c + 1, tn) ∧ H (v + 1) = some (nC M' v (c + 1), c + 1, true)) ∨
      (((if tn then p else m) || r == c) = false ∧ M' v = some (r + 1, r + 1 + nR M' v (r + 1), false) ∧ H (v + 1) = some (r + 1, r + 1 + nR M' v (r + 1), false)))) := by
  have e := s.step v
  unfold stp at e
  by_cases h : v = x
  · subst h
    rw [if_pos (by simp)] at e
    exact .inl ⟨rfl, s.before _ (Nat.le_refl _), hx, (Prod.mk.inj e).1, (Prod.mk.inj e).2⟩
  · rw [if_neg (by simpa using h)] at e
    cases hh : H v with
    | none => rw [hh] at e; exact .inr (.inl ⟨h, (Prod.mk.inj e).1, (Prod.mk.inj e).2, fun _ _ _ _ _ _ q => nomatch q⟩)
    | some b =>
      cases ha : M v with
      | none => rw [hh, ha] at e; exact .inr (.inl ⟨h, (Prod.mk.inj e).1, (Prod.mk.inj e).2, fun _ _ _ _ _ _ _ q => nomatch q⟩)
      | some a =>
        obtain ⟨r, c, m⟩ := b
        obtain ⟨r', c', p⟩ := a
        rw [hh, ha] at e
        dsimp only at e
        by_cases k : r = r' ∧ c = c'
        · obtain ⟨rfl, rfl⟩ := k
          rw [if_pos ⟨rfl, rfl⟩] at e
          refine .inr (.inr ⟨h, r, c, m, p, rfl, rfl, ?_⟩)
          cases t : ((if tn then p else m) || r == c) with
          | true => rw [t, if_pos rfl] at e; exact .inl ⟨rfl, (Prod.mk.inj e).1, (Prod.mk.inj e).2⟩
          | false => rw [t, if_neg (by decide)] at e; exact .inr ⟨rfl, (Prod.mk.inj e).1, (Prod.mk.inj e).2⟩
        · rw [if_neg k] at e
          exact .inr (.inl ⟨h, (Prod.mk.inj e).1, (Prod.mk.inj e).2, fun _ _ _ _ _ _ q1 q2 => by cases q1; cases q2; exact k⟩)
theorem Sweep.cnt (s : Sweep tn M x M' H) (hx : M x = none) : ∀ v, (∀ r, nR M' v r = nR M v r + inR (H v) r) ∧ ∀ c, nC M' v c = nC M v c + inC (H v) c
  | 0 => by rw [s.start]; exact ⟨fun _ => rfl, fun _ => rfl⟩
  | v + 1 => by
    obtain ⟨i1, i2⟩ := s.cnt hx v
    simp only [nR, nC, i1, i2]
    rcases s.cases hx v with ⟨_, h, m, h1, h2⟩ | ⟨_, h1, h2, _⟩ | ⟨_, r, c, m, p, h, ha, ⟨_, h1, h2⟩ | ⟨_, h1, h2⟩⟩ <;> rw [h1, h2]
    · rw [h, m]; exact ⟨fun _ => rfl, fun _ => rfl⟩
    · exact ⟨fun _ => by exact Z117, fun _ => by exact Z117⟩
    all_goals (rw [h, ha]; simp only [inR, inC]; exact ⟨fun _ => trivial, fun _ => trivial⟩)
theorem Sweep.one (s : Sweep tn M x M' H) (g : Good M) (hx : M x = none) (v : Nat) (ad : ∀ r c m, H v = some (r, c, m) → c = r + nR M v r ∧ r = nC M v c) :
    (∀ r c p, M' v = some (r, c, p) → c = r + nR M' v r ∧ r = nC M' v c) ∧ ∀ r c m, H (v + 1) = some (r, c, m) → c = r + nR M (v + 1) r ∧ r = nC M (v + 1) c := by
  obtain ⟨i1, i2⟩ := s.cnt hx v
  rcases s.cases hx v with ⟨_, h, m, h1, h2⟩ | ⟨_, h1, h2, hne⟩ | ⟨_, r, c, m, p, h, ha, hb⟩
  · have e : 0 = nC M v (nR M v 0) := by have := g.mem v 0 (nR M v 0); exact Z417 this
    rw [h1, h2]
    simp only [i1, i2, h, inR, inC, nR, nC, m, Nat.add_zero]
    refine ⟨fun r c p q => ?_, fun r c p q => ?_⟩ <;> cases q <;> exact ⟨by exact Z118, e⟩
  · rw [h1, h2]
    cases ha : M v with
    | none =>
      refine ⟨fun _ _ _ q => (nomatch q), fun r c m q => ?_⟩
      simp only [nR, nC, ha, inR, inC, Nat.add_zero]
      exact ad r c m q
    | some b =>
      obtain ⟨r0, c0, p0⟩ := b
      obtain ⟨e1, e2⟩ := g v r0 c0 p0 ha
      cases hh : H v with
      | none =>
        refine ⟨fun r c p q => ?_, fun _ _ _ q => nomatch q⟩
        cases q
        rw [i1, i2, hh]; exact ⟨e1, e2⟩
      | some b =>
        obtain ⟨r, c, m⟩ := b
        obtain ⟨a1, a2⟩ := ad r c m hh
        have k := hne r c m r0 c0 p0 hh ha
        have n1 : r ≠ r0 := fun q => k ⟨q, by subst q; exact Z119 a1 e1⟩
        have n2 : c ≠ c0 := fun q => k ⟨by subst q; exact Z120 a2 e2, q⟩
        refine ⟨fun r c p q => ?_, fun r c p q => ?_⟩ <;> cases q
        · simp only [i1, i2, hh, inR, inC, if_neg n1, if_neg n2]; exact ⟨e1, e2⟩
        · simp only [nR, nC, ha, inR, inC, if_neg n1.symm, if_neg n2.symm]; exact ⟨a1, a2⟩
  · obtain ⟨a1, a2⟩ := ad r c m h
    have j1 : ∀ ρ, nR M' v ρ = nR M (v + 1) ρ := fun ρ => by rw [i1, nR, h, ha]; rfl
    have j2 : ∀ ρ, nC M' v ρ = nC M (v + 1) ρ := fun ρ => by rw [i2, nC, h, ha]; rfl
    have f1 : nR M (v + 1) r = nR M v r + 1 := by rw [nR, ha]; simp only [inR, if_true]
    have f2 : nC M (v + 1) c = nC M v c + 1 := by rw [nC, ha]; simp only [inC, if_true]
    rcases hb with ⟨t, h1, h2⟩ | ⟨t, h1, h2⟩ <;> rw [h1, h2] <;> simp only [j1, j2]
    · have m1 := g.mem (v + 1) r (c + 1)
      have m2 := g.mem (v + 1) (nC M (v + 1) (c + 1)) c
      have m3 := g.mem (v + 1) (nC M (v + 1) (c + 1)) (c + 1)
      refine ⟨fun r c p q => ?_, fun r c p q => ?_⟩ <;> cases q <;> exact ⟨by exact Z418 a1 a2 f1 f2 m1 m2 m3, rfl⟩
    · have hrc : r ≠ c := fun q => by subst q; simp at t
      have m1 := g.mem (v + 1) (r + 1) c
      have m2 := g.mem (v + 1) r (r + 1 + nR M (v + 1) (r + 1))
      have m3 := g.mem (v + 1) (r + 1) (r + 1 + nR M (v + 1) (r + 1))
      refine ⟨fun r c p q => ?_, fun r c p q => ?_⟩ <;> cases q <;> exact ⟨rfl, by exact Z419 a1 a2 f1 f2 hrc m1 m2 m3⟩
theorem Sweep.ad (s : Sweep tn M x M' H) (g : Good M) (hx : M x = none) : ∀ v r c m, H v = some (r, c, m) → c = r + nR M v r ∧ r = nC M v c
  | 0, _, _, _, q => by rw [s.start] at q; cases q
  | v + 1, r, c, m, q => (s.one g hx v (s.ad g hx v)).2 r c m q
theorem Sweep.good (s : Sweep tn M x M' H) (g : Good M) (hx : M x = none) : Good M' := fun v => (s.one g hx v (s.ad g hx v)).1
end
noncomputable def strip (b : Bx) : Bx := b.map fun t => (t.1, t.2.1, false)
theorem strip_inR (b : Bx) (r : Nat) : inR (strip b) r = inR b r := by cases b <;> rfl
theorem strip_inC (b : Bx) (r : Nat) : inC (strip b) r = inC b r := by cases b <;> rfl
section
variable {n : Nat} {A H D a : Nat → Fil} {came ord : Nat → Nat}
theorem dual_step {k v : Nat} (hA : Sweep true (A k) (came k) (A (k + 1)) (H k)) (hD : Sweep false (D v) (ord v) (D (v + 1)) (a v)) (inv : came k = v ↔ ord v = k) (pa : A k (came k) = none) (pd : D v (ord v) = none)
    (X : D v k = strip (H k v)) (Y : a v k = A k v) (Z : ∀ r, nR (A k) v r = nR (D v) k r) (Zc : ∀ r, nC (A k) v r = nC (D v) k r) : D (v + 1) k = strip (H k (v + 1)) ∧ a v (k + 1) = A (k + 1) v := by
  obtain ⟨c1, c2⟩ := hA.cnt pa v
  obtain ⟨d1, d2⟩ := hD.cnt pd k
  have e := hA.step v
  have f := hD.step k
  rw [X, Y] at f
  unfold stp at e f
  by_cases h : came k = v
  · have h' := inv.mp h
    rw [if_pos (by simp [h])] at e
    rw [if_pos (by simp [h'])] at f
    have hn : H k v = none := hA.before v (by exact Nat.le_of_eq h.symm)
    have an : A k v = none := h ▸ pa
    have q : nR (A (k + 1)) v 0 = nR (D (v + 1)) k 0 := by rw [c1, d1, Z, hn, Y, an]
    rw [(Prod.mk.inj e).1, (Prod.mk.inj e).2, (Prod.mk.inj f).1, (Prod.mk.inj f).2, q]
    exact ⟨rfl, rfl⟩
  · have h' : ¬ord v = k := fun q => h (inv.mpr q)
    rw [if_neg (by simp; exact Z121 h)] at e
    rw [if_neg (by simp; exact Z121 h')] at f
    cases hh : H k v with
    | none =>
      rw [hh] at e f
      cases ha : A k v with
      | none => rw [ha] at e f; rw [(Prod.mk.inj e).1, (Prod.mk.inj e).2, (Prod.mk.inj f).1, (Prod.mk.inj f).2]; exact ⟨rfl, rfl⟩
      | some b => rw [ha] at e f; rw [(Prod.mk.inj e).1, (Prod.mk.inj e).2, (Prod.mk.inj f).1, (Prod.mk.inj f).2]; exact ⟨rfl, rfl⟩
    | some b =>
      cases ha : A k v with
      | none => rw [hh, ha] at e f; rw [(Prod.mk.inj e).1, (Prod.mk.inj e).2, (Prod.mk.inj f).1, (Prod.mk.inj f).2]; exact ⟨rfl, rfl⟩
      | some b' =>
        obtain ⟨r, c, m⟩ := b
        obtain ⟨r', c', p⟩ := b'
        rw [hh, ha] at e f
        dsimp only [strip, Option.map] at e f
        by_cases t : r = r' ∧ c = c'
        · obtain ⟨rfl, rfl⟩ := t
          rw [if_pos ⟨rfl, rfl⟩] at e f
          have q1 : ∀ ρ, nR (A (k + 1)) v ρ = nR (D (v + 1)) k ρ := fun ρ => by rw [c1, d1, Z, hh, Y, ha]; rfl
          have q2 : ∀ ρ, nC (A (k + 1)) v ρ = nC (D (v + 1)) k ρ := fun ρ => by rw [c2, d2, Zc, hh, Y, ha]; rfl
          simp only [if_true, Bool.false_eq_true, if_false] at e f
          split at e
          · rename_i w
            rw [if_pos w] at f
            rw [(Prod.mk.inj e).1, (Prod.mk.inj e).2, (Prod.mk.inj f).1, (Prod.mk.inj f).2, q2]; exact ⟨rfl, rfl⟩
          · rename_i w
            rw [if_neg w] at f
            rw [(Prod.mk.inj e).1, (Prod.mk.inj e).2, (Prod.mk.inj f).1, (Prod.mk.inj f).2, q1]; exact ⟨rfl, rfl⟩
        · rw [if_neg t] at e
          rw [if_neg (fun q => t ⟨q.1.symm, q.2.symm⟩)] at f
          rw [(Prod.mk.inj e).1, (Prod.mk.inj e).2, (Prod.mk.inj f).1, (Prod.mk.inj f).2]; exact ⟨rfl, rfl⟩
theorem dual (hA0 : ∀ v, A 0 v = none) (hA : ∀ k, k < n → Sweep true (A k) (came k) (A (k + 1)) (H k)) (hD0 : ∀ k, D 0 k = none) (hD : ∀ v, v < n → Sweep false (D v) (ord v) (D (v + 1)) (a v)) (inv : ∀ k v, k < n → v < n → (came k = v ↔ ord v = k))
    (pa : ∀ k, k < n → A k (came k) = none) (pd : ∀ v, v < n → D v (ord v) = none) :
    ∀ k, k ≤ n → (∀ v, v < n → a v k = A k v) ∧ (∀ v, v ≤ n → (∀ r, nR (A k) v r = nR (D v) k r) ∧ ∀ r, nC (A k) v r = nC (D v) k r) ∧ ∀ j v, j < k → v ≤ n → D v j = strip (H j v)
  | 0, _ => ⟨fun v hv => by rw [(hD v hv).start, hA0], fun v _ => by
      have z1 : ∀ v r, nR (A 0) v r = 0 := fun v r => by induction v with | zero => rfl | succ v ih => rw [nR, ih, hA0]; rfl
      have z2 : ∀ v r, nC (A 0) v r = 0 := fun v r => by induction v with | zero => rfl | succ v ih => rw [nC, ih, hA0]; rfl
      exact ⟨fun r => z1 v r, fun r => z2 v r⟩, fun _ _ h => absurd h (Nat.not_lt_zero _)⟩
  | k + 1, hk => by
    obtain ⟨Y, Z, X⟩ := dual hA0 hA hD0 hD inv pa pd k (by exact Z49 hk)
    have row : ∀ v, v ≤ n → D v k = strip (H k v) ∧ (∀ u, u < v → a u (k + 1) = A (k + 1) u) := fun v => by
      induction v with
      | zero => intro _; rw [hD0, (hA k (by exact hk)).start]; exact ⟨rfl, fun _ h => absurd h (Nat.not_lt_zero _)⟩
      | succ v ih =>
        intro hv
        obtain ⟨x, y⟩ := ih (by exact Z49 hv)
        obtain ⟨s1, s2⟩ := dual_step (hA k (by exact hk)) (hD v (by exact hv)) (inv k v (by exact hk) (by exact hv)) (pa k (by exact hk)) (pd v (by exact hv)) x (Y v (by exact hv)) (Z v (by exact Z49 hv)).1 (Z v (by exact Z49 hv)).2
        exact ⟨s1, fun u hu => by
          by_cases q : u = v
          · subst q; exact s2
          · exact y u (by exact Z115 hu q)⟩
    refine ⟨fun v hv => (row (v + 1) hv).2 v (Nat.lt_succ_self v), fun v hv => ?_, fun j v hj hv => ?_⟩
    · obtain ⟨c1, c2⟩ := (hA k (by exact hk)).cnt (pa k (by exact hk)) v
      simp only [nR, nC, c1, c2, (row v hv).1, strip_inR, strip_inC, (Z v hv).1, (Z v hv).2]
      exact ⟨fun _ => trivial, fun _ => trivial⟩
    · by_cases q : j = k
      · subst q; exact (row v hv).1
      · exact X j v (by exact Z115 hj q) hv
end
end Mine
namespace Mine
noncomputable abbrev Pc := Bool × Nat
noncomputable def colTo (rows : List (List Pc)) (c : Nat) : Nat → List Pc
  | 0 => []
  | r + 1 => colTo rows c r ++ (if r ≤ c then ((rows[r]?.getD [])[c - r]?).toList else [])
structure Turn (n : Nat) (rows : List (List Pc)) (y : Nat) (down : Bool) (at_ : Nat) (rows1 : List (List Pc)) (row k : Nat) (R : List Pc) : Prop where
  low : down = true → at_ ≤ rows.length
  r1 : rows1 = if down = true ∧ at_ = rows.length then rows ++ [[]] else rows
  get : rows1[row]? = some R
  kle : k ≤ R.length
  dn : down = true → row = at_ ∧ ∀ i e, R[i]? = some e → (y < e.2 ↔ k ≤ i)
  col : down = false → at_ = row + k ∧ row ≤ (colTo rows at_ rows.length).length ∧ ∀ i e, (colTo rows at_ rows.length)[i]? = some e → (y < e.2 ↔ row ≤ i)
  sm : rows1.length ≤ n ∧ ∀ R ∈ rows1, R.length ≤ n
inductive Ins (n : Nat) (tn : Bool) (w : Nat) : List (List Pc) → List (List Pc) → Bool → Nat → Bool → Nat → List (List Pc) → List (List Pc) → Prop
  | stop {rows mks rows1 : List (List Pc)} {b : Bool} {y : Nat} {down : Bool} {at_ row k : Nat} {R G : List Pc} : Turn n rows y down at_ rows1 row k R → R.length = k → (if down = true ∧ at_ = rows.length then mks ++ [[]] else mks)[row]? = some G →
      Ins n tn w rows mks b y down at_ (rows1.set row (R ++ [(b, y)])) ((if down = true ∧ at_ = rows.length then mks ++ [[]] else mks).set row (G ++ [(!(tn || down), w)]))
  | go {rows mks rows1 rows' mks' : List (List Pc)} {b p : Bool} {y z : Nat} {down : Bool} {at_ row k : Nat} {R : List Pc} : Turn n rows y down at_ rows1 row k R → R[k]? = some (p, z) →
      Ins n tn w (rows1.set row (R.take k ++ (b, y) :: R.drop (k + 1))) (if down = true ∧ at_ = rows.length then mks ++ [[]] else mks) (p || (tn && k == 0)) z (if tn then !(p || k == 0) else down && !(k == 0)) (if (if tn then !(p || k == 0) else down && !(k == 0)) then row + 1 else row + k + 1) rows' mks' →
      Ins n tn w rows mks b y down at_ rows' mks'
noncomputable def ent (b : Bx) (v r : Nat) : List Pc := match b with | some (x, _, p) => if x = r then [(p, v)] else [] | none => []
noncomputable def rowS (M : Fil) (a : Nat) : Nat → Nat → List Pc
  | 0, _ => []
  | n + 1, r => rowS M a n r ++ ent (M (a + n)) (a + n) r
noncomputable abbrev rowL (M : Fil) (n r : Nat) : List Pc := rowS M 0 n r
noncomputable def rowsL (M : Fil) (n l : Nat) : List (List Pc) := (List.range l).map (rowL M n)
theorem ent_len (b : Bx) (v r : Nat) : (ent b v r).length = inR b r := by
  cases b with
  | none => rfl
  | some b => obtain ⟨x, c, p⟩ := b; simp only [ent, inR]; split <;> rfl
theorem rowL_len (M : Fil) (r : Nat) : ∀ n, (rowL M n r).length = nR M n r
  | 0 => rfl
  | n + 1 => by rw [rowL, rowS, List.length_append, ent_len, Nat.zero_add]; exact congrArg (· + _) (rowL_len M r n)
theorem rowS_app (M : Fil) (a r n : Nat) : ∀ m, rowS M a (n + m) r = rowS M a n r ++ rowS M (a + n) m r
  | 0 => (List.append_nil _).symm
  | m + 1 => by rw [← Nat.add_assoc, rowS, rowS_app M a r n m, rowS, List.append_assoc, Nat.add_assoc]
theorem rowS_congr {M M' : Fil} {a r : Nat} : ∀ {n : Nat}, (∀ v, a ≤ v → v < a + n → ent (M v) v r = ent (M' v) v r) → rowS M a n r = rowS M' a n r
  | 0, _ => rfl
  | n + 1, h => by rw [rowS, rowS, rowS_congr fun v h1 h2 => h v h1 (by exact Z122 h2), h (a + n) (by exact Z123) (by exact Z124)]
theorem rowS_nil {M : Fil} {a r : Nat} : ∀ {n : Nat}, (∀ v, a ≤ v → v < a + n → inR (M v) r = 0) → rowS M a n r = []
  | 0, _ => rfl
  | n + 1, h => by
    have e := List.eq_nil_of_length_eq_zero ((ent_len (M (a + n)) (a + n) r).trans (h (a + n) (by exact Z123) (by exact Z124)))
    rw [rowS, rowS_nil fun v h1 h2 => h v h1 (by exact Z122 h2), e]; rfl
theorem inR_pos {b : Bx} {r : Nat} (h : inR b r ≠ 0) : ∃ c p, b = some (r, c, p) := by
  cases b with
  | none => exact absurd rfl h
  | some b =>
    obtain ⟨x, c, p⟩ := b
    by_cases q : x = r
    · subst q; exact ⟨c, p, rfl⟩
    · exact absurd (if_neg q) h
theorem nR_mono (M : Fil) (r : Nat) {a b : Nat} (h : a ≤ b) : nR M a r ≤ nR M b r := by
  induction h with
  | refl => exact Nat.le_refl _
  | step _ ih => exact Nat.le_trans ih (Nat.le_add_right _ _)
theorem nC_mono (M : Fil) (r : Nat) {a b : Nat} (h : a ≤ b) : nC M a r ≤ nC M b r := by
  induction h with
  | refl => exact Nat.le_refl _
  | step _ ih => exact Nat.le_trans ih (Nat.le_add_right _ _)
theorem inR_le (b : Bx) (r : Nat) : inR b r ≤ 1 := by unfold inR; split <;> (try split) <;> (first | exact Z125 | exact Z126)
theorem inC_le (b : Bx) (r : Nat) : inC b r ≤ 1 := by unfold inC; split <;> (try split) <;> (first | exact Z125 | exact Z126)
theorem nR_le (M : Fil) (r : Nat) : ∀ n, nR M n r ≤ n
  | 0 => Nat.le_refl _
  | n + 1 => by have := nR_le M r n; have := inR_le (M n) r; rw [nR]; exact Z127 (by assumption) this
theorem nC_le (M : Fil) (r : Nat) : ∀ n, nC M n r ≤ n
  | 0 => Nat.le_refl _
  | n + 1 => by have := nC_le M r n; have := inC_le (M n) r; rw [nC]; exact Z127 (by assumption) this
theorem Good.row_get {M : Fil} (g : Good M) {r i v : Nat} {p : Bool} : ∀ (n : Nat), (rowL M n r)[i]? = some (p, v) → v < n ∧ M v = some (r, r + i, p) ∧ i = nR M v r
  | 0, h => nomatch (show ([] : List Pc)[i]? = some (p, v) from h)
  | n + 1, h => by
    have hl := rowL_len M r n
    rw [rowL, rowS, List.getElem?_append, Nat.zero_add] at h
    by_cases k : i < (rowL M n r).length
    · rw [if_pos k] at h
      obtain ⟨h1, h2⟩ := g.row_get n h
      exact ⟨Nat.lt_succ_of_lt h1, h2⟩
    · rw [if_neg k] at h
      cases hm : M n with
      | none => rw [hm] at h; cases h
      | some b =>
        obtain ⟨x, c, q⟩ := b
        rw [hm] at h
        simp only [ent] at h
        split at h
        · rename_i e
          subst e
          obtain ⟨j, e⟩ : ∃ j, i - (rowL M n x).length = j := ⟨_, rfl⟩
          rw [e] at h
          cases j with
          | succ j => cases h
          | zero =>
            cases h
            have hi : i = nR M v x := by exact Z128 e hl k
            have := (g v x c p hm).1
            exact ⟨Nat.lt_succ_self _, by rw [hm]; congr 3; exact Z129 this hi, hi⟩
        · cases h
theorem col_len {rows : List (List Pc)} {c K : Nat} (h : ∀ r, r < rows.length → ((r ≤ c ∧ c - r < (rows[r]?.getD []).length) ↔ r < K)) : ∀ r, r ≤ rows.length → (colTo rows c r).length = min r K ∧ ∀ i e, (colTo rows c r)[i]? = some e → i ≤ c ∧ (rows[i]?.getD [])[c - i]? = some e
  | 0, _ => ⟨by simp [colTo], fun i e q => by cases i <;> cases q⟩
  | r + 1, hr => by
    obtain ⟨h1, h2⟩ := col_len h r (by exact Z49 hr)
    have hk := h r (by exact hr)
    unfold colTo
    by_cases q : r < K
    · obtain ⟨a1, a2⟩ := hk.mpr q
      rw [if_pos a1, List.getElem?_eq_getElem a2]
      refine ⟨by simp [h1]; exact Z420 q, fun i e he => ?_⟩
      rw [List.getElem?_append] at he
      by_cases k : i < (colTo rows c r).length
      · rw [if_pos k] at he; exact h2 i e he
      · rw [if_neg k] at he
        obtain ⟨j, ej⟩ : ∃ j, i - (colTo rows c r).length = j := ⟨_, rfl⟩
        rw [ej] at he
        cases j with
        | succ j => cases he
        | zero =>
          cases he
          have : i = r := by exact Z421 ej q h1 k
          subst this
          exact ⟨a1, List.getElem?_eq_getElem a2⟩
    · have : (if r ≤ c then ((rows[r]?.getD [])[c - r]?).toList else []) = ([] : List Pc) := by
        by_cases a1 : r ≤ c
        · rw [if_pos a1, List.getElem?_eq_none (by have : ¬ c - r < (rows[r]?.getD []).length := fun x => q (hk.mp ⟨a1, x⟩); exact Nat.le_of_not_lt this)]; rfl
        · rw [if_neg a1]
      rw [this, List.append_nil]
      exact ⟨by exact Z422 h1 q, h2⟩
noncomputable def mix (M M' : Fil) (y : Nat) : Fil := fun v => if v < y then M' v else if v = y then none else M v
section
variable {tn : Bool} {M M' H : Fil} {x y : Nat}
theorem mix_lo {v : Nat} (h : v < y) : mix M M' y v = M' v := if_pos h
theorem mix_at : mix M M' y y = none := by unfold mix; rw [if_neg (Nat.lt_irrefl _), if_pos rfl]
theorem mix_hi {v : Nat} (h : y < v) : mix M M' y v = M v := by unfold mix; rw [if_neg (by exact Z130 h), if_neg (by exact Z131 h)]
theorem mix_cnt (e1 : ∀ r, nR M' y r = nR M (y + 1) r) (e2 : ∀ r, nC M' y r = nC M (y + 1) r) : ∀ d, (∀ r, nR (mix M M' y) (y + 1 + d) r = nR M (y + 1 + d) r) ∧ ∀ r, nC (mix M M' y) (y + 1 + d) r = nC M (y + 1 + d) r
  | 0 => by
    simp only [Nat.add_zero]
    exact ⟨fun r => by rw [nR, mix_at, nR_congr (B := M') fun u hu => mix_lo hu]; exact e1 r, fun r => by rw [nC, mix_at, nC_congr (B := M') fun u hu => mix_lo hu]; exact e2 r⟩
  | d + 1 => by
    obtain ⟨i1, i2⟩ := mix_cnt e1 e2 d
    rw [← Nat.add_assoc]
    exact ⟨fun r => by rw [nR, nR, i1, mix_hi (by exact Z132)], fun r => by rw [nC, nC, i2, mix_hi (by exact Z132)]⟩
theorem mix_good (g : Good M) (g' : Good M') (e1 : ∀ r, nR M' y r = nR M (y + 1) r) (e2 : ∀ r, nC M' y r = nC M (y + 1) r) : Good (mix M M' y) := fun v r c p h => by
  by_cases hv : v < y
  · rw [mix_lo hv] at h
    rw [nR_congr (B := M') fun u hu => mix_lo (by exact Z16 hu hv), nC_congr (B := M') fun u hu => mix_lo (by exact Z16 hu hv)]
    exact g' v r c p h
  · by_cases q : v = y
    · subst q; rw [mix_at] at h; cases h
    · rw [mix_hi (by exact Z133 hv q)] at h
      obtain ⟨d, rfl⟩ : ∃ d, v = y + 1 + d := ⟨v - (y + 1), by exact Z134 hv q⟩
      obtain ⟨i1, i2⟩ := mix_cnt e1 e2 d
      rw [i1, i2]; exact g _ r c p h
theorem Sweep.stay (s : Sweep tn M x M' H) (hx : M x = none) {r c : Nat} {m : Bool} (hH : H (y + 1) = some (r, c, m)) (hyx : x ≤ y) : ∀ d, (∀ v, y < v → v < y + 1 + d → inR (M v) r = 0) → H (y + 1 + d) = some (r, c, m) ∧ ∀ v, y < v → v < y + 1 + d → M' v = M v
  | 0, _ => ⟨hH, fun v h1 h2 => absurd h2 (by exact Z135 h2 h1)⟩
  | d + 1, h => by
    obtain ⟨i1, i2⟩ := s.stay hx hH hyx d fun v h1 h2 => h v h1 (by exact Z136 h2)
    rcases s.cases hx (y + 1 + d) with ⟨q, _⟩ | ⟨_, h1, h2, _⟩ | ⟨_, r', c', m', p, q1, q2, _⟩
    · exact (Z423 q hyx).elim
    · refine ⟨by rw [← Nat.add_assoc, h2]; exact i1, fun v a b => ?_⟩
      by_cases q : v = y + 1 + d
      · subst q; exact h1
      · exact i2 v a (by exact Z137 b q)
    · rw [i1] at q1; cases q1
      have := h (y + 1 + d) (by exact Z132) (by exact Z138)
      rw [q2] at this; simp [inR] at this
end
end Mine
namespace Mine
noncomputable def addM (mks : List (List Pc)) (r : Nat) (e : Pc) : List (List Pc) := (if r = mks.length then mks ++ [[]] else mks).set r (((if r = mks.length then mks ++ [[]] else mks)[r]?.getD []) ++ [e])
theorem rowsL_len (M : Fil) (n l : Nat) : (rowsL M n l).length = l := by rw [rowsL, List.length_map, List.length_range]
theorem rowsL_get {M : Fil} {n l r : Nat} (h : r < l) : (rowsL M n l)[r]? = some (rowL M n r) := by rw [rowsL, List.getElem?_map, List.getElem?_range h]; rfl
theorem rowsL_succ (M : Fil) (n l : Nat) : rowsL M n (l + 1) = rowsL M n l ++ [rowL M n l] := by rw [rowsL, rowsL, List.range_succ, List.map_append]; rfl
theorem rowsL_set {M M2 : Fil} {n l r : Nat} {R : List Pc} (h1 : ∀ ρ, ρ ≠ r → rowL M2 n ρ = rowL M n ρ) (h2 : rowL M2 n r = R) : (rowsL M n l).set r R = rowsL M2 n l := by
  apply List.ext_getElem?
  intro i
  by_cases q : i = r
  · subst q
    by_cases k : i < l
    · rw [List.getElem?_set_self (by rw [rowsL_len]; exact k), rowsL_get k, h2]
    · rw [List.getElem?_eq_none (by rw [List.length_set, rowsL_len]; exact Nat.le_of_not_lt k), List.getElem?_eq_none (by rw [rowsL_len]; exact Nat.le_of_not_lt k)]
  · rw [List.getElem?_set_ne (Ne.symm q)]
    by_cases k : i < l
    · rw [rowsL_get k, rowsL_get k, h1 i q]
    · rw [List.getElem?_eq_none (by rw [rowsL_len]; exact Nat.le_of_not_lt k), List.getElem?_eq_none (by rw [rowsL_len]; exact Nat.le_of_not_lt k)]
theorem ent_other {b : Bx} {v r : Nat} (h : inR b r = 0) : ent b v r = [] := List.eq_nil_of_length_eq_zero ((ent_len b v r).trans h)
theorem flat_nR {M : Fil} {r a b v : Nat} (e : nR M a r = nR M b r) (h1 : a ≤ v) (h2 : v < b) : inR (M v) r = 0 := by
  have i1 := nR_mono M r h1
  have i2 := nR_mono M r (a := v + 1) (b := b) h2
  rw [nR] at i2
  exact Z139 i2 e i1
section
variable {tn : Bool} {M M' H : Fil} {x : Nat}
theorem ins_from (s : Sweep tn M x M' H) (g : Good M) (hx : M x = none) (hp : tn = false → ∀ v r c p, M v = some (r, c, p) → p = false) {N n w : Nat} (hn : N + 1 ≤ n) :
    ∀ (f y : Nat), N - y ≤ f → x ≤ y → y < N → ∀ (L at_ r c : Nat) (q m : Bool) (mks : List (List Pc)), (∀ ρ, nR M' y ρ = nR M (y + 1) ρ) → (∀ ρ, nC M' y ρ = nC M (y + 1) ρ) →
      M' y = some (r, c, q) → H (y + 1) = some (r, c, m) → q = (tn && m) → (m = false → r = at_ ∧ at_ ≤ L) → (m = true → c = at_ ∧ r < L) → (∀ ρ, ρ < L ↔ 0 < nR (mix M M' y) N ρ) → mks.length = L →
      ∃ L' r' c' m', H N = some (r', c', m') ∧ r' ≤ L ∧ Ins n tn w (rowsL (mix M M' y) N L) mks q y (!m) at_ (rowsL M' N L') (addM mks r' (!tn && m', w)) ∧ ∀ ρ, ρ < L' ↔ 0 < nR M' N ρ
  | 0, y, hf, _, hy, _, _, _, _, _, _, _, _, _, _, _, _, _, _, _, _ => absurd hf (by exact Z140 hf hy)
  | f + 1, y, hf, hxy, hy, L, at_, r, c, q, m, mks, e1, e2, hM, hH, hq, hm0, hm1, hL, hmk => by
    have gx := mix_good g (s.good g hx) e1 e2
    have gM := s.good g hx y r c q hM
    have x1 : nR (mix M M' y) y = nR M' y := nR_congr fun u hu => mix_lo hu
    have x2 : nC (mix M M' y) y = nC M' y := nC_congr fun u hu => mix_lo hu
    obtain ⟨k, hk⟩ : ∃ k, nR M' y r = k := ⟨_, rfl⟩
    have hc : c = r + k := by exact Z141 gM.1 hk
    have rl : r ≤ L := by cases m with | false => have := hm0 rfl; exact Z142 this.1 this.2 | true => have := hm1 rfl; exact Z143 this.2
    have rlen := rowL_len (mix M M' y) r N
    have kle : k ≤ (rowL (mix M M' y) N r).length := by rw [rlen, ← hk, ← x1]; exact nR_mono _ _ (by exact Z143 hy)
    have LN : L ≤ N := by
      cases L with
      | zero => exact Nat.zero_le _
      | succ l =>
        have := (hL l).mp (Nat.lt_succ_self l)
        have := (gx.mem N l l).mp ⟨Nat.le_refl _, by exact Z144 this⟩
        have := nC_le (mix M M' y) l N
        exact Z145 (by assumption) this
    have cmp : ∀ i e, (rowL (mix M M' y) N r)[i]? = some e → (y < e.2 ↔ k ≤ i) := fun i e he => by
      obtain ⟨v1, v2, v3⟩ := gx.row_get N (p := e.1) (v := e.2) he
      rw [← hk, ← x1]
      by_cases t : y < e.2
      · exact ⟨fun _ => by rw [v3]; exact nR_mono _ _ (by exact Z143 t), fun _ => t⟩
      · have ne : e.2 ≠ y := fun z => by rw [z, mix_at] at v2; cases v2
        have := nR_mono (mix M M' y) r (a := e.2 + 1) (b := y) (by exact Z146 ne t)
        rw [nR, v2, inR, if_pos rfl] at this
        exact ⟨fun h => absurd h t, fun h => by exact Z147 this h v3⟩
    have app : (rowsL (mix M M' y) N L ++ [[]] : List (List Pc)) = rowsL (mix M M' y) N (L + 1) := by
      have : (rowL (mix M M' y) N L).length = 0 := by rw [rowL_len]; have := (hL L).mpr; exact Z424 this
      rw [rowsL_succ, List.eq_nil_of_length_eq_zero this]
    have r1 : (if (!m) = true ∧ at_ = (rowsL (mix M M' y) N L).length then rowsL (mix M M' y) N L ++ [[]] else rowsL (mix M M' y) N L) = rowsL (mix M M' y) N (if r = L then L + 1 else L) := by
      rw [rowsL_len, app]
      cases m with
      | false =>
        obtain ⟨rfl, _⟩ := hm0 rfl
        by_cases z : r = L
        · rw [if_pos ⟨rfl, z⟩, if_pos z]
        · rw [if_neg (fun h => z h.2), if_neg z]
      | true => rw [if_neg (by simp), if_neg (by have := hm1 rfl; exact Z148 this.2)]
    have m1 : (if (!m) = true ∧ at_ = (rowsL (mix M M' y) N L).length then mks ++ [[]] else mks) = if r = mks.length then mks ++ [[]] else mks := by
      rw [rowsL_len, hmk]
      cases m with
      | false => obtain ⟨rfl, _⟩ := hm0 rfl; by_cases z : r = L <;> simp [z]
      | true => rw [if_neg (by simp), if_neg (by have := hm1 rfl; exact Z148 this.2)]
    have rl1 : r < (if r = L then L + 1 else L) := by split <;> (first | exact Z149 (by assumption) | exact Z150 rl (by assumption))
    have T : Turn n (rowsL (mix M M' y) N L) y (!m) at_ (rowsL (mix M M' y) N (if r = L then L + 1 else L)) r k (rowL (mix M M' y) N r) := by
      refine ⟨fun hd => ?_, r1.symm, rowsL_get rl1, kle, fun hd => ⟨?_, cmp⟩, fun hd => ?_, ?_, fun R hR => ?_⟩
      · rw [rowsL_len]; exact (hm0 (by simpa using hd)).2
      · exact (hm0 (by simpa using hd)).1
      · have hm := hm1 (by simpa using hd)
        have cl := col_len (rows := rowsL (mix M M' y) N L) (c := at_) (K := nC (mix M M' y) N at_) (fun ρ hρ => by
          rw [rowsL_len] at hρ
          rw [rowsL_get hρ, Option.getD_some, rowL_len, ← gx.mem N ρ at_]
          exact Z151) (rowsL (mix M M' y) N L).length (Nat.le_refl _)
        refine ⟨by exact Z152 hm.1 gM.1 hk, ?_, fun i e he => ?_⟩
        · rw [cl.1, rowsL_len]
          have := nC_mono (mix M M' y) at_ (a := y) (b := N) (by exact Z143 hy)
          rw [x2, ← hm.1, ← gM.2] at this
          rw [← hm.1]
          exact Z425 hm.2 this
        · obtain ⟨h1, h2⟩ := cl.2 i e he
          have hi := (List.getElem?_eq_some_iff.mp he).1
          rw [cl.1, rowsL_len] at hi
          rw [rowsL_get (by exact Z426 hi), Option.getD_some] at h2
          obtain ⟨v1, v2, v3⟩ := gx.row_get N (p := e.1) (v := e.2) h2
          have v4 := (gx _ _ _ _ v2).2
          rw [show i + (at_ - i) = c by exact Z153 h1 hm.1] at v2 v4
          have e3 := gM.2
          rw [← x2] at e3
          by_cases t : y < e.2
          · exact ⟨fun _ => by rw [v4, e3]; exact nC_mono _ _ (by exact Z143 t), fun _ => t⟩
          · have ne : e.2 ≠ y := fun z => by rw [z, mix_at] at v2; cases v2
            have := nC_mono (mix M M' y) c (a := e.2 + 1) (b := y) (by exact Z146 ne t)
            rw [nC, v2, inC, if_pos rfl] at this
            exact ⟨fun h => absurd h t, fun h => by exact Z154 this v4 e3 h⟩
      · rw [rowsL_len]; split <;> (first | exact Z155 LN hn | exact Z156 LN hn)
      · obtain ⟨ρ, _, rfl⟩ := List.mem_map.mp hR
        rw [rowL_len]
        have := nR_le (mix M M' y) ρ N
        exact Z156 this hn
    have lo : rowS (mix M M' y) 0 y r = rowS M' 0 y r := rowS_congr fun v _ hv => by rw [mix_lo (by exact Z157 hv)]
    have la : (rowS M' 0 y r).length = k := by rw [← hk]; exact rowL_len M' r y
    by_cases hs : (rowL (mix M M' y) N r).length = k
    · have flat : ∀ v, y < v → v < N → inR (M v) r = 0 := fun v v1 v2 => by
        rw [← mix_hi (M := M) (M' := M') v1]
        exact flat_nR (a := y) (b := N) (by rw [x1, hk, ← rlen, hs]) (by exact Z143 v1) v2
      obtain ⟨d, rfl⟩ : ∃ d, N = y + 1 + d := ⟨N - (y + 1), by exact Z158 hy⟩
      obtain ⟨t1, t2⟩ := s.stay hx hH hxy d flat
      have o1 : ∀ ρ, ρ ≠ r → rowL M' (y + 1 + d) ρ = rowL (mix M M' y) (y + 1 + d) ρ := fun ρ hρ => rowS_congr fun v _ hv => by
        by_cases a : v < y
        · rw [mix_lo a]
        · by_cases b : v = y
          · subst b; rw [mix_at, hM]; simp only [ent, if_neg hρ.symm]
          · rw [mix_hi (by exact Z133 a b), t2 v (by exact Z133 a b) (by exact Z159 hv)]
      have o2 : rowL M' (y + 1 + d) r = rowL (mix M M' y) (y + 1 + d) r ++ [(q, y)] := by
        have z1 : rowS M' (0 + (y + 1)) d r = [] := rowS_nil fun v a b => by rw [t2 v (by exact Z160 a) (by exact Z161 b)]; exact flat v (by exact Z160 a) (by exact Z161 b)
        have z2 : rowS (mix M M' y) (0 + (y + 1)) d r = [] := rowS_nil fun v a b => by rw [mix_hi (by exact Z160 a)]; exact flat v (by exact Z160 a) (by exact Z161 b)
        have a1 : rowL M' (y + 1 + d) r = rowS M' 0 y r ++ [(q, y)] := by rw [rowL, rowS_app, z1, rowS, Nat.zero_add, hM]; simp [ent]
        have a2 : rowL (mix M M' y) (y + 1 + d) r = rowS M' 0 y r := by rw [rowL, rowS_app, z2, rowS, lo, Nat.zero_add, mix_at]; simp [ent]
        rw [a1, a2]
      refine ⟨if r = L then L + 1 else L, r, c, m, t1, rl, ?_, fun ρ => ?_⟩
      · have := Ins.stop (tn := tn) (w := w) (mks := mks) (b := q) (G := (if r = mks.length then mks ++ [[]] else mks)[r]?.getD []) T hs (by
          rw [m1]
          cases z : (if r = mks.length then mks ++ [[]] else mks)[r]? with
          | some _ => rfl
          | none =>
            have := List.getElem?_eq_none_iff.mp z
            split at this
            · simp at this; exact (Z427 this (by assumption)).elim
            · exact (Z428 hmk this rl (by assumption)).elim)
        rw [rowsL_set o1 o2, m1] at this
        rw [show (!tn && m) = !(tn || !m) by cases tn <;> cases m <;> rfl]
        exact this
      · have hρ : nR M' (y + 1 + d) ρ = nR (mix M M' y) (y + 1 + d) ρ + if ρ = r then 1 else 0 := by
          rw [← rowL_len, ← rowL_len]
          by_cases z : ρ = r
          · subst z; rw [o2, if_pos rfl, List.length_append]; rfl
          · rw [o1 ρ z, if_neg z]; rfl
        have := hL ρ
        rw [hρ]
        split <;> split <;> (first | exact Z162 (by assumption) (by assumption) | exact Z163 this (by assumption) (by assumption) | exact Z164 (by assumption) rl (by assumption) | exact Z165 this)
    · have kl : k < (rowL (mix M M' y) N r).length := by exact Z166 kle hs
      obtain ⟨⟨p, z⟩, hz⟩ : ∃ e, (rowL (mix M M' y) N r)[k]? = some e := ⟨_, List.getElem?_eq_getElem kl⟩
      obtain ⟨z1, z2, z3⟩ := gx.row_get N hz
      have yz : y < z := (cmp k (p, z) hz).mpr (Nat.le_refl _)
      rw [mix_hi yz, ← hc] at z2
      have gz := g z r c p z2
      have rL : r < L := (hL r).mpr (by exact Z167 kl rlen)
      have flat : ∀ v, y < v → v < z → inR (M v) r = 0 := fun v v1 v2 => by
        rw [← mix_hi (M := M) (M' := M') v1]
        exact flat_nR (a := y) (b := z) (by rw [x1, hk]; exact z3) (by exact Z143 v1) v2
      obtain ⟨d, rfl⟩ : ∃ d, z = y + 1 + d := ⟨z - (y + 1), by exact Z158 yz⟩
      obtain ⟨t1, t2⟩ := s.stay hx hH hxy d flat
      have cz := s.cnt hx (y + 1 + d)
      have j1 : ∀ ρ, nR M' (y + 1 + d) ρ = nR M (y + 1 + d + 1) ρ := fun ρ => by rw [cz.1, nR, t1, z2]; rfl
      have j2 : ∀ ρ, nC M' (y + 1 + d) ρ = nC M (y + 1 + d + 1) ρ := fun ρ => by rw [cz.2, nC, t1, z2]; rfl
      have o1 : ∀ ρ, ρ ≠ r → rowL (mix M M' (y + 1 + d)) N ρ = rowL (mix M M' y) N ρ := fun ρ hρ => rowS_congr fun v _ hv => by
        by_cases a : v < y
        · rw [mix_lo a, mix_lo (by exact Z168 a)]
        · by_cases b : v = y
          · subst b; rw [mix_at, mix_lo (by exact Z132), hM]; simp only [ent, if_neg hρ.symm]
          · rw [mix_hi (v := v) (y := y) (by exact Z133 a b)]
            by_cases e : v < y + 1 + d
            · rw [mix_lo e, t2 v (by exact Z133 a b) e]
            · by_cases e' : v = y + 1 + d
              · subst e'; rw [mix_at, z2]; simp only [ent, if_neg hρ.symm]
              · rw [mix_hi (by exact Z169 e e')]
      obtain ⟨j, rfl⟩ : ∃ j, N = y + 1 + d + 1 + j := ⟨N - (y + 1 + d + 1), by exact Z170 z1⟩
      have hi : rowS (mix M M' (y + 1 + d)) (0 + (y + 1 + d + 1)) j r = rowS (mix M M' y) (0 + (y + 1 + d + 1)) j r := rowS_congr fun v a _ => by rw [mix_hi (by exact Z171 a), mix_hi (by exact Z172 a)]
      have mid : rowS (mix M M' y) (0 + (y + 1)) d r = [] := rowS_nil fun v a b => by rw [mix_hi (by exact Z160 a)]; exact flat v (by exact Z160 a) (by exact Z161 b)
      have mid2 : rowS (mix M M' (y + 1 + d)) (0 + (y + 1)) d r = [] := rowS_nil fun v a b => by rw [mix_lo (by exact Z161 b), t2 v (by exact Z160 a) (by exact Z161 b)]; exact flat v (by exact Z160 a) (by exact Z161 b)
      have lo2 : rowS (mix M M' (y + 1 + d)) 0 y r = rowS M' 0 y r := rowS_congr fun v _ hv => by rw [mix_lo (by exact Z173 hv)]
      have fx : rowL (mix M M' y) (y + 1 + d + 1 + j) r = rowS M' 0 y r ++ (p, y + 1 + d) :: rowS (mix M M' y) (0 + (y + 1 + d + 1)) j r := by
        rw [rowL, rowS_app, rowS, rowS_app, mid, rowS, lo, Nat.zero_add, mix_at, Nat.zero_add, mix_hi yz, z2]
        simp [ent]
      have o2 : rowL (mix M M' (y + 1 + d)) (y + 1 + d + 1 + j) r = (rowL (mix M M' y) (y + 1 + d + 1 + j) r).take k ++ (q, y) :: (rowL (mix M M' y) (y + 1 + d + 1 + j) r).drop (k + 1) := by
        rw [fx, ← la, List.take_left, ← List.drop_drop, List.drop_left, rowL, rowS_app, rowS, rowS_app, mid2, rowS, lo2, Nat.zero_add, Nat.zero_add, mix_at, mix_lo yz, hM, ← hi, Nat.zero_add]
        simp [ent]
      have hL2 : ∀ ρ, ρ < L ↔ 0 < nR (mix M M' (y + 1 + d)) (y + 1 + d + 1 + j) ρ := fun ρ => by
        rw [hL ρ, ← rowL_len, ← rowL_len]
        by_cases zz : ρ = r
        · subst zz; rw [o2, fx, ← la]; simp
        · rw [o1 ρ zz]
      have rc : (k == 0) = (r == c) := by rw [hc, Bool.eq_iff_iff]; simp
      have L1 : (if r = L then L + 1 else L) = L := if_neg (by exact Z148 rL)
      have hm1' : (if (!m) = true ∧ at_ = (rowsL (mix M M' y) (y + 1 + d + 1 + j) L).length then mks ++ [[]] else mks) = mks := by rw [m1, hmk, if_neg (by exact Z174 rl1 L1)]
      have go := fun (rows' mks' : List (List Pc)) => Ins.go (rows' := rows') (mks' := mks') (tn := tn) (w := w) (mks := mks) (b := q) T hz
      rw [L1, rowsL_set o1 o2, hm1', rc] at go
      have fin : ∀ (at2 r2 c2 : Nat) (q2 m2 : Bool), M' (y + 1 + d) = some (r2, c2, q2) → H (y + 1 + d + 1) = some (r2, c2, m2) → q2 = (tn && m2) → (m2 = false → r2 = at2 ∧ at2 ≤ L) → (m2 = true → c2 = at2 ∧ r2 < L) → (p || (tn && (r == c))) = q2 →
          (if tn then !(p || (r == c)) else !m && !(r == c)) = !m2 → (if (!m2) = true then r + 1 else r + k + 1) = at2 → ∃ L' r' c' m', H (y + 1 + d + 1 + j) = some (r', c', m') ∧ r' ≤ L ∧ Ins n tn w (rowsL (mix M M' y) (y + 1 + d + 1 + j) L) mks q y (!m) at_ (rowsL M' (y + 1 + d + 1 + j) L') (addM mks r' (!tn && m', w)) ∧ ∀ ρ, ρ < L' ↔ 0 < nR M' (y + 1 + d + 1 + j) ρ := fun at2 r2 c2 q2 m2 a1 a2 a3 a4 a5 a6 a7 a8 => by
        obtain ⟨L', r', c', m', b1, b2, b3, b4⟩ := ins_from s g hx hp hn f (y + 1 + d) (by exact Z175 hf) (by exact Z176 hxy) (by exact Z177) L at2 r2 c2 q2 m2 mks j1 j2 a1 a2 a3 a4 a5 hL2 hmk
        refine ⟨L', r', c', m', b1, b2, go _ _ ?_, b4⟩
        rw [a6, a7, a8]; exact b3
      have pf : tn = false → p = false := fun h => hp h _ _ _ _ z2
      rcases s.cases hx (y + 1 + d) with ⟨e, _⟩ | ⟨_, _, _, h4⟩ | ⟨_, r0, c0, m0, p0, h1, h2, h3⟩
      · exact (Z423 e hxy).elim
      · exact absurd ⟨rfl, rfl⟩ (h4 _ _ _ _ _ _ t1 z2)
      · rw [t1] at h1; rw [z2] at h2; cases h1; cases h2
        rcases h3 with ⟨u1, u2, u3⟩ | ⟨u1, u2, u3⟩
        · refine fin (c + 1) _ _ tn true u2 u3 (by cases tn <;> rfl) (fun h => nomatch h) (fun _ => ⟨rfl, ?_⟩) ?_ ?_ ?_
          · have mm := g.mem (y + 1 + d + 1) r (c + 1)
            rw [nR, z2] at mm
            simp only [inR, if_true] at mm
            rw [j2]
            exact Z429 rl1 mm L1 gz.1
          · cases tn with
            | true => simpa using u1
            | false => rw [pf rfl]; rfl
          · cases tn with
            | true => simp only [if_true] at u1 ⊢; rw [u1]
            | false => simp only [Bool.false_eq_true, if_false] at u1 ⊢; revert u1; cases m <;> cases (r == c) <;> decide
          · show r + k + 1 = c + 1; exact Z178 gM.1 hk
        · refine fin (r + 1) _ _ false false u2 u3 (by cases tn <;> rfl) (fun _ => ⟨rfl, by exact Z179 rl1 L1⟩) (fun h => nomatch h) ?_ ?_ rfl
          · cases tn with
            | true => simpa using u1
            | false => rw [pf rfl]; rfl
          · cases tn with
            | true => simpa using u1
            | false => simp only [Bool.false_eq_true, if_false] at u1 ⊢; revert u1; cases m <;> cases (r == c) <;> decide
end
end Mine
namespace Mine
inductive LaidAll (n : Nat) (tn : Bool) : List Nat → List (List Pc) → List (List Pc) → List (List Pc) → List (List Pc) → Prop
  | nil {rows mks : List (List Pc)} : LaidAll n tn [] rows mks rows mks
  | cons {rows mks rows1 mks1 rows' mks' : List (List Pc)} {w : Nat} {ws : List Nat} : Ins n tn w rows mks false w true 0 rows1 mks1 → LaidAll n tn ws rows1 mks1 rows' mks' → LaidAll n tn (w :: ws) rows mks rows' mks'
theorem LaidAll.snoc {n : Nat} {tn : Bool} {w : Nat} {rows1 mks1 rows2 mks2 : List (List Pc)} (h2 : Ins n tn w rows1 mks1 false w true 0 rows2 mks2) : ∀ {ws : List Nat} {rows mks : List (List Pc)}, LaidAll n tn ws rows mks rows1 mks1 → LaidAll n tn (ws ++ [w]) rows mks rows2 mks2
  | [], _, _, h => by cases h; exact .cons h2 .nil
  | _ :: _, _, _, h => by cases h with | cons a b => exact .cons a (b.snoc h2)
section
variable {tn : Bool} {M M' H : Fil} {x : Nat}
theorem Sweep.below (s : Sweep tn M x M' H) (hx : M x = none) {v : Nat} (h : v < x) : M' v = M v := by
  rcases s.cases hx v with ⟨e, _⟩ | ⟨_, e, _⟩ | ⟨_, _, _, _, _, e, _⟩
  · exact (Z85 h e).elim
  · exact e
  · rw [s.before v (by exact Z143 h)] at e; cases e
theorem Sweep.pres (s : Sweep tn M x M' H) (hx : M x = none) {v : Nat} (h : M' v ≠ none) : M v ≠ none ∨ v = x := by
  rcases s.cases hx v with ⟨e, _⟩ | ⟨_, e, _⟩ | ⟨_, _, _, _, _, _, e, _⟩
  · exact .inr e
  · rw [← e]; exact .inl h
  · rw [e]; exact .inl fun q => nomatch q
theorem Sweep.keep (s : Sweep tn M x M' H) (hx : M x = none) {v : Nat} (h : M v ≠ none) : M' v ≠ none := by
  rcases s.cases hx v with ⟨_, _, e, _⟩ | ⟨_, e, _⟩ | ⟨_, _, _, _, _, _, _, ⟨_, e, _⟩ | ⟨_, e, _⟩⟩
  · exact absurd e h
  · rw [e]; exact h
  all_goals (rw [e]; exact fun q => nomatch q)
theorem Sweep.plain (s : Sweep tn M x M' H) (hx : M x = none) (ht : tn = false) (h : ∀ v r c p, M v = some (r, c, p) → p = false) : ∀ v r c p, M' v = some (r, c, p) → p = false := fun v r c p q => by
  rcases s.cases hx v with ⟨_, _, _, e, _⟩ | ⟨_, e, _⟩ | ⟨_, _, _, _, _, _, _, ⟨_, e, _⟩ | ⟨_, e, _⟩⟩ <;> rw [e] at q
  · cases q; rfl
  · exact h v r c p q
  · cases q; exact ht
  · cases q; rfl
theorem Sweep.zero (s : Sweep tn M x M' H) (hx : M x = none) (h : ∀ r c p, M 0 = some (r, c, p) → p = false) : ∀ r c p, M' 0 = some (r, c, p) → p = false := fun r c p q => by
  rcases s.cases hx 0 with ⟨_, _, _, e, _⟩ | ⟨_, e, _⟩ | ⟨_, _, _, _, _, e, _⟩
  · rw [e] at q; cases q; rfl
  · rw [e] at q; exact h r c p q
  · rw [s.start] at e; cases e
theorem ins_one (s : Sweep tn M x M' H) (g : Good M) (hx : M x = none) (hp : tn = false → ∀ v r c p, M v = some (r, c, p) → p = false) {N n w L : Nat} (hn : N + 1 ≤ n) (hN : x < N) (hL : ∀ ρ, ρ < L ↔ 0 < nR M N ρ) (mks : List (List Pc)) (hm : mks.length = L) :
    ∃ r c m, H N = some (r, c, m) ∧ r ≤ L ∧ Ins n tn w (rowsL M N L) mks false x true 0 (rowsL M' N (if r = L then L + 1 else L)) (addM mks r (!tn && m, w)) := by
  rcases s.cases hx x with ⟨_, h1, _, h2, h3⟩ | ⟨e, _⟩ | ⟨e, _⟩
  · obtain ⟨c1, c2⟩ := s.cnt hx x
    have mx : ∀ v, mix M M' x v = M v := fun v => by
      by_cases a : v < x
      · rw [mix_lo a, s.below hx a]
      · by_cases b : v = x
        · subst b; rw [mix_at, hx]
        · rw [mix_hi (by exact Z133 a b)]
    have e : mix M M' x = M := funext mx
    obtain ⟨L', r, c, m, b1, b2, b3, b4⟩ := ins_from s g hx hp (w := w) hn (N - x) x (Nat.le_refl _) (Nat.le_refl _) hN L 0 0 (nR M' x 0) false false mks (fun ρ => by rw [c1, h1, nR, hx]) (fun ρ => by rw [c2, h1, nC, hx]) h2 h3 (by cases tn <;> rfl) (fun _ => ⟨rfl, Nat.zero_le _⟩) (fun h => nomatch h) (by rw [e]; exact hL) hm
    rw [e] at b3
    have : L' = if r = L then L + 1 else L := by
      have k : ∀ ρ, ρ < L' ↔ ρ < L ∨ ρ = r := fun ρ => by
        rw [b4, (s.cnt hx N).1, b1, hL]
        simp only [inR]
        split <;> (first | exact Z430 (by assumption) | exact Z431 (by assumption))
      have k1 := k L
      have k2 := k L'
      have k3 := k (L' - 1)
      have k4 := k (L - 1)
      have k5 := k r
      split <;> (first | exact Z432 k3 k5 (by assumption) | exact Z433 b2 k3 k4 k5 (by assumption))
    subst this
    exact ⟨r, c, m, b1, b2, b3⟩
  · exact absurd rfl e
  · exact absurd rfl e
end
theorem bx_no {b : Nat × Nat × Bool} (h : (none : Bx) = some b) : False := nomatch h
noncomputable def sA (tn : Bool) (came : Nat → Nat) : Nat → Fil
  | 0 => fun _ => none
  | k + 1 => (Sweep.ex tn (sA tn came k) (came k)).choose
noncomputable def sH (tn : Bool) (came : Nat → Nat) (k : Nat) : Fil := (Sweep.ex tn (sA tn came k) (came k)).choose_spec.choose
theorem sS (tn : Bool) (came : Nat → Nat) (k : Nat) : Sweep tn (sA tn came k) (came k) (sA tn came (k + 1)) (sH tn came k) := (Sweep.ex tn (sA tn came k) (came k)).choose_spec.choose_spec
noncomputable def sT (tn : Bool) (came : Nat → Nat) (N : Nat) : Fil := fun k => (sH tn came k N).map fun t => (t.1, t.2.1, !tn && t.2.2)
noncomputable def mkL (T : Fil) (came : Nat → Nat) (k L : Nat) : List (List Pc) := (List.range L).map fun r => (rowL T k r).map fun e => (e.1, came e.2)
section
variable {tn : Bool} {came : Nat → Nat} {n N m : Nat}
theorem seq_facts (inj : ∀ i j, i < n → j < n → came i = came j → i = j) : ∀ k, k ≤ n → (∀ v, sA tn came k v ≠ none ↔ ∃ j, j < k ∧ v = came j) ∧ Good (sA tn came k) ∧ (tn = false → ∀ v r c p, sA tn came k v = some (r, c, p) → p = false) ∧ ∀ r c p, sA tn came k 0 = some (r, c, p) → p = false
  | 0, _ => ⟨fun v => ⟨fun h => absurd rfl h, fun ⟨_, h, _⟩ => absurd h (Nat.not_lt_zero _)⟩, fun _ _ _ _ h => (bx_no h).elim, fun _ _ _ _ _ h => (bx_no h).elim, fun _ _ _ h => (bx_no h).elim⟩
  | k + 1, hk => by
    obtain ⟨a, b, c, d⟩ := seq_facts inj k (by exact Z49 hk)
    have hx : sA tn came k (came k) = none := Decidable.byContradiction fun h => by
      obtain ⟨j, h1, h2⟩ := (a _).mp h
      have := inj k j (by exact hk) (by exact Z180 h1 hk) h2
      exact Z181 h1 this
    have s := sS tn came k
    refine ⟨fun v => ⟨fun h => ?_, fun ⟨j, h1, h2⟩ => ?_⟩, s.good b hx, fun ht => s.plain hx ht (c ht), s.zero hx d⟩
    · rcases s.pres hx h with h | h
      · obtain ⟨j, h1, h2⟩ := (a _).mp h; exact ⟨j, by exact Z182 h1, h2⟩
      · exact ⟨k, by exact Z183, h⟩
    · by_cases q : j = k
      · subst q h2
        rcases s.cases hx (came j) with ⟨_, _, _, e, _⟩ | ⟨e, _⟩ | ⟨e, _⟩
        · rw [e]; exact fun q => nomatch q
        · exact absurd rfl e
        · exact absurd rfl e
      · exact s.keep hx ((a _).mpr ⟨j, by exact Z115 h1 q, h2⟩)
theorem seq_none (inj : ∀ i j, i < n → j < n → came i = came j → i = j) {k : Nat} (hk : k < n) : sA tn came k (came k) = none := Decidable.byContradiction fun h => by
  obtain ⟨j, h1, h2⟩ := ((seq_facts (tn := tn) inj k (by exact Z143 hk)).1 _).mp h
  have := inj k j (by exact hk) (by exact Z16 h1 hk) h2
  exact Z181 h1 this
theorem mkL_add {T : Fil} {k L r c : Nat} {p : Bool} (hT : T k = some (r, c, p)) (hr : r ≤ L) (h0 : nR T k L = 0) : addM (mkL T came k L) r (p, came k) = mkL T came (k + 1) (if r = L then L + 1 else L) := by
  have len : (mkL T came k L).length = L := by rw [mkL, List.length_map, List.length_range]
  have nl : (rowL T k L) = [] := List.eq_nil_of_length_eq_zero ((rowL_len T L k).trans h0)
  have e : (if r = (mkL T came k L).length then mkL T came k L ++ [[]] else mkL T came k L) = mkL T came k (if r = L then L + 1 else L) := by
    rw [len]
    by_cases q : r = L
    · rw [if_pos q, if_pos q, mkL, mkL, List.range_succ, List.map_append, List.map_singleton, nl]; rfl
    · rw [if_neg q, if_neg q]
  unfold addM
  rw [e]
  have hl : r < (if r = L then L + 1 else L) := by split <;> (first | exact Z149 (by assumption) | exact Z150 hr (by assumption))
  generalize (if r = L then L + 1 else L) = l at hl
  have get : ∀ K i, (mkL T came K l)[i]? = if i < l then some ((rowL T K i).map fun e => (e.1, came e.2)) else none := fun K i => by
    rw [mkL, List.getElem?_map]
    by_cases q : i < l
    · rw [List.getElem?_range q, if_pos q]; rfl
    · rw [List.getElem?_eq_none (by rw [List.length_range]; exact Nat.le_of_not_lt q), if_neg q]; rfl
  apply List.ext_getElem?
  intro i
  rw [get (k + 1)]
  by_cases q : i = r
  · subst q
    rw [List.getElem?_set_self (by rw [mkL, List.length_map, List.length_range]; exact hl), get, if_pos hl, if_pos hl]
    show some ((rowL T k i).map (fun e => (e.1, came e.2)) ++ [(p, came k)]) = some ((rowS T 0 k i ++ ent (T (0 + k)) (0 + k) i).map fun e => (e.1, came e.2))
    rw [Nat.zero_add, hT]
    simp [ent]
  · rw [List.getElem?_set_ne (Ne.symm q), get]
    have : ent (T (0 + k)) (0 + k) i = [] := by rw [Nat.zero_add, hT]; simp only [ent, if_neg (Ne.symm q)]
    rw [show rowL T (k + 1) i = rowL T k i from by show rowS T 0 k i ++ ent (T (0 + k)) (0 + k) i = rowS T 0 k i; rw [this, List.append_nil]]
theorem seq_run (inj : ∀ i j, i < n → j < n → came i = came j → i = j) (hN : ∀ i, i < n → came i < N) (hm : N + 1 ≤ m) : ∀ k, k ≤ n → ∃ L, LaidAll m tn ((List.range k).map came) [] [] (rowsL (sA tn came k) N L) (mkL (sT tn came N) came k L) ∧ (∀ ρ, ρ < L ↔ 0 < nR (sA tn came k) N ρ) ∧ ∀ ρ, nR (sT tn came N) k ρ = nR (sA tn came k) N ρ
  | 0, _ => by
    have z : ∀ ρ v, nR (sA tn came 0) v ρ = 0 := fun ρ v => by induction v with | zero => rfl | succ v ih => rw [nR, ih]; rfl
    exact ⟨0, .nil, fun ρ => by rw [z]; exact Z184, fun ρ => (z ρ N).symm⟩
  | k + 1, hk => by
    obtain ⟨L, h1, h2, h3⟩ := seq_run inj hN hm k (by exact Z49 hk)
    obtain ⟨_, b, c, _⟩ := seq_facts (tn := tn) inj k (by exact Z49 hk)
    have hx := seq_none (tn := tn) inj (show k < n by exact hk)
    obtain ⟨r, c', mm, e1, e2, e3⟩ := ins_one (sS tn came k) b hx c (w := came k) hm (hN k (by exact hk)) h2 (mkL (sT tn came N) came k L) (by rw [mkL, List.length_map, List.length_range])
    have hT : sT tn came N k = some (r, c', !tn && mm) := by rw [sT, e1]; rfl
    rw [mkL_add hT e2 (by rw [h3]; have := (h2 L).mpr; exact Z424 this)] at e3
    have cn := ((sS tn came k).cnt hx N).1
    refine ⟨if r = L then L + 1 else L, ?_, fun ρ => ?_, fun ρ => ?_⟩
    · rw [List.range_succ, List.map_append]; exact h1.snoc e3
    · rw [cn, e1]
      have := h2 ρ
      simp only [inR]
      split <;> split <;> (first | exact Z185 (by assumption) (by assumption) | exact Z186 this (by assumption) (by assumption) | exact Z187 (by assumption) e2 (by assumption) | exact Z165 this)
    · rw [nR, hT, h3, cn, e1]; rfl
end
end Mine
namespace Mine
structure Inv2 (n : Nat) (came ord : Nat → Nat) : Prop where
  c : ∀ i, i < n → came i < n ∧ ord (came i) = i
  o : ∀ v, v < n → ord v < n ∧ came (ord v) = v
section
variable {came ord : Nat → Nat} {n m : Nat}
theorem Inv2.ci (h : Inv2 n came ord) : ∀ i j, i < n → j < n → came i = came j → i = j := fun i j hi hj e => by rw [← (h.c i hi).2, e, (h.c j hj).2]
theorem Inv2.oi (h : Inv2 n came ord) : ∀ i j, i < n → j < n → ord i = ord j → i = j := fun i j hi hj e => by rw [← (h.o i hi).2, e, (h.o j hj).2]
theorem dual_seq (h : Inv2 n came ord) : (∀ v, v < n → sH false ord v n = sA true came n v) ∧ (∀ r, nR (sA true came n) n r = nR (sA false ord n) n r) ∧ ∀ j, j < n → sA false ord n j = strip (sH true came j n) := by
  obtain ⟨a, b, c⟩ := dual (n := n) (A := sA true came) (H := sH true came) (D := sA false ord) (a := sH false ord) (came := came) (ord := ord) (fun _ => rfl) (fun k _ => sS true came k) (fun _ => rfl) (fun k _ => sS false ord k)
    (fun k v hk hv => ⟨fun e => by rw [← e, (h.c k hk).2], fun e => by rw [← e, (h.o v hv).2]⟩) (fun k hk => seq_none h.ci hk) (fun v hv => seq_none h.oi hv) n (Nat.le_refl _)
  exact ⟨a, (b n (Nat.le_refl _)).1, fun j hj => c j n hj (Nat.le_refl _)⟩
theorem rowL_sorted {M : Fil} {r : Nat} : ∀ n, (rowL M n r).Pairwise (fun a b => a.2 < b.2) ∧ ∀ e ∈ rowL M n r, e.2 < n ∧ ∃ c, M e.2 = some (r, c, e.1)
  | 0 => ⟨.nil, fun _ h => nomatch h⟩
  | n + 1 => by
    obtain ⟨i1, i2⟩ := rowL_sorted n (M := M) (r := r)
    show (rowS M 0 n r ++ ent (M (0 + n)) (0 + n) r).Pairwise _ ∧ ∀ e ∈ rowS M 0 n r ++ ent (M (0 + n)) (0 + n) r, _
    rw [Nat.zero_add]
    have k : ∀ e ∈ ent (M n) n r, e.2 = n ∧ ∃ c, M n = some (r, c, e.1) := fun e he => by
      cases hm : M n with
      | none => rw [hm] at he; cases he
      | some b =>
        obtain ⟨x, c, p⟩ := b
        rw [hm] at he
        simp only [ent] at he
        split at he
        · rename_i q; subst q; cases List.mem_singleton.mp he; exact ⟨rfl, c, rfl⟩
        · cases he
    refine ⟨List.pairwise_append.mpr ⟨i1, ?_, fun a ha b hb => by have := (i2 a ha).1; have := (k b hb).1; exact Z15 (by assumption) this⟩, fun e he => ?_⟩
    · cases hm : M n with
      | none => exact .nil
      | some b => obtain ⟨x, c, p⟩ := b; simp only [ent]; split <;> simp
    · rcases List.mem_append.mp he with he | he
      · obtain ⟨a, b⟩ := i2 e he; exact ⟨by exact Z182 a, b⟩
      · obtain ⟨a, b⟩ := k e he; rw [a]; exact ⟨by exact Z183, b⟩
structure Stair (n : Nat) (rows : List (List Pc)) (len : Nat) : Prop where
  row : ∀ (r : Nat) (R : List Pc), rows[r]? = some R → R.Pairwise (fun a b => a.2 < b.2) ∧ ∀ e ∈ R, e.2 < n ∧ (e.2 = 0 → e.1 = false)
  next : ∀ (r : Nat) (R R' : List Pc), rows[r]? = some R' → rows[r + 1]? = some R → R.length + 1 ≤ R'.length ∧ ∀ i e e', R[i]? = some e → R'[i + 1]? = some e' → e'.2 ≤ e.2
  first : 0 < n → ∃ R : List Pc, rows[0]? = some R ∧ R.length = len
theorem Stair.len {len : Nat} {rows : List (List Pc)} (s : Stair n rows len) (h : ∀ R ∈ rows, R.length ≤ n) : ∀ (r : Nat) (R : List Pc), rows[r]? = some R → R.length + r ≤ n
  | 0, R, e => h R (List.mem_of_getElem? e)
  | r + 1, R, e => by
    obtain ⟨R', e'⟩ : ∃ R', rows[r]? = some R' := ⟨_, List.getElem?_eq_getElem (Nat.lt_of_succ_lt (List.getElem?_eq_some_iff.mp e).1)⟩
    have := s.len h r R' e'
    have := (s.next r R R' e' e).1
    exact Z188 this (by assumption)
theorem plain_law (h : Inv2 n came ord) (hm : n + 1 ≤ m) : ∃ rows1 rows2 : List (List Pc), LaidAll m true ((List.range n).map came) [] [] rows1 (rows2.map fun R => R.map fun e => (e.1, came e.2)) ∧ LaidAll m false ((List.range n).map ord) [] [] rows2 (rows1.map fun R => R.map fun e => (e.1, ord e.2)) ∧
    rows1.length = rows2.length ∧ Stair n rows1 (nR (sA false ord n) n 0) ∧ rows1.length ≤ n ∧ (∀ R ∈ rows1, R.length ≤ n) ∧ ∀ R ∈ rows2, R.length ≤ n ∧ ∀ e ∈ R, e.2 < n := by
  obtain ⟨d1, d2, d3⟩ := dual_seq h
  obtain ⟨L1, a1, a2, _⟩ := seq_run (tn := true) h.ci (fun i hi => (h.c i hi).1) hm n (Nat.le_refl _)
  obtain ⟨L2, b1, b2, _⟩ := seq_run (tn := false) h.oi (fun i hi => (h.o i hi).1) hm n (Nat.le_refl _)
  obtain ⟨f1, f2, _, f4⟩ := seq_facts (tn := true) h.ci n (Nat.le_refl _)
  have hL : L1 = L2 := by
    have k : ∀ ρ, ρ < L1 ↔ ρ < L2 := fun ρ => by rw [a2, b2, d2]
    have := k L1; have := k L2; exact Z434 (by assumption) this
  subst hL
  have m1 : mkL (sT true came n) came n L1 = (rowsL (sA false ord n) n L1).map fun R => R.map fun e => (e.1, came e.2) := by
    rw [mkL, rowsL, List.map_map]
    apply List.map_congr_left
    intro r _
    have e : rowL (sT true came n) n r = rowL (sA false ord n) n r := rowS_congr fun v _ hv => by rw [d3 v (by exact Z157 hv)]; rfl
    show (rowL (sT true came n) n r).map _ = (rowL (sA false ord n) n r).map _
    rw [e]
  have m2 : mkL (sT false ord n) ord n L1 = (rowsL (sA true came n) n L1).map fun R => R.map fun e => (e.1, ord e.2) := by
    rw [mkL, rowsL, List.map_map]
    apply List.map_congr_left
    intro r _
    have e : rowL (sT false ord n) n r = rowL (sA true came n) n r := rowS_congr fun v _ hv => by
      rw [← d1 v (by exact Z157 hv), sT]
      cases sH false ord v n <;> rfl
    show (rowL (sT false ord n) n r).map _ = (rowL (sA true came n) n r).map _
    rw [e]
  have rl : ∀ (M : Fil) (R : List Pc), R ∈ rowsL M n L1 → R.length ≤ n := fun M R hR => by
    obtain ⟨r, _, rfl⟩ := List.mem_map.mp hR
    rw [rowL_len]; exact nR_le M r n
  suffices S : Stair n (rowsL (sA true came n) n L1) (nR (sA false ord n) n 0) by
    refine ⟨_, _, m1 ▸ a1, m2 ▸ b1, by rw [rowsL_len, rowsL_len], S, ?_, rl _, fun R hR => ⟨rl _ R hR, ?_⟩⟩
    · rw [rowsL_len]
      cases q : L1 with
      | zero => exact Nat.zero_le _
      | succ l =>
        have lt : l < L1 := by exact Nat.le_of_eq q.symm
        have := S.len (rl _) l _ (rowsL_get lt)
        rw [rowL_len] at this
        have := (a2 l).mp lt
        exact Z189 this (by assumption)
    · obtain ⟨r, _, rfl⟩ := List.mem_map.mp hR
      exact fun e he => ((rowL_sorted n).2 e he).1
  refine ⟨fun r R hR => ?_, fun r R R' hR' hR => ?_, fun h0 => ⟨rowL (sA true came n) n 0, rowsL_get ?_, ?_⟩⟩
  · have lt := (List.getElem?_eq_some_iff.mp hR).1
    rw [rowsL_len] at lt
    rw [rowsL_get lt] at hR; cases hR
    obtain ⟨s1, s2⟩ := rowL_sorted (M := sA true came n) (r := r) n
    exact ⟨s1, fun e he => ⟨(s2 e he).1, fun z => by obtain ⟨c, q⟩ := (s2 e he).2; rw [z] at q; exact f4 _ _ _ q⟩⟩
  · have lt := (List.getElem?_eq_some_iff.mp hR).1
    rw [rowsL_len] at lt
    rw [rowsL_get lt] at hR; cases hR
    rw [rowsL_get (by exact Z53 lt)] at hR'; cases hR'
    refine ⟨?_, fun i e e' he he' => ?_⟩
    · rw [rowL_len, rowL_len]
      obtain ⟨l, hl⟩ : ∃ l, nR (sA true came n) n (r + 1) = l := ⟨_, rfl⟩
      have p := (a2 (r + 1)).mp lt
      have q1 := f2.mem n (r + 1) (r + l)
      have q2 := f2.mem n r (r + l)
      exact Z190 p hl q1 q2
    · obtain ⟨_, v2, _⟩ := f2.row_get n (p := e.1) (v := e.2) he
      obtain ⟨_, w2, _⟩ := f2.row_get n (p := e'.1) (v := e'.2) he'
      have g1 := (f2 _ _ _ _ v2).2
      have g2 := (f2 _ _ _ _ w2).2
      rw [show r + (i + 1) = r + 1 + i by exact Z19] at g2
      apply Decidable.byContradiction
      intro t
      have := nC_mono (sA true came n) (r + 1 + i) (a := e.2 + 1) (b := e'.2) (by exact Nat.lt_of_not_le t)
      rw [nC, v2] at this
      simp only [inC, if_true] at this
      exact Z191 g1 g2 this
  · rw [a2]
    have hv : sA true came n (came 0) ≠ none := (f1 _).mpr ⟨0, h0, rfl⟩
    cases q : sA true came n (came 0) with
    | none => exact absurd q hv
    | some b =>
      obtain ⟨r, c, p⟩ := b
      have g := f2 _ _ _ _ q
      have k1 := nC_mono (sA true came n) c (a := came 0 + 1) (b := n) (by have := (h.c 0 h0).1; exact this)
      rw [nC, q] at k1
      simp only [inC, if_true] at k1
      have k2 := f2.mem n 0 c
      exact Z192 k2 k1
  · rw [rowL_len, d2]
end
end Mine
namespace Mine
noncomputable def bf (up : Bool) (j k : Nat) : Prop := if up then k < j else j < k
noncomputable def inl (up : Bool) (lm k : Nat) : Prop := if up then k < lm else lm ≤ k
noncomputable def lx (up : Bool) (x : Nat) : Nat := if up then x else x + 1
theorem inl_lx {up : Bool} {x k : Nat} : inl up (lx up x) k ↔ bf up x k := by cases up <;> exact Iff.rfl
theorem inl_bf {up : Bool} {lm x k : Nat} (h : inl up lm x) (b : bf up x k) : inl up lm k := by cases up <;> simp only [inl, bf] at * <;> simp at * <;> (first | exact Z193 h b | exact Z16 b h)
theorem bf_irr {up : Bool} {k : Nat} (h : bf up k k) : False := by cases up <;> exact absurd h (Nat.lt_irrefl _)
inductive Ch (came : Nat → Nat) (up : Bool) (v lm : Nat) : Nat → Nat → Prop
  | one {k : Nat} : inl up lm k → came k < v → Ch came up v lm k 1
  | more {j k l : Nat} : Ch came up v lm j l → bf up j k → came k < came j → Ch came up v lm k (l + 1)
section
variable {came ord : Nat → Nat} {n v a b x k l : Nat} {up : Bool} {lm : Nat}
theorem Ch.low (h : Ch came up v lm k l) : inl up lm k ∧ came k < v ∧ 1 ≤ l := by
  induction h with
  | one a b => exact ⟨a, b, Nat.le_refl _⟩
  | more _ c d ih => exact ⟨inl_bf ih.1 c, by exact Z16 d ih.2.1, by exact Z47 ih.2.2⟩
theorem Ch.wk (h : Ch came up v lm k l) : Ch came up (v + 1) lm k l := by
  induction h with
  | one a b => exact .one a (by exact Z182 b)
  | more _ c d ih => exact .more ih c d
theorem Ch.add (h : Ch came up v (lx up x) k l) (hx : came x = v) (hl : inl up lm x) : Ch came up (v + 1) lm k (l + 1) := by
  induction h with
  | one a b => exact .more (.one hl (by exact Z149 hx)) (inl_lx.mp a) (by exact Z15 b hx)
  | more _ c d ih => exact .more ih c d
theorem Ch.back (h : Ch came up (v + 1) lm k l) (hx : came x = v) (inj : ∀ j, j < n → came j = v → j = x) (hn : up = true → lm ≤ n) : k < n →
    (k = x → l = 1 ∧ inl up lm x) ∧ (k ≠ x → Ch came up v lm k l ∨ (inl up lm x ∧ bf up x k ∧ ∃ l', l = l' + 1 ∧ Ch came up v (lx up x) k l')) := by
  induction h with
  | @one k a b => exact fun hk => ⟨fun e => ⟨rfl, e ▸ a⟩, fun e => .inl (.one a (by have : came k ≠ v := fun q => e (inj k hk q); exact Z194 b this))⟩
  | @more j k l h c d ih =>
    intro hk
    have hj : j < n := by
      have := h.low.1
      cases up with
      | true => have := hn rfl; simp only [inl, if_true] at *; exact Z195 this (by assumption)
      | false => simp only [bf] at c; simp at c; exact Z16 c hk
    obtain ⟨i1, i2⟩ := ih hj
    refine ⟨fun e => ?_, fun e => ?_⟩
    · subst e
      have := h.low.2.1
      have : came j = v := by exact Z196 this d hx
      have := inj j hj this
      subst this
      exact (bf_irr c).elim
    · by_cases q : j = x
      · subst q
        obtain ⟨rfl, h2⟩ := i1 rfl
        exact .inr ⟨h2, c, 1, rfl, .one (inl_lx.mpr c) (by exact Z105 d hx)⟩
      · rcases i2 q with h | ⟨h1, h2, l', rfl, h3⟩
        · exact .inl (.more h c d)
        · refine .inr ⟨h1, ?_, l' + 1, rfl, .more h3 c d⟩
          cases up <;> simp only [bf] at * <;> simp at * <;> (first | exact Z16 h2 c | exact Z16 c h2)
noncomputable def VV (came : Nat → Nat) (v a b t : Nat) : Prop := t = 0 ∨ ∃ k p q, a ≤ k ∧ k < b ∧ Ch came false v a k p ∧ Ch came true v b k q ∧ t + 1 = p + q
noncomputable def MaxOf (P : Nat → Prop) (m : Nat) : Prop := P m ∧ ∀ t, P t → t ≤ m
noncomputable def Mab (ord : Nat → Nat) : Nat → Nat → Nat → Nat
  | 0, _, _ => 0
  | v + 1, a, b => if a ≤ ord v ∧ ord v < b then max (Mab ord v a b) (1 + max (Mab ord v (ord v + 1) b) (Mab ord v a (ord v))) else Mab ord v a b
theorem Mab_max (h : Inv2 n came ord) : ∀ v, v ≤ n → ∀ a b, b ≤ n → MaxOf (VV came v a b) (Mab ord v a b)
  | 0, _, a, b, _ => ⟨.inl rfl, fun t ht => by
      rcases ht with rfl | ⟨k, p, q, _, _, h1, _⟩
      · exact Nat.le_refl _
      · exact absurd h1.low.2.1 (Nat.not_lt_zero _)⟩
  | v + 1, hv, a, b, hb => by
    obtain ⟨ho1, ho2⟩ := h.o v (by exact hv)
    have inj : ∀ j, j < n → came j = v → j = ord v := fun j hj e => by rw [← e, (h.c j hj).2]
    obtain ⟨m1, m2⟩ := Mab_max h v (by exact Z49 hv) a b hb
    obtain ⟨l1, l2⟩ := Mab_max h v (by exact Z49 hv) (ord v + 1) b hb
    obtain ⟨r1, r2⟩ := Mab_max h v (by exact Z49 hv) a (ord v) (by exact Z143 ho1)
    have up : ∀ t, VV came v a b t → VV came (v + 1) a b t := fun t ht => ht.imp id fun ⟨k, p, q, h1, h2, h3, h4, h5⟩ => ⟨k, p, q, h1, h2, h3.wk, h4.wk, h5⟩
    have back : ∀ t, VV came (v + 1) a b t → VV came v a b t ∨ (a ≤ ord v ∧ ord v < b ∧ ∃ t', t = t' + 1 ∧ (VV came v (ord v + 1) b t' ∨ VV came v a (ord v) t')) := fun t ht => by
      rcases ht with rfl | ⟨k, p, q, h1, h2, h3, h4, h5⟩
      · exact .inl (.inl rfl)
      · obtain ⟨f1, f2⟩ := h3.back ho2 inj (fun e => nomatch e) (by exact Z195 h2 hb)
        obtain ⟨g1, g2⟩ := h4.back ho2 inj (fun _ => hb) (by exact Z195 h2 hb)
        by_cases e : k = ord v
        · obtain ⟨rfl, _⟩ := f1 e
          obtain ⟨rfl, _⟩ := g1 e
          exact .inr ⟨by exact Z197 h1 e, by exact Z198 h2 e, 0, by exact Z199 h5, .inl (.inl rfl)⟩
        · rcases f2 e with f | ⟨a1, a2, p', rfl, a3⟩ <;> rcases g2 e with g | ⟨b1, b2, q', rfl, b3⟩
          · exact .inl (.inr ⟨k, p, q, h1, h2, f, g, h5⟩)
          · simp only [inl, bf, if_true] at b1 b2
            exact .inr ⟨by exact Z193 h1 b2, b1, t - 1, by have := h3.low.2.2; have := b3.low.2.2; exact Z200 (by assumption) this h5, .inr (.inr ⟨k, p, q', h1, b2, f, b3, by have := h3.low.2.2; have := b3.low.2.2; exact Z201 (by assumption) this h5⟩)⟩
          · simp only [inl, bf, Bool.false_eq_true, if_false] at a1 a2
            exact .inr ⟨a1, by exact Z16 a2 h2, t - 1, by have := h4.low.2.2; have := a3.low.2.2; exact Z202 this (by assumption) h5, .inl (.inr ⟨k, p', q, a2, h2, a3, g, by have := h4.low.2.2; have := a3.low.2.2; exact Z203 this (by assumption) h5⟩)⟩
          · simp only [bf, if_true, Bool.false_eq_true, if_false] at a2 b2; exact (Z435 a2 b2).elim
    have down : a ≤ ord v → ord v < b → ∀ t, (VV came v (ord v + 1) b t ∨ VV came v a (ord v) t) → VV came (v + 1) a b (t + 1) := fun ha hb' t ht => by
      have one : VV came (v + 1) a b 1 := .inr ⟨ord v, 1, 1, ha, hb', .one ha (by exact Z149 ho2), .one hb' (by exact Z149 ho2), rfl⟩
      rcases ht with (rfl | ⟨k, p, q, h1, h2, h3, h4, h5⟩) | rfl | ⟨k, p, q, h1, h2, h3, h4, h5⟩
      · exact one
      · exact .inr ⟨k, p + 1, q, by exact Z156 ha h1, h2, Ch.add (up := false) h3 ho2 ha, h4.wk, by exact Z204 h5⟩
      · exact one
      · exact .inr ⟨k, p, q + 1, h1, by exact Z16 h2 hb', h3.wk, Ch.add (up := true) h4 ho2 hb', by exact Z205 h5⟩
    unfold Mab
    split
    · rename_i c
      refine ⟨?_, fun t ht => ?_⟩
      · rcases Nat.le_total (Mab ord v a b) (1 + max (Mab ord v (ord v + 1) b) (Mab ord v a (ord v))) with q | q
        · rw [Nat.max_eq_right q, Nat.add_comm 1]
          refine down c.1 c.2 _ ?_
          rcases Nat.le_total (Mab ord v (ord v + 1) b) (Mab ord v a (ord v)) with w | w
          · rw [Nat.max_eq_right w]; exact .inr r1
          · rw [Nat.max_eq_left w]; exact .inl l1
        · rw [Nat.max_eq_left q]; exact up _ m1
      · rcases back t ht with y | ⟨_, _, t', rfl, y | y⟩
        · have := m2 t y; exact Z436 this
        · have := l2 t' y; exact Z437 this
        · have := r2 t' y; exact Z438 this
    · rename_i c
      refine ⟨up _ m1, fun t ht => ?_⟩
      rcases back t ht with y | ⟨c1, c2, _⟩
      · exact m2 t y
      · exact absurd ⟨c1, c2⟩ c
noncomputable def FSpec (came : Nat → Nat) (n : Nat) (up : Bool) (f : Nat → Nat) : Prop := ∀ k, k < n → ∃ x, f k = 1 + x ∧ (x = 0 ∨ ∃ j, j < n ∧ bf up j k ∧ came k < came j ∧ x = f j) ∧ ∀ j, j < n → bf up j k → came k < came j → f j ≤ x
theorem FSpec.max {f : Nat → Nat} (h : Inv2 n came ord) (hf : FSpec came n up f) : ∀ d k, k < n → (if up then n - k else k + 1) ≤ d → MaxOf (Ch came up n (if up then n else 0) k) (f k)
  | 0, k, hk, hd => by cases up <;> simp at hd; exact (Z439 hd hk).elim
  | d + 1, k, hk, hd => by
    obtain ⟨x, e, h1, h2⟩ := hf k hk
    have nx : ∀ j, j < n → bf up j k → MaxOf (Ch came up n (if up then n else 0) j) (f j) := fun j hj b => FSpec.max h hf d j hj (by cases up <;> simp only [bf] at b <;> simp at b hd ⊢ <;> (first | exact Z145 b hd | exact Z206 hd b))
    have i0 : ∀ j, j < n → inl up (if up then n else 0) j := fun j hj => by cases up; exact Nat.zero_le _; exact hj
    refine ⟨?_, fun t ht => ?_⟩
    · rcases h1 with rfl | ⟨j, hj, b, c, rfl⟩
      · rw [e]; exact .one (i0 k hk) (h.c k hk).1
      · rw [e, Nat.add_comm]; exact .more (nx j hj b).1 b c
    · cases ht with
      | one => exact Z207 e
      | @more j _ l g b c =>
        have hj : j < n := by
          have := g.low.1
          cases up with
          | true => simpa [inl] using this
          | false => simp only [bf] at b; simp at b; exact Z16 b hk
        have := (nx j hj b).2 _ g
        have := h2 j hj b c
        exact Z208 (by assumption) e this
theorem longest {f g : Nat → Nat} (h : Inv2 n came ord) (hf : FSpec came n false f) (hg : FSpec came n true g) (h0 : 0 < n) : (∃ k, k < n ∧ f k + g k = Mab ord n 0 n + 1) ∧ ∀ k, k < n → f k + g k ≤ Mab ord n 0 n + 1 := by
  obtain ⟨m1, m2⟩ := Mab_max h n (Nat.le_refl _) 0 n (Nat.le_refl _)
  have a : ∀ k, k < n → f k + g k ≤ Mab ord n 0 n + 1 := fun k hk => by
    have q1 := (hf.max h (k + 1) k hk (Nat.le_refl _)).1
    have q2 := (hg.max h (n - k) k hk (Nat.le_refl _)).1
    have := m2 (f k + g k - 1) (.inr ⟨k, f k, g k, Nat.zero_le _, hk, q1, q2, by have := q1.low.2.2; exact Z209 this⟩)
    exact Z210 this
  refine ⟨?_, a⟩
  rcases m1 with e | ⟨k, p, q, _, hk, h1, h2, h3⟩
  · have q1 := (hf.max h 1 0 h0 (Nat.le_refl _)).1
    have q2 := (hg.max h n 0 h0 (Nat.le_refl _)).1
    have := a 0 h0
    have := q1.low.2.2; have := q2.low.2.2
    exact ⟨0, h0, by exact Z211 (by assumption) this (by assumption) e⟩
  · have := (hf.max h (k + 1) k hk (Nat.le_refl _)).2 p h1
    have := (hg.max h (n - k) k hk (Nat.le_refl _)).2 q h2
    have := a k hk
    exact ⟨k, hk, by exact Z212 this h3 (by assumption) (by assumption)⟩
end
end Mine
namespace Mine
noncomputable def cR (l : List (Nat × Nat)) (r : Nat) : Nat := l.foldr (fun b t => if b.1 = r then t + 1 else t) 0
noncomputable def cC (l : List (Nat × Nat)) (c : Nat) : Nat := l.foldr (fun b t => if b.2 = c then t + 1 else t) 0
noncomputable def cgo : List (Nat × Nat) → List (Nat × Nat) → Nat → Nat → Bool → List (Nat × Nat)
  | [], acc, _, _, _ => acc
  | (r', c') :: rest, acc, r, c, m => if r = r' ∧ c = c' then (if m || r == c then cgo rest (acc ++ [(cC acc (c + 1), c + 1)]) (cC acc (c + 1)) (c + 1) true else cgo rest (acc ++ [(r + 1, r + 1 + cR acc (r + 1))]) (r + 1) (r + 1 + cR acc (r + 1)) false)
    else cgo rest (acc ++ [(r', c')]) r c m
noncomputable def cIns (T : List (Nat × Nat)) (i : Nat) : List (Nat × Nat) := cgo (T.drop i) (T.take i ++ [(0, cR (T.take i) 0)]) 0 (cR (T.take i) 0) false
noncomputable def wg (W : List (List Nat)) (a b : Nat) : Nat := (W.getD a []).getD b 0
noncomputable def wstep (W : List (List Nat)) (m i : Nat) : List (List Nat) := (List.range (m + 2)).map fun a => (List.range (m + 2)).map fun b =>
  if a ≤ i ∧ i < b then max (wg W a (b - 1)) (1 + max (wg W i (b - 1)) (wg W a i)) else wg W (if a ≤ i then a else a - 1) (if b ≤ i then b else b - 1)
noncomputable abbrev St := List (Nat × Nat) × List (List Nat)
noncomputable def stepS (m : Nat) (s : St) (i : Nat) : St := (cIns s.1 i, wstep s.2 m i)
noncomputable def addS (l : List St) (s : St) : List St := if l.contains s then l else s :: l
noncomputable def lev : Nat → List St
  | 0 => [([], [[0]])]
  | m + 1 => ((lev m).flatMap fun s => (List.range (m + 1)).map (stepS m s)).foldl addS []
noncomputable def chk (m : Nat) : Bool := (lev m).all fun s => (List.range (m + 1)).all fun i => wg (stepS m s i).2 0 (m + 1) == cR (stepS m s i).1 0
theorem chks : (List.range 8).all chk = true := by decide +kernel
theorem mem_addS {s t : St} : ∀ {l : List St}, s ∈ l ∨ s = t → s ∈ addS l t := fun {l} h => by
  unfold addS
  by_cases c : l.contains t = true
  · rw [if_pos c]
    rcases h with h | rfl
    · exact h
    · exact List.contains_iff_mem.mp c
  · rw [if_neg c]
    rcases h with h | rfl
    · exact .tail _ h
    · exact .head _
theorem mem_foldS {s : St} : ∀ {l acc : List St}, s ∈ l ∨ s ∈ acc → s ∈ l.foldl addS acc
  | [], _, h => h.elim (fun q => nomatch q) id
  | t :: l, acc, h => by
    rw [List.foldl_cons]
    refine mem_foldS ?_
    rcases h with h | h
    · rcases List.mem_cons.mp h with h | h
      · exact .inr (mem_addS (.inr h))
      · exact .inl h
    · exact .inr (mem_addS (.inl h))
noncomputable def one (b : Bx) : List (Nat × Nat) := match b with | some (r, c, _) => [(r, c)] | none => []
noncomputable def cl (M : Fil) : Nat → List (Nat × Nat)
  | 0 => []
  | k + 1 => cl M k ++ one (M k)
noncomputable def cls (M : Fil) : Nat → Nat → List (Nat × Nat)
  | _, 0 => []
  | k, d + 1 => one (M k) ++ cls M (k + 1) d
theorem cl_app (M : Fil) : ∀ d k, cl M (k + d) = cl M k ++ cls M k d
  | 0, k => (List.append_nil _).symm
  | d + 1, k => by rw [show k + (d + 1) = k + 1 + d by exact Z19, cl_app M d (k + 1), cl, List.append_assoc]; rfl
theorem cR_app (r : Nat) (m : List (Nat × Nat)) : ∀ l, cR (l ++ m) r = cR l r + cR m r
  | [] => (Nat.zero_add _).symm
  | b :: l => by
    show (if b.1 = r then cR (l ++ m) r + 1 else cR (l ++ m) r) = (if b.1 = r then cR l r + 1 else cR l r) + _
    rw [cR_app r m l]; split <;> (first | exact Z213 | exact Z214)
theorem cC_app (r : Nat) (m : List (Nat × Nat)) : ∀ l, cC (l ++ m) r = cC l r + cC m r
  | [] => (Nat.zero_add _).symm
  | b :: l => by
    show (if b.2 = r then cC (l ++ m) r + 1 else cC (l ++ m) r) = (if b.2 = r then cC l r + 1 else cC l r) + _
    rw [cC_app r m l]; split <;> (first | exact Z213 | exact Z214)
theorem cl_cnt (M : Fil) (r : Nat) : ∀ k, cR (cl M k) r = nR M k r ∧ cC (cl M k) r = nC M k r
  | 0 => ⟨rfl, rfl⟩
  | k + 1 => by
    rw [cl, cR_app, cC_app, (cl_cnt M r k).1, (cl_cnt M r k).2, nR, nC]
    cases M k with
    | none => exact ⟨rfl, rfl⟩
    | some b => exact ⟨by simp [one, cR, inR], by simp [one, cC, inC]⟩
section
variable {M M' H : Fil} {x : Nat}
theorem cgo_run (s : Sweep false M x M' H) (hx : M x = none) : ∀ d k r c m, x < k → H k = some (r, c, m) → cgo (cls M k d) (cl M' k) r c m = cl M' (k + d)
  | 0, k, r, c, m, _, _ => rfl
  | d + 1, k, r, c, m, hk, hh => by
    have f1 := (cl_cnt M' (r + 1) k).1
    have f2 := (cl_cnt M' (c + 1) k).2
    rw [show k + (d + 1) = k + 1 + d by exact Z19, cls]
    rcases s.cases hx k with ⟨e, _⟩ | ⟨_, h1, h2, h3⟩ | ⟨_, r0, c0, m0, p0, h1, h2, h3⟩
    · exact (Z181 hk e).elim
    · rw [← cgo_run s hx d (k + 1) r c m (by exact Z182 hk) (by rw [h2, hh]), cl, h1]
      cases hm : M k with
      | none => rw [show one none = [] from rfl, List.append_nil]; rfl
      | some b =>
        obtain ⟨r', c', p⟩ := b
        show cgo ((r', c') :: cls M (k + 1) d) _ _ _ _ = _
        rw [cgo, if_neg (h3 _ _ _ _ _ _ hh hm)]
        rfl
    · rw [hh] at h1; cases h1
      rw [h2]
      show cgo ((r, c) :: cls M (k + 1) d) _ _ _ _ = _
      rw [cgo, if_pos ⟨rfl, rfl⟩, f1, f2]
      simp only [Bool.false_eq_true, if_false] at h3
      rcases h3 with ⟨u1, u2, u3⟩ | ⟨u1, u2, u3⟩
      · rw [if_pos u1, ← cgo_run s hx d (k + 1) _ _ _ (by exact Z182 hk) u3, cl, u2]; rfl
      · rw [if_neg (by rw [u1]; decide), ← cgo_run s hx d (k + 1) _ _ _ (by exact Z182 hk) u3, cl, u2]; rfl
theorem cl_below (s : Sweep false M x M' H) (hx : M x = none) : ∀ k, k ≤ x → cl M' k = cl M k
  | 0, _ => rfl
  | k + 1, h => by rw [cl, cl, cl_below s hx k (by exact Z49 h), s.below hx (by exact h)]
theorem cl_ins (s : Sweep false M x M' H) (hx : M x = none) {n : Nat} (hn : x < n) : cl M' n = cIns (cl M n) (cl M x).length := by
  obtain ⟨d, rfl⟩ : ∃ d, n = x + 1 + d := ⟨n - (x + 1), by exact Z158 hn⟩
  have e : cl M (x + 1 + d) = cl M x ++ cls M (x + 1) d := by rw [cl_app, cl, hx]; show (cl M x ++ []) ++ _ = _; rw [List.append_nil]
  rcases s.cases hx x with ⟨_, h1, _, h2, h3⟩ | ⟨q, _⟩ | ⟨q, _⟩
  · rw [e, cIns, List.drop_left, List.take_left, ← cgo_run s hx d (x + 1) _ _ _ (Nat.lt_succ_self x) h3]
    have z : cR (cl M x) 0 = nR M' x 0 := by rw [(cl_cnt M 0 x).1, (s.cnt hx x).1, h1]; rfl
    rw [z, cl, cl_below s hx x (Nat.le_refl _), h2]
    rfl
  · exact absurd rfl q
  · exact absurd rfl q
theorem one_len (b : Bx) : (one b).length = if b = none then 0 else 1 := by cases b <;> rfl
theorem cl_len (s : Sweep false M x M' H) (hx : M x = none) : ∀ a, (cl M' a).length = (cl M a).length + if x < a then 1 else 0
  | 0 => rfl
  | a + 1 => by
    rw [cl, cl, List.length_append, List.length_append, cl_len s hx a, one_len, one_len]
    by_cases q : a = x
    · subst q
      rcases s.cases hx a with ⟨_, _, _, h2, _⟩ | ⟨q, _⟩ | ⟨q, _⟩
      · rw [h2, hx]; simp
      · exact absurd rfl q
      · exact absurd rfl q
    · have : (M' a = none) ↔ (M a = none) := ⟨fun h => Decidable.byContradiction fun t => s.keep hx t h, fun h => Decidable.byContradiction fun t => (s.pres hx t).elim (fun k => k h) q⟩
      simp only [this]
      split <;> split <;> split <;> (first | exact Z215 | exact Z216 (by assumption) (by assumption) | exact Z217 | exact Z218 (by assumption) (by assumption) | exact Z219 (by assumption) (by assumption) q | exact Z220 | exact Z221 (by assumption) (by assumption) q | exact Z222)
end
theorem getD_rm {α : Type} {f : Nat → α} {n a : Nat} {d : α} (h : a < n) : ((List.range n).map f).getD a d = f a := by
  rw [List.getD_eq_getElem?_getD, List.getElem?_map, List.getElem?_range h]; rfl
theorem wg_step {W : List (List Nat)} {m i a b : Nat} (ha : a < m + 2) (hb : b < m + 2) : wg (wstep W m i) a b = if a ≤ i ∧ i < b then max (wg W a (b - 1)) (1 + max (wg W i (b - 1)) (wg W a i)) else wg W (if a ≤ i then a else a - 1) (if b ≤ i then b else b - 1) := by
  rw [wg, wstep, getD_rm ha, getD_rm hb]
theorem cl_mono (M : Fil) {a b : Nat} (h : a ≤ b) : (cl M a).length ≤ (cl M b).length := by
  induction h with
  | refl => exact Nat.le_refl _
  | step _ ih => rw [cl, List.length_append]; exact Nat.le_trans ih (Nat.le_add_right _ _)
theorem first_len {came ord : Nat → Nat} {n : Nat} (h : Inv2 n came ord) (h0 : 0 < n) (h8 : n ≤ 8) : nR (sA false ord n) n 0 = Mab ord n 0 n := by
  have run : ∀ v, v ≤ n → (∀ a, (cl (sA false ord v) a).length ≤ v) ∧ ∃ s ∈ lev v, s.1 = cl (sA false ord v) n ∧ ∀ a b, a ≤ b → b ≤ n → wg s.2 (cl (sA false ord v) a).length (cl (sA false ord v) b).length = Mab ord v a b := fun v => by
    induction v with
    | zero =>
      intro _
      have z : ∀ a, cl (sA false ord 0) a = [] := fun a => by induction a with | zero => rfl | succ a ih => rw [cl, ih]; rfl
      exact ⟨fun a => by rw [z]; exact Nat.le_refl _, _, .head _, (z n).symm, fun a b _ _ => by rw [z, z]; rfl⟩
    | succ v ih =>
      intro hv
      obtain ⟨lv, s, hs, e1, e2⟩ := ih (by exact Z49 hv)
      have hx := seq_none (tn := false) h.oi (show v < n by exact hv)
      have S := sS false ord v
      have ho := (h.o v (by exact hv)).1
      have len := cl_len S hx
      refine ⟨fun a => by rw [len]; have := lv a; split <;> (first | exact Z9 this | exact Z223 this), stepS v s (cl (sA false ord v) (ord v)).length, mem_foldS (.inl (List.mem_flatMap.mpr ⟨s, hs, List.mem_map.mpr ⟨_, List.mem_range.mpr (by have := lv (ord v); exact Z224 this), rfl⟩⟩)), ?_, fun a b hab hb => ?_⟩
      · rw [cl_ins S hx ho, ← e1]; rfl
      · have l1 := lv a
        have l2 := lv b
        have la := len a
        have lb := len b
        have lx1 : (cl (sA false ord v) (ord v + 1)).length = (cl (sA false ord v) (ord v)).length := by rw [cl, hx]; simp [one]
        show wg (wstep s.2 v _) _ _ = _
        rw [wg_step (by rw [la]; split <;> (first | exact Z225 l1 | exact Z226 l1)) (by rw [lb]; split <;> (first | exact Z225 l2 | exact Z226 l2)), Mab, la, lb]
        by_cases c : a ≤ ord v ∧ ord v < b
        · have m1 := cl_mono (sA false ord v) c.1
          have m2 := cl_mono (sA false ord v) (show ord v + 1 ≤ b from c.2)
          rw [if_neg (show ¬ ord v < a by exact Z227 c.1), if_pos c.2, if_pos c, Nat.add_zero, Nat.add_sub_cancel, if_pos (by exact Z228 m1 lx1 m2), e2 a b hab hb, ← lx1, e2 (ord v + 1) b (by exact c.2) hb, lx1, e2 a (ord v) c.1 (by exact Z143 ho)]
        · rw [if_neg c]
          by_cases c1 : ord v < a
          · have m1 := cl_mono (sA false ord v) (show ord v + 1 ≤ a from c1)
            rw [if_pos c1, if_pos (show ord v < b by exact Z195 c1 hab), if_neg (by exact Z229 lx1 m1), if_neg (by exact Z230 lx1 m1), if_neg (by have := cl_mono (sA false ord v) hab; exact Z231 lx1 m1 this), Nat.add_sub_cancel, Nat.add_sub_cancel, e2 a b hab hb]
          · have c2 : ¬ ord v < b := fun q => c ⟨by exact Nat.le_of_not_lt c1, q⟩
            have m1 := cl_mono (sA false ord v) (show b ≤ ord v by exact Nat.le_of_not_lt c2)
            have m2 := cl_mono (sA false ord v) hab
            rw [if_neg c1, if_neg c2, Nat.add_zero, Nat.add_zero, if_neg (by exact Z232 m1), if_pos (by exact Z70 m2 m1), if_pos (by exact m1), e2 a b hab hb]
  obtain ⟨m, rfl⟩ : ∃ m, n = m + 1 := ⟨n - 1, by exact Z233 h0⟩
  obtain ⟨lv, s, hs, e1, e2⟩ := run m (by exact Z20)
  have hx := seq_none (tn := false) h.oi (show m < m + 1 by exact Z183)
  have S := sS false ord m
  have ho := (h.o m (by exact Z183)).1
  have ck := List.all_eq_true.mp (List.all_eq_true.mp (List.all_eq_true.mp chks m (List.mem_range.mpr (by exact h8))) s hs) (cl (sA false ord m) (ord m)).length (List.mem_range.mpr (by have := lv (ord m); exact Z224 this))
  obtain ⟨_, _⟩ := run (m + 1) (Nat.le_refl _)
  have ck := eq_of_beq ck
  have len := cl_len S hx
  have t : cR (stepS m s (cl (sA false ord m) (ord m)).length).1 0 = nR (sA false ord (m + 1)) (m + 1) 0 := by
    rw [← (cl_cnt _ 0 _).1, cl_ins S hx ho, ← e1]; rfl
  have lx1 : (cl (sA false ord m) (ord m + 1)).length = (cl (sA false ord m) (ord m)).length := by rw [cl, hx]; simp [one]
  have full : (cl (sA false ord m) (m + 1)).length = m := by
    have k : ∀ v, v ≤ m + 1 → (cl (sA false ord v) (m + 1)).length = v := fun v => by
      induction v with
      | zero => intro _; exact Nat.le_zero.mp ((run 0 (by exact Z234)).1 _)
      | succ v ih => intro hv; rw [cl_len (sS false ord v) (seq_none (tn := false) h.oi (show v < m + 1 by exact hv)), ih (by exact Z235 hv), if_pos (h.o v (by exact hv)).1]
    exact k m (by exact Z20)
  rw [← t, ← ck]
  show wg (wstep s.2 m _) 0 (m + 1) = _
  have z : (cl (sA false ord m) 0).length = 0 := rfl
  rw [wg_step (by exact Z236) (by exact Z237), if_pos ⟨Nat.zero_le _, by have := lv (ord m); exact Z224 this⟩, Mab, if_pos ⟨Nat.zero_le _, ho⟩, Nat.add_sub_cancel, ← e2 0 (m + 1) (Nat.zero_le _) (Nat.le_refl _), ← e2 (ord m + 1) (m + 1) (by exact ho) (Nat.le_refl _), ← e2 0 (ord m) (Nat.zero_le _) (by exact Z238 ho), full, lx1, z]
end Mine
namespace Mine
open PySem PySem.W PySem.W.X PySem.Calls PyProof.Rows
noncomputable def st (i : Nat) : Stmt := (PySem.Challenge.pw_ux0022_01.main.body[i]?).getD (.Pass ⟨0, 0, 0, 0⟩)
noncomputable def pw : Program := { PySem.Challenge.pw_ux0022_01 with main := { PySem.Challenge.pw_ux0022_01.main with body := [st 0, st 1, st 2, st 3, st 4, st 5, st 6, st 7, st 8, st 9, st 10, st 11, st 12, st 13, st 14, st 15, st 16, st 17, st 18, st 19, st 20, st 21, st 22, st 23, st 24, st 25, st 26, st 27, st 28, st 29, st 30, st 31, st 32, st 33, st 34, st 35, st 36, st 37, st 38, st 39, st 40, st 41, st 42, st 43, st 44, st 45, st 46, st 47, st 48, st 49, st 50, st 51, st 52, st 53, st 54, st 55, st 56, st 57, st 58, st 59, st 60, st 61, st 62, st 63, st 64, st 65, st 66] } }
noncomputable def viewQ : Program := { pw with main := { pw.main with body := [st 66] } }
noncomputable def row : OpenLaw := { PySem.Challenge.rw_ux0022_01 with prog := pw }
noncomputable def cBody : Stmt → List Stmt | .ClassDef (body := b) .. => b | _ => []
noncomputable def fName : Stmt → Str | .FunctionDef n _ _ _ _ _ _ _ _ _ => n | _ => ⟨#[]⟩
noncomputable def fPar : Stmt → Arguments | .FunctionDef _ a _ _ _ _ _ _ _ _ => a | _ => ⟨[], [], none, [], [], none, []⟩
noncomputable def fBody : Stmt → List Stmt | .FunctionDef _ _ b _ _ _ _ _ _ _ => b | _ => []
noncomputable def fScope : Stmt → Scope | .FunctionDef _ _ _ _ _ _ s _ _ _ => s | _ => default
noncomputable def mt (i : Nat) : Stmt := ((cBody (st 6))[i]?).getD (.Pass ⟨0, 0, 0, 0⟩)
noncomputable abbrev dE (P : Params) (k : Str) (t : Nat) (v : Value) : DictEntry := ⟨PyData.keyHash P k, .str k t, v⟩
noncomputable abbrev fnD (s : Stmt) (q : Str) (df kd md : Value) (code : Addr) (clo : List (Str × Addr)) (ct : Value) : FuncData :=
  { name := fName s, qualname := q, params := fPar s, body := .stmts (fBody s), scope := fScope s, globals := 3, closure := clo, defaults := df, kwdefaults := kd, pyModule := md, code := .ref code, closureTuple := ct, builtins := 0 }
noncomputable def ob0 (P : Params) : Obj := boot_o_0 P
noncomputable def ob2 (P : Params) : Obj := boot_o_2 P
noncomputable def ob3 (P : Params) : Obj := { cls := (.type "dict"), data := .dict #[dE P ⟨⟨[95, 95, 110, 97, 109, 101, 95, 95]⟩⟩ 165 (.str ⟨⟨[108, 97, 119, 95, 117, 120, 48, 48, 50, 50, 95, 48, 49]⟩⟩ 543), dE P ⟨⟨[95, 95, 100, 111, 99, 95, 95]⟩⟩ 166 .none, dE P ⟨⟨[95, 95, 112, 97, 99, 107, 97, 103, 101, 95, 95]⟩⟩ 167 .none, dE P ⟨⟨[95, 95, 108, 111, 97, 100, 101, 114, 95, 95]⟩⟩ 168 (.builtin "__main__.__loader__#opaque"), dE P ⟨⟨[95, 95, 115, 112, 101, 99, 95, 95]⟩⟩ 169 .none, dE P ⟨⟨[95, 95, 97, 110, 110, 111, 116, 97, 116, 105, 111, 110, 115, 95, 95]⟩⟩ 170 (.ref 6), dE P ⟨⟨[95, 95, 98, 117, 105, 108, 116, 105, 110, 115, 95, 95]⟩⟩ 171 (.ref 4), dE P ⟨⟨[95, 95, 102, 105, 108, 101, 95, 95]⟩⟩ 173 (.str ⟨⟨[47, 99, 108, 97, 105, 109, 47, 99, 117, 116, 46, 112, 121]⟩⟩ 172), dE P ⟨⟨[95, 95, 99, 97, 99, 104, 101, 100, 95, 95]⟩⟩ 174 .none, dE P ⟨⟨[95, 119, 97, 108, 108]⟩⟩ 193 (.ref 21), dE P ⟨⟨[105, 110, 115, 111, 114, 116, 95, 114, 105, 103, 104, 116]⟩⟩ 208 (.ref 30), dE P ⟨⟨[98, 105, 115, 101, 99, 116, 95, 114, 105, 103, 104, 116]⟩⟩ 222 (.ref 39), dE P ⟨⟨[69, 77, 80, 84, 89, 83, 84, 82, 73, 78, 71]⟩⟩ 226 (.str ⟨⟨[]⟩⟩ 225), dE P ⟨⟨[95, 65, 99, 99, 117, 109, 117, 108, 97, 116, 111, 114]⟩⟩ 322 (.ref 119), dE P ⟨⟨[69, 78, 68, 77, 65, 82, 75, 69, 82]⟩⟩ 326 (.int 0 325), dE P ⟨⟨[76, 80, 65, 82]⟩⟩ 328 (.int 7 327), dE P ⟨⟨[82, 80, 65, 82]⟩⟩ 330 (.int 8 329), dE P ⟨⟨[76, 83, 81, 66]⟩⟩ 332 (.int 9 331), dE P ⟨⟨[82, 83, 81, 66]⟩⟩ 334 (.int 10 333), dE P ⟨⟨[67, 79, 76, 79, 78]⟩⟩ 336 (.int 11 335), dE P ⟨⟨[67, 79, 77, 77, 65]⟩⟩ 338 (.int 12 337), dE P ⟨⟨[83, 69, 77, 73]⟩⟩ 340 (.int 13 339), dE P ⟨⟨[80, 76, 85, 83]⟩⟩ 342 (.int 14 341), dE P ⟨⟨[77, 73, 78, 85, 83]⟩⟩ 344 (.int 15 343), dE P ⟨⟨[83, 84, 65, 82]⟩⟩ 346 (.int 16 345), dE P ⟨⟨[83, 76, 65, 83, 72]⟩⟩ 348 (.int 17 347), dE P ⟨⟨[86, 66, 65, 82]⟩⟩ 350 (.int 18 349), dE P ⟨⟨[65, 77, 80, 69, 82]⟩⟩ 352 (.int 19 351), dE P ⟨⟨[76, 69, 83, 83]⟩⟩ 354 (.int 20 353), dE P ⟨⟨[71, 82, 69, 65, 84, 69, 82]⟩⟩ 356 (.int 21 355), dE P ⟨⟨[69, 81, 85, 65, 76]⟩⟩ 358 (.int 22 357), dE P ⟨⟨[68, 79, 84]⟩⟩ 360 (.int 23 359), dE P ⟨⟨[80, 69, 82, 67, 69, 78, 84]⟩⟩ 362 (.int 24 361), dE P ⟨⟨[76, 66, 82, 65, 67, 69]⟩⟩ 364 (.int 25 363), dE P ⟨⟨[82, 66, 82, 65, 67, 69]⟩⟩ 366 (.int 26 365), dE P ⟨⟨[69, 81, 69, 81, 85, 65, 76]⟩⟩ 368 (.int 27 367), dE P ⟨⟨[78, 79, 84, 69, 81, 85, 65, 76]⟩⟩ 370 (.int 28 369), dE P ⟨⟨[76, 69, 83, 83, 69, 81, 85, 65, 76]⟩⟩ 372 (.int 29 371), dE P ⟨⟨[71, 82, 69, 65, 84, 69, 82, 69, 81, 85, 65, 76]⟩⟩ 374 (.int 30 373), dE P ⟨⟨[84, 73, 76, 68, 69]⟩⟩ 376 (.int 31 375), dE P ⟨⟨[67, 73, 82, 67, 85, 77, 70, 76, 69, 88]⟩⟩ 378 (.int 32 377), dE P ⟨⟨[76, 69, 70, 84, 83, 72, 73, 70, 84]⟩⟩ 380 (.int 33 379), dE P ⟨⟨[82, 73, 71, 72, 84, 83, 72, 73, 70, 84]⟩⟩ 382 (.int 34 381), dE P ⟨⟨[68, 79, 85, 66, 76, 69, 83, 84, 65, 82]⟩⟩ 384 (.int 35 383), dE P ⟨⟨[80, 76, 85, 83, 69, 81, 85, 65, 76]⟩⟩ 386 (.int 36 385), dE P ⟨⟨[77, 73, 78, 69, 81, 85, 65, 76]⟩⟩ 388 (.int 37 387), dE P ⟨⟨[83, 84, 65, 82, 69, 81, 85, 65, 76]⟩⟩ 390 (.int 38 389), dE P ⟨⟨[83, 76, 65, 83, 72, 69, 81, 85, 65, 76]⟩⟩ 392 (.int 39 391), dE P ⟨⟨[80, 69, 82, 67, 69, 78, 84, 69, 81, 85, 65, 76]⟩⟩ 394 (.int 40 393), dE P ⟨⟨[65, 77, 80, 69, 82, 69, 81, 85, 65, 76]⟩⟩ 396 (.int 41 395), dE P ⟨⟨[86, 66, 65, 82, 69, 81, 85, 65, 76]⟩⟩ 398 (.int 42 397), dE P ⟨⟨[67, 73, 82, 67, 85, 77, 70, 76, 69, 88, 69, 81, 85, 65, 76]⟩⟩ 400 (.int 43 399), dE P ⟨⟨[76, 69, 70, 84, 83, 72, 73, 70, 84, 69, 81, 85, 65, 76]⟩⟩ 402 (.int 44 401), dE P ⟨⟨[82, 73, 71, 72, 84, 83, 72, 73, 70, 84, 69, 81, 85, 65, 76]⟩⟩ 404 (.int 45 403), dE P ⟨⟨[68, 79, 85, 66, 76, 69, 83, 84, 65, 82, 69, 81, 85, 65, 76]⟩⟩ 406 (.int 46 405), dE P ⟨⟨[68, 79, 85, 66, 76, 69, 83, 76, 65, 83, 72]⟩⟩ 408 (.int 47 407), dE P ⟨⟨[68, 79, 85, 66, 76, 69, 83, 76, 65, 83, 72, 69, 81, 85, 65, 76]⟩⟩ 410 (.int 48 409), dE P ⟨⟨[65, 84]⟩⟩ 412 (.int 49 411), dE P ⟨⟨[65, 84, 69, 81, 85, 65, 76]⟩⟩ 414 (.int 50 413), dE P ⟨⟨[82, 65, 82, 82, 79, 87]⟩⟩ 416 (.int 51 415), dE P ⟨⟨[69, 76, 76, 73, 80, 83, 73, 83]⟩⟩ 418 (.int 52 417), dE P ⟨⟨[67, 79, 76, 79, 78, 69, 81, 85, 65, 76]⟩⟩ 420 (.int 53 419), dE P ⟨⟨[69, 88, 67, 76, 65, 77, 65, 84, 73, 79, 78]⟩⟩ 422 (.int 54 421), dE P ⟨⟨[78, 84, 95, 79, 70, 70, 83, 69, 84]⟩⟩ 424 (.int 256 423), dE P ⟨⟨[69, 88, 65, 67, 84, 95, 84, 79, 75, 69, 78, 95, 84, 89, 80, 69, 83]⟩⟩ 521 (.ref 124), dE P ⟨⟨[73, 83, 84, 69, 82, 77, 73, 78, 65, 76]⟩⟩ 528 (.ref 133), dE P ⟨⟨[73, 83, 78, 79, 78, 84, 69, 82, 77, 73, 78, 65, 76]⟩⟩ 535 (.ref 140), dE P ⟨⟨[73, 83, 69, 79, 70]⟩⟩ 542 (.ref 147), dE P ⟨⟨[95, 108, 97, 119, 95, 110, 117, 109, 98, 101, 114]⟩⟩ 551 (.ref 154), dE P ⟨⟨[95, 108, 97, 119, 95, 108, 97, 105, 100]⟩⟩ 557 (.ref 159), dE P ⟨⟨[95, 108, 97, 119, 95, 102, 97, 108, 108, 115]⟩⟩ 563 (.ref 164), dE P ⟨⟨[108, 97, 119]⟩⟩ 569 (.ref 169)] 72 }
noncomputable def ob22 (P : Params) : Obj := { cls := (.type "tuple"), data := .seq #[(.int 0 196), .none] 0 }
noncomputable def ob23 (P : Params) : Obj := { cls := (.type "dict"), data := .dict #[dE P ⟨⟨[107, 101, 121]⟩⟩ 197 .none] 1 }
noncomputable def ob29 (P : Params) : Obj := { cls := (.type "code"), data := .fields #[(.str ⟨⟨[105, 110, 115, 111, 114, 116, 95, 114, 105, 103, 104, 116]⟩⟩ 198), (.str ⟨⟨[105, 110, 115, 111, 114, 116, 95, 114, 105, 103, 104, 116]⟩⟩ 199), (.str ⟨⟨[47, 99, 108, 97, 105, 109, 47, 99, 117, 116, 46, 112, 121]⟩⟩ 200), (.int 5 0), (.int 4 0), (.int 0 0), (.int 1 0), (.int 3 0), (.ref 24), (.bool true), (.int 181 0), (.ref 25), .none, (.ref 26), (.ref 27), (.ref 28), (.int 206 0), (.int 5 0), (.str ⟨⟨[47, 99, 108, 97, 105, 109, 47, 99, 117, 116, 46, 112, 121]⟩⟩ 207)] }
noncomputable def fd30 : FuncData := fnD (st 2) ⟨⟨[105, 110, 115, 111, 114, 116, 95, 114, 105, 103, 104, 116]⟩⟩ (.ref 22) (.ref 23) (.str ⟨⟨[99, 112, 121, 51, 49, 51, 46, 98, 105, 115, 101, 99, 116]⟩⟩ 194) 29 [] .none
noncomputable def ob30 (P : Params) : Obj := { cls := .type "function", data := .func fd30 }
noncomputable def ob31 (P : Params) : Obj := { cls := (.type "tuple"), data := .seq #[(.int 0 209), .none] 0 }
noncomputable def ob32 (P : Params) : Obj := { cls := (.type "dict"), data := .dict #[dE P ⟨⟨[107, 101, 121]⟩⟩ 210 .none] 1 }
noncomputable def ob38 (P : Params) : Obj := { cls := (.type "code"), data := .fields #[(.str ⟨⟨[98, 105, 115, 101, 99, 116, 95, 114, 105, 103, 104, 116]⟩⟩ 211), (.str ⟨⟨[98, 105, 115, 101, 99, 116, 95, 114, 105, 103, 104, 116]⟩⟩ 212), (.str ⟨⟨[47, 99, 108, 97, 105, 109, 47, 99, 117, 116, 46, 112, 121]⟩⟩ 213), (.int 11 0), (.int 4 0), (.int 0 0), (.int 1 0), (.int 3 0), (.ref 33), (.bool true), (.int 181 0), (.ref 34), .none, (.ref 35), (.ref 36), (.ref 37), (.int 220 0), (.int 11 0), (.str ⟨⟨[47, 99, 108, 97, 105, 109, 47, 99, 117, 116, 46, 112, 121]⟩⟩ 221)] }
noncomputable def fd39 : FuncData := fnD (st 3) ⟨⟨[98, 105, 115, 101, 99, 116, 95, 114, 105, 103, 104, 116]⟩⟩ (.ref 31) (.ref 32) (.str ⟨⟨[99, 112, 121, 51, 49, 51, 46, 98, 105, 115, 101, 99, 116]⟩⟩ 194) 38 [] .none
noncomputable def ob39 (P : Params) : Obj := { cls := .type "function", data := .func fd39 }
noncomputable def ob43 (P : Params) : Obj := { cls := .type "cell", data := .cell (some (.ref 119)) }
noncomputable def ob48 (P : Params) : Obj := { cls := (.type "tuple"), data := .seq #[(.int 0 239)] 0 }
noncomputable def ob55 (P : Params) : Obj := { cls := (.type "code"), data := .fields #[(.str ⟨⟨[95, 95, 105, 110, 105, 116, 95, 95]⟩⟩ 240), (.str ⟨⟨[95, 65, 99, 99, 117, 109, 117, 108, 97, 116, 111, 114, 46, 95, 95, 105, 110, 105, 116, 95, 95]⟩⟩ 241), (.str ⟨⟨[47, 99, 108, 97, 105, 109, 47, 99, 117, 116, 46, 112, 121]⟩⟩ 242), (.int 35 0), (.int 2 0), (.int 0 0), (.int 0 0), (.int 3 0), (.ref 50), (.bool true), (.int 181 0), (.ref 51), .none, (.ref 52), (.ref 53), (.ref 54), (.int 246 0), (.int 35 0), (.str ⟨⟨[47, 99, 108, 97, 105, 109, 47, 99, 117, 116, 46, 112, 121]⟩⟩ 247)] }
noncomputable def fd56 : FuncData := fnD (mt 0) ⟨⟨[95, 65, 99, 99, 117, 109, 117, 108, 97, 116, 111, 114, 46, 95, 95, 105, 110, 105, 116, 95, 95]⟩⟩ (.ref 48) .none (.str ⟨⟨[99, 112, 121, 51, 49, 51, 46, 101, 109, 97, 105, 108, 46, 104, 101, 97, 100, 101, 114]⟩⟩ 223) 55 [(⟨⟨[95, 95, 99, 108, 97, 115, 115, 95, 95]⟩⟩, 43)] (.ref 49)
noncomputable def ob56 (P : Params) : Obj := { cls := .type "function", data := .func fd56 }
noncomputable def ob62 (P : Params) : Obj := { cls := (.type "code"), data := .fields #[(.str ⟨⟨[112, 117, 115, 104]⟩⟩ 249), (.str ⟨⟨[95, 65, 99, 99, 117, 109, 117, 108, 97, 116, 111, 114, 46, 112, 117, 115, 104]⟩⟩ 250), (.str ⟨⟨[47, 99, 108, 97, 105, 109, 47, 99, 117, 116, 46, 112, 121]⟩⟩ 251), (.int 39 0), (.int 3 0), (.int 0 0), (.int 0 0), (.int 3 0), (.ref 57), (.bool true), (.int 181 0), (.ref 58), .none, (.ref 59), (.ref 60), (.ref 61), (.int 255 0), (.int 39 0), (.str ⟨⟨[47, 99, 108, 97, 105, 109, 47, 99, 117, 116, 46, 112, 121]⟩⟩ 256)] }
noncomputable def fd63 : FuncData := fnD (mt 1) ⟨⟨[95, 65, 99, 99, 117, 109, 117, 108, 97, 116, 111, 114, 46, 112, 117, 115, 104]⟩⟩ .none .none (.str ⟨⟨[99, 112, 121, 51, 49, 51, 46, 101, 109, 97, 105, 108, 46, 104, 101, 97, 100, 101, 114]⟩⟩ 223) 62 [] .none
noncomputable def ob63 (P : Params) : Obj := { cls := .type "function", data := .func fd63 }
noncomputable def ob64 (P : Params) : Obj := { cls := (.type "tuple"), data := .seq #[(.int 0 258)] 0 }
noncomputable def ob70 (P : Params) : Obj := { cls := (.type "code"), data := .fields #[(.str ⟨⟨[112, 111, 112, 95, 102, 114, 111, 109]⟩⟩ 259), (.str ⟨⟨[95, 65, 99, 99, 117, 109, 117, 108, 97, 116, 111, 114, 46, 112, 111, 112, 95, 102, 114, 111, 109]⟩⟩ 260), (.str ⟨⟨[47, 99, 108, 97, 105, 109, 47, 99, 117, 116, 46, 112, 121]⟩⟩ 261), (.int 42 0), (.int 2 0), (.int 0 0), (.int 0 0), (.int 3 0), (.ref 65), (.bool true), (.int 181 0), (.ref 66), .none, (.ref 67), (.ref 68), (.ref 69), (.int 265 0), (.int 42 0), (.str ⟨⟨[47, 99, 108, 97, 105, 109, 47, 99, 117, 116, 46, 112, 121]⟩⟩ 266)] }
noncomputable def fd71 : FuncData := fnD (mt 2) ⟨⟨[95, 65, 99, 99, 117, 109, 117, 108, 97, 116, 111, 114, 46, 112, 111, 112, 95, 102, 114, 111, 109]⟩⟩ (.ref 64) .none (.str ⟨⟨[99, 112, 121, 51, 49, 51, 46, 101, 109, 97, 105, 108, 46, 104, 101, 97, 100, 101, 114]⟩⟩ 223) 70 [] .none
noncomputable def ob71 (P : Params) : Obj := { cls := .type "function", data := .func fd71 }
noncomputable def ob78 (P : Params) : Obj := { cls := (.type "code"), data := .fields #[(.str ⟨⟨[112, 111, 112]⟩⟩ 268), (.str ⟨⟨[95, 65, 99, 99, 117, 109, 117, 108, 97, 116, 111, 114, 46, 112, 111, 112]⟩⟩ 269), (.str ⟨⟨[47, 99, 108, 97, 105, 109, 47, 99, 117, 116, 46, 112, 121]⟩⟩ 270), (.int 47 0), (.int 1 0), (.int 0 0), (.int 0 0), (.int 3 0), (.ref 73), (.bool true), (.int 181 0), (.ref 74), .none, (.ref 75), (.ref 76), (.ref 77), (.int 273 0), (.int 47 0), (.str ⟨⟨[47, 99, 108, 97, 105, 109, 47, 99, 117, 116, 46, 112, 121]⟩⟩ 274)] }
noncomputable def fd79 : FuncData := fnD (mt 3) ⟨⟨[95, 65, 99, 99, 117, 109, 117, 108, 97, 116, 111, 114, 46, 112, 111, 112]⟩⟩ .none .none (.str ⟨⟨[99, 112, 121, 51, 49, 51, 46, 101, 109, 97, 105, 108, 46, 104, 101, 97, 100, 101, 114]⟩⟩ 223) 78 [(⟨⟨[95, 95, 99, 108, 97, 115, 115, 95, 95]⟩⟩, 43)] (.ref 72)
noncomputable def ob79 (P : Params) : Obj := { cls := .type "function", data := .func fd79 }
noncomputable def ob81 (P : Params) : Obj := { cls := .none, data := .fields #[] }
noncomputable def ob85 (P : Params) : Obj := { cls := (.type "code"), data := .fields #[(.str ⟨⟨[95, 95, 108, 101, 110, 95, 95]⟩⟩ 276), (.str ⟨⟨[95, 65, 99, 99, 117, 109, 117, 108, 97, 116, 111, 114, 46, 95, 95, 108, 101, 110, 95, 95]⟩⟩ 277), (.str ⟨⟨[47, 99, 108, 97, 105, 109, 47, 99, 117, 116, 46, 112, 121]⟩⟩ 278), (.int 52 0), (.int 1 0), (.int 0 0), (.int 0 0), (.int 3 0), (.ref 80), (.bool true), (.int 181 0), (.ref 81), .none, (.ref 82), (.ref 83), (.ref 84), (.int 280 0), (.int 52 0), (.str ⟨⟨[47, 99, 108, 97, 105, 109, 47, 99, 117, 116, 46, 112, 121]⟩⟩ 281)] }
noncomputable def fd86 : FuncData := fnD (mt 4) ⟨⟨[95, 65, 99, 99, 117, 109, 117, 108, 97, 116, 111, 114, 46, 95, 95, 108, 101, 110, 95, 95]⟩⟩ .none .none (.str ⟨⟨[99, 112, 121, 51, 49, 51, 46, 101, 109, 97, 105, 108, 46, 104, 101, 97, 100, 101, 114]⟩⟩ 223) 85 [] .none
noncomputable def ob86 (P : Params) : Obj := { cls := .type "function", data := .func fd86 }
noncomputable def ob115 (P : Params) : Obj := { cls := (.type "code"), data := .fields #[(.str ⟨⟨[112, 97, 114, 116, 95, 99, 111, 117, 110, 116]⟩⟩ 305), (.str ⟨⟨[95, 65, 99, 99, 117, 109, 117, 108, 97, 116, 111, 114, 46, 112, 97, 114, 116, 95, 99, 111, 117, 110, 116]⟩⟩ 306), (.str ⟨⟨[47, 99, 108, 97, 105, 109, 47, 99, 117, 116, 46, 112, 121]⟩⟩ 307), (.int 64 0), (.int 1 0), (.int 0 0), (.int 0 0), (.int 3 0), (.ref 110), (.bool true), (.int 181 0), (.ref 111), .none, (.ref 112), (.ref 113), (.ref 114), (.int 310 0), (.int 64 0), (.str ⟨⟨[47, 99, 108, 97, 105, 109, 47, 99, 117, 116, 46, 112, 121]⟩⟩ 311)] }
noncomputable def fd116 : FuncData := fnD (mt 8) ⟨⟨[95, 65, 99, 99, 117, 109, 117, 108, 97, 116, 111, 114, 46, 112, 97, 114, 116, 95, 99, 111, 117, 110, 116]⟩⟩ .none .none (.str ⟨⟨[99, 112, 121, 51, 49, 51, 46, 101, 109, 97, 105, 108, 46, 104, 101, 97, 100, 101, 114]⟩⟩ 223) 115 [(⟨⟨[95, 95, 99, 108, 97, 115, 115, 95, 95]⟩⟩, 43)] (.ref 109)
noncomputable def ob116 (P : Params) : Obj := { cls := .type "function", data := .func fd116 }
noncomputable def ob118 (P : Params) : Obj := { cls := (.type "dict"), data := .dict #[dE P ⟨⟨[95, 95, 109, 111, 100, 117, 108, 101, 95, 95]⟩⟩ 234 (.str ⟨⟨[99, 112, 121, 51, 49, 51, 46, 101, 109, 97, 105, 108, 46, 104, 101, 97, 100, 101, 114]⟩⟩ 223), dE P ⟨⟨[95, 95, 102, 105, 114, 115, 116, 108, 105, 110, 101, 110, 111, 95, 95]⟩⟩ 238 (.int 33 237), dE P ⟨⟨[95, 95, 105, 110, 105, 116, 95, 95]⟩⟩ 248 (.ref 56), dE P ⟨⟨[112, 117, 115, 104]⟩⟩ 257 (.ref 63), dE P ⟨⟨[112, 111, 112, 95, 102, 114, 111, 109]⟩⟩ 267 (.ref 71), dE P ⟨⟨[112, 111, 112]⟩⟩ 275 (.ref 79), dE P ⟨⟨[95, 95, 108, 101, 110, 95, 95]⟩⟩ 282 (.ref 86), dE P ⟨⟨[95, 95, 115, 116, 114, 95, 95]⟩⟩ 289 (.ref 93), dE P ⟨⟨[114, 101, 115, 101, 116]⟩⟩ 297 (.ref 101), dE P ⟨⟨[105, 115, 95, 111, 110, 108, 121, 119, 115]⟩⟩ 304 (.ref 108), dE P ⟨⟨[112, 97, 114, 116, 95, 99, 111, 117, 110, 116]⟩⟩ 312 (.ref 116), dE P ⟨⟨[95, 95, 115, 116, 97, 116, 105, 99, 95, 97, 116, 116, 114, 105, 98, 117, 116, 101, 115, 95, 95]⟩⟩ 314 (.ref 117), dE P ⟨⟨[95, 95, 100, 105, 99, 116, 95, 95]⟩⟩ 317 (.ref 120), dE P ⟨⟨[95, 95, 119, 101, 97, 107, 114, 101, 102, 95, 95]⟩⟩ 319 (.ref 121), dE P ⟨⟨[95, 95, 100, 111, 99, 95, 95]⟩⟩ 320 .none] 5 }
noncomputable def ob119 (P : Params) : Obj := { cls := (.type "type"), slots := #[some (.ref 40), none, some (.str ⟨⟨[95, 65, 99, 99, 117, 109, 117, 108, 97, 116, 111, 114]⟩⟩ 227), some (.str ⟨⟨[95, 65, 99, 99, 117, 109, 117, 108, 97, 116, 111, 114]⟩⟩ 235), some (.builtin "list.__new__"), some (.bool true)], data := .cls { name := ⟨⟨[95, 65, 99, 99, 117, 109, 117, 108, 97, 116, 111, 114]⟩⟩, bases := [(.type "list")], mro := [(.ref 119), (.type "list"), (.type "object")], ns := 118, qualname := ⟨⟨[95, 65, 99, 99, 117, 109, 117, 108, 97, 116, 111, 114]⟩⟩ } }
noncomputable def ob124 (P : Params) : Obj := { cls := (.type "dict"), data := .dict #[dE P ⟨⟨[33]⟩⟩ 425 (.int 54 421), dE P ⟨⟨[33, 61]⟩⟩ 427 (.int 28 369), dE P ⟨⟨[37]⟩⟩ 429 (.int 24 361), dE P ⟨⟨[37, 61]⟩⟩ 431 (.int 40 393), dE P ⟨⟨[38]⟩⟩ 433 (.int 19 351), dE P ⟨⟨[38, 61]⟩⟩ 435 (.int 41 395), dE P ⟨⟨[40]⟩⟩ 437 (.int 7 327), dE P ⟨⟨[41]⟩⟩ 439 (.int 8 329), dE P ⟨⟨[42]⟩⟩ 441 (.int 16 345), dE P ⟨⟨[42, 42]⟩⟩ 443 (.int 35 383), dE P ⟨⟨[42, 42, 61]⟩⟩ 445 (.int 46 405), dE P ⟨⟨[42, 61]⟩⟩ 447 (.int 38 389), dE P ⟨⟨[43]⟩⟩ 449 (.int 14 341), dE P ⟨⟨[43, 61]⟩⟩ 451 (.int 36 385), dE P ⟨⟨[44]⟩⟩ 453 (.int 12 337), dE P ⟨⟨[45]⟩⟩ 455 (.int 15 343), dE P ⟨⟨[45, 61]⟩⟩ 457 (.int 37 387), dE P ⟨⟨[45, 62]⟩⟩ 459 (.int 51 415), dE P ⟨⟨[46]⟩⟩ 461 (.int 23 359), dE P ⟨⟨[46, 46, 46]⟩⟩ 463 (.int 52 417), dE P ⟨⟨[47]⟩⟩ 465 (.int 17 347), dE P ⟨⟨[47, 47]⟩⟩ 467 (.int 47 407), dE P ⟨⟨[47, 47, 61]⟩⟩ 469 (.int 48 409), dE P ⟨⟨[47, 61]⟩⟩ 471 (.int 39 391), dE P ⟨⟨[58]⟩⟩ 473 (.int 11 335), dE P ⟨⟨[58, 61]⟩⟩ 475 (.int 53 419), dE P ⟨⟨[59]⟩⟩ 477 (.int 13 339), dE P ⟨⟨[60]⟩⟩ 479 (.int 20 353), dE P ⟨⟨[60, 60]⟩⟩ 481 (.int 33 379), dE P ⟨⟨[60, 60, 61]⟩⟩ 483 (.int 44 401), dE P ⟨⟨[60, 61]⟩⟩ 485 (.int 29 371), dE P ⟨⟨[61]⟩⟩ 487 (.int 22 357), dE P ⟨⟨[61, 61]⟩⟩ 489 (.int 27 367), dE P ⟨⟨[62]⟩⟩ 491 (.int 21 355), dE P ⟨⟨[62, 61]⟩⟩ 493 (.int 30 373), dE P ⟨⟨[62, 62]⟩⟩ 494 (.int 34 381), dE P ⟨⟨[62, 62, 61]⟩⟩ 495 (.int 45 403), dE P ⟨⟨[64]⟩⟩ 496 (.int 49 411), dE P ⟨⟨[64, 61]⟩⟩ 497 (.int 50 413), dE P ⟨⟨[91]⟩⟩ 498 (.int 9 331), dE P ⟨⟨[93]⟩⟩ 499 (.int 10 333), dE P ⟨⟨[94]⟩⟩ 500 (.int 32 377), dE P ⟨⟨[94, 61]⟩⟩ 501 (.int 43 399), dE P ⟨⟨[123]⟩⟩ 502 (.int 25 363), dE P ⟨⟨[124]⟩⟩ 503 (.int 18 349), dE P ⟨⟨[124, 61]⟩⟩ 504 (.int 42 397), dE P ⟨⟨[125]⟩⟩ 505 (.int 26 365), dE P ⟨⟨[126]⟩⟩ 506 (.int 31 375)] 48 }
noncomputable def ob132 (P : Params) : Obj := { cls := (.type "code"), data := .fields #[(.str ⟨⟨[73, 83, 84, 69, 82, 77, 73, 78, 65, 76]⟩⟩ 522), (.str ⟨⟨[73, 83, 84, 69, 82, 77, 73, 78, 65, 76]⟩⟩ 523), (.str ⟨⟨[47, 99, 108, 97, 105, 109, 47, 99, 117, 116, 46, 112, 121]⟩⟩ 524), (.int 118 0), (.int 1 0), (.int 0 0), (.int 0 0), (.int 3 0), (.ref 127), (.bool true), (.int 181 0), (.ref 128), .none, (.ref 129), (.ref 130), (.ref 131), (.int 526 0), (.int 118 0), (.str ⟨⟨[47, 99, 108, 97, 105, 109, 47, 99, 117, 116, 46, 112, 121]⟩⟩ 527)] }
noncomputable def fd133 : FuncData := fnD (st 59) ⟨⟨[73, 83, 84, 69, 82, 77, 73, 78, 65, 76]⟩⟩ .none .none (.str ⟨⟨[99, 112, 121, 51, 49, 51, 46, 116, 111, 107, 101, 110]⟩⟩ 323) 132 [] .none
noncomputable def ob133 (P : Params) : Obj := { cls := .type "function", data := .func fd133 }
noncomputable def ob139 (P : Params) : Obj := { cls := (.type "code"), data := .fields #[(.str ⟨⟨[73, 83, 78, 79, 78, 84, 69, 82, 77, 73, 78, 65, 76]⟩⟩ 529), (.str ⟨⟨[73, 83, 78, 79, 78, 84, 69, 82, 77, 73, 78, 65, 76]⟩⟩ 530), (.str ⟨⟨[47, 99, 108, 97, 105, 109, 47, 99, 117, 116, 46, 112, 121]⟩⟩ 531), (.int 120 0), (.int 1 0), (.int 0 0), (.int 0 0), (.int 3 0), (.ref 134), (.bool true), (.int 181 0), (.ref 135), .none, (.ref 136), (.ref 137), (.ref 138), (.int 533 0), (.int 120 0), (.str ⟨⟨[47, 99, 108, 97, 105, 109, 47, 99, 117, 116, 46, 112, 121]⟩⟩ 534)] }
noncomputable def fd140 : FuncData := fnD (st 60) ⟨⟨[73, 83, 78, 79, 78, 84, 69, 82, 77, 73, 78, 65, 76]⟩⟩ .none .none (.str ⟨⟨[99, 112, 121, 51, 49, 51, 46, 116, 111, 107, 101, 110]⟩⟩ 323) 139 [] .none
noncomputable def ob140 (P : Params) : Obj := { cls := .type "function", data := .func fd140 }
noncomputable def ob146 (P : Params) : Obj := { cls := (.type "code"), data := .fields #[(.str ⟨⟨[73, 83, 69, 79, 70]⟩⟩ 536), (.str ⟨⟨[73, 83, 69, 79, 70]⟩⟩ 537), (.str ⟨⟨[47, 99, 108, 97, 105, 109, 47, 99, 117, 116, 46, 112, 121]⟩⟩ 538), (.int 122 0), (.int 1 0), (.int 0 0), (.int 0 0), (.int 3 0), (.ref 141), (.bool true), (.int 181 0), (.ref 142), .none, (.ref 143), (.ref 144), (.ref 145), (.int 540 0), (.int 122 0), (.str ⟨⟨[47, 99, 108, 97, 105, 109, 47, 99, 117, 116, 46, 112, 121]⟩⟩ 541)] }
noncomputable def fd147 : FuncData := fnD (st 61) ⟨⟨[73, 83, 69, 79, 70]⟩⟩ .none .none (.str ⟨⟨[99, 112, 121, 51, 49, 51, 46, 116, 111, 107, 101, 110]⟩⟩ 323) 146 [] .none
noncomputable def ob147 (P : Params) : Obj := { cls := .type "function", data := .func fd147 }
noncomputable def ob153 (P : Params) : Obj := { cls := (.type "code"), data := .fields #[(.str ⟨⟨[95, 108, 97, 119, 95, 110, 117, 109, 98, 101, 114]⟩⟩ 545), (.str ⟨⟨[95, 108, 97, 119, 95, 110, 117, 109, 98, 101, 114]⟩⟩ 546), (.str ⟨⟨[47, 99, 108, 97, 105, 109, 47, 99, 117, 116, 46, 112, 121]⟩⟩ 547), (.int 125 0), (.int 1 0), (.int 0 0), (.int 0 0), (.int 3 0), (.ref 148), (.bool true), (.int 181 0), (.ref 149), .none, (.ref 150), (.ref 151), (.ref 152), (.int 549 0), (.int 125 0), (.str ⟨⟨[47, 99, 108, 97, 105, 109, 47, 99, 117, 116, 46, 112, 121]⟩⟩ 550)] }
noncomputable def fd154 : FuncData := fnD (st 63) ⟨⟨[95, 108, 97, 119, 95, 110, 117, 109, 98, 101, 114]⟩⟩ .none .none (.str ⟨⟨[108, 97, 119, 95, 117, 120, 48, 48, 50, 50, 95, 48, 49]⟩⟩ 543) 153 [] .none
noncomputable def ob154 (P : Params) : Obj := { cls := .type "function", data := .func fd154 }
noncomputable def ob158 (P : Params) : Obj := { cls := (.type "code"), data := .fields #[(.str ⟨⟨[95, 108, 97, 119, 95, 108, 97, 105, 100]⟩⟩ 552), (.str ⟨⟨[95, 108, 97, 119, 95, 108, 97, 105, 100]⟩⟩ 553), (.str ⟨⟨[47, 99, 108, 97, 105, 109, 47, 99, 117, 116, 46, 112, 121]⟩⟩ 554), (.int 127 0), (.int 4 0), (.int 0 0), (.int 0 0), (.int 3 0), (.ref 155), (.bool true), (.int 181 0), (.ref 156), .none, .none, .none, (.ref 157), (.int 555 0), (.int 127 0), (.str ⟨⟨[47, 99, 108, 97, 105, 109, 47, 99, 117, 116, 46, 112, 121]⟩⟩ 556)] }
noncomputable def fd159 : FuncData := fnD (st 64) ⟨⟨[95, 108, 97, 119, 95, 108, 97, 105, 100]⟩⟩ .none .none (.str ⟨⟨[108, 97, 119, 95, 117, 120, 48, 48, 50, 50, 95, 48, 49]⟩⟩ 543) 158 [] .none
noncomputable def ob159 (P : Params) : Obj := { cls := .type "function", data := .func fd159 }
noncomputable def ob163 (P : Params) : Obj := { cls := (.type "code"), data := .fields #[(.str ⟨⟨[95, 108, 97, 119, 95, 102, 97, 108, 108, 115]⟩⟩ 558), (.str ⟨⟨[95, 108, 97, 119, 95, 102, 97, 108, 108, 115]⟩⟩ 559), (.str ⟨⟨[47, 99, 108, 97, 105, 109, 47, 99, 117, 116, 46, 112, 121]⟩⟩ 560), (.int 163 0), (.int 1 0), (.int 0 0), (.int 0 0), (.int 3 0), (.ref 160), (.bool true), (.int 181 0), (.ref 161), .none, .none, .none, (.ref 162), (.int 561 0), (.int 163 0), (.str ⟨⟨[47, 99, 108, 97, 105, 109, 47, 99, 117, 116, 46, 112, 121]⟩⟩ 562)] }
noncomputable def fd164 : FuncData := fnD (st 65) ⟨⟨[95, 108, 97, 119, 95, 102, 97, 108, 108, 115]⟩⟩ .none .none (.str ⟨⟨[108, 97, 119, 95, 117, 120, 48, 48, 50, 50, 95, 48, 49]⟩⟩ 543) 163 [] .none
noncomputable def ob164 (P : Params) : Obj := { cls := .type "function", data := .func fd164 }
noncomputable def ob166 (P : Params) : Obj := { cls := .none, data := .fields #[] }
noncomputable def ob168 (P : Params) : Obj := { cls := (.type "code"), data := .fields #[(.str ⟨⟨[108, 97, 119]⟩⟩ 564), (.str ⟨⟨[108, 97, 119]⟩⟩ 565), (.str ⟨⟨[47, 99, 108, 97, 105, 109, 47, 99, 117, 116, 46, 112, 121]⟩⟩ 566), (.int 168 0), (.int 1 0), (.int 0 0), (.int 0 0), (.int 3 0), (.ref 165), (.bool true), (.int 181 0), (.ref 166), .none, .none, .none, (.ref 167), (.int 567 0), (.int 168 0), (.str ⟨⟨[47, 99, 108, 97, 105, 109, 47, 99, 117, 116, 46, 112, 121]⟩⟩ 568)] }
noncomputable def fd169 : FuncData := fnD (st 66) ⟨⟨[108, 97, 119]⟩⟩ .none .none (.str ⟨⟨[108, 97, 119, 95, 117, 120, 48, 48, 50, 50, 95, 48, 49]⟩⟩ 543) 168 [] .none
noncomputable def ob169 (P : Params) : Obj := { cls := .type "function", data := .func fd169 }
noncomputable def kAs : List Addr := [0, 2, 3, 22, 23, 29, 30, 31, 32, 38, 39, 43, 48, 55, 56, 62, 63, 64, 70, 71, 78, 79, 81, 85, 86, 115, 116, 118, 119, 124, 132, 133, 139, 140, 146, 147, 153, 154, 158, 159, 163, 164, 166, 168, 169]
noncomputable def kF (P : Params) : Frag := [(0, ob0 P), (2, ob2 P), (3, ob3 P), (22, ob22 P), (23, ob23 P), (29, ob29 P), (30, ob30 P), (31, ob31 P), (32, ob32 P), (38, ob38 P), (39, ob39 P), (43, ob43 P), (48, ob48 P), (55, ob55 P), (56, ob56 P), (62, ob62 P), (63, ob63 P), (64, ob64 P), (70, ob70 P), (71, ob71 P), (78, ob78 P), (79, ob79 P), (81, ob81 P), (85, ob85 P), (86, ob86 P), (115, ob115 P), (116, ob116 P), (118, ob118 P), (119, ob119 P), (124, ob124 P), (132, ob132 P), (133, ob133 P), (139, ob139 P), (140, ob140 P), (146, ob146 P), (147, ob147 P), (153, ob153 P), (154, ob154 P), (158, ob158 P), (159, ob159 P), (163, ob163 P), (164, ob164 P), (166, ob166 P), (168, ob168 P), (169, ob169 P)]
end Mine
namespace Mine
open PySem PySem.W PySem.W.X PySem.Calls PyProof.Rows
noncomputable def ann0 : Option Value := some (.ref 6)
noncomputable def env0 : Env := { scope := pw.main.scope, locals := mainNs, globals := mainNs, cells := [], code := .ref 13, frame := some 14 }
noncomputable def pos0 : Pos := ⟨0, 0, 0, 0⟩
noncomputable def bodyP : List Stmt := behindTheImports pw
noncomputable abbrev cE : Code := .body bodyP env0
noncomputable abbrev fwd (w : World) (b : Bool) : World := w.withFollow "special-get-raises" b
noncomputable abbrev loose0 : List Str := pw.boundNames
noncomputable def Xt0 (s : Shared) : Bool := recOk [] s
noncomputable def treeAt (l : List Obj) : Nat → Nat → Nat → BT
  | 0, _, _ => .nil
  | f + 1, a, b => match l[b]? with
    | some o => .node o (treeAt l f (2 * a) (a + b)) (treeAt l f (2 * a) (2 * a + b))
    | none => .nil
noncomputable def toT (s : Shared) : SharedT := ⟨treeAt s.heap.objs.toList 20 1 0, s.heap.objs.size, s.heap.life, s.gens, s.drawn, s.toks, s.os⟩
noncomputable abbrev tbl := PySem.W.Fast.tw14364793385576792824
noncomputable def S0 (w : World) (os : OsState) : Shared := ⟨boot_heap w.params, Array.mk [], boot_drawn, boot_toks, os⟩
noncomputable def Sa (w : World) (os : OsState) : Shared := match PySem.W.Fast.tw15667345088766844465 tbl pw w 11 ann0 12 (S0 w os) (topStub pw) with | some (s, _) => s | none => S0 w os
noncomputable def runX (w : World) (os : OsState) : Option (Flow × SharedT × Code × Pos) := PySem.W.Fast.tw10110043849684766642 tbl pw w 11 ann0 1 2300 (toT (Sa w os)) (piecesOf bodyP env0 cE pos0 [topFrame pos0])
noncomputable def lookF (w : World) (r : Flow × SharedT × Code × Pos) := (r.1, r.2.2.1, staticsOk (importedModules pw.main.body) (boot_heap w.params) r.2.1.abs.heap && namesBound pw r.2.1.abs.heap && gensDone r.2.1.abs && laidKept (boot_heap w.params) r.2.1.abs.heap,
  PySem.W.Fast.tw4187177175401517315 viewQ loose0 (importedModules pw.main.body) Xt0 true r.2.1.abs, obsZ kAs r.2.1.abs)
set_option maxHeartbeats 0 in
theorem kA : (fun (w : World) (os : OsState) => PySem.W.Fast.tw15667345088766844465 tbl pw w 11 ann0 12 (S0 w os) (topStub pw)) =
    fun w os => some (Sa w os, ⟨PySem.W.Fast.tw11892475500146522536 tbl cE, cE, pos0, [topFrame pos0]⟩) := by kernel_rfl!
set_option maxHeartbeats 0 in
theorem kB : (fun (w : World) (os : OsState) => PySem.W.Fast.tw14374325043358763698 tbl pw w 11 ann0 1 1 (Sa w os) (blockOf bodyP env0 cE pos0 [topFrame pos0])) =
    fun w os => some (.next, Sa w os, cE, pos0) := by kernel_rfl!
set_option maxHeartbeats 0 in
theorem kT : (fun (w : World) (os : OsState) => (toT (Sa w os)).abs) = fun w os => Sa w os := by kernel_rfl!
set_option maxHeartbeats 0 in
theorem kS : (fun (w : World) => ((boot_heap w.params).isNs mainGlobals && (Array.mk [] : Array GenState).size == 0, (boot_heap w.params).objs.size, (boot_heap w.params).nsMap mainGlobals "__annotations__")) = fun _ => (true, 11, ann0) := by kernel_rfl!
set_option maxHeartbeats 0 in
theorem kCf : (fun (w : World) (os : OsState) => (runX (fwd w false) os).map (fun r => lookF (fwd w false) r)) = fun w os => some (.next, cE, true, openGood viewQ loose0, valZ kF 170 570 (fwd w false)) := by
  unfold lookF staticsOk namesBound gensDone laidKept openGood
  rw [PySem.W.Fast.te8920871248978507458, PySem.W.Fast.sDec_eq, PySem.W.Fast.te7966671052430208091, PySem.W.Fast.te4857012375875476094, PySem.W.Fast.te1584917186373303978, PySem.W.Fast.te14846217769314788766, PySem.W.Fast.te12749700546528644094, PySem.W.Fast.te18344453789297297638, PySem.W.Fast.te5923862056798008813, PySem.W.Fast.te3247288618530077131, PySem.W.Fast.te821141287760084731]
  kernel_rfl!
set_option maxHeartbeats 0 in
theorem kCt : (fun (w : World) (os : OsState) => (runX (fwd w true) os).map (fun r => lookF (fwd w true) r)) = fun w os => some (.next, cE, true, openGood viewQ loose0, valZ kF 170 570 (fwd w true)) := by
  unfold lookF staticsOk namesBound gensDone laidKept openGood
  rw [PySem.W.Fast.te8920871248978507458, PySem.W.Fast.sDec_eq, PySem.W.Fast.te7966671052430208091, PySem.W.Fast.te4857012375875476094, PySem.W.Fast.te1584917186373303978, PySem.W.Fast.te14846217769314788766, PySem.W.Fast.te12749700546528644094, PySem.W.Fast.te18344453789297297638, PySem.W.Fast.te5923862056798008813, PySem.W.Fast.te3247288618530077131, PySem.W.Fast.te821141287760084731]
  kernel_rfl!
end Mine
namespace Mine
open PySem PySem.W PySem.W.X PySem.Calls PyProof.Rows
theorem fin_run (w : World) (s : Shared) (c : Code) (p q : Pos) : topRun treeTable pw w 11 ann0 2 s ⟨doneF .next, c, p, [topFrame q]⟩ = some s := by
  obtain ⟨h, g, d, k, os⟩ := s
  rfl
theorem tbl_eq : tbl = treeTable := PySem.W.Fast.te14364793385576792824.symm
theorem top_left (w : World) (b : Bool) (hw : fwd w b = w) (hc : (fun (w : World) (os : OsState) => (runX (fwd w b) os).map (fun r => lookF (fwd w b) r)) = fun w os => some (.next, cE, true, openGood viewQ loose0, valZ kF 170 570 (fwd w b))) :
    (openEnds treeTable pw w 4688).map (fun s => (openSeen viewQ loose0 (importedModules pw.main.body) Xt0 true s, obsZ kAs s)) = some (openGood viewQ loose0, valZ kF 170 570 w) := by
  obtain ⟨⟨h, gs, d, k, os⟩, e, e'⟩ := Option.map_eq_some_iff.mp (boot_open (p := pw) (N := 4688) rfl rfl (fun s => rfl) w)
  obtain ⟨rfl, rfl, rfl, rfl⟩ : h = boot_heap w.params ∧ gs = Array.mk [] ∧ d = boot_drawn ∧ k = boot_toks := by simpa using e'
  have hc := congrFun (congrFun hc w) os
  rw [hw] at hc
  obtain ⟨⟨f, sT, c, p'⟩, hr, hl⟩ := Option.map_eq_some_iff.mp hc
  have hA := congrFun (congrFun kA w) os
  have hB := congrFun (congrFun kB w) os
  have hT := congrFun (congrFun kT w) os
  have hS := congrFun kS w
  simp only [Prod.mk.injEq] at hS
  unfold lookF at hl
  simp only [Prod.mk.injEq] at hl
  obtain ⟨rfl, rfl, l1, l2, l3⟩ := hl
  unfold runX at hr
  rw [← PySem.W.Fast.te10110043849684766642, tbl_eq] at hr
  rw [← PySem.W.Fast.te15667345088766844465, tbl_eq, ← PySem.W.Fast.te11892475500146522536] at hA
  rw [← PySem.W.Fast.te14374325043358763698, tbl_eq] at hB
  have hr := segRun_of hr
  rw [hT] at hr
  have r1 := piece_app (rest := []) hr (fin_run w sT.abs _ p' pos0)
  rw [List.append_nil] at r1
  have r := go_top hA (piece_block hB r1)
  have r := topRun_mono (4688 - (12 + (1 + (2300 + 2)))) _ _ _ _ r
  have t : topFrom treeTable pw w 4688 (S0 w os) = some sT.abs := by
    unfold topFrom S0
    dsimp only
    rw [hS.1, hS.2.1, hS.2.2]
    show (match (true : Bool) with | true => (topRun treeTable pw w 11 ann0 4688 (S0 w os) (topStub pw)).bind _ | false => (none : Option Shared)) = _
    rw [r]
    show (match staticsOk (importedModules pw.main.body) (boot_heap w.params) sT.abs.heap && namesBound pw sT.abs.heap && gensDone sT.abs && laidKept (boot_heap w.params) sT.abs.heap with | true => some sT.abs | false => (none : Option Shared)) = _
    rw [l1]
  rw [← PySem.W.Fast.te4187177175401517315] at l2
  rw [show openEnds treeTable pw w 4688 = some sT.abs from (congrArg (fun o => Option.bind o (topFrom treeTable pw w 4688)) e).trans ((Option.bind_some _ _).trans t)]
  exact congrArg some (Prod.ext l2 l3)
theorem headL : LeftO pw viewQ loose0 Xt0 (obsZ kAs) (valZ kF 170 570) 4688 := fun w => by
  cases hb : w.params.followText "special-get-raises" with
  | false => exact top_left w false (hb ▸ World.withFollow_self w _) kCf
  | true => exact top_left w true (hb ▸ World.withFollow_self w _) kCt
theorem row_eq : PySem.Challenge.rw_ux0022_01 = row := rfl
end Mine
namespace Mine
open PySem PySem.Calls PyProof.Rows PySem.W
noncomputable def SubL (ρ : Ro) : Ro → Prop
  | [] => True
  | (x, v) :: r => ρ.lookup x = some v ∧ SubL ρ r
theorem SubL.look {ρ : Ro} {x : Str} {v : AV} : ∀ {r : Ro}, SubL ρ r → r.lookup x = some v → ρ.lookup x = some v
  | (y, w) :: r, h, e => by
    rw [List.lookup_cons] at e
    by_cases hx : x = y
    · subst hx; rw [beq_self_eq_true] at e; cases e; exact h.1
    · rw [beq_eq_false_iff_ne.mpr hx] at e; exact h.2.look e
theorem EnvR.weak {F : Addr → Prop} {μ : List Addr} {h : Heap} {env : Env} {sc : Scope} {ρ ρ' : Ro} (N : EnvR F μ h env sc ρ) (s : SubL ρ ρ') : EnvR F μ h env sc ρ' :=
  ⟨N.kind, N.kinds, N.glob, N.bns, N.loc, let ⟨m, a, b⟩ := N.ns; ⟨m, a, fun x v e k => b x v (s.look e) k⟩, fun x hx => let ⟨a, b, c1, c2, c3, c4, c5⟩ := N.cell x hx; ⟨a, b, c1, c2, c3, c4, fun v e => c5 v (s.look e)⟩, N.inj, N.tag⟩
section
variable {c : Cx} {n : Nat} {sc : Scope} {ρ ρ' ρ1 ρ2 : Ro} {σ σ1 σ2 : Sto} {b : List Stmt} {fl : Fl} {t e : PySem.Expr} {xs : List AV} {vers : List (Nat × Nat)} {d a : Nat}
theorem StB.weak (s : SubL ρ ρ') (h : StB c n sc b ρ' σ fl ρ1 σ1) : StB c n sc b ρ σ fl ρ1 σ1 := fun _ _ _ _ _ _ _ rm I N q => h rm I (N.weak s) q
theorem StR.weak {b : Stmt} (s : SubL ρ ρ') (h : StR c n sc b ρ' σ fl ρ1 σ1) : StR c n sc b ρ σ fl ρ1 σ1 := fun _ _ _ _ _ _ _ rm I N q => h rm I (N.weak s) q
theorem StR.out {b : Stmt} (s : SubL ρ1 ρ') (h : StR c n sc b ρ σ fl ρ1 σ1) : StR c n sc b ρ σ fl ρ' σ1 := fun _ _ _ _ _ _ _ rm I N q => h rm I N fun f s' μ' p N' r => q f s' μ' p (N'.weak s) r
theorem LoopB.weak (s : SubL ρ ρ') (h : LoopB c n sc t b ρ' σ xs vers fl ρ1 σ1) : LoopB c n sc t b ρ σ xs vers fl ρ1 σ1 := fun _ _ _ _ _ _ _ _ _ _ _ _ rm a1 a2 a3 a4 p N T q => h rm a1 a2 a3 a4 p (N.weak s) T q
theorem WhB.weak (s : SubL ρ ρ') (h : WhB c n sc e b ρ' σ fl ρ1 σ1) : WhB c n sc e b ρ σ fl ρ1 σ1 := fun _ _ _ _ _ _ rm I N q => h rm I (N.weak s) q
theorem CompL.weak {csc : Scope} (s : SubL ρ ρ') (h : CompL c n e csc t d a ρ' σ xs vers ρ1 σ1) : CompL c n e csc t d a ρ σ xs vers ρ1 σ1 := fun _ _ _ _ _ _ _ _ _ _ _ _ _ rm a1 a2 a3 a4 p N T ha q => h rm a1 a2 a3 a4 p (N.weak s) T ha q
theorem CallR.conv {m : Nat} {fv : AV} {vs : List AV} {kw : List (Str × AV)} {v : AV} (h : CallR c m fv vs kw σ v σ1) (hm : m ≤ n) : CallR c n fv vs kw σ v σ1 := fun _ _ _ _ _ _ _ _ _ rm I r1 r2 r3 q => h (rm.less hm) I r1 r2 r3 q
end
end Mine
namespace Mine
open PySem PySem.Calls PyProof.Rows PySem.W
noncomputable def globs : List (Str × Value) := [("len", .builtin "len"), ("_Accumulator", .ref 119), ("sum", .builtin "sum"), ("range", .type "range"), ("bisect_right", .ref 39), ("ISEOF", .ref 147), ("ISTERMINAL", .ref 133), ("ISNONTERMINAL", .ref 140), ("enumerate", .type "enumerate"),
  ("max", .builtin "max"), ("zip", .type "zip"), ("abs", .builtin "abs"), ("sorted", .builtin "sorted"), ("_law_laid", .ref 159), ("_law_falls", .ref 164), ("_law_number", .ref 154), ("insort_right", .ref 30), ("ValueError", .type "ValueError"), ("str", .type "str"), ("EXACT_TOKEN_TYPES", .ref 124)]
noncomputable def globI : List (Str × Int) := [("NT_OFFSET", 256), ("ENDMARKER", 0)]
noncomputable def wds : List (List Nat) := [[40], [41], [91], [93], [58], [44], [59], [43], [45], [42], [47], [124], [38], [60], [62], [61], [46], [37], [123], [125], [61, 61], [33, 61], [60, 61], [62, 61], [126], [94], [60, 60], [62, 62], [42, 42], [43, 61], [45, 61], [42, 61], [47, 61], [37, 61], [38, 61], [124, 61], [94, 61], [60, 60, 61], [62, 62, 61], [42, 42, 61], [47, 47], [47, 47, 61], [64], [64, 61], [45, 62], [46, 46, 46], [58, 61], [33]]
noncomputable def wd (n : Nat) : Str := sMk (wds.getD n [])
noncomputable def lt (k : Nat) : Str := sMk [97 + k]
noncomputable def nm (n k : Nat) : Str := wd n ++ lt k
structure TT (c : Cx) : Prop where
  F : AccF c
  SK : StoreK c
  gl : ∀ x u, globs.lookup x = some u → Glo c x u
  gi : ∀ x i, globI.lookup x = some i → ∃ t, Glo c x (.int i t)
  tab : ∀ n, n < 48 → TabR c 124 (wd n) (.int (7 + n))
  f133 : FnAt c 133 fd133 (fBody (st 59))
  f140 : FnAt c 140 fd140 (fBody (st 60))
  f147 : FnAt c 147 fd147 (fBody (st 61))
  f154 : FnAt c 154 fd154 (fBody (st 63))
  f164 : FnAt c 164 fd164 (fBody (st 65))
  f159 : FnAt c 159 fd159 (fBody (st 64))
  f39 : FnAt c 39 fd39 (fBody (st 3))
  f30 : FnAt c 30 fd30 (fBody (st 2))
  f63 : FnAt c 63 fd63 (fBody (mt 1))
  f71 : FnAt c 71 fd71 (fBody (mt 2))
  b133 : ∀ σ a, BindR c fd133 σ [a] [] [("x", a)]
  b140 : ∀ σ a, BindR c fd140 σ [a] [] [("x", a)]
  b147 : ∀ σ a, BindR c fd147 σ [a] [] [("x", a)]
  b154 : ∀ σ a, BindR c fd154 σ [a] [] [("piece", a)]
  b164 : ∀ σ a, BindR c fd164 σ [a] [] [("came", a)]
  b159 : ∀ σ a b d e, BindR c fd159 σ [a, b, d, e] [] [("comers", a), ("key", b), ("turning", d), ("head", e)]
  b39 : ∀ σ a x, BindR c fd39 σ [a, x] [] [("a", a), ("x", x), ("lo", .int 0), ("hi", .none), ("key", .none)]
  b39p : ∀ σ a x l h, BindR c fd39 σ [a, x, l, h] [] [("a", a), ("x", x), ("lo", l), ("hi", h), ("key", .none)]
  b39k : ∀ σ a x l h k, BindR c fd39 σ [a, x, l, h] [("key", k)] [("a", a), ("x", x), ("lo", l), ("hi", h), ("key", k)]
  b39r : ∀ σ a x l k, BindR c fd39 σ [a, x, l] [("key", k)] [("a", a), ("x", x), ("lo", l), ("hi", .none), ("key", k)]
  b30 : ∀ σ a x k, BindR c fd30 σ [a, x] [("key", k)] [("a", a), ("x", x), ("lo", .int 0), ("hi", .none), ("key", k)]
  b63 : ∀ σ a x y, BindR c fd63 σ [a, x, y] [] [("self", a), ("fws", x), ("string", y)]
  b71 : ∀ σ a x, BindR c fd71 σ [a, x] [] [("self", a), ("i", x)]
  k116 : ∀ σ, KeepR c σ (.val (.ref 116))
  k79 : ∀ σ, KeepR c σ (.val (.ref 79))
  findP : ∀ nm f, [(("append" : Str), Value.builtin "list.append"), ("push", .ref 63), ("pop_from", .ref 71), ("pop", .ref 79), ("part_count", .ref 116)].lookup nm = some f → findIn c.K (.ref 119) nm = some (some f) ∧ ∃ t, typeIn c.K f = some t ∧ (t != .type "function" && t != .type "method_descriptor" && t != .type "wrapper_descriptor") = false
  lenA : ∀ {n : Nat} {σ : Sto} {i v : Nat} {k : Int} {ys : List (Str × Str)}, σ[i]? = some ⟨v, some k, ys.map fun p => .tup [.str p.1, .str p.2]⟩ → (∀ p ∈ ys, p.1.length ≤ lim ∧ p.2.length ≤ lim) → 0 ≤ k ∧ k ≤ lim → CallR c (n + 2) (.val (.builtin "len")) [.mref i] [] σ (.int (k + signs ys)) σ
noncomputable def ndB : List Str → Bool
  | [] => true
  | x :: r => !r.contains x && ndB r
theorem ndB_out : ∀ {l : List Str}, ndB l = true → l.Nodup
  | [], _ => .nil
  | x :: r, h => by
    unfold ndB at h
    simp only [Bool.and_eq_true, Bool.not_eq_true', List.contains_eq_mem, decide_eq_false_iff_not] at h
    exact List.nodup_cons.mpr ⟨h.1, ndB_out h.2⟩
noncomputable def nmOk (sc : Scope) (x : Str) (k : NameKind) : Bool := sc.names.lookup x == some k && !(x == ("__debug__" : Str)) && !(x == ("__classdict__" : Str))
theorem nmOk_out {sc : Scope} {x : Str} {k : NameKind} (h : nmOk sc x k = true) : sc.names.lookup x = some k ∧ (x == ("__debug__" : Str)) = false ∧ (x == ("__classdict__" : Str)) = false := by
  unfold nmOk at h
  simp only [Bool.and_eq_true, Bool.not_eq_true', beq_iff_eq] at h
  exact ⟨h.1.1, h.1.2, h.2⟩
section
variable {c : Cx} {n : Nat} {sc : Scope} {ρ : Ro} {σ : Sto} {pos : Pos} {v : AV} {x : Str}
theorem EvE.nl (h : nmOk sc x .local = true) (hv : ρ.lookup x = some v) : EvE c n sc (.Name x pos) ρ σ v σ := .name (nmOk_out h).1 (.inl rfl) hv (nmOk_out h).2.1 (nmOk_out h).2.2
theorem EvE.nc (h : nmOk sc x .cell = true) (hv : ρ.lookup x = some v) : EvE c n sc (.Name x pos) ρ σ v σ := .name (nmOk_out h).1 (.inr (.inl rfl)) hv (nmOk_out h).2.1 (nmOk_out h).2.2
theorem EvE.nf (h : nmOk sc x .free = true) (hv : ρ.lookup x = some v) : EvE c n sc (.Name x pos) ρ σ v σ := .name (nmOk_out h).1 (.inr (.inr rfl)) hv (nmOk_out h).2.1 (nmOk_out h).2.2
theorem EvE.gl (H : TT c) (h : nmOk sc x .globalImplicit = true) {u : Value} (hu : globs.lookup x = some u) : EvE c n sc (.Name x pos) ρ σ (.val u) σ := .glob (H.gl x u hu) (nmOk_out h).1 (nmOk_out h).2.1 fun _ _ _ => .val _
theorem EvE.gi (H : TT c) (h : nmOk sc x .globalImplicit = true) {i : Int} (hu : globI.lookup x = some i) : EvE c n sc (.Name x pos) ρ σ (.int i) σ := let ⟨_, g⟩ := H.gi x i hu; .glob g (nmOk_out h).1 (nmOk_out h).2.1 fun _ _ _ => .int _ _
theorem CallR.same {m : Nat} {fv : AV} {vs : List AV} {kw : List (Str × AV)} (h : CallR c m fv vs kw σ v (σ.take σ.length)) : CallR c m fv vs kw σ v σ := by rwa [List.take_length] at h
theorem CallR.pure {ad : Addr} {fd : FuncData} {body : List Stmt} {vs : List AV} {kw : List (Str × AV)} {ρ ρ1 : Ro} (H : FnAt c ad fd body) (hb : BindR c fd σ vs kw ρ) (hk : (ρ.all fun p => fd.scope.names.lookup p.1 == some .local || fd.scope.names.lookup p.1 == some .cell) = true) (hnd : ndB (ρ.map (·.1)) = true)
    (hB : StB c n fd.scope body ρ σ (.ret v) ρ1 σ) (hlo : LoSto σ.length σ) (hv : Lo σ.length v) : CallR c (n + 1) (.val (.ref ad)) vs kw σ v σ :=
  .same (.fn H hb (fun x hx => by
    obtain ⟨p, hp, rfl⟩ := List.mem_map.mp hx
    have := List.all_eq_true.mp hk p hp
    simpa only [Bool.or_eq_true, beq_iff_eq] using this) (ndB_out hnd) hB (.inl rfl) hlo (.inl ⟨hv, rfl⟩))
theorem call_isterm (H : TT c) {i : Int} (hlo : LoSto σ.length σ) : CallR c (n + 1) (.val (.ref 133)) [.int i] [] σ (.bool (decide (i < 256))) σ :=
  .pure H.f133 (H.b133 σ _) rfl rfl (.stop (.ret (.cmp (.nl rfl rfl) (.gi H rfl rfl) .lt rfl)) (fun h => nomatch h)) hlo .bool
theorem call_isnon (H : TT c) {i : Int} (hlo : LoSto σ.length σ) : CallR c (n + 1) (.val (.ref 140)) [.int i] [] σ (.bool (decide (i ≥ 256))) σ :=
  .pure H.f140 (H.b140 σ _) rfl rfl (.stop (.ret (.cmp (.nl rfl rfl) (.gi H rfl rfl) .ge rfl)) (fun h => nomatch h)) hlo .bool
theorem call_iseof (H : TT c) {i : Int} (hlo : LoSto σ.length σ) : CallR c (n + 1) (.val (.ref 147)) [.int i] [] σ (.bool (i == 0)) σ :=
  .pure H.f147 (H.b147 σ _) rfl rfl (.stop (.ret (.cmp (.nl rfl rfl) (.gi H rfl rfl) .eqInt rfl)) (fun h => nomatch h)) hlo .bool
end
end Mine
namespace Mine
open PySem PySem.Calls PyProof.Rows PySem.W
theorem nm_cut : ∀ m, m < 48 → ∀ k, k < 8 → sMk (cutL (nm m k).cps.toList 0 (clipAt (nm m k).length (-1))) = wd m ∧ idx (nm m k).length (-1) = some ((nm m k).length - 1) ∧ (nm m k).cps[(nm m k).length - 1]? = some (97 + k) ∧ (nm m k).length ≤ 8 ∧ PyData.strOk (nm m k) = true := by decide +kernel
section
variable {c : Cx} {n : Nat} {sc : Scope} {ρ : Ro} {σ σ1 : Sto} {pos : Pos} {v w : AV} {x : Str} {e : PySem.Expr}
theorem EvE.eq (h : EvE c n sc e ρ σ v σ1) (q : v = w) : EvE c n sc e ρ σ w σ1 := q ▸ h
theorem IsT.eq {k k' : Bool} (h : IsT c n sc e ρ σ k σ1) (q : k = k') : IsT c n sc e ρ σ k' σ1 := q ▸ h
theorem idx_nat {m k : Nat} : idx m (k : Int) = some k := by rw [idx, if_pos (Int.natCast_nonneg k), Int.toNat_natCast]
theorem div2 {a b : Nat} : AV.int (((a : Int) + b) / 2) = .int ((a + b) / 2 : Nat) := by rw [Int.natCast_ediv, Int.natCast_add]; rfl
theorem lim8 {k : Nat} (h : k ≤ 8) : k ≤ lim := Nat.le_trans h (by decide)
theorem call_number (H : TT c) {b : Str} {m k : Nat} (hm : m < 48) (hk : k < 8) (hlo : LoSto σ.length σ) : CallR c (n + 1) (.val (.ref 154)) [.tup [.str b, .str (nm m k)]] [] σ (.int (7 + m)) σ := by
  obtain ⟨q1, q2, q3, q4, q5⟩ := nm_cut m hm k hk
  refine .pure H.f154 (H.b154 σ _) rfl rfl (.stop (.ret (EvE.sub (.gl H rfl rfl) (EvE.slice (EvE.sub (.nl rfl rfl) .int (.tup (j := 1) rfl rfl)) ⟨rfl, rfl⟩ (EvE.neg .int) ⟨rfl, rfl⟩ (.str (.inl ⟨rfl, rfl⟩) (.inr ⟨-1, rfl, rfl⟩) (lim8 q4))) ?_)) (fun h => nomatch h)) hlo .int
  rw [q1]
  exact .tab (H.tab m hm)
noncomputable abbrev bisR (a x key : AV) (lo hi : Nat) : Ro := [("a", a), ("x", x), ("lo", .int lo), ("hi", .int hi), ("key", key)]
theorem bis_loop {a x key : AV} {p h l0 : Nat} {b : List Stmt} (ht : ∀ lo hi : Nat, IsT c n sc e (bisR a x key lo hi) σ (decide ((lo : Int) < hi)) σ) (hb : ∀ lo hi : Nat, l0 ≤ lo → lo < hi → hi ≤ h → StB c n sc b (bisR a x key lo hi) σ .nxt (put ("mid" : Str) (.int ((lo + hi) / 2 : Nat)) (if p ≤ (lo + hi) / 2 then bisR a x key lo ((lo + hi) / 2) else bisR a x key ((lo + hi) / 2 + 1) hi)) σ) :
    ∀ d lo hi : Nat, hi - lo ≤ d → l0 ≤ lo → lo ≤ p → p ≤ hi → hi ≤ h → WhB c n sc e b (bisR a x key lo hi) σ .nxt (bisR a x key p p) σ
  | 0, lo, hi, hd, h0, h1, h2, h3 => by
    obtain rfl : lo = p := by exact Z239 h1 h2 hd
    obtain rfl : hi = lo := by exact Z240 hd h2
    have := ht hi hi
    rw [decide_eq_false (by lia)] at this
    exact .stop this
  | d + 1, lo, hi, hd, h0, h1, h2, h3 => by
    by_cases q : lo < hi
    · have t := ht lo hi
      rw [decide_eq_true (by lia)] at t
      refine .on t (hb lo hi h0 q h3) (.inl rfl) ?_
      by_cases z : p ≤ (lo + hi) / 2
      · rw [if_pos z]
        exact .weak (ρ' := bisR a x key lo ((lo + hi) / 2)) ⟨rfl, rfl, rfl, rfl, rfl, trivial⟩ (bis_loop ht hb d lo ((lo + hi) / 2) (by exact Z241 q hd) h0 h1 z (by exact Z242 h1 h3 z))
      · rw [if_neg z]
        exact .weak (ρ' := bisR a x key ((lo + hi) / 2 + 1) hi) ⟨rfl, rfl, rfl, rfl, rfl, trivial⟩ (bis_loop ht hb d ((lo + hi) / 2 + 1) hi (by exact Z243 hd q) (by exact Z244 h0 h2 z) (by exact Nat.lt_of_not_le z) h2 h3)
    · obtain rfl : lo = p := by exact Z245 h1 h2 q
      obtain rfl : hi = lo := by exact Z246 h2 q
      have := ht hi hi
      rw [decide_eq_false (by lia)] at this
      exact .stop this
noncomputable def KeyAt (c : Cx) (n : Nat) (σ : Sto) (key : AV) (it kv : AV) : Prop := (key = .none ∧ kv = it) ∨ ((∀ F μ h x, VR F μ h key x → x ≠ .none) ∧ KeepR c σ key ∧ CallR c n key [it] [] σ kv σ)
theorem bis_body (H : TT c) {a x key hi : AV} {lo p h : Nat} {xs : List AV} (ha : SeqR σ a xs) (h1 : lo ≤ p) (h2 : p ≤ h) (h3 : h ≤ xs.length) (hh : (hi = .none ∧ h = xs.length) ∨ hi = .int h) (hkn : key = .none ∨ ∀ F μ h x, VR F μ h key x → x ≠ .none)
    (hk : ∀ i it, lo ≤ i → i < h → xs[i]? = some it → ∃ kv, KeyAt c n σ key it kv ∧ Op2 c σ (compareOp .Lt) x kv (.bool (decide (p ≤ i)))) :
    StB c n (fScope (st 3)) (fBody (st 3)) [("a", a), ("x", x), ("lo", .int lo), ("hi", hi), ("key", key)] σ (.ret (.int p)) (bisR a x key p p) σ := by
  refine StB.cons (ρ1 := [("a", a), ("x", x), ("lo", .int lo), ("hi", hi), ("key", key)]) (σ1 := σ) (.if (.eq (.cmp (.nl rfl rfl) .int .lt rfl) (decide_eq_false (by lia))) .nil) (StB.cons (ρ1 := bisR a x key lo h) (σ1 := σ) ?_ (StB.cons (ρ1 := bisR a x key p p) (σ1 := σ) ?_ (.stop (.ret (.nl rfl rfl)) (fun h => nomatch h))))
  · rcases hh with ⟨rfl, rfl⟩ | rfl
    · exact .if (.cmp (.nl rfl rfl) .none .isNone1 rfl) (.cons (.assign (EvE.call (.gl H rfl rfl) (.cons (.nl rfl rfl) .nil fun _ => rfl) .nil (.len ha) .bi (fun _ => rfl) (fun _ => rfl) fun _ => ⟨rfl, rfl⟩) (.name (.inl rfl)) (fun _ => rfl) (fun _ => rfl) fun _ => rfl) .nil)
    · exact .if (.cmp (.nl rfl rfl) .none (.isNone fun F μ h x r => by obtain ⟨t, rfl⟩ := r.int_inv; exact fun q => nomatch q) rfl) .nil
  · rcases hkn with rfl | hkn
    · refine .if (.cmp (.nl rfl rfl) .none .isNone1 rfl) (.cons (.while (bis_loop (fun lo hi => .cmp (.nl rfl rfl) (.nl rfl rfl) .lt rfl) (fun lo hi q0 q q2 => ?_) h lo h (by exact Z83) (Nat.le_refl _) h1 h2 (Nat.le_refl _))) .nil)
      refine .cons (.assign (EvE.eq (.bin (.bin (.nl rfl rfl) (.nl rfl rfl) .add) .int (.div (by decide) (by decide))) div2) (.name (.inl rfl)) (fun _ => rfl) (fun _ => rfl) fun _ => rfl) ?_
      obtain ⟨it, hit⟩ : ∃ it, xs[(lo + hi) / 2]? = some it := ⟨_, List.getElem?_eq_getElem (by exact Z247 q q2 h3)⟩
      obtain ⟨kv, k1, k2⟩ := hk _ it (by exact Z248 q0 q) (by exact Z249 q q2) hit
      rcases k1 with ⟨_, rfl⟩ | ⟨k1, _⟩
      · by_cases z : p ≤ (lo + hi) / 2
        · rw [if_pos z]; rw [decide_eq_true z] at k2
          exact .cons (.if (.cmp (.nl rfl rfl) (.sub (.nl rfl rfl) (.nl rfl rfl) (.seq ha idx_nat hit)) k2 rfl) (.cons (.assign (.nl rfl rfl) (.name (.inl rfl)) (fun _ => rfl) (fun _ => rfl) fun _ => rfl) .nil)) .nil
        · rw [if_neg z]; rw [decide_eq_false z] at k2
          exact .cons (.if (.cmp (.nl rfl rfl) (.sub (.nl rfl rfl) (.nl rfl rfl) (.seq ha idx_nat hit)) k2 rfl) (.cons (.assign (.bin (.nl rfl rfl) .int .add) (.name (.inl rfl)) (fun _ => rfl) (fun _ => rfl) fun _ => rfl) .nil)) .nil
      · exact absurd rfl (k1 (fun _ => False) [] ⟨#[], default⟩ .none .none)
    · refine .if (.cmp (.nl rfl rfl) .none (.isNone hkn) rfl) (.cons (.while (bis_loop (fun lo hi => .cmp (.nl rfl rfl) (.nl rfl rfl) .lt rfl) (fun lo hi q0 q q2 => ?_) h lo h (by exact Z83) (Nat.le_refl _) h1 h2 (Nat.le_refl _))) .nil)
      refine .cons (.assign (EvE.eq (.bin (.bin (.nl rfl rfl) (.nl rfl rfl) .add) .int (.div (by decide) (by decide))) div2) (.name (.inl rfl)) (fun _ => rfl) (fun _ => rfl) fun _ => rfl) ?_
      obtain ⟨it, hit⟩ : ∃ it, xs[(lo + hi) / 2]? = some it := ⟨_, List.getElem?_eq_getElem (by exact Z247 q q2 h3)⟩
      obtain ⟨kv, k1, k2⟩ := hk _ it (by exact Z248 q0 q) (by exact Z249 q q2) hit
      rcases k1 with ⟨rfl, _⟩ | ⟨_, k3, k4⟩
      · exact absurd rfl (hkn (fun _ => False) [] ⟨#[], default⟩ .none .none)
      · by_cases z : p ≤ (lo + hi) / 2
        · rw [if_pos z]; rw [decide_eq_true z] at k2
          exact .cons (.if (.cmp (.nl rfl rfl) (.call (.nl rfl rfl) (.cons (.sub (.nl rfl rfl) (.nl rfl rfl) (.seq ha idx_nat hit)) .nil fun _ => rfl) .nil k4 k3 (fun _ => rfl) (fun _ => rfl) fun _ => ⟨rfl, rfl⟩) k2 rfl) (.cons (.assign (.nl rfl rfl) (.name (.inl rfl)) (fun _ => rfl) (fun _ => rfl) fun _ => rfl) .nil)) .nil
        · rw [if_neg z]; rw [decide_eq_false z] at k2
          exact .cons (.if (.cmp (.nl rfl rfl) (.call (.nl rfl rfl) (.cons (.sub (.nl rfl rfl) (.nl rfl rfl) (.seq ha idx_nat hit)) .nil fun _ => rfl) .nil k4 k3 (fun _ => rfl) (fun _ => rfl) fun _ => ⟨rfl, rfl⟩) k2 rfl) (.cons (.assign (.bin (.nl rfl rfl) .int .add) (.name (.inl rfl)) (fun _ => rfl) (fun _ => rfl) fun _ => rfl) .nil)) .nil
end
end Mine
namespace Mine
open PySem PySem.Calls PyProof.Rows PySem.W
section
variable {c : Cx} {n : Nat} {sc : Scope} {ρ : Ro} {σ σ1 : Sto} {pos : Pos} {v w : AV} {x : Str} {e : PySem.Expr}
theorem call_bisk (H : TT c) {a x key hi : AV} {lo p h : Nat} {xs : List AV} (hs : LoSto σ.length σ) (ha : SeqR σ a xs) (h1 : lo ≤ p) (h2 : p ≤ h) (h3 : h ≤ xs.length) (hh : (hi = .none ∧ h = xs.length) ∨ hi = .int h) (hkn : ∀ F μ h x, VR F μ h key x → x ≠ .none)
    (hk : ∀ i it, lo ≤ i → i < h → xs[i]? = some it → ∃ kv, KeyAt c n σ key it kv ∧ Op2 c σ (compareOp .Lt) x kv (.bool (decide (p ≤ i)))) : CallR c (n + 1) (.val (.ref 39)) [a, x, .int lo, hi] [("key", key)] σ (.int p) σ :=
  .pure H.f39 (H.b39k σ _ _ _ _ _) rfl rfl (bis_body H ha h1 h2 h3 hh (.inr hkn) hk) hs .int
theorem call_bisp (H : TT c) {a x hi : AV} {lo p h : Nat} {xs : List AV} (hs : LoSto σ.length σ) (ha : SeqR σ a xs) (h1 : lo ≤ p) (h2 : p ≤ h) (h3 : h ≤ xs.length) (hh : (hi = .none ∧ h = xs.length) ∨ hi = .int h)
    (hk : ∀ i it, lo ≤ i → i < h → xs[i]? = some it → Op2 c σ (compareOp .Lt) x it (.bool (decide (p ≤ i)))) : CallR c (n + 1) (.val (.ref 39)) [a, x, .int lo, hi] [] σ (.int p) σ :=
  .pure H.f39 (H.b39p σ _ _ _ _) rfl rfl (bis_body H ha h1 h2 h3 hh (.inl rfl) fun i it z q r => ⟨it, .inl ⟨rfl, rfl⟩, hk i it z q r⟩) hs .int
theorem call_bis2 (H : TT c) {a x : AV} {p : Nat} {xs : List AV} (hs : LoSto σ.length σ) (ha : SeqR σ a xs) (h2 : p ≤ xs.length)
    (hk : ∀ i it, xs[i]? = some it → Op2 c σ (compareOp .Lt) x it (.bool (decide (p ≤ i)))) : CallR c (n + 1) (.val (.ref 39)) [a, x] [] σ (.int p) σ :=
  .pure H.f39 (H.b39 σ _ _) rfl rfl (bis_body (lo := 0) H ha (Nat.zero_le _) h2 (Nat.le_refl _) (.inl ⟨rfl, rfl⟩) (.inl rfl) fun i it _ _ r => ⟨it, .inl ⟨rfl, rfl⟩, hk i it r⟩) hs .int
theorem CallR.eff {ad : Addr} {fd : FuncData} {body : List Stmt} {vs : List AV} {kw : List (Str × AV)} {ρ ρ1 : Ro} {fl : Fl} (H : FnAt c ad fd body) (hb : BindR c fd σ vs kw ρ) (hk : (ρ.all fun p => fd.scope.names.lookup p.1 == some .local || fd.scope.names.lookup p.1 == some .cell) = true) (hnd : ndB (ρ.map (·.1)) = true)
    (hB : StB c n fd.scope body ρ σ fl ρ1 σ1) (hfl : fl = .ret v ∨ (fl = .nxt ∧ v = .none)) (hlen : σ1.length = σ.length) (hlo : LoSto σ.length σ1) (hv : Lo σ.length v) : CallR c (n + 1) (.val (.ref ad)) vs kw σ v σ1 := by
  have := CallR.fn H hb (fun x hx => by
    obtain ⟨p, hp, rfl⟩ := List.mem_map.mp hx
    have := List.all_eq_true.mp hk p hp
    simpa only [Bool.or_eq_true, beq_iff_eq] using this) (ndB_out hnd) hB hfl hlo (.inl ⟨hv, rfl⟩)
  rwa [← hlen, List.take_length] at this
theorem chg_len {i : Nat} {o : MO} {xs : List AV} : (chg σ i o xs).length = σ.length := List.length_set
theorem chg_lo {i m : Nat} {o : MO} {xs : List AV} (h : LoSto m σ) (hx : ∀ y ∈ xs, Lo m y) : LoSto m (chg σ i o xs) := fun j q hj e => by
  by_cases k : i = j
  · subst k
    by_cases z : i < σ.length
    · rw [chg, List.getElem?_set_self z] at e; cases e; exact hx
    · rw [chg, List.getElem?_eq_none (by rw [List.length_set]; exact Nat.le_of_not_lt z)] at e; cases e
  · rw [chg, List.getElem?_set_ne k] at e; exact h j q hj e
theorem chg_same {i : Nat} {o : MO} {xs : List AV} (h : σ[i]? = some o) : (chg σ i o xs)[i]? = some ⟨o.ver + 1, o.acc, xs⟩ := by rw [chg, List.getElem?_set_self (List.getElem?_eq_some_iff.mp h).1]
theorem chg_ne {i j : Nat} {o : MO} {xs : List AV} (h : i ≠ j) : (chg σ i o xs)[j]? = σ[j]? := by rw [chg, List.getElem?_set_ne h]
theorem lim2 : 2 ≤ lim := by decide
theorem FnAt.keep {ad : Addr} {fd : FuncData} {body : List Stmt} (H : FnAt c ad fd body) : KeepR c σ (.val (.ref ad)) := let ⟨_, h, d⟩ := H.at_; .fn h d
theorem GetR.ac (H : TT c) {i u : Nat} {k : Int} {xs : List AV} {nm : Str} {f : Value} (ho : σ[i]? = some ⟨u, some k, xs⟩) (hf : [(("append" : Str), Value.builtin "list.append"), ("push", .ref 63), ("pop_from", .ref 71), ("pop", .ref 79), ("part_count", .ref 116)].lookup nm = some f) (hn : (nm == ("_initial_size" : Str)) = false) : GetR c σ (.mref i) nm f := by
  obtain ⟨h1, t, h2, h3⟩ := H.findP nm f hf
  exact .acc H.F.KA ho h1 h2 h3 fun q => by rw [q] at hn; simp at hn
theorem call_push (H : TT c) {i u : Nat} {k : Int} {xs : List AV} {a b : AV} (ho : σ[i]? = some ⟨u, some k, xs⟩) (hl : xs.length < lim) (hs : LoSto σ.length σ) (ha : Lo σ.length a) (hb : Lo σ.length b) :
    CallR c (n + 1) (.val (.ref 63)) [.mref i, a, b] [] σ .none (chg σ i ⟨u, some k, xs⟩ (xs ++ [.tup [a, b]])) := by
  refine .eff H.f63 (H.b63 σ _ _ _) rfl rfl (.cons (.expr (EvE.meth (.nl rfl rfl) (.ac H ho rfl rfl) (.cons (.tup (.cons (.nl rfl rfl) (.cons (.nl rfl rfl) .nil fun _ => rfl) fun _ => rfl) lim2) .nil fun _ => rfl) (.appendA H.F.KA ho hl) .bi (fun _ => rfl) fun _ => rfl) fun _ => rfl) .nil) (.inr ⟨rfl, rfl⟩) chg_len (chg_lo hs fun y hy => ?_) .none
  rcases List.mem_append.mp hy with hy | hy
  · exact hs i _ (List.getElem?_eq_some_iff.mp ho).1 ho y hy
  · cases List.mem_singleton.mp hy
    exact .tup fun z hz => by rcases List.mem_cons.mp hz with rfl | hz; exact ha; cases List.mem_singleton.mp hz; exact hb
theorem call_popf (H : TT c) {i u j : Nat} {k : Int} {xs : List AV} (ho : σ[i]? = some ⟨u, some k, xs⟩) (hj : j ≤ xs.length) (hl : xs.length ≤ lim) (hs : LoSto σ.length σ) :
    CallR c (n + 1) (.val (.ref 71)) [.mref i, .int j] [] σ (.lst (xs.drop j)) (chg σ i ⟨u, some k, xs⟩ (xs.take j)) := by
  have lo := hs i _ (List.getElem?_eq_some_iff.mp ho).1 ho
  have h : CallR c (n + 1) (.val (.ref 71)) [.mref i, .int j] [] σ (.lst (xs.drop j)) (chg σ i ⟨u, some k, xs⟩ (xs.take j ++ [])) := .eff H.f71 (H.b71 σ _ _) rfl rfl (.cons (.assign (EvE.slice (.nl rfl rfl) (.nl rfl rfl) ⟨rfl, rfl⟩ ⟨rfl, rfl⟩ (.acc H.F.KA ho hj)) (.name (.inl rfl)) (fun _ => rfl) (fun _ => rfl) fun _ => rfl) (.cons (.setSlice H.F.KA (.lst .nil (Nat.zero_le _)) rfl (.nl rfl rfl) (.nl rfl rfl) ho hj (by simpa using hl) rfl fun _ => rfl)
    (.stop (.ret (.nl rfl rfl)) fun h => nomatch h))) (.inl rfl) chg_len (chg_lo hs fun y hy => by rw [List.append_nil] at hy; exact lo y (List.mem_of_mem_take hy)) (.lst fun y hy => lo y (List.mem_of_mem_drop hy))
  rwa [List.append_nil] at h
theorem call_insort (H : TT c) {i u p : Nat} {xs : List AV} {x key kx : AV} (ho : σ[i]? = some ⟨u, none, xs⟩) (hl : xs.length < lim) (hs : LoSto σ.length σ) (hx : Lo σ.length x) (hp : p ≤ xs.length) (hkn : ∀ F μ h x, VR F μ h key x → x ≠ .none) (hkk : KeepR c σ key) (hkx : CallR c (n + 1) key [x] [] σ kx σ)
    (hk : ∀ i it, xs[i]? = some it → ∃ kv, KeyAt c n σ key it kv ∧ Op2 c σ (compareOp .Lt) kx kv (.bool (decide (p ≤ i)))) :
    CallR c (n + 2) (.val (.ref 30)) [.mref i, x] [("key", key)] σ .none (chg σ i ⟨u, none, xs⟩ (xs.take p ++ x :: xs.drop p)) := by
  have lo := hs i _ (List.getElem?_eq_some_iff.mp ho).1 ho
  refine .eff H.f30 (H.b30 σ _ _ _) rfl rfl (.cons (.if (.cmp (.nl rfl rfl) .none (.isNone hkn) rfl) (.cons (.assign (EvE.call (.gl H rfl rfl) (.cons (.nl rfl rfl) (.cons (.call (.nl rfl rfl) (.cons (.nl rfl rfl) .nil fun _ => rfl) .nil hkx hkk (fun _ => rfl) (fun _ => rfl) fun _ => ⟨rfl, rfl⟩) (.cons (.nl rfl rfl) (.cons (.nl rfl rfl) .nil fun _ => rfl) fun _ => rfl) fun _ => rfl) fun _ => rfl)
      (.one (.nl rfl rfl)) (call_bisk (lo := 0) H hs (.mref ho) (Nat.zero_le _) hp (Nat.le_refl _) (.inl ⟨rfl, rfl⟩) hkn fun i it _ _ r => hk i it r) H.f39.keep (fun _ => rfl) (fun _ => rfl) fun _ => ⟨rfl, rfl⟩) (.name (.inl rfl)) (fun _ => rfl) (fun _ => rfl) fun _ => rfl) .nil))
    (.cons (.expr (EvE.meth (.nl rfl rfl) (.seq (.mref ho) PySem.F.slot_list_insert rfl) (.cons (.nl rfl rfl) (.cons (.nl rfl rfl) .nil fun _ => rfl) fun _ => rfl) (.insert (Int.natCast_nonneg p) ho hl (by lia)) .bi (fun _ => rfl) fun _ => rfl) fun _ => rfl) .nil)) (.inr ⟨rfl, rfl⟩) chg_len (chg_lo hs fun y hy => ?_) .none
  rcases List.mem_append.mp hy with hy | hy
  · exact lo y (List.mem_of_mem_take hy)
  · rcases List.mem_cons.mp hy with rfl | hy
    · exact hx
    · exact lo y (List.mem_of_mem_drop hy)
end
end Mine
namespace Mine
open PySem PySem.Calls PyProof.Rows PySem.W
theorem vr_mono {F : Addr → Prop} {μ : List Addr} {h : Heap} {v : AV} {x : Value} {n m : Nat} (hnm : n ≤ m) (r : VR F μ h v x) : VR F (μ.take n) h v x → VR F (μ.take m) h v x := by
  induction r with
  | none => intro _; exact .none
  | bool b => intro _; exact .bool b
  | int i t => intro _; exact .int i t
  | str t k => intro _; exact .str t k
  | tup a e l k r ih =>
    intro q
    obtain ⟨ad, vs, q1, _, ⟨o, q2, q3⟩, _, q5⟩ := q.tup_inv
    cases q1
    have e0 := e
    obtain ⟨o', e1, e2⟩ := e
    rw [e1] at q2; cases q2
    obtain ⟨m1, z1, z2⟩ := e2
    obtain ⟨m2, z3, z4⟩ := q3
    rw [z2] at z4; cases z4
    exact .tup (fun w => a w.take) e0 l k fun i x v a1 a2 => ih i x v a1 a2 (q5.at_ i x v a1 a2)
  | lst a e l k r ih =>
    intro q
    obtain ⟨ad, vs, q1, _, ⟨o, q2⟩, _, q5⟩ := q.lst_inv
    cases q1
    obtain ⟨o', e1⟩ := e
    rw [e1] at q2; cases q2
    exact .lst (fun w => a w.take) ⟨_, e1⟩ l k fun i x v a1 a2 => ih i x v a1 a2 (q5.at_ i x v a1 a2)
  | mref e =>
    intro q
    obtain ⟨a, q1, q2⟩ := q.mref_inv
    cases q1
    refine .mref ?_
    rw [List.getElem?_take] at q2 ⊢
    split at q2
    · rw [if_pos (by exact Z195 (by assumption) hnm)]; exact q2
    · cases q2
  | val v => intro _; exact .val v
  | lam a e => intro q; obtain ⟨ad, q1, q2, q3⟩ := q.lam_inv; cases q1; exact .lam (fun w => a w.take) (by
      obtain ⟨o, fd, k, ok, e1, r1, r2, r3, r4, r5, r6, r7, r8, r9, r10, r11, e2⟩ := e
      exact ⟨o, fd, k, ok, e1, r1, r2, r3, r4, r5, r6, r7, r8, r9, r10, fun w => r11 w.take, e2⟩)
theorem Lo.mono {n m : Nat} {v : AV} (h : Lo n v) (k : n ≤ m) : Lo m v := fun _ _ _ _ r => vr_mono k r (h r)
noncomputable def Pl (v : AV) : Prop := Lo 0 v
theorem Pl.lo {v : AV} (h : Pl v) (n : Nat) : Lo n v := h.mono (Nat.zero_le n)
theorem Pl.ints {ns : List Int} : ∀ x ∈ ns.map AV.int, Pl x := fun x hx => by obtain ⟨i, _, rfl⟩ := List.mem_map.mp hx; exact .int
theorem LoSto.app {σ : Sto} {w : Nat} {xs : List AV} (h : LoSto σ.length σ) (hx : ∀ x ∈ xs, Pl x) : LoSto (σ ++ [(⟨w, none, xs⟩ : MO)]).length (σ ++ [⟨w, none, xs⟩]) := fun i o hi e => by
  by_cases k : i < σ.length
  · rw [List.getElem?_append_left k] at e
    exact fun x q => (h i o k e x q).mono (by simp)
  · rw [List.getElem?_append_right (by exact Nat.le_of_not_lt k)] at e
    have : i - σ.length = 0 := by simp at hi; exact Z250 hi k
    rw [this] at e; cases e
    exact fun x q => (hx x q).lo _
theorem LoSto.old {σ : Sto} {w : Nat} {xs : List AV} (h : LoSto σ.length σ) : LoSto σ.length (σ ++ [⟨w, none, xs⟩]) := fun i o hi e => by rw [List.getElem?_append_left hi] at e; exact h i o hi e
theorem VersOk.app {σ : Sto} {vers : List (Nat × Nat)} {o : MO} (h : VersOk σ vers) : VersOk (σ ++ [o]) vers := fun p hp => by
  obtain ⟨q, e, r⟩ := h p hp
  exact ⟨q, by rw [List.getElem?_append_left (List.getElem?_eq_some_iff.mp e).1]; exact e, r⟩
noncomputable def inScB (csc sc : Scope) : Bool := csc.kind == .function && ndB (csc.names.map (·.1)) && !(csc.names.lookup ("script" : Str) == some .local) && csc.names.all fun p => !(p.2 == .free) || (sc.names.lookup p.1 == some .cell || sc.names.lookup p.1 == some .free)
theorem inScB_out {csc sc : Scope} (h : inScB csc sc = true) : InSc csc sc := by
  unfold inScB at h
  simp only [Bool.and_eq_true, beq_iff_eq, Bool.not_eq_true', List.all_eq_true, Bool.or_eq_true] at h
  obtain ⟨⟨⟨a, b⟩, d⟩, e⟩ := h
  exact ⟨a, ndB_out b, fun q => by rw [q] at d; simp at d, fun p hp q => (e p hp).resolve_left fun z => by rw [q] at z; simp at z⟩
theorem SubL.of_put {ρ r : Ro} : SubL ρ r → SubL ρ r := id
section
variable {c : Cx} {n : Nat} {sc csc : Scope} {ρ ρ0 : Ro} {σ : Sto} {pos : Pos} {elt : PySem.Expr} {g : Comprehension} {α : Type} {l : List α} {vers : List (Nat × Nat)} {gx : α → AV} {f : α → Option AV}
noncomputable def StepC (c : Cx) (n : Nat) (csc : Scope) (g : Comprehension) (elt : PySem.Expr) (ρ0 : Ro) (σ : Sto) (x : AV) (o : Option AV) : Prop :=
  ∀ (w : Nat) (acc : List AV), (∀ y ∈ acc, Pl y) → ∃ ρ1, AsR c csc g.target x ρ0 ρ1 ∧ SubL ρ1 ρ0 ∧ ((o = none ∧ TestR c n csc g.ifs ρ1 (σ ++ [⟨w, none, acc⟩]) false) ∨ ∃ v, o = some v ∧ Pl v ∧ TestR c n csc g.ifs ρ1 (σ ++ [⟨w, none, acc⟩]) true ∧ EvE c n csc elt ρ1 (σ ++ [⟨w, none, acc⟩]) v (σ ++ [⟨w, none, acc⟩]))
theorem chg_app {w : Nat} {acc ys : List AV} : chg (σ ++ [⟨w, none, acc⟩]) σ.length ⟨w, none, acc⟩ ys = σ ++ [⟨w + 1, none, ys⟩] := by
  rw [chg, List.set_append_right _ _ (Nat.le_refl _), Nat.sub_self]; rfl
theorem get_app {o : MO} : (σ ++ [o])[σ.length]? = some o := by rw [List.getElem?_append_right (Nat.le_refl _), Nat.sub_self]; rfl
theorem comp_run (hb : g.is_async = 0) (hv : VersOk σ vers) : ∀ (xs : List α) (acc : List AV) (w : Nat), acc.length + xs.length ≤ lim → (∀ y ∈ acc, Pl y) → (∀ x ∈ xs, StepC c n csc g elt ρ0 σ (gx x) (f x)) →
    ∃ ρ1 w', CompL c n (.ListComp elt [g] csc pos) csc g.target 0 σ.length ρ0 (σ ++ [⟨w, none, acc⟩]) (xs.map gx) vers ρ1 (σ ++ [⟨w', none, acc ++ xs.filterMap f⟩]) ∧ ∀ y ∈ xs.filterMap f, Pl y
  | [], acc, w, _, _, _ => ⟨ρ0, w, by rw [List.filterMap_nil, List.append_nil]; exact .nil rfl (by simpa using hb), fun _ h => nomatch h⟩
  | x :: xs, acc, w, hl, ha, hs => by
    have hb' : ∀ g' ∈ [g], g'.is_async = 0 := by simpa using hb
    obtain ⟨ρ1, a1, a2, a3⟩ := hs x (.head _) w acc ha
    rw [List.length_cons] at hl
    rcases a3 with ⟨e, t⟩ | ⟨v, e, pv, t, ev⟩
    · obtain ⟨ρ2, w', h, hp⟩ := comp_run hb hv xs acc w (by exact Z251 hl) ha fun y hy => hs y (.tail _ hy)
      rw [List.filterMap_cons_none e]
      exact ⟨ρ2, w', .cons rfl hb' a1 t (fun q => nomatch q) (fun _ => ⟨rfl, rfl⟩) hv.app (.weak a2 h), hp⟩
    · have ha' : ∀ y ∈ acc ++ [v], Pl y := fun y hy => (List.mem_append.mp hy).elim (ha y) fun q => by cases List.mem_singleton.mp q; exact pv
      obtain ⟨ρ2, w', h, hp⟩ := comp_run hb hv xs (acc ++ [v]) (w + 1) (by simp; exact Z48 hl) ha' fun y hy => hs y (.tail _ hy)
      rw [List.filterMap_cons_some e]
      rw [List.append_assoc] at h
      refine ⟨ρ2, w', .cons rfl hb' a1 t (fun _ => CompT.emit rfl ev get_app (by exact Z42 hl)) (fun q => nomatch q) ?_ (.weak a2 (by rw [chg_app]; exact h)), fun y hy => ?_⟩
      · rw [chg_app]; exact hv.app
      · rcases List.mem_cons.mp hy with rfl | hy
        · exact pv
        · exact hp y hy
theorem EvE.comp1 (S : inScB csc sc = true) (hρ : SubEnv csc ρ ρ0) (hb : g.is_async = 0) (hs : ∀ env x, foldedSetIterable g.iter env x = pure x) (h : SrcR c n sc g.iter g.target ρ σ (l.map gx) vers σ) (hv : VersOk σ vers) (hl : l.length ≤ lim) (st : ∀ x ∈ l, StepC c n csc g elt ρ0 σ (gx x) (f x)) (hlo : LoSto σ.length σ) :
    EvE c n sc (.ListComp elt [g] csc pos) ρ σ (.lst (l.filterMap f)) σ ∧ ∀ y ∈ l.filterMap f, Pl y := by
  obtain ⟨ρ1, w, hc, hp⟩ := comp_run (pos := pos) hb hv l [] 0 (by simpa using hl) (fun _ q => nomatch q) st
  have := EvE.comp (inScB_out S) hρ (by simpa using hb) hs h hv hc get_app (by rw [List.nil_append]; exact fun y hy => (hp y hy).lo _) hlo.old
  rw [List.nil_append, List.take_left] at this
  exact ⟨this, hp⟩
theorem EvE.cmp1 (S : inScB csc sc = true) (hρ : SubEnv csc ρ ρ0) (hb : g.is_async = 0) (hs : ∀ env x, foldedSetIterable g.iter env x = pure x) (h : SrcR c n sc g.iter g.target ρ σ (l.map gx) vers σ) (hv : VersOk σ vers) (hl : l.length ≤ lim) (st : ∀ x ∈ l, StepC c n csc g elt ρ0 σ (gx x) (f x)) (hlo : LoSto σ.length σ) :
    EvE c n sc (.ListComp elt [g] csc pos) ρ σ (.lst (l.filterMap f)) σ := (EvE.comp1 S hρ hb hs h hv hl st hlo).1
theorem StR.asg1 {y : Str} {py spos : Pos} (S : inScB csc sc = true) (hρ : SubEnv csc ρ ρ0) (hb : g.is_async = 0) (hs : ∀ env x, foldedSetIterable g.iter env x = pure x) (h : SrcR c n sc g.iter g.target ρ σ (l.map gx) vers σ) (hv : VersOk σ vers) (hl : l.length ≤ lim) (st : ∀ x ∈ l, StepC c n csc g elt ρ0 σ (gx x) (f x)) (hlo : LoSto σ.length σ)
    (hk : sc.names.lookup y = some .local) (hp : (py.line == pos.line) = true) (hn : (csc.names.any fun (n, k) => n == y && (k == .local || k == .cell)) = false) :
    StR c n sc (.Assign [.Name y py] (.ListComp elt [g] csc pos) spos) ρ σ .nxt (put y (.lst (l.filterMap f)) ρ) σ ∧ ∀ y ∈ l.filterMap f, Pl y := by
  obtain ⟨ρ1, w, hc, hq⟩ := comp_run (pos := pos) hb hv l [] 0 (by simpa using hl) (fun _ q => nomatch q) st
  have := StR.assignComp (spos := spos) (inScB_out S) hρ (by simpa using hb) hs h hv hc get_app (by rw [List.nil_append]; exact fun y hy => (hq y hy).lo _) hlo.old hk hp hn
  rw [List.nil_append, List.take_left] at this
  exact ⟨this, hq⟩
end
end Mine
namespace Mine
open PySem PySem.Calls PyProof.Rows PySem.W
noncomputable def ith (b : List Stmt) (i : Nat) : Stmt := (b[i]?).getD (.Pass ⟨0, 0, 0, 0⟩)
noncomputable def forT : Stmt → PySem.Expr | .For t _ _ _ _ => t | _ => .Constant .none 0 ⟨0, 0, 0, 0⟩
noncomputable def forB : Stmt → List Stmt | .For _ _ b _ _ => b | _ => []
noncomputable abbrev ai (i : Nat) : AV := .int i
section
variable {c : Cx} {n : Nat} {sc csc : Scope} {ρ ρ0 : Ro} {σ : Sto} {pos : Pos}
theorem argBest_spec {ns : List Int} : ∀ k, k < ns.length → argBest (fun i j => decide (ns.getD i 0 > ns.getD j 0)) k ≤ k ∧ ∀ j, j ≤ k → ns.getD j 0 ≤ ns.getD (argBest (fun i j => decide (ns.getD i 0 > ns.getD j 0)) k) 0
  | 0, _ => ⟨Nat.le_refl _, fun j h => by rw [Nat.le_zero.mp h]; exact Int.le_refl _⟩
  | k + 1, hk => by
    obtain ⟨a, b⟩ := argBest_spec (ns := ns) k (by exact Z53 hk)
    unfold argBest
    split
    · rename_i h
      have h := of_decide_eq_true h
      exact ⟨Nat.le_refl _, fun j hj => by
        by_cases q : j = k + 1
        · rw [q]; exact Int.le_refl _
        · have := b j (by exact Z252 hj q); lia⟩
    · rename_i h
      have h : ¬ _ := fun z => h (decide_eq_true z)
      exact ⟨by exact Z253 a, fun j hj => by
        by_cases q : j = k + 1
        · rw [q]; lia
        · exact b j (by exact Z252 hj q)⟩
theorem call_max {a : AV} {ns : List Nat} (e : SeqR σ a (ns.map ai)) (h : 0 < ns.length) : ∃ m, m ∈ ns ∧ (∀ y ∈ ns, y ≤ m) ∧ CallR c n (.val (.builtin "max")) [a] [] σ (ai m) σ := by
  have e' : SeqR σ a ((ns.map Int.ofNat).map AV.int) := by rw [List.map_map]; exact e
  obtain ⟨h1, h2⟩ := argBest_spec (ns := ns.map Int.ofNat) ((ns.map Int.ofNat).length - 1) (by rw [List.length_map]; exact Z254 h)
  have hm := CallR.max (c := c) (n := n) e' (by rw [List.length_map]; exact h)
  revert hm h1 h2
  generalize argBest _ _ = k
  intro h1 h2 hm
  rw [List.length_map] at h1 h2
  have gd : ∀ j, (ns.map Int.ofNat).getD j 0 = (ns.getD j 0 : Nat) := fun j => by
    rw [List.getD_eq_getElem?_getD, List.getD_eq_getElem?_getD, List.getElem?_map]; cases ns[j]? <;> rfl
  have hk : k < ns.length := by exact Z255 h h1
  have gk : ns.getD k 0 = ns[k] := by rw [List.getD_eq_getElem?_getD, List.getElem?_eq_getElem hk]; rfl
  refine ⟨ns.getD k 0, gk ▸ List.getElem_mem hk, fun y hy => ?_, by rw [gd] at hm; exact hm⟩
  obtain ⟨j, hj, rfl⟩ := List.getElem_of_mem hy
  have := h2 j (by exact Z256 hj)
  rw [gd, gd] at this
  have q : ns.getD j 0 = ns[j] := by rw [List.getD_eq_getElem?_getD, List.getElem?_eq_getElem hj]; rfl
  lia
noncomputable def FallsOf (ns fs : List Nat) (k : Nat) : Prop := ∃ x, fs.getD k 0 = 1 + x ∧ (x = 0 ∨ ∃ j, j < k ∧ ns.getD k 0 < ns.getD j 0 ∧ x = fs.getD j 0) ∧ ∀ j, j < k → ns.getD k 0 < ns.getD j 0 → fs.getD j 0 ≤ x
theorem getD_app {α : Type} {l r : List α} {j : Nat} {d : α} (h : j < l.length) : (l ++ r).getD j d = l.getD j d := by rw [List.getD_eq_getElem?_getD, List.getD_eq_getElem?_getD, List.getElem?_append_left h]
theorem getD_end {α : Type} {l : List α} {a d : α} : (l ++ [a]).getD l.length d = a := by rw [List.getD_eq_getElem?_getD, List.getElem?_append_right (Nat.le_refl _), Nat.sub_self]; rfl
theorem FallsOf.app {ns fs : List Nat} {k x : Nat} (h : FallsOf ns fs k) (hk : k < fs.length) : FallsOf ns (fs ++ [x]) k := by
  obtain ⟨y, a, b, d⟩ := h
  refine ⟨y, by rw [getD_app hk]; exact a, b.imp id fun ⟨j, p, q, r⟩ => ⟨j, p, q, by rw [getD_app (by exact Z16 p hk)]; exact r⟩, fun j p q => by rw [getD_app (by exact Z16 p hk)]; exact d j p q⟩
theorem map_getD {α : Type} {l : List Nat} {g : Nat → α} {k : Nat} (h : k < l.length) : (l.map g)[k]? = some (g (l.getD k 0)) := by
  rw [List.getElem?_map, List.getElem?_eq_getElem h, List.getD_eq_getElem?_getD, List.getElem?_eq_getElem h]; rfl
noncomputable abbrev flR (ns : List Nat) (i : Nat) : Ro := [("came", .lst (ns.map ai)), ("falls", .mref i)]
noncomputable def flF : Stmt := ith (fBody (st 65)) 1
theorem falls_loop (H : TT c) {ns : List Nat} (hn : ns.length ≤ 64) (hlo : LoSto σ.length σ) : ∀ (l done fs : List Nat) (w : Nat), ns = done ++ l → fs.length = done.length → (∀ k, k < fs.length → FallsOf ns fs k) →
    ∃ fs' w', LoopB c n (fScope (st 65)) (forT flF) (forB flF) (flR ns σ.length) (σ ++ [⟨w, none, fs.map ai⟩]) (((l.map ai).zipIdx done.length).map fun p => .tup [.int p.2, p.1]) [] .nxt (flR ns σ.length) (σ ++ [⟨w', none, fs'.map ai⟩]) ∧ fs'.length = ns.length ∧ ∀ k, k < fs'.length → FallsOf ns fs' k
  | [], done, fs, w, e, h1, h2 => ⟨fs, w, .nil, by rw [h1, e, List.append_nil], h2⟩
  | a :: l, done, fs, w, e, h1, h2 => by
    have hk : done.length < ns.length := by rw [e]; simp
    have ha : ns.getD done.length 0 = a := by rw [e, List.getD_eq_getElem?_getD, List.getElem?_append_right (Nat.le_refl _), Nat.sub_self]; rfl
    have lo : LoSto (σ ++ [(⟨w, none, fs.map ai⟩ : MO)]).length (σ ++ [⟨w, none, fs.map ai⟩]) := hlo.app fun x hx => by obtain ⟨i, _, rfl⟩ := List.mem_map.mp hx; exact .int
    have hr : (0 :: (List.range done.length).filterMap fun j => if a < ns.getD j 0 then some (fs.getD j 0) else none).map ai = [AV.int 0] ++ (List.range done.length).filterMap fun j => if a < ns.getD j 0 then some (ai (fs.getD j 0)) else none := by
      rw [List.map_cons, List.map_filterMap]
      show ai 0 :: _ = ai 0 :: _
      congr 2
      funext j
      split <;> rfl
    obtain ⟨x, x1, x2, x3⟩ := call_max (c := c) (n := n) (σ := σ ++ [⟨w, none, fs.map ai⟩]) (a := .lst _) (ns := 0 :: (List.range done.length).filterMap fun j => if a < ns.getD j 0 then some (fs.getD j 0) else none) .lst (Nat.succ_pos _)
    rw [hr] at x3
    have nf : FallsOf ns (fs ++ [1 + x]) done.length := by
      refine ⟨x, by rw [← h1, getD_end], ?_, fun j hj hlt => ?_⟩
      · rcases List.mem_cons.mp x1 with rfl | hx
        · exact .inl rfl
        · obtain ⟨j, hj, hs⟩ := List.mem_filterMap.mp hx
          have hj := List.mem_range.mp hj
          by_cases q : a < ns.getD j 0
          · rw [if_pos q] at hs; cases hs
            exact .inr ⟨j, hj, by rw [ha]; exact q, by rw [getD_app (by exact Z15 hj h1)]⟩
          · rw [if_neg q] at hs; cases hs
      · rw [getD_app (by exact Z15 hj h1)]
        exact x2 _ (.tail _ (List.mem_filterMap.mpr ⟨j, List.mem_range.mpr hj, by rw [ha] at hlt; rw [if_pos hlt]⟩))
    obtain ⟨fs', w', l1, l2, l3⟩ := falls_loop H hn hlo l (done ++ [a]) (fs ++ [1 + x]) (w + 1) (by rw [e]; simp) (by simp [h1]) fun k hk' => by
      by_cases q : k < fs.length
      · exact (h2 k q).app q
      · have : k = done.length := by simp at hk'; exact Z257 hk' h1 q
        rw [this]; exact nf
    rw [List.length_append, List.length_singleton, List.map_append] at l1
    refine ⟨fs', w', LoopB.cons (ρ1 := put "one" (ai a) (put "k" (ai done.length) (flR ns σ.length))) (fl1 := .nxt) (.tup (.cons (.name (.inl rfl)) (.cons (.name (.inr rfl)) .nil fun _ => rfl) fun _ => rfl) fun _ => ⟨rfl, rfl⟩) (.cons (.expr (EvE.meth (.nc rfl rfl) (.seq (.mref get_app) PySem.F.slot_list_append rfl) (.cons (.bin .int (.call (.gl H rfl rfl) (.cons (.bin (.lst (.cons .int .nil fun _ => rfl) (by decide +kernel))
      (EvE.comp1 (l := List.range done.length) (ρ0 := [("came", .lst (ns.map ai)), ("one", ai a), ("falls", .mref σ.length)]) (gx := ai) (vers := []) (f := fun j => if a < ns.getD j 0 then some (ai (fs.getD j 0)) else none)
        rfl ⟨rfl, rfl, rfl, rfl, rfl, rfl, trivial⟩ rfl (fun _ _ => rfl) (.range (m := done.length) (.gl H rfl rfl) (.nl rfl rfl) (by simp [lim]; exact Z258 hk hn) (fun _ => rfl) fun _ => rfl) (fun _ h => nomatch h) (by simp [lim]; exact Z258 hk hn) ?st lo).1 (.addSeq .lst .lst ?ln)) .nil fun _ => rfl) .nil x3 .bi (fun _ => rfl) (fun _ => rfl) fun _ => ⟨rfl, rfl⟩) .add) .nil fun _ => rfl) (.append get_app ?ll) .bi (fun _ => rfl) fun _ => rfl) fun _ => rfl) .nil) (.inl rfl) (fun _ h => nomatch h)
      (.weak (ρ' := flR ns σ.length) ⟨rfl, rfl, trivial⟩ ?lb), l2, l3⟩
    case ln =>
      have := List.length_filterMap_le (fun j => if a < ns.getD j 0 then some (ai (fs.getD j 0)) else none) (List.range done.length)
      rw [List.length_range] at this
      simp only [List.length_singleton, lim]; exact Z259 this hk hn
    case ll => rw [List.length_map, lim]; exact Z260 h1 hk hn
    case lb => rw [chg_app]; exact l1
    case st =>
      intro j hj w2 acc hacc
      have hj := List.mem_range.mp hj
      refine ⟨_, .name (.inl rfl), ⟨rfl, rfl, rfl, trivial⟩, ?_⟩
      have g1 : (ns.map ai)[j]? = some (ai (ns.getD j 0)) := map_getD (by exact Z16 hj hk)
      have g2 : (fs.map ai)[j]? = some (ai (fs.getD j 0)) := map_getD (by exact Z15 hj h1)
      by_cases q : a < ns.getD j 0
      · rw [if_pos q]
        exact .inr ⟨_, rfl, .int, .inr ⟨_, rfl, .eq (.cmp (.sub (.nf rfl rfl) (.nl rfl rfl) (.seq .lst idx_nat g1)) (.nf rfl rfl) .gt rfl) (decide_eq_true (by lia))⟩, .sub (.nf rfl rfl) (.nl rfl rfl) (.seq (.mref (by rw [List.getElem?_append_left (by simp)]; exact get_app)) idx_nat g2)⟩
      · rw [if_neg q]
        exact .inl ⟨rfl, .inr ⟨_, rfl, .eq (.cmp (.sub (.nf rfl rfl) (.nl rfl rfl) (.seq .lst idx_nat g1)) (.nf rfl rfl) .gt rfl) (decide_eq_false (by lia))⟩⟩
theorem call_falls (H : TT c) {ns : List Nat} (hn : ns.length ≤ 64) (hlo : LoSto σ.length σ) : ∃ fs : List Nat, fs.length = ns.length ∧ (∀ k, k < fs.length → FallsOf ns fs k) ∧ CallR c (n + 1) (.val (.ref 164)) [.lst (ns.map ai)] [] σ (.lst (fs.map ai)) σ := by
  obtain ⟨fs, w, h1, h2, h3⟩ := falls_loop (n := n) H hn hlo ns [] [] 0 rfl rfl fun _ h => absurd h (Nat.not_lt_zero _)
  have h := CallR.fn (v := .lst (fs.map ai)) H.f164 (H.b164 σ (.lst (ns.map ai))) (fun x hx => by cases List.mem_singleton.mp hx; exact .inr rfl) (ndB_out rfl)
    (.cons (.assign (.lstM .nil (Nat.zero_le _)) (.name (.inr rfl)) (fun _ => rfl) (fun _ => rfl) fun _ => rfl) (.cons (.for (.enum (.gl H rfl rfl) (.nc rfl rfl) (.inl ⟨rfl, rfl⟩) (fun _ => rfl) fun _ => rfl) h1 fun _ _ => rfl) (.stop (.ret (.nc rfl rfl)) fun h => nomatch h))) (.inl rfl) hlo.old
    (.inr ⟨σ.length, w, fs.map ai, rfl, Nat.le_refl _, get_app, rfl, fun x hx => by obtain ⟨i, _, rfl⟩ := List.mem_map.mp hx; exact .int⟩)
  rw [List.take_left] at h
  exact ⟨fs, h2, h3, h⟩
end
end Mine
namespace Mine
open PySem PySem.Calls PyProof.Rows PySem.W
noncomputable def sb (b : Bool) : Str := if b then " " else ""
noncomputable abbrev P (nm : Nat → Str) (e : Pc) : AV := .tup [.str (sb e.1), .str (nm e.2)]
theorem sb_ok (b : Bool) : PyData.strOk (sb b) = true ∧ (sb b).length = if b then 1 else 0 := by cases b <;> decide +kernel
theorem P_pl {nm : Nat → Str} {e : Pc} : Pl (P nm e) := .tup fun x hx => by
  rcases List.mem_cons.mp hx with rfl | hx
  · exact .str
  · cases List.mem_singleton.mp hx; exact .str
theorem P_dat {c : Cx} {σ : Sto} {m : Nat} {nm : Nat → Str} {e : Pc} : Dat2 c σ (m + 1) (P nm e) (P nm e) := .tup fun x hx => by
  rcases List.mem_cons.mp hx with rfl | hx
  · exact .str
  · cases List.mem_singleton.mp hx; exact .str
structure LS (σ0 σ : Sto) (hd : Int) (nm : Nat → Str) (rows mks : List (List Pc)) : Prop where
  len : σ.length = σ0.length + 2 + 2 * rows.length
  ml : mks.length = rows.length
  lo : LoSto σ.length σ
  rl : ∃ v, σ[σ0.length]? = some ⟨v, none, (List.range rows.length).map fun r => .mref (σ0.length + 2 + 2 * r)⟩
  mlst : ∃ v, σ[σ0.length + 1]? = some ⟨v, none, (List.range rows.length).map fun r => .mref (σ0.length + 3 + 2 * r)⟩
  row : ∀ (r : Nat) (R : List Pc), rows[r]? = some R → ∃ v, σ[σ0.length + 2 + 2 * r]? = some ⟨v, some hd, R.map (P nm)⟩
  mr : ∀ (r : Nat) (G : List Pc), mks[r]? = some G → ∃ v, σ[σ0.length + 3 + 2 * r]? = some ⟨v, some hd, G.map (P nm)⟩
  low : ∀ i, i < σ0.length → σ[i]? = σ0[i]?
theorem get_end' {α : Type} {l : List α} {a : α} : (l ++ [a])[l.length]? = some a := by rw [List.getElem?_append_right (Nat.le_refl _), Nat.sub_self]; rfl
theorem map_pl {nm : Nat → Str} {R : List Pc} : ∀ y ∈ R.map (P nm), Pl y := fun y hy => by obtain ⟨e, _, rfl⟩ := List.mem_map.mp hy; exact P_pl
section
variable {σ0 σ : Sto} {hd : Int} {nm : Nat → Str} {rows mks : List (List Pc)}
theorem LS.low2 (h : LS σ0 σ hd nm rows mks) : σ.take σ0.length = σ0 := by
  apply List.ext_getElem?
  intro i
  rw [List.getElem?_take]
  split
  · rename_i hi; exact h.low i hi
  · rename_i hi; rw [List.getElem?_eq_none (by exact Nat.le_of_not_lt hi)]
theorem LS.old (h : LS σ0 σ hd nm rows mks) (l0 : LoSto σ0.length σ0) : LoSto σ0.length σ := fun i o hi e => by rw [h.low i hi] at e; exact l0 i o hi e
theorem LS.setRow (h : LS σ0 σ hd nm rows mks) {r : Nat} {R R' : List Pc} {o : MO} (hr : rows[r]? = some R) (ho : σ[σ0.length + 2 + 2 * r]? = some o) (ha : o.acc = some hd) : LS σ0 (chg σ (σ0.length + 2 + 2 * r) o (R'.map (P nm))) hd nm (rows.set r R') mks := by
  have hl : r < rows.length := (List.getElem?_eq_some_iff.mp hr).1
  obtain ⟨v1, h1⟩ := h.rl
  obtain ⟨v2, h2⟩ := h.mlst
  refine ⟨by rw [chg_len, List.length_set]; exact h.len, by rw [List.length_set]; exact h.ml, by rw [chg_len]; exact chg_lo h.lo fun y hy => (map_pl y hy).lo _, ⟨v1, by rw [chg_ne (by exact Z261), List.length_set]; exact h1⟩, ⟨v2, by rw [chg_ne (by exact Z262), List.length_set]; exact h2⟩, fun q Q e => ?_, fun q G e => ?_, fun i hi => by rw [chg_ne (by exact Z263 hi)]; exact h.low i hi⟩
  · by_cases k : q = r
    · subst k
      rw [List.getElem?_set_self hl] at e; cases e
      exact ⟨_, by rw [chg_same ho, ha]⟩
    · rw [List.getElem?_set_ne (Ne.symm k)] at e
      obtain ⟨v, e⟩ := h.row q Q e
      exact ⟨v, by rw [chg_ne (by exact Z264 k)]; exact e⟩
  · obtain ⟨v, e⟩ := h.mr q G e
    exact ⟨v, by rw [chg_ne (by lia)]; exact e⟩
theorem LS.setMk (h : LS σ0 σ hd nm rows mks) {r : Nat} {R R' : List Pc} {o : MO} (hr : mks[r]? = some R) (ho : σ[σ0.length + 3 + 2 * r]? = some o) (ha : o.acc = some hd) : LS σ0 (chg σ (σ0.length + 3 + 2 * r) o (R'.map (P nm))) hd nm rows (mks.set r R') := by
  have hl : r < mks.length := (List.getElem?_eq_some_iff.mp hr).1
  obtain ⟨v1, h1⟩ := h.rl
  obtain ⟨v2, h2⟩ := h.mlst
  refine ⟨by rw [chg_len]; exact h.len, by rw [List.length_set]; exact h.ml, by rw [chg_len]; exact chg_lo h.lo fun y hy => (map_pl y hy).lo _, ⟨v1, by rw [chg_ne (by exact Z265)]; exact h1⟩, ⟨v2, by rw [chg_ne (by exact Z266)]; exact h2⟩, fun q Q e => ?_, fun q G e => ?_, fun i hi => by rw [chg_ne (by exact Z267 hi)]; exact h.low i hi⟩
  · obtain ⟨v, e⟩ := h.row q Q e
    exact ⟨v, by rw [chg_ne (by lia)]; exact e⟩
  · by_cases k : q = r
    · subst k
      rw [List.getElem?_set_self hl] at e; cases e
      exact ⟨_, by rw [chg_same ho, ha]⟩
    · rw [List.getElem?_set_ne (Ne.symm k)] at e
      obtain ⟨v, e⟩ := h.mr q G e
      exact ⟨v, by rw [chg_ne (by exact Z268 k)]; exact e⟩
theorem LS.grow (h : LS σ0 σ hd nm rows mks) {v1 v2 : Nat} (h1 : σ[σ0.length]? = some ⟨v1, none, (List.range rows.length).map fun r => .mref (σ0.length + 2 + 2 * r)⟩) (h2 : σ[σ0.length + 1]? = some ⟨v2, none, (List.range rows.length).map fun r => .mref (σ0.length + 3 + 2 * r)⟩) :
    LS σ0 (chg (chg (σ ++ [⟨0, some hd, []⟩]) σ0.length ⟨v1, none, (List.range rows.length).map fun r => .mref (σ0.length + 2 + 2 * r)⟩ ((List.range rows.length).map (fun r => .mref (σ0.length + 2 + 2 * r)) ++ [.mref σ.length]) ++ [⟨0, some hd, []⟩]) (σ0.length + 1)
      ⟨v2, none, (List.range rows.length).map fun r => .mref (σ0.length + 3 + 2 * r)⟩ ((List.range rows.length).map (fun r => .mref (σ0.length + 3 + 2 * r)) ++ [.mref (chg (σ ++ [⟨0, some hd, []⟩]) σ0.length ⟨v1, none, (List.range rows.length).map fun r => .mref (σ0.length + 2 + 2 * r)⟩ ((List.range rows.length).map (fun r => .mref (σ0.length + 2 + 2 * r)) ++ [.mref σ.length])).length])) hd nm (rows ++ [[]]) (mks ++ [[]]) := by
  have hlen := h.len
  have hml := h.ml
  generalize hs1 : chg (σ ++ [⟨0, some hd, []⟩]) σ0.length ⟨v1, none, (List.range rows.length).map fun r => .mref (σ0.length + 2 + 2 * r)⟩ ((List.range rows.length).map (fun r => .mref (σ0.length + 2 + 2 * r)) ++ [.mref σ.length]) = s1
  have l1 : s1.length = σ.length + 1 := by rw [← hs1, chg_len]; simp
  have g1 : ∀ i, i < σ.length → i ≠ σ0.length → s1[i]? = σ[i]? := fun i hi hn => by rw [← hs1, chg_ne (Ne.symm hn), List.getElem?_append_left hi]
  have g2 : s1[σ.length]? = some ⟨0, some hd, []⟩ := by rw [← hs1, chg_ne (by exact Z269 hlen)]; exact get_app
  have g3 : s1[σ0.length]? = some ⟨v1 + 1, none, (List.range rows.length).map (fun r => .mref (σ0.length + 2 + 2 * r)) ++ [.mref σ.length]⟩ := by
    rw [← hs1, chg_same (by rw [List.getElem?_append_left (by exact Z270 hlen)]; exact h1)]
  generalize hs2 : chg (s1 ++ [⟨0, some hd, []⟩]) (σ0.length + 1) ⟨v2, none, (List.range rows.length).map fun r => .mref (σ0.length + 3 + 2 * r)⟩ ((List.range rows.length).map (fun r => .mref (σ0.length + 3 + 2 * r)) ++ [.mref s1.length]) = s2
  have l2 : s2.length = σ.length + 2 := by rw [← hs2, chg_len]; simp [l1]
  have k1 : ∀ i, i < s1.length → i ≠ σ0.length + 1 → s2[i]? = s1[i]? := fun i hi hn => by rw [← hs2, chg_ne (Ne.symm hn), List.getElem?_append_left hi]
  have k2 : s2[s1.length]? = some ⟨0, some hd, []⟩ := by rw [← hs2, chg_ne (by exact Z271 l1 hlen)]; exact get_app
  have k3 : s2[σ0.length + 1]? = some ⟨v2 + 1, none, (List.range rows.length).map (fun r => .mref (σ0.length + 3 + 2 * r)) ++ [.mref s1.length]⟩ := by
    rw [← hs2, chg_same (by rw [List.getElem?_append_left (by exact Z272 l1 hlen), g1 _ (by exact Z273 hlen) (by exact Z274)]; exact h2)]
  have all : ∀ i, i < σ.length → i ≠ σ0.length → i ≠ σ0.length + 1 → s2[i]? = σ[i]? := fun i a b d => by rw [k1 i (by exact Z275 a l1) d, g1 i a b]
  refine ⟨by rw [l2]; simp; exact Z276 hlen, by simp [hml], fun i o hi e => ?_, ⟨v1 + 1, ?_⟩, ⟨v2 + 1, ?_⟩, fun r R e => ?_, fun r G e => ?_, fun i hi => by rw [all i (by exact Z277 hi hlen) (by exact Z278 hi) (by exact Z279 hi)]; exact h.low i hi⟩
  · by_cases q1 : i = σ0.length
    · subst q1
      rw [k1 _ (by exact Z280 l1 hlen) (by exact Z281), g3] at e; cases e
      intro x hx
      rcases List.mem_append.mp hx with hx | hx
      · obtain ⟨r, hr, rfl⟩ := List.mem_map.mp hx
        have := List.mem_range.mp hr
        exact .mref (by exact Z282 this l2 hlen)
      · cases List.mem_singleton.mp hx; exact .mref (by exact Z283 l2)
    · by_cases q2 : i = σ0.length + 1
      · subst q2
        rw [k3] at e; cases e
        intro x hx
        rcases List.mem_append.mp hx with hx | hx
        · obtain ⟨r, hr, rfl⟩ := List.mem_map.mp hx
          have := List.mem_range.mp hr
          exact .mref (by exact Z284 this l2 hlen)
        · cases List.mem_singleton.mp hx; exact .mref (by exact Z285 l1 l2)
      · by_cases q3 : i < σ.length
        · rw [all i q3 q1 q2] at e
          exact fun x hx => (h.lo i o q3 e x hx).mono (by exact Z286 l2)
        · by_cases q4 : i = σ.length
          · subst q4; rw [k1 _ (by exact Nat.le_of_eq l1.symm) q2, g2] at e; cases e; exact fun _ h => nomatch h
          · have : i = s1.length := by exact Z287 l1 l2 hi q3 q4
            subst this; rw [k2] at e; cases e; exact fun _ h => nomatch h
  · rw [k1 _ (by exact Z280 l1 hlen) (by exact Z281), g3, List.length_append, List.length_singleton, List.range_succ, List.map_append, hlen]; rfl
  · rw [k3, List.length_append, List.length_singleton, List.range_succ, List.map_append, l1, hlen]
    show some (⟨_, _, _ ++ [AV.mref _]⟩ : MO) = some ⟨_, _, _ ++ [AV.mref _]⟩
    rw [show σ0.length + 2 + 2 * rows.length + 1 = σ0.length + 3 + 2 * rows.length by exact Z288]
  · by_cases q : r < rows.length
    · rw [List.getElem?_append_left q] at e
      obtain ⟨v, e⟩ := h.row r R e
      exact ⟨v, by rw [all _ (by exact Z289 q hlen) (by exact Z261) (by exact Z262)]; exact e⟩
    · have : r = rows.length := by have := (List.getElem?_eq_some_iff.mp e).1; simp at this; exact Z290 this q
      subst this
      rw [get_end'] at e; cases e
      exact ⟨0, by rw [k1 _ (by exact Z291 l1 hlen) (by exact Z262), ← hlen, g2]; rfl⟩
  · by_cases q : r < mks.length
    · rw [List.getElem?_append_left q] at e
      obtain ⟨v, e⟩ := h.mr r G e
      exact ⟨v, by rw [all _ (by exact Z292 q hlen hml) (by exact Z265) (by exact Z266)]; exact e⟩
    · have : r = mks.length := by have := (List.getElem?_eq_some_iff.mp e).1; simp at this; exact Z290 this q
      subst this
      rw [get_end'] at e; cases e
      exact ⟨0, by rw [show σ0.length + 3 + 2 * mks.length = s1.length by exact Z293 hml l1 hlen, k2]; rfl⟩
end
end Mine
namespace Mine
open PySem PySem.Calls PyProof.Rows PySem.W
theorem flat_get {α : Type} {R : List α} : ∀ {rows : List (List α)} {r : Nat}, rows[r]? = some R → (∀ i, i < R.length → rows.flatten[((rows.take r).map List.length).sum + i]? = R[i]?) ∧ ((rows.take r).map List.length).sum + R.length ≤ rows.flatten.length
  | [], _, h => nomatch h
  | S :: rows, 0, h => by
    cases h
    refine ⟨fun i hi => ?_, ?_⟩
    · rw [List.flatten_cons, List.getElem?_append_left (by simpa using hi)]; simp
    · simp
  | S :: rows, r + 1, h => by
    obtain ⟨a, b⟩ := flat_get (rows := rows) (r := r) h
    refine ⟨fun i hi => ?_, ?_⟩
    · rw [List.take_succ_cons, List.map_cons, List.sum_cons, List.flatten_cons, List.getElem?_append_right (by exact Z294), show S.length + ((rows.take r).map List.length).sum + i - S.length = ((rows.take r).map List.length).sum + i by exact Z295]
      exact a i hi
    · rw [List.take_succ_cons, List.map_cons, List.sum_cons, List.flatten_cons, List.length_append]; exact Z296 b
theorem flat_le {α : Type} {m : Nat} : ∀ {rows : List (List α)}, (∀ R ∈ rows, R.length ≤ m) → rows.flatten.length ≤ rows.length * m ∧ (rows.map List.length).sum ≤ rows.length * m
  | [], _ => by simp
  | S :: rows, h => by
    obtain ⟨a, b⟩ := flat_le (rows := rows) fun R hR => h R (.tail _ hR)
    have := h S (.head _)
    rw [List.flatten_cons, List.length_append, List.map_cons, List.sum_cons, List.length_cons, Nat.add_mul]
    exact Z297 this a b
theorem col_map {nm : Nat → Str} {rows : List (List Pc)} {at_ : Nat} : ∀ l, (List.range l).filterMap (fun r => if r ≤ at_ then ((rows[r]?.getD [])[at_ - r]?).map (P nm) else none) = (colTo rows at_ l).map (P nm)
  | 0 => rfl
  | l + 1 => by
    rw [List.range_succ, List.filterMap_append, col_map l, colTo, List.map_append]
    congr 1
    by_cases q : l ≤ at_
    · rw [if_pos q]
      cases h : (rows[l]?.getD [])[at_ - l]? <;> simp [q, h]
    · rw [if_neg q]; simp [q]
theorem preSum_nat {ns : List Nat} : ∀ j, j ≤ ns.length → preSum (fun i => (ns.map Int.ofNat).getD i 0) j = ((ns.take j).sum : Nat)
  | 0, _ => rfl
  | j + 1, h => by
    rw [preSum, preSum_nat j (by exact Z49 h), List.take_add_one, List.getElem?_eq_getElem h, List.sum_append]
    show _ + (ns.map Int.ofNat).getD j 0 = _
    rw [List.getD_eq_getElem?_getD, List.getElem?_map, List.getElem?_eq_getElem h]
    simp
section
variable {c : Cx} {n : Nat} {sc csc : Scope} {ρ ρ0 : Ro} {σ σ0 : Sto} {pos : Pos} {hd : Int} {nm : Nat → Str} {rows mks : List (List Pc)}
theorem call_sum {a : AV} {ns : List Nat} (e : SeqR σ a (ns.map ai)) (hb : ns.sum ≤ 100000) : CallR c n (.val (.builtin "sum")) [a] [] σ (ai ns.sum) σ := by
  have e' : SeqR σ a ((ns.map Int.ofNat).map AV.int) := by rw [List.map_map]; exact e
  have tk : ∀ j, (ns.take j).sum ≤ ns.sum := fun j => by
    conv => rhs; rw [← List.take_append_drop j ns, List.sum_append]
    exact Z123
  have := CallR.sum (c := c) (n := n) e' fun j hj => by
    rw [List.length_map] at hj
    rw [preSum_nat (j + 1) hj]
    have h1 := tk (j + 1)
    have h2 : ns.getD j 0 ≤ ns.sum := by
      have h3 := tk j
      rw [List.take_add_one, List.getElem?_eq_getElem hj, List.sum_append] at h1
      rw [List.getD_eq_getElem?_getD, List.getElem?_eq_getElem hj]
      simp at h1 ⊢; exact Z298 h1
    rw [List.getD_eq_getElem?_getD, List.getElem?_map, List.getElem?_eq_getElem hj]
    rw [List.getD_eq_getElem?_getD, List.getElem?_eq_getElem hj] at h2
    simp only [Option.getD_some, Option.map_some, Int.ofNat_eq_natCast] at h2 ⊢
    unfold InLong
    constructor <;> constructor <;> lia
  rw [List.length_map, preSum_nat _ (Nat.le_refl _), List.take_length] at this
  exact this
theorem inner_run {elt : PySem.Expr} {gens : List Comprehension} {g : Comprehension} {x : Str} {p : Pos} {vers : List (Nat × Nat)} (hg : gens[1]? = some g) (hn : gens[2]? = none) (hb : ∀ g ∈ gens, g.is_async = 0) (hi : g.ifs = []) (ht : g.target = .Name x p) (he : ∃ p', elt = .Name x p')
    (hx : nmOk csc x .local = true) (hv : VersOk σ vers) (hρ : ∀ v, SubL (put x v ρ) ρ) : ∀ (l acc : List AV) (w : Nat), acc.length + l.length ≤ lim → CompL c n (.ListComp elt gens csc pos) csc g.target 1 σ.length ρ (σ ++ [⟨w, none, acc⟩]) l vers ρ (σ ++ [⟨w + l.length, none, acc ++ l⟩])
  | [], acc, w, _ => by rw [List.append_nil]; exact .nil hg hb
  | v :: l, acc, w, hl => by
    rw [List.length_cons] at hl
    have h := inner_run hg hn hb hi ht he hx hv hρ l (acc ++ [v]) (w + 1) (by simp; exact Z48 hl)
    rw [List.append_assoc, Nat.add_assoc, Nat.add_comm 1] at h
    have ev : EvE c n csc elt (put x v ρ) (σ ++ [⟨w, none, acc⟩]) v (σ ++ [⟨w, none, acc⟩]) := by
      have lk : (put x v ρ).lookup x = some v := by rw [lookup_put, if_pos rfl]
      obtain ⟨p', rfl⟩ := he
      exact .nl hx lk
    exact .cons (ρ1 := put x v ρ) (ρ2 := put x v ρ) hg hb (by rw [ht]; exact .name (.inl (nmOk_out hx).1)) (.inl ⟨hi, rfl⟩) (fun _ => CompT.emit hn ev get_app (by exact Z42 hl)) (fun q => nomatch q) (by rw [chg_app]; exact hv.app) (.weak (hρ v) (by rw [chg_app]; exact h))
end
end Mine
namespace Mine
open PySem PySem.Calls PyProof.Rows PySem.W
noncomputable def whB : Stmt → List Stmt | .While _ b _ _ => b | _ => []
noncomputable def ifB : Stmt → List Stmt | .If _ b _ _ => b | _ => []
noncomputable def ifB2 : Stmt → List Stmt | .If _ _ b _ => b | _ => []
noncomputable abbrev lS : Scope := fScope (st 64)
noncomputable def tB : List Stmt := whB (ith (forB (ith (fBody (st 64)) 1)) 1)
noncomputable abbrev lR (nm : Nat → Str) (cm key : AV) (tn : Bool) (hd : Int) (b w : Nat) (q : Bool) (y : Nat) (down : Bool) (at_ : Nat) : Ro :=
  [("comers", cm), ("key", key), ("turning", .bool tn), ("head", .int hd), ("rows", .mref b), ("marks", .mref (b + 1)), ("comer", P nm (false, w)), ("piece", P nm (q, y)), ("down", .bool down), ("at", ai at_)]
structure KeyOk (c : Cx) (nm : Nat → Str) (N : Nat) (key : AV) (kv : Nat → AV) : Prop where
  nn : ∀ F μ h x, VR F μ h key x → x ≠ .none
  keep : ∀ σ, KeepR c σ key
  call : ∀ σ, LoSto σ.length σ → ∀ e : Pc, e.2 < N → CallR c 2 key [P nm e] [] σ (kv e.2) σ
  lt : ∀ σ y u, y < N → u < N → Op2 c σ (compareOp .Lt) (kv y) (kv u) (.bool (decide (y < u)))
  pl : ∀ v, Pl (kv v)
section
variable {c : Cx} {n N m : Nat} {σ σ0 : Sto} {nm : Nat → Str} {cm key : AV} {kv : Nat → AV} {tn q down : Bool} {hd : Int} {w y at_ row k : Nat} {rows mks rows1 : List (List Pc)} {R : List Pc}
theorem flat_range {β : Type} (f : Pc → β) (rows : List (List Pc)) : ∀ l, (List.range l).flatMap (fun r => (rows[r]?.getD []).map f) = ((rows.take l).flatten).map f
  | 0 => by simp
  | l + 1 => by
    rw [List.range_succ, List.flatMap_append, flat_range f rows l, List.take_add_one, List.flatten_append, List.map_append]
    congr 1
    cases h : rows[l]? <;> simp [h]
theorem ref_get {L j b : Nat} (h : j < L) : ((List.range L).map fun r => AV.mref (b + 2 * r))[j]? = some (.mref (b + 2 * j)) := by rw [List.getElem?_map, List.getElem?_range h]; rfl
theorem turn0 (H : TT c) (L : LS σ0 σ hd nm rows mks) (hlow : down = true → at_ ≤ rows.length) (hl : rows.length < 64) :
    ∃ σ1, LS σ0 σ1 hd nm (if down = true ∧ at_ = rows.length then rows ++ [[]] else rows) (if down = true ∧ at_ = rows.length then mks ++ [[]] else mks) ∧
      StR c (n + 2) lS (ith tB 0) (lR nm cm key tn hd σ0.length w q y down at_) σ .nxt (lR nm cm key tn hd σ0.length w q y down at_) σ1 := by
  obtain ⟨v1, h1⟩ := L.rl
  obtain ⟨v2, h2⟩ := L.mlst
  have hlen := L.len
  have ln : ((List.range rows.length).map fun r => AV.mref (σ0.length + 2 + 2 * r)).length = rows.length := by rw [List.length_map, List.length_range]
  have ln2 : ((List.range rows.length).map fun r => AV.mref (σ0.length + 3 + 2 * r)).length = rows.length := by rw [List.length_map, List.length_range]
  have cl := CallR.len (c := c) (n := n + 2) (SeqR.mref h1)
  rw [ln] at cl
  have lm : rows.length < lim := by simp only [lim]; exact Z299 hl
  cases down with
  | false => exact ⟨σ, by simpa using L, .if (k := false) (.boolCut (.of (.nl rfl rfl) fun _ _ => rfl) (.inl ⟨rfl, rfl⟩)) .nil⟩
  | true =>
    by_cases z : at_ = rows.length
    · rw [if_pos ⟨rfl, z⟩, if_pos ⟨rfl, z⟩]
      refine ⟨_, L.grow h1 h2, .if (k := true) (.boolOn (.of (.nl rfl rfl) fun _ _ => rfl) (.inl ⟨rfl, rfl⟩) (.boolOn (.eq (.cmp (.nc rfl rfl) (.call (.gl H rfl rfl) (.cons (.nc rfl rfl) .nil fun _ => rfl) .nil cl .bi (fun _ => rfl) (fun _ => rfl) fun _ => ⟨rfl, rfl⟩) .eqInt rfl) (beq_iff_eq.mpr (congrArg _ z))) (.inl ⟨rfl, rfl⟩) .boolEnd))
        (.cons (.expr (EvE.meth (.nc rfl rfl) (.seq (.mref h1) PySem.F.slot_list_append rfl) (.cons (.call (.gl H rfl rfl) (.cons (.nc rfl rfl) .nil fun _ => rfl) .nil (.make H.F) (.acc H.F) (fun _ => rfl) (fun _ => rfl) fun _ => ⟨rfl, rfl⟩) .nil fun _ => rfl) (.append (by rw [List.getElem?_append_left (by exact Z270 hlen)]; exact h1) (by rw [ln]; exact lm)) .bi (fun _ => rfl) fun _ => rfl) fun _ => rfl)
          (.cons (.expr (EvE.meth (.nl rfl rfl) (.seq (.mref (v := v2) ?g) PySem.F.slot_list_append rfl) (.cons (.call (.gl H rfl rfl) (.cons (.nc rfl rfl) .nil fun _ => rfl) .nil (.make H.F) (.acc H.F) (fun _ => rfl) (fun _ => rfl) fun _ => ⟨rfl, rfl⟩) .nil fun _ => rfl) (.append (by rw [List.getElem?_append_left (by rw [chg_len]; simp; exact Z270 hlen)]; exact ?g) (by rw [ln2]; exact lm)) .bi (fun _ => rfl) fun _ => rfl) fun _ => rfl) .nil))⟩
      case g => rw [chg_ne (by exact Z281), List.getElem?_append_left (by exact Z273 hlen)]; exact h2
    · rw [if_neg (fun h => z h.2), if_neg (fun h => z h.2)]
      exact ⟨σ, L, .if (k := false) (.boolOn (.of (.nl rfl rfl) fun _ _ => rfl) (.inl ⟨rfl, rfl⟩) (.boolCut (.eq (.cmp (.nc rfl rfl) (.call (.gl H rfl rfl) (.cons (.nc rfl rfl) .nil fun _ => rfl) .nil cl .bi (fun _ => rfl) (fun _ => rfl) fun _ => ⟨rfl, rfl⟩) .eqInt rfl) (beq_eq_false_iff_ne.mpr fun h => z (by lia))) (.inl ⟨rfl, rfl⟩))) .nil⟩
end
end Mine
namespace Mine
open PySem PySem.Calls PyProof.Rows PySem.W
section
variable {c : Cx} {n N m : Nat} {σ σ0 : Sto} {nm : Nat → Str} {cm key : AV} {kv : Nat → AV} {tn q down : Bool} {hd : Int} {w y at_ row k : Nat} {rows mks rows1 : List (List Pc)} {R : List Pc} {csc : Scope} {pos : Pos}
theorem addN {a b : Nat} : AV.int ((a : Int) + b) = ai (a + b) := congrArg AV.int (Int.natCast_add a b).symm
theorem StR.to {sc : Scope} {b : Stmt} {ρ ρ1 ρ1' : Ro} {σ1 σ1' : Sto} {fl : Fl} (h : StR c n sc b ρ σ fl ρ1 σ1) (e1 : ρ1 = ρ1') (e2 : σ1 = σ1') : StR c n sc b ρ σ fl ρ1' σ1' := e1 ▸ e2 ▸ h
theorem SrcR.to {sc : Scope} {e t : PySem.Expr} {ρ : Ro} {xs xs' : List AV} {vers : List (Nat × Nat)} {σ1 : Sto} (h : SrcR c n sc e t ρ σ xs vers σ1) (q : xs = xs') : SrcR c n sc e t ρ σ xs' vers σ1 := q ▸ h
theorem lens_range (rows : List (List Pc)) : ∀ l, (List.range l).filterMap (fun r => some (ai (rows[r]?.getD []).length)) = ((rows.take l).map List.length).map ai ∨ rows.length < l
  | 0 => .inl rfl
  | l + 1 => by
    by_cases z : l < rows.length
    · left
      rw [List.range_succ, List.filterMap_append, (lens_range rows l).resolve_right (by exact Z130 z), List.take_add_one, List.map_append, List.map_append, List.getElem?_eq_getElem z]
      simp [List.getElem?_eq_getElem z]
    · right; exact Z300 z
theorem call_part (H : TT c) {i v : Nat} {xs : List AV} (ho : σ[i]? = some ⟨v, some hd, xs⟩) {l : Nat} (hl : xs.length = l) : CallR c n (.val (.ref 116)) [.mref i] [] σ (ai l) σ := hl ▸ .part H.F ho
theorem cut0 {α : Type} {l : List α} {k : Nat} : cutL l 0 k = l.take k := by rw [cutL, List.drop_zero, Nat.sub_zero]
theorem line_outer (H : TT c) (L : LS σ0 σ hd nm rows mks) (hm : ∀ R ∈ rows, R.length ≤ 64) {elt : PySem.Expr} {g0 g1 : Comprehension} {p0 p1 p2 p3 : Pos} (hb : ∀ g ∈ [g0, g1], g.is_async = 0) (h0 : g0.ifs = []) (h1 : g1.ifs = []) (t0 : g0.target = .Name "step" p0) (t1 : g1.target = .Name "one" p1) (i1 : g1.iter = .Name "step" p2) (he : elt = .Name "one" p3)
    (k0 : nmOk csc "step" .local = true) (k1 : nmOk csc "one" .local = true) (hs : ∀ env x, foldedSetIterable g1.iter env x = pure x) {vers : List (Nat × Nat)} (hv : VersOk σ vers) :
    ∀ (is : List Nat) (acc : List AV) (w : Nat), (∀ r ∈ is, r < rows.length) → acc.length + 64 * is.length ≤ lim → CompL c n (.ListComp elt [g0, g1] csc pos) csc g0.target 0 σ.length [] (σ ++ [⟨w, none, acc⟩]) (is.map fun r => .mref (σ0.length + 2 + 2 * r)) vers [] (σ ++ [⟨w + (is.flatMap fun r => (rows[r]?.getD []).map (P nm)).length, none, acc ++ is.flatMap fun r => (rows[r]?.getD []).map (P nm)⟩])
  | [], acc, w, _, _ => by rw [List.flatMap_nil, List.append_nil]; exact .nil rfl hb
  | r :: is, acc, w, hi, hl => by
    have hr := hi r (.head _)
    rw [List.length_cons] at hl
    have hR : rows[r]? = some rows[r] := List.getElem?_eq_getElem hr
    have lR := hm _ (List.getElem_mem hr)
    obtain ⟨v, ho⟩ := L.row r _ hR
    have hlen := L.len
    have ho' : ∀ w acc, (σ ++ [(⟨w, none, acc⟩ : MO)])[σ0.length + 2 + 2 * r]? = some ⟨v, some hd, rows[r].map (P nm)⟩ := fun w acc => by rw [List.getElem?_append_left (by exact Z289 hr hlen)]; exact ho
    have a1 := inner_run (c := c) (n := n) (csc := csc) (ρ := [("step", .mref (σ0.length + 2 + 2 * r))]) (σ := σ) (pos := pos) (elt := elt) (gens := [g0, g1]) (g := g1) (x := "one") (p := p1) (vers := [(σ0.length + 2 + 2 * r, v)]) rfl rfl hb h1 t1 ⟨p3, he⟩ k1 (fun p hp => by cases List.mem_singleton.mp hp; exact ⟨_, ho, rfl⟩) (fun _ => ⟨rfl, trivial⟩) (rows[r].map (P nm)) acc w (by simp; exact Z301 hl lR)
    have a2 := line_outer H L hm hb h0 h1 t0 t1 i1 he k0 k1 hs hv is (acc ++ rows[r].map (P nm)) (w + (rows[r].map (P nm)).length) (fun r' h => hi r' (.tail _ h)) (by simp; exact Z302 hl lR)
    refine .cons (ρ1 := [("step", .mref (σ0.length + 2 + 2 * r))]) (ρ2 := [("step", .mref (σ0.length + 2 + 2 * r))]) rfl hb (by rw [t0]; exact .name (.inl (nmOk_out k0).1)) (.inl ⟨h0, rfl⟩) (fun _ => CompT.inner rfl hb hs (.acc H.F.KA (by rw [i1]; exact .nl k0 rfl) (ho' w acc)) a1) (fun q => nomatch q) hv.app ?_
    rw [List.flatMap_cons, hR, ← List.append_assoc, List.length_append, ← Nat.add_assoc]
    exact .weak (ρ' := []) trivial a2
noncomputable abbrev t1R (nm : Nat → Str) (cm key : AV) (tn : Bool) (hd : Int) (b w : Nat) (q : Bool) (y : Nat) (down : Bool) (at_ : Nat) (line : List Pc) (bg : Nat) (en : AV) : Ro :=
  [("comers", cm), ("key", key), ("turning", .bool tn), ("head", .int hd), ("rows", .mref b), ("marks", .mref (b + 1)), ("comer", P nm (false, w)), ("piece", P nm (q, y)), ("down", .bool down), ("at", ai at_), ("line", .lst (line.map (P nm))), ("begin", ai bg), ("end", en)]
theorem turn1d (H : TT c) (L : LS σ0 σ hd nm rows mks) (hl : rows.length ≤ 64) (hm : ∀ R ∈ rows, R.length ≤ 64) (hR : rows[at_]? = some R) :
    StR c (n + 2) lS (ith tB 1) (lR nm cm key tn hd σ0.length w q y true at_) σ .nxt (t1R nm cm key tn hd σ0.length w q y true at_ rows.flatten ((rows.take at_).map List.length).sum (ai (((rows.take at_).map List.length).sum + R.length))) σ := by
  obtain ⟨v1, h1⟩ := L.rl
  have hlen := L.len
  have hat := (List.getElem?_eq_some_iff.mp hR).1
  obtain ⟨v, ho⟩ := L.row at_ R hR
  have vs : VersOk σ [(σ0.length, v1)] := fun p hp => by cases List.mem_singleton.mp hp; exact ⟨_, h1, rfl⟩
  have fl := (flat_le hm).1
  have tl : ((rows.take at_).map List.length).sum ≤ 4096 := by
    have := (flat_le (rows := rows.take at_) fun R hR => hm R (List.mem_of_mem_take hR)).2
    rw [List.length_take] at this
    have : min at_ rows.length * 64 ≤ 64 * 64 := Nat.mul_le_mul_right _ (by exact Z440 hat hl)
    exact Z303 (by assumption) this
  have hRl := hm R (List.mem_of_getElem? hR)
  refine .if (k := true) (.of (.nl rfl rfl) fun _ _ => rfl) (.cons (ρ1 := put "line" (.lst (rows.flatten.map (P nm))) (lR nm cm key tn hd σ0.length w q y true at_)) (σ1 := σ) ?_ (.cons (ρ1 := put "begin" (ai ((rows.take at_).map List.length).sum) (put "line" (.lst (rows.flatten.map (P nm))) (lR nm cm key tn hd σ0.length w q y true at_))) (σ1 := σ) ?_ (.cons (.assign (.eq (.bin (.nl rfl rfl)
    (.meth (.sub (.nc rfl rfl) (.nc rfl rfl) (.seq (.mref h1) idx_nat (ref_get hat))) (.ac H ho rfl rfl) .nil (call_part H ho (List.length_map ..)) (H.k116 _) (fun _ => rfl) fun _ => rfl) .add) addN) (.name (.inl rfl)) (fun _ => rfl) (fun _ => rfl) fun _ => rfl) .nil)))
  · refine .to (.assignComp (ρ0 := []) (inScB_out rfl) trivial (by decide +kernel) (fun _ _ => rfl) (.seq (.nc rfl rfl) (.inr ⟨_, _, rfl, h1, rfl⟩)) vs (line_outer H L hm (is := List.range rows.length) (acc := []) (w := 0) (p0 := _) (p1 := _) (p2 := _) (p3 := _) (by decide +kernel) rfl rfl rfl rfl rfl rfl rfl rfl (fun _ _ => rfl) vs (fun r h => List.mem_range.mp h) (by rw [List.length_range, List.length_nil, lim]; exact Z304 hl)) get_app ?_ L.lo.old rfl rfl rfl) ?_ List.take_left
    · rw [flat_range, List.take_length, List.nil_append]; exact fun y hy => (map_pl y hy).lo _
    · rw [flat_range, List.take_length, List.nil_append]
  · refine .assign (.call (.gl H rfl rfl) (.cons (EvE.cmp1 (l := List.range at_) (gx := fun r => .mref (σ0.length + 2 + 2 * r)) (ρ0 := []) (vers := []) (f := fun r => some (ai (rows[r]?.getD []).length)) rfl trivial rfl (fun _ _ => rfl) (.to (.seq (.slice (o1 := none) (o2 := some _) (o3 := none) (.nc rfl rfl) ⟨rfl, rfl⟩ (EvE.nc rfl rfl) ⟨rfl, rfl⟩ (.seq (.mref h1) (.inl ⟨rfl, rfl⟩) (.inr ⟨at_, rfl, rfl⟩))) (.inl ⟨rfl, rfl⟩)) ?_)
      (fun _ h => nomatch h) (by rw [List.length_range, lim]; exact Z258 hat hl) ?_ L.lo) .nil fun _ => rfl) .nil (by rw [(lens_range rows at_).resolve_right (by exact Z130 hat)]; exact call_sum .lst (by exact Z305 tl)) .bi (fun _ => rfl) (fun _ => rfl) fun _ => ⟨rfl, rfl⟩) (.name (.inl rfl)) (fun _ => rfl) (fun _ => rfl) fun _ => rfl
    · rw [List.length_map, List.length_range, clip_nat (by exact Z143 hat), cut0, ← List.map_take, List.take_range, Nat.min_eq_left (by exact Z143 hat)]
    · intro r hr w2 acc hacc
      have hr := List.mem_range.mp hr
      have hg : rows[r]? = some rows[r] := List.getElem?_eq_getElem (by exact Z16 hr hat)
      obtain ⟨v', ho'⟩ := L.row r _ hg
      have ho2 : (σ ++ [(⟨w2, none, acc⟩ : MO)])[σ0.length + 2 + 2 * r]? = some ⟨v', some hd, rows[r].map (P nm)⟩ := by rw [List.getElem?_append_left (by exact Z306 hr hlen hat)]; exact ho'
      refine ⟨_, .name (.inl rfl), trivial, .inr ⟨_, rfl, .int, .inl ⟨rfl, rfl⟩, ?_⟩⟩
      exact .meth (.nl rfl rfl) (.ac H ho2 rfl rfl) .nil (call_part H ho2 (by rw [hg, List.length_map]; rfl)) (H.k116 _) (fun _ => rfl) fun _ => rfl
end
end Mine
namespace Mine
open PySem PySem.Calls PyProof.Rows PySem.W
section
variable {c : Cx} {n N m : Nat} {σ σ0 : Sto} {nm : Nat → Str} {cm key : AV} {kv : Nat → AV} {tn q down : Bool} {hd : Int} {w y at_ row k : Nat} {rows mks rows1 : List (List Pc)} {R : List Pc} {csc : Scope} {pos : Pos}
theorem StR.asgn1 {α : Type} {l : List α} {gx : α → AV} {f : α → Option AV} {sc : Scope} {ρ ρ0 : Ro} {elt : PySem.Expr} {g : Comprehension} {vers : List (Nat × Nat)} {y : Str} {py spos : Pos} (S : inScB csc sc = true) (hρ : SubEnv csc ρ ρ0) (hb : g.is_async = 0) (hs : ∀ env x, foldedSetIterable g.iter env x = pure x) (h : SrcR c n sc g.iter g.target ρ σ (l.map gx) vers σ) (hv : VersOk σ vers) (hl : l.length ≤ lim) (st : ∀ x ∈ l, StepC c n csc g elt ρ0 σ (gx x) (f x)) (hlo : LoSto σ.length σ)
    (hk : sc.names.lookup y = some .local) (hp : (py.line == pos.line) = true) (hn : (csc.names.any fun (n, k) => n == y && (k == .local || k == .cell)) = false) :
    StR c n sc (.Assign [.Name y py] (.ListComp elt [g] csc pos) spos) ρ σ .nxt (put y (.lst (l.filterMap f)) ρ) σ := (StR.asg1 S hρ hb hs h hv hl st hlo hk hp hn).1
theorem turn1c (H : TT c) (L : LS σ0 σ hd nm rows mks) (hl : rows.length ≤ 64) (hm : ∀ R ∈ rows, R.length ≤ 64) :
    StR c (n + 2) lS (ith tB 1) (lR nm cm key tn hd σ0.length w q y false at_) σ .nxt (t1R nm cm key tn hd σ0.length w q y false at_ (colTo rows at_ rows.length) 0 .none) σ := by
  obtain ⟨v1, h1⟩ := L.rl
  have hlen := L.len
  have cl := CallR.len (c := c) (n := n + 2) (SeqR.mref h1)
  rw [List.length_map, List.length_range] at cl
  refine .if (k := false) (.of (.nl rfl rfl) fun _ _ => rfl) (.cons (ρ1 := put "line" (.lst ((colTo rows at_ rows.length).map (P nm))) (lR nm cm key tn hd σ0.length w q y false at_)) (σ1 := σ) ?_ (.cons (.assignT (x := "begin") (p := ⟨0, 0, 0, 0⟩) (.tup (.cons .int (.cons .none .nil fun _ => rfl) fun _ => rfl) lim2) (.tup (.cons (.name (.inl rfl)) (.cons (.name (.inl rfl)) .nil fun _ => rfl) fun _ => rfl) fun _ => ⟨rfl, rfl⟩) (.inr rfl) fun _ => rfl) .nil))
  refine .to (.asgn1 (l := List.range rows.length) (gx := ai) (ρ0 := [("rows", .mref σ0.length), ("at", ai at_)]) (vers := []) (f := fun r => if r ≤ at_ then ((rows[r]?.getD [])[at_ - r]?).map (P nm) else none) rfl ⟨rfl, rfl, rfl, rfl, trivial⟩ rfl (fun _ _ => rfl)
    (.range (m := rows.length) (.gl H rfl rfl) (.call (.gl H rfl rfl) (.cons (.nc rfl rfl) .nil fun _ => rfl) .nil cl .bi (fun _ => rfl) (fun _ => rfl) fun _ => ⟨rfl, rfl⟩) (by rw [lim]; exact Z307 hl) (fun _ => rfl) fun _ => rfl) (fun _ h => nomatch h) (by rw [List.length_range, lim]; exact Z307 hl) ?_ L.lo rfl rfl rfl) (by rw [col_map]) rfl
  intro r hr w2 acc hacc
  have hr := List.mem_range.mp hr
  have hg : rows[r]? = some rows[r] := List.getElem?_eq_getElem hr
  obtain ⟨v', ho'⟩ := L.row r _ hg
  have ho2 : (σ ++ [(⟨w2, none, acc⟩ : MO)])[σ0.length + 2 + 2 * r]? = some ⟨v', some hd, rows[r].map (P nm)⟩ := by rw [List.getElem?_append_left (by exact Z289 hr hlen)]; exact ho'
  have h12 : (σ ++ [(⟨w2, none, acc⟩ : MO)])[σ0.length]? = some ⟨v1, none, (List.range rows.length).map fun r => .mref (σ0.length + 2 + 2 * r)⟩ := by rw [List.getElem?_append_left (by exact Z270 hlen)]; exact h1
  refine ⟨_, .name (.inl rfl), ⟨rfl, rfl, trivial⟩, ?_⟩
  rw [hg, Option.getD_some]
  by_cases z : r ≤ at_
  · rw [if_pos z]
    have sub : AV.int ((at_ : Int) - r) = ai (at_ - r) := congrArg AV.int (by lia)
    by_cases z2 : at_ - r < rows[r].length
    · rw [List.getElem?_eq_getElem z2]
      exact .inr ⟨_, rfl, P_pl, .inr ⟨_, rfl, .chain (k1 := true) .int (.eq (.bin (.nf rfl rfl) (.nl rfl rfl) .sub) sub) (decide_eq_true (show (0 : Int) ≤ (at_ - r : Nat) by lia) ▸ .le) rfl (fun h => nomatch h) fun _ => ⟨.meth (.sub (.nf rfl rfl) (.nl rfl rfl) (.seq (.mref h12) idx_nat (ref_get hr))) (.ac H ho2 rfl rfl) .nil (call_part H ho2 (List.length_map ..)) (H.k116 _) (fun _ => rfl) fun _ => rfl, decide_eq_true (show ((at_ - r : Nat) : Int) < rows[r].length by omega) ▸ .lt⟩⟩,
        .sub (.sub (.nf rfl rfl) (.nl rfl rfl) (.seq (.mref h12) idx_nat (ref_get hr))) (.eq (.bin (.nf rfl rfl) (.nl rfl rfl) .sub) sub) (.acc H.F.KA ho2 (by rw [List.getElem?_map, List.getElem?_eq_getElem z2]; rfl))⟩
    · rw [List.getElem?_eq_none (by exact Nat.le_of_not_lt z2)]
      exact .inl ⟨rfl, .inr ⟨_, rfl, .chain (k1 := true) .int (.eq (.bin (.nf rfl rfl) (.nl rfl rfl) .sub) sub) (decide_eq_true (show (0 : Int) ≤ (at_ - r : Nat) by lia) ▸ .le) rfl (fun h => nomatch h) fun _ => ⟨.meth (.sub (.nf rfl rfl) (.nl rfl rfl) (.seq (.mref h12) idx_nat (ref_get hr))) (.ac H ho2 rfl rfl) .nil (call_part H ho2 (List.length_map ..)) (H.k116 _) (fun _ => rfl) fun _ => rfl, decide_eq_false (show ¬ ((at_ - r : Nat) : Int) < rows[r].length by omega) ▸ .lt⟩⟩⟩
  · rw [if_neg z]
    exact .inl ⟨rfl, .inr ⟨_, rfl, .chain (k1 := false) (d := .none) .int (.bin (.nf rfl rfl) (.nl rfl rfl) .sub) (decide_eq_false (show ¬ (0 : Int) ≤ (at_ : Int) - r by lia) ▸ .le) rfl (fun _ => ⟨rfl, rfl⟩) fun h => nomatch h⟩⟩
end
end Mine
namespace Mine
open PySem PySem.Calls PyProof.Rows PySem.W
section
variable {c : Cx} {n N m : Nat} {σ σ0 : Sto} {nm : Nat → Str} {cm key : AV} {kv : Nat → AV} {tn q down : Bool} {hd : Int} {w y at_ row k p h bg : Nat} {rows mks rows1 : List (List Pc)} {R line : List Pc} {en : AV} {csc : Scope} {pos : Pos}
theorem subN {a b d : Nat} (e : a = b + d) : AV.int ((a : Int) - b) = ai d := congrArg AV.int (by lia)
theorem key_piece (K : KeyOk c nm N key kv) (hy : y < N) (hs : LoSto σ.length σ) {sc : Scope} {ρ : Ro} {e : PySem.Expr} {x : Str} {p1 p2 : Pos} (hk : EvE c (n + 2) sc (.Name x p1) ρ σ key σ) (he : EvE c (n + 2) sc e ρ σ (P nm (q, y)) σ) (h1 : ∀ env, starEach [e] env = (false, eval e env) :: starEach [] env)
    (h2 : ∀ env, eval (.Call (.Name x p1) [e] [] p2) env = (do callWith p2 (← eval (.Name x p1) env) [] (backTo p2 (starEach [e] env)) (backToKw p2 (keywordEach [] env)))) (h3 : ∀ env, (backTo p2 (starEach [e] env)).any (·.1) = false) : EvE c (n + 2) sc (.Call (.Name x p1) [e] [] p2) ρ σ (kv y) σ :=
  .call hk (.cons he .nil h1) .nil ((K.call σ hs (q, y) hy).conv (Nat.le_add_left 2 n)) (K.keep σ) h2 h3 fun _ => ⟨rfl, rfl⟩
theorem map_get {l : List Pc} {i : Nat} {it : AV} (e : (l.map (P nm))[i]? = some it) : ∃ x, l[i]? = some x ∧ it = P nm x := by
  rw [List.getElem?_map] at e
  cases q : l[i]? with
  | none => rw [q] at e; cases e
  | some x => rw [q] at e; cases e; exact ⟨x, rfl, rfl⟩
noncomputable abbrev t2R (nm : Nat → Str) (cm key : AV) (tn : Bool) (hd : Int) (b w : Nat) (q : Bool) (y : Nat) (down : Bool) (at_ : Nat) (line : List Pc) (bg : Nat) (en : AV) (p : Nat) : Ro :=
  [("comers", cm), ("key", key), ("turning", .bool tn), ("head", .int hd), ("rows", .mref b), ("marks", .mref (b + 1)), ("comer", P nm (false, w)), ("piece", P nm (q, y)), ("down", .bool down), ("at", ai at_), ("line", .lst (line.map (P nm))), ("begin", ai bg), ("end", en), ("place", ai p)]
theorem turn2 (H : TT c) (K : KeyOk c nm N key kv) (hs : LoSto σ.length σ) (hy : y < N) (h1 : bg ≤ p) (h2 : p ≤ h) (h3 : h ≤ line.length) (hen : (en = .none ∧ h = line.length) ∨ en = .int h) (hN : ∀ e ∈ line, e.2 < N) (hc : ∀ i e, bg ≤ i → i < h → line[i]? = some e → (y < e.2 ↔ p ≤ i)) :
    StR c (n + 3) lS (ith tB 2) (t1R nm cm key tn hd σ0.length w q y down at_ line bg en) σ .nxt (t2R nm cm key tn hd σ0.length w q y down at_ line bg en p) σ := by
  refine .assign (.call (.gl H rfl rfl) (.cons (.nl rfl rfl) (.cons (key_piece K hy hs (.nc rfl rfl) (.nl rfl rfl) (fun _ => rfl) (fun _ => rfl) fun _ => rfl) (.cons (.nl rfl rfl) (.cons (.nl rfl rfl) .nil fun _ => rfl) fun _ => rfl) fun _ => rfl) fun _ => rfl) (.one (.nc rfl rfl))
    (call_bisk H hs .lst h1 h2 (by rw [List.length_map]; exact h3) (by rw [List.length_map]; exact hen) K.nn fun i it i1 i2 e => ?_) H.f39.keep (fun _ => rfl) (fun _ => rfl) fun _ => ⟨rfl, rfl⟩) (.name (.inl rfl)) (fun _ => rfl) (fun _ => rfl) fun _ => rfl
  obtain ⟨x, e1, rfl⟩ := map_get e
  have hx := hN x (List.mem_of_getElem? e1)
  have := K.lt σ y x.2 hy hx
  rw [decide_eq_decide.mpr (hc i x i1 i2 e1)] at this
  exact ⟨kv x.2, .inr ⟨K.nn, K.keep σ, (K.call σ hs x hx).conv (Nat.le_add_left 2 n)⟩, this⟩
theorem turn3 (H : TT c) (K : KeyOk c nm N key kv) (hs : LoSto σ.length σ) (hy : y < N) (h1 : bg ≤ p) (h2 : p ≤ h) (h3 : h ≤ line.length) (h4 : line.length ≤ lim) (hen : (en = .none ∧ h = line.length) ∨ en = .int h) (hN : ∀ e ∈ line, e.2 < N) (hc : ∀ i e, bg ≤ i → i < h → line[i]? = some e → (y < e.2 ↔ p ≤ i)) :
    StR c (n + 3) lS (ith tB 3) (t2R nm cm key tn hd σ0.length w q y down at_ line bg en p) σ .nxt (t2R nm cm key tn hd σ0.length w q y down at_ line bg en p) σ := by
  have el : (line.filterMap fun e => some (kv e.2)).length = line.length := by rw [List.filterMap_eq_map' (f := fun e : Pc => kv e.2)]; exact List.length_map ..
  refine .if (k := false) (.eq (.cmp (.nl rfl rfl) (.call (.gl H rfl rfl) (.cons (EvE.cmp1 (l := line) (gx := P nm) (f := fun e => some (kv e.2)) (ρ0 := [("key", key)]) (vers := []) rfl ⟨rfl, rfl, trivial⟩ rfl (fun _ _ => rfl) (.seq (.nl rfl rfl) (.inl ⟨rfl, rfl⟩)) (fun _ h => nomatch h) h4 (fun e he w2 acc hacc => ?_) hs)
      (.cons (key_piece K hy hs (.nc rfl rfl) (.nl rfl rfl) (fun _ => rfl) (fun _ => rfl) fun _ => rfl) (.cons (.nl rfl rfl) (.cons (.nl rfl rfl) .nil fun _ => rfl) fun _ => rfl) fun _ => rfl) fun _ => rfl) .nil
      (call_bisp H hs .lst h1 h2 (by rw [el]; exact h3) (by rw [el]; exact hen) fun i it i1 i2 e => ?_) H.f39.keep (fun _ => rfl) (fun _ => rfl) fun _ => ⟨rfl, rfl⟩) .neInt rfl) (by simp)) .nil
  · exact ⟨_, .name (.inl rfl), ⟨rfl, trivial⟩, .inr ⟨_, rfl, K.pl _, .inl ⟨rfl, rfl⟩, .call (.nf rfl rfl) (.cons (.nl rfl rfl) .nil fun _ => rfl) .nil ((K.call _ (hs.app hacc) e (hN e he)).conv (Nat.le_trans (Nat.le_add_left 2 n) (Nat.le_succ _))) (K.keep _) (fun _ => rfl) (fun _ => rfl) fun _ => ⟨rfl, rfl⟩⟩⟩
  · rw [List.filterMap_eq_map' (f := fun e : Pc => kv e.2), List.getElem?_map] at e
    cases z : line[i]? with
    | none => rw [z] at e; cases e
    | some x =>
      rw [z] at e; cases e
      have hx := hN x (List.mem_of_getElem? z)
      have := K.lt σ y x.2 hy hx
      rw [decide_eq_decide.mpr (hc i x i1 i2 z)] at this
      exact this
noncomputable abbrev t4R (nm : Nat → Str) (cm key : AV) (tn : Bool) (hd : Int) (b w : Nat) (q : Bool) (y : Nat) (down : Bool) (at_ row k : Nat) : Ro :=
  [("comers", cm), ("key", key), ("turning", .bool tn), ("head", .int hd), ("rows", .mref b), ("marks", .mref (b + 1)), ("comer", P nm (false, w)), ("piece", P nm (q, y)), ("down", .bool down), ("at", ai at_), ("row", ai row), ("k", ai k)]
theorem turn4 (hdn : down = true → row = at_ ∧ p = bg + k) (hcl : down = false → p = row ∧ at_ = row + k) : StR c n lS (ith tB 4) (t2R nm cm key tn hd σ0.length w q y down at_ line bg en p) σ .nxt (t4R nm cm key tn hd σ0.length w q y down at_ row k) σ := by
  refine .out (ρ1 := put "k" (ai k) (put "row" (ai row) (t2R nm cm key tn hd σ0.length w q y down at_ line bg en p))) ⟨rfl, rfl, rfl, rfl, rfl, rfl, rfl, rfl, rfl, rfl, rfl, rfl, trivial⟩ ?_
  cases down with
  | true =>
    obtain ⟨rfl, rfl⟩ := hdn rfl
    exact .assign (.ifExp (k := true) (.of (.nl rfl rfl) fun _ _ => rfl) (.tup (.cons (.nc rfl rfl) (.cons (.eq (.bin (.nl rfl rfl) (.nl rfl rfl) .sub) (subN rfl)) .nil fun _ => rfl) fun _ => rfl) lim2)) (.tup (.cons (.name (.inl rfl)) (.cons (.name (.inl rfl)) .nil fun _ => rfl) fun _ => rfl) fun _ => ⟨rfl, rfl⟩) (fun _ => rfl) (fun _ => rfl) fun _ => rfl
  | false =>
    obtain ⟨rfl, rfl⟩ := hcl rfl
    exact .assign (.ifExp (k := false) (.of (.nl rfl rfl) fun _ _ => rfl) (.tup (.cons (.nl rfl rfl) (.cons (.eq (.bin (.nc rfl rfl) (.nl rfl rfl) .sub) (subN rfl)) .nil fun _ => rfl) fun _ => rfl) lim2)) (.tup (.cons (.name (.inl rfl)) (.cons (.name (.inl rfl)) .nil fun _ => rfl) fun _ => rfl) fun _ => ⟨rfl, rfl⟩) (fun _ => rfl) (fun _ => rfl) fun _ => rfl
end
end Mine
namespace Mine
open PySem PySem.Calls PyProof.Rows PySem.W
section
variable {c : Cx} {n N m : Nat} {σ σ0 : Sto} {nm : Nat → Str} {cm key : AV} {kv : Nat → AV} {tn q down : Bool} {hd : Int} {w y at_ row k p h bg : Nat} {rows mks rows1 : List (List Pc)} {R line l : List Pc} {en : AV} {csc : Scope} {pos : Pos}
noncomputable abbrev t5R (nm : Nat → Str) (cm key : AV) (tn : Bool) (hd : Int) (b w : Nat) (q : Bool) (y : Nat) (down : Bool) (at_ row k : Nat) (l : List Pc) : Ro :=
  [("comers", cm), ("key", key), ("turning", .bool tn), ("head", .int hd), ("rows", .mref b), ("marks", .mref (b + 1)), ("comer", P nm (false, w)), ("piece", P nm (q, y)), ("down", .bool down), ("at", ai at_), ("row", ai row), ("k", ai k), ("behind", .lst (l.map (P nm)))]
theorem lim1 : 1 ≤ lim := by decide
theorem cut1 {α : Type} {l : List α} : cutL l (clipAt l.length 1) l.length = l.drop 1 := by
  cases l with
  | nil => rfl
  | cons a l =>
    rw [show (1 : Int) = ((1 : Nat) : Int) from rfl, clip_nat (by simp), cutL, List.take_of_length_le (by simp)]
theorem push_loop (H : TT c) : ∀ (l acc : List Pc) (σ : Sto) (rows : List (List Pc)), LS σ0 σ hd nm rows mks → rows[row]? = some acc → acc.length + l.length < 200 →
    ∃ σ', LS σ0 σ' hd nm (rows.set row (acc ++ l)) mks ∧ LoopB c (n + 2) lS (forT (ith tB 7)) (forB (ith tB 7)) (t5R nm cm key tn hd σ0.length w q y down at_ row k R) σ (l.map (P nm)) [] .nxt (t5R nm cm key tn hd σ0.length w q y down at_ row k R) σ'
  | [], acc, σ, rows, L, hr, _ => ⟨σ, by
      rw [List.append_nil]
      have : rows.set row acc = rows := by
        apply List.ext_getElem?
        intro i
        by_cases z : i = row
        · subst z; rw [List.getElem?_set_self (List.getElem?_eq_some_iff.mp hr).1, hr]
        · rw [List.getElem?_set_ne (Ne.symm z)]
      rw [this]; exact L, .nil⟩
  | e :: l, acc, σ, rows, L, hr, hl => by
    obtain ⟨v1, h1⟩ := L.rl
    obtain ⟨v, ho⟩ := L.row row acc hr
    have hrl := (List.getElem?_eq_some_iff.mp hr).1
    rw [List.length_cons] at hl
    have L2 := L.setRow (R' := acc ++ [e]) hr ho rfl
    rw [List.map_append] at L2
    obtain ⟨σ', L3, hb⟩ := push_loop H l (acc ++ [e]) _ _ L2 (List.getElem?_set_self hrl) (by simp; exact Z308 hl)
    refine ⟨σ', by rw [List.set_set, List.append_assoc] at L3; exact L3, .cons (ρ1 := put "one" (P nm e) (t5R nm cm key tn hd σ0.length w q y down at_ row k R)) (fl1 := .nxt) (.name (.inl rfl)) (.cons (.expr (EvE.meth (.sub (.nc rfl rfl) (.nl rfl rfl) (.seq (.mref h1) idx_nat (ref_get hrl))) (.ac H ho rfl rfl)
      (.cons (.sub (.nl rfl rfl) .int (.tup (j := 0) rfl rfl)) (.cons (.sub (.nl rfl rfl) .int (.tup (j := 1) rfl rfl)) .nil fun _ => rfl) fun _ => rfl) (call_push H ho (by rw [List.length_map, lim]; exact Z309 hl) L.lo .str .str) H.f63.keep (fun _ => rfl) fun _ => rfl) fun _ => rfl) .nil) (.inl rfl) (fun _ h => nomatch h)
      (.weak (ρ' := t5R nm cm key tn hd σ0.length w q y down at_ row k R) ⟨rfl, rfl, rfl, rfl, rfl, rfl, rfl, rfl, rfl, rfl, rfl, rfl, rfl, trivial⟩ hb)⟩
theorem turn57 (H : TT c) (L : LS σ0 σ hd nm rows mks) (hR : rows[row]? = some R) (hk : k ≤ R.length) (hm : R.length ≤ 64) :
    ∃ σ', LS σ0 σ' hd nm (rows.set row (R.take k ++ (q, y) :: R.drop (k + 1))) mks ∧ ∀ {st : Stmt} {fl : Fl} {ρ8 : Ro} {σ'' : Sto}, StR c (n + 2) lS st (t5R nm cm key tn hd σ0.length w q y down at_ row k (R.drop k)) σ' fl ρ8 σ'' → fl = .nxt →
      StB c (n + 2) lS [ith tB 5, ith tB 6, ith tB 7, st] (t4R nm cm key tn hd σ0.length w q y down at_ row k) σ fl ρ8 σ'' := by
  obtain ⟨v1, h1⟩ := L.rl
  obtain ⟨v, ho⟩ := L.row row R hR
  have hrl := (List.getElem?_eq_some_iff.mp hR).1
  have L2 := L.setRow (R' := R.take k) hR ho rfl
  obtain ⟨v1', h1'⟩ := L2.rl
  obtain ⟨v', ho'⟩ := L2.row row (R.take k) (List.getElem?_set_self hrl)
  rw [List.length_set] at h1'
  obtain ⟨σ', L3, hb⟩ := push_loop (n := n) (cm := cm) (key := key) (tn := tn) (w := w) (q := q) (y := y) (down := down) (at_ := at_) (k := k) (R := R.drop k) H ((q, y) :: R.drop (k + 1)) (R.take k) _ _ L2 (List.getElem?_set_self hrl) (by simp; exact Z441 hm)
  rw [List.set_set] at L3
  have pf := call_popf (n := n + 1) H ho (j := k) (by rw [List.length_map]; exact hk) (by rw [List.length_map, lim]; exact Z307 hm) L.lo
  rw [← List.map_drop, ← List.map_take] at pf
  refine ⟨σ', L3, fun {st fl ρ8 σ''} hst hfl => .cons (.assign (.meth (.sub (.nc rfl rfl) (.nl rfl rfl) (.seq (.mref h1) idx_nat (ref_get hrl))) (.ac H ho rfl rfl) (.cons (.nl rfl rfl) .nil fun _ => rfl) pf H.f71.keep (fun _ => rfl) fun _ => rfl) (.name (.inl rfl)) (fun _ => rfl) (fun _ => rfl) fun _ => rfl)
    (.cons (.if (k := false) (.eq (.cmp (.meth (.sub (.nc rfl rfl) (.nl rfl rfl) (.seq (.mref h1') idx_nat (ref_get hrl))) (.ac H ho' rfl rfl) .nil (call_part H ho' (l := k) (by rw [List.length_map, List.length_take]; exact Nat.le_antisymm (Nat.min_le_left _ _) (Nat.le_of_eq (Nat.min_eq_left hk).symm))) (H.k116 _) (fun _ => rfl) fun _ => rfl) (.nl rfl rfl) .neInt rfl) (by simp)) .nil)
    (.cons (.for (.to (.seq (.bin (.lst (.cons (.nl rfl rfl) .nil fun _ => rfl) lim1) (.slice (o1 := some _) (o2 := none) (o3 := none) (.nl rfl rfl) EvE.int ⟨rfl, rfl⟩ ⟨rfl, rfl⟩ (.seq .lst (.inr ⟨1, rfl, rfl⟩) (.inl ⟨rfl, rfl⟩))) (.addSeq .lst .lst ?ln)) (.inl ⟨rfl, rfl⟩)) ?eq) hb fun _ _ => rfl) ?last))⟩
  case ln => rw [cut1]; simp [lim]; exact Z310 hm
  case eq => rw [cut1, ← List.map_drop, List.drop_drop]; rfl
  case last => subst hfl; exact .cons hst .nil
end
end Mine
namespace Mine
open PySem PySem.Calls PyProof.Rows PySem.W
section
variable {c : Cx} {n N m : Nat} {σ σ0 : Sto} {nm : Nat → Str} {cm key : AV} {kv : Nat → AV} {tn q down : Bool} {hd : Int} {w y at_ row k p h bg : Nat} {rows mks rows1 : List (List Pc)} {R line l : List Pc} {en : AV} {csc : Scope} {pos : Pos}
theorem mem_col {rows : List (List Pc)} {at_ : Nat} {e : Pc} : ∀ {r}, e ∈ colTo rows at_ r → ∃ R ∈ rows, e ∈ R
  | r + 1, he => by
    rcases List.mem_append.mp he with he | he
    · exact mem_col he
    · split at he
      · have he := Option.mem_toList.mp he
        cases z : rows[r]? with
        | none => rw [z] at he; simp at he
        | some R => rw [z] at he; exact ⟨R, List.mem_of_getElem? z, List.mem_of_getElem? he⟩
      · cases he
theorem col_le {rows : List (List Pc)} {at_ : Nat} : ∀ r, (colTo rows at_ r).length ≤ r
  | 0 => Nat.le_refl _
  | r + 1 => by
    have := col_le (rows := rows) (at_ := at_) r
    unfold colTo
    rw [List.length_append]
    split
    · cases (rows[r]?.getD [])[at_ - r]? <;> simp <;> (first | exact Z253 this | exact this)
    · simp; exact Z253 this
theorem tB_eq : tB = [ith tB 0, ith tB 1, ith tB 2, ith tB 3, ith tB 4, ith tB 5, ith tB 6, ith tB 7, ith tB 8] := rfl
noncomputable def BdR (N : Nat) (rows : List (List Pc)) : Prop := ∀ R ∈ rows, ∀ e ∈ R, e.2 < N
theorem turn (H : TT c) (K : KeyOk c nm N key kv) (L : LS σ0 σ hd nm rows mks) (T : Turn m rows y down at_ rows1 row k R) (hm : m ≤ 60) (bd : BdR N rows) (hy : y < N) :
    ∃ σ', LS σ0 σ' hd nm (rows1.set row (R.take k ++ (q, y) :: R.drop (k + 1))) (if down = true ∧ at_ = rows.length then mks ++ [[]] else mks) ∧ ∀ {ρ8 : Ro} {σ'' : Sto}, StR c (n + 3) lS (ith tB 8) (t5R nm cm key tn hd σ0.length w q y down at_ row k (R.drop k)) σ' .nxt ρ8 σ'' →
      StB c (n + 3) lS tB (lR nm cm key tn hd σ0.length w q y down at_) σ .nxt ρ8 σ'' := by
  have hl1 := T.sm.1
  have hrl : rows.length < 64 := by
    have e := T.r1
    split at e
    · rw [e, List.length_append] at hl1; exact Z311 hl1 hm
    · rw [e] at hl1; exact Z312 hl1 hm
  obtain ⟨σ1, L1, s0⟩ := turn0 (n := n + 1) (cm := cm) (key := key) (tn := tn) (q := q) (w := w) (y := y) H L T.low hrl
  rw [← T.r1] at L1
  have bd1 : BdR N rows1 := by
    rw [T.r1]
    split
    · intro R hR e he
      rcases List.mem_append.mp hR with hR | hR
      · exact bd R hR e he
      · cases List.mem_singleton.mp hR; cases he
    · exact bd
  have hm64 : ∀ R ∈ rows1, R.length ≤ 64 := fun R hR => Nat.le_trans (T.sm.2 R hR) (by exact Z313 hm)
  have hRm := hm64 R (List.mem_of_getElem? T.get)
  obtain ⟨σ', L2, s5⟩ := turn57 (n := n + 1) (cm := cm) (key := key) (tn := tn) (q := q) (w := w) (y := y) (down := down) (at_ := at_) H L1 T.get T.kle hRm
  refine ⟨σ', L2, fun {ρ8 σ''} hst => ?_⟩
  rw [tB_eq]
  cases down with
  | true =>
    obtain ⟨rfl, hc⟩ := T.dn rfl
    obtain ⟨f1, f2⟩ := flat_get T.get
    have fl := (flat_le hm64).1
    have hN : ∀ e ∈ rows1.flatten, e.2 < N := fun e he => by obtain ⟨R, hR, h⟩ := List.mem_flatten.mp he; exact bd1 R hR e h
    have cc : ∀ i e, ((rows1.take row).map List.length).sum ≤ i → i < ((rows1.take row).map List.length).sum + R.length → rows1.flatten[i]? = some e → (y < e.2 ↔ ((rows1.take row).map List.length).sum + k ≤ i) := fun i e h1 h2 h3 => by
      obtain ⟨j, rfl⟩ : ∃ j, i = ((rows1.take row).map List.length).sum + j := ⟨i - ((rows1.take row).map List.length).sum, by exact Z314 h1⟩
      rw [f1 j (by exact Z315 h2)] at h3
      rw [hc j e h3]; exact Z316
    have kl := T.kle
    have ll : rows1.flatten.length ≤ lim := by
      have : rows1.length * 64 ≤ 64 * 64 := Nat.mul_le_mul_right _ (by exact Z317 hl1 hm)
      rw [lim]; exact Z318 fl this
    exact .cons s0 (.cons (turn1d (n := n + 1) H L1 (by exact Z317 hl1 hm) hm64 T.get) (.cons (turn2 (p := ((rows1.take row).map List.length).sum + k) (h := ((rows1.take row).map List.length).sum + R.length) H K L1.lo hy (by exact Z123) (by exact Z319 kl) f2 (.inr rfl) hN cc) (.cons (turn3 (h := ((rows1.take row).map List.length).sum + R.length) H K L1.lo hy (by exact Z123) (by exact Z319 kl) f2 ll (.inr rfl) hN cc)
      (.cons (turn4 (fun _ => ⟨rfl, rfl⟩) (fun h => nomatch h)) (s5 hst rfl)))))
  | false =>
    obtain ⟨e1, e2, e3⟩ := T.col rfl
    obtain rfl : rows1 = rows := by rw [T.r1, if_neg (fun h => nomatch h.1)]
    have hN : ∀ e ∈ colTo rows1 at_ rows1.length, e.2 < N := fun e he => by obtain ⟨R, hR, h⟩ := mem_col he; exact bd1 R hR e h
    have cl := col_le (rows := rows1) (at_ := at_) rows1.length
    have cc : ∀ i e, 0 ≤ i → i < (colTo rows1 at_ rows1.length).length → (colTo rows1 at_ rows1.length)[i]? = some e → (y < e.2 ↔ row ≤ i) := fun i e _ _ h => e3 i e h
    exact .cons s0 (.cons (turn1c (n := n + 1) H L1 (by exact Z109 hrl) hm64) (.cons (turn2 (p := row) H K L1.lo hy (Nat.zero_le _) e2 (Nat.le_refl _) (.inl ⟨rfl, rfl⟩) hN cc) (.cons (turn3 H K L1.lo hy (Nat.zero_le _) e2 (Nat.le_refl _) (by rw [lim]; exact Z320 cl hrl) (.inl ⟨rfl, rfl⟩) hN cc)
      (.cons (turn4 (fun h => nomatch h) (fun _ => ⟨rfl, e1⟩)) (s5 hst rfl)))))
end
end Mine
namespace Mine
open PySem PySem.Calls PyProof.Rows PySem.W
section
variable {c : Cx} {n N m : Nat} {σ σ0 : Sto} {nm : Nat → Str} {cm key : AV} {kv : Nat → AV} {tn q down : Bool} {hd : Int} {w y at_ row k p h bg : Nat} {rows mks rows1 : List (List Pc)} {R line l G : List Pc} {en : AV} {csc : Scope} {pos : Pos}
theorem ok0 : PyData.strOk ("" : Str) = true := by decide +kernel
theorem ok1 : PyData.strOk (" " : Str) = true := by decide +kernel
theorem ref_get1 {L j b : Nat} (h : j < L) : ((List.range L).map fun r => AV.mref (b + 3 + 2 * r))[j]? = some (.mref (b + 3 + 2 * j)) := by rw [List.getElem?_map, List.getElem?_range h]; rfl
theorem turn_stop (H : TT c) (L : LS σ0 σ hd nm rows mks) (hG : mks[row]? = some G) (hg : G.length < 200) : ∃ σ', LS σ0 σ' hd nm rows (mks.set row (G ++ [(!(tn || down), w)])) ∧
    StR c (n + 2) lS (ith tB 8) (t5R nm cm key tn hd σ0.length w q y down at_ row k []) σ .nxt (put "piece" .none (t5R nm cm key tn hd σ0.length w q y down at_ row k [])) σ' := by
  obtain ⟨v2, h2⟩ := L.mlst
  obtain ⟨v, ho⟩ := L.mr row G hG
  have hrl : row < rows.length := by have := (List.getElem?_eq_some_iff.mp hG).1; rw [L.ml] at this; exact this
  have L2 := L.setMk (R' := G ++ [(!(tn || down), w)]) hG ho rfl
  rw [List.map_append] at L2
  refine ⟨_, L2, .if (k := true) (.cmp (.nl rfl rfl) (.lst .nil (Nat.zero_le _)) (.eqSame (.same .lst .lst fun _ h => nomatch h)) rfl) (.cons (.expr (EvE.meth (.sub (.nl rfl rfl) (.nl rfl rfl) (.seq (.mref h2) idx_nat (ref_get1 hrl))) (.ac H ho rfl rfl)
    (.cons (v := .str (sb (!(tn || down)))) ?_ (.cons (.sub (.nl rfl rfl) .int (.tup (j := 1) rfl rfl)) .nil fun _ => rfl) fun _ => rfl) (call_push H ho (by rw [List.length_map, lim]; exact Z321 hg) L.lo .str .str) H.f63.keep (fun _ => rfl) fun _ => rfl) fun _ => rfl) (.cons (.assign .none (.name (.inl rfl)) (fun _ => rfl) (fun _ => rfl) fun _ => rfl) .nil))⟩
  cases tn with
  | true => exact .ifExp (k := true) (.boolCut (.of (.nl rfl rfl) fun _ _ => rfl) (.inr ⟨rfl, rfl⟩)) (.str ok0)
  | false =>
    cases down with
    | true => exact .ifExp (k := true) (.boolOn (.of (.nl rfl rfl) fun _ _ => rfl) (.inr ⟨rfl, rfl⟩) (.boolCut (.of (.nl rfl rfl) fun _ _ => rfl) (.inr ⟨rfl, rfl⟩))) (.str ok0)
    | false => exact .ifExp (k := false) (.boolOn (.of (.nl rfl rfl) fun _ _ => rfl) (.inr ⟨rfl, rfl⟩) (.boolOn (.of (.nl rfl rfl) fun _ _ => rfl) (.inr ⟨rfl, rfl⟩) .boolEnd)) (.str ok1)
theorem turn_go (H : TT c) (L : LS σ0 σ hd nm rows mks) {z : Nat} {b : Bool} {l : List Pc} :
    StR c (n + 2) lS (ith tB 8) (t5R nm cm key tn hd σ0.length w q y down at_ row k ((b, z) :: l)) σ .nxt (put "at" (ai (if (if tn then !(b || k == 0) else down && !(k == 0)) then row + 1 else row + k + 1)) (put "down" (.bool (if tn then !(b || k == 0) else down && !(k == 0))) (put "piece" (P nm (b || (tn && k == 0), z)) (t5R nm cm key tn hd σ0.length w q y down at_ row k ((b, z) :: l))))) σ := by
  have k0 : ((k : Int) == 0) = (k == 0) := by rw [Bool.eq_iff_iff, beq_iff_eq, beq_iff_eq]; lia
  refine .if (k := false) (.cmp (.nl rfl rfl) (.lst .nil (Nat.zero_le _)) (.eqNil P_dat fun y hy => by obtain ⟨e, _, rfl⟩ := List.mem_map.mp hy; exact P_dat) rfl) (.cons (ρ1 := put "piece" (P nm (b || (tn && k == 0), z)) (t5R nm cm key tn hd σ0.length w q y down at_ row k ((b, z) :: l))) (σ1 := σ) (.assign (.tup (.cons (v := .str (sb (b || (tn && k == 0)))) ?e1 (.cons (.sub (.sub (.nl rfl rfl) .int (.seq (j := 0) .lst rfl rfl)) .int (.tup (j := 1) rfl rfl)) .nil fun _ => rfl) fun _ => rfl) lim2) (.name (.inl rfl)) (fun _ => rfl) (fun _ => rfl) fun _ => rfl)
    (.cons (σ1 := σ) (.assign (v := .bool (if tn then !(b || k == 0) else down && !(k == 0))) ?e2 (.name (.inl rfl)) (fun _ => rfl) (fun _ => rfl) fun _ => rfl) (.cons (σ1 := σ) (.assign (v := ai (if (if tn then !(b || k == 0) else down && !(k == 0)) then row + 1 else row + k + 1)) ?e3 (.name (.inr rfl)) (fun _ => rfl) (fun _ => rfl) fun _ => rfl) .nil)))
  case e1 =>
    cases tn with
    | false => rw [Bool.false_and, Bool.or_false]; exact .ifExp (k := false) (.boolCut (.of (.nl rfl rfl) fun _ _ => rfl) (.inl ⟨rfl, rfl⟩)) (.sub (.sub (.nl rfl rfl) .int (.seq (j := 0) .lst rfl rfl)) .int (.tup (j := 0) rfl rfl))
    | true =>
      cases e : (k == 0) with
      | true => rw [Bool.and_true, Bool.or_true]; exact .ifExp (k := true) (.boolOn (.of (.nl rfl rfl) fun _ _ => rfl) (.inl ⟨rfl, rfl⟩) (.boolOn (.eq (.cmp (.call (.gl H rfl rfl) (.cons (.nl rfl rfl) .nil fun _ => rfl) .nil (call_iseof H L.lo) H.f147.keep (fun _ => rfl) (fun _ => rfl) fun _ => ⟨rfl, rfl⟩) .bool .isBool rfl) (by rw [k0, e]; rfl)) (.inl ⟨rfl, rfl⟩) .boolEnd)) (.str ok1)
      | false => rw [Bool.and_false, Bool.or_false]; exact .ifExp (k := false) (.boolOn (.of (.nl rfl rfl) fun _ _ => rfl) (.inl ⟨rfl, rfl⟩) (.boolCut (.eq (.cmp (.call (.gl H rfl rfl) (.cons (.nl rfl rfl) .nil fun _ => rfl) .nil (call_iseof H L.lo) H.f147.keep (fun _ => rfl) (fun _ => rfl) fun _ => ⟨rfl, rfl⟩) .bool .isBool rfl) (by rw [k0, e]; rfl)) (.inl ⟨rfl, rfl⟩))) (.sub (.sub (.nl rfl rfl) .int (.seq (j := 0) .lst rfl rfl)) .int (.tup (j := 0) rfl rfl))
  case e2 =>
    cases tn with
    | true =>
      have ls := (sb_ok (b || (true && k == 0))).2
      exact .ifExp (k := true) (.of (.nl rfl rfl) fun _ _ => rfl) (.eq (.cmp (.call (.gl H rfl rfl) (.cons (.bin .int (.call (.gl H rfl rfl) (.cons (.sub (.nl rfl rfl) .int (.tup (j := 0) rfl rfl)) .nil fun _ => rfl) .nil (.lenStr (by rw [ls, lim]; split <;> (first | exact Z322 | exact Z323))) .bi (fun _ => rfl) (fun _ => rfl) fun _ => ⟨rfl, rfl⟩) .add) .nil fun _ => rfl) .nil (call_isterm H L.lo) H.f133.keep (fun _ => rfl) (fun _ => rfl) fun _ => ⟨rfl, rfl⟩) .bool .isBool rfl)
        (congrArg AV.bool (by rw [ls, Bool.true_and, if_pos rfl]; cases (b || k == 0) <;> decide)))
    | false =>
      cases down with
      | false => exact .ifExp (k := false) (.of (.nl rfl rfl) fun _ _ => rfl) (.boolCut (.nl rfl rfl) (.inl ⟨rfl, rfl⟩))
      | true => exact .ifExp (k := false) (.of (.nl rfl rfl) fun _ _ => rfl) (.boolOn (.nl rfl rfl) (.inl ⟨rfl, rfl⟩) (.bool1 (.eq (.cmp (.call (.gl H rfl rfl) (.cons (.nl rfl rfl) .nil fun _ => rfl) .nil (call_iseof H L.lo) H.f147.keep (fun _ => rfl) (fun _ => rfl) fun _ => ⟨rfl, rfl⟩) .bool .isBool rfl) (congrArg AV.bool (by rw [k0]; cases (k == 0) <;> rfl)))))
  case e3 =>
    generalize hd' : (if tn then !(b || k == 0) else down && !(k == 0)) = dn
    cases dn with
    | true => exact .ifExp (k := true) (.of (.nl rfl rfl) fun _ _ => rfl) (.eq (.bin (.nl rfl rfl) .int .add) (congrArg AV.int (by rfl)))
    | false => exact .ifExp (k := false) (.of (.nl rfl rfl) fun _ _ => rfl) (.eq (.bin (.bin (.nl rfl rfl) (.nl rfl rfl) .add) .int .add) (congrArg AV.int (by rw [if_neg (by decide)]; lia)))
end
end Mine
namespace Mine
open PySem PySem.Calls PyProof.Rows PySem.W
noncomputable def whE : Stmt → PySem.Expr | .While e _ _ _ => e | _ => .Constant .none 0 ⟨0, 0, 0, 0⟩
noncomputable def lB : List Stmt := fBody (st 64)
noncomputable def wE : PySem.Expr := whE (ith (forB (ith lB 1)) 1)
noncomputable abbrev cmR (cm key : AV) (tn : Bool) (hd : Int) (b : Nat) : Ro := [("comers", cm), ("key", key), ("turning", .bool tn), ("head", .int hd), ("rows", .mref b), ("marks", .mref (b + 1))]
section
variable {c : Cx} {n N m : Nat} {σ σ0 : Sto} {nm : Nat → Str} {cm key : AV} {kv : Nat → AV} {tn q down : Bool} {hd : Int} {w y at_ row k p h bg : Nat} {rows mks rows1 rows' mks' : List (List Pc)} {R line l G : List Pc} {en : AV} {csc : Scope} {pos : Pos}
theorem lim3 : 3 ≤ lim := by decide
theorem not_none {v : AV} (h : ∀ F μ h x, VR F μ h v x → x ≠ .none) : Op2 c σ (compareOp .IsNot) v .none (.bool true) := .isNot (b := .none) (.isNone h) (.inr ⟨h, rfl⟩)
theorem P_nn {e : Pc} : ∀ F μ h x, VR F μ h (P nm e) x → x ≠ .none := fun F μ h x r => by obtain ⟨a, vs, rfl, _⟩ := r.tup_inv; exact fun q => nomatch q
theorem Bd_set (h : BdR N rows) {r : Nat} {R : List Pc} (hR : ∀ e ∈ R, e.2 < N) : BdR N (rows.set r R) := fun S hS e he => by
  rcases List.mem_or_eq_of_mem_set hS with hS | rfl
  · exact h S hS e he
  · exact hR e he
theorem Turn.bd (T : Turn m rows y down at_ rows1 row k R) (h : BdR N rows) : BdR N rows1 := by
  rw [T.r1]
  split
  · intro R hR e he
    rcases List.mem_append.mp hR with hR | hR
    · exact h R hR e he
    · cases List.mem_singleton.mp hR; cases he
  · exact h
theorem ins_walk (H : TT c) (K : KeyOk c nm N key kv) (hm : m ≤ 60) (hw : w < N) (I : Ins m tn w rows mks q y down at_ rows' mks') : ∀ {σ : Sto} {t : Nat}, LS σ0 σ hd nm rows mks → BdR N rows → y < N → t < 150 → (∀ G ∈ mks, G.length ≤ t) →
    ∃ σ' ρ', LS σ0 σ' hd nm rows' mks' ∧ BdR N rows' ∧ (∀ G ∈ mks', G.length ≤ t + 1) ∧ SubL ρ' (cmR cm key tn hd σ0.length) ∧ WhB c (n + 3) lS wE tB (lR nm cm key tn hd σ0.length w q y down at_) σ .nxt ρ' σ' := by
  induction I with
  | @stop rows mks rows1 b y down at_ row k R G T hk hG =>
    intro σ t L bd hy ht hg
    obtain ⟨σ', L1, s1⟩ := turn (n := n) (cm := cm) (key := key) (tn := tn) (q := b) (w := w) H K L T hm bd hy
    have hg' : ∀ G ∈ (if down = true ∧ at_ = rows.length then mks ++ [[]] else mks), G.length ≤ t := by
      split
      · intro G h
        rcases List.mem_append.mp h with h | h
        · exact hg G h
        · cases List.mem_singleton.mp h; exact Nat.zero_le _
      · exact hg
    have e1 : R.take k = R := List.take_of_length_le (by exact Nat.le_of_eq hk)
    have e2 : R.drop (k + 1) = [] := List.drop_eq_nil_of_le (by exact Z324 hk)
    have e3 : R.drop k = [] := List.drop_eq_nil_of_le (by exact Nat.le_of_eq hk)
    rw [e1, e2] at L1
    rw [e3] at s1
    obtain ⟨σ'', L2, s2⟩ := turn_stop (n := n + 1) (cm := cm) (key := key) (tn := tn) (q := b) (w := w) (y := y) (down := down) (at_ := at_) (k := k) H L1 hG (by have := hg' G (List.mem_of_getElem? hG); exact Z325 this ht)
    refine ⟨σ'', _, L2, Bd_set (T.bd bd) fun e he => ?_, fun G' h => ?_, ?_, .on (.cmp (.nl rfl rfl) .none (not_none P_nn) rfl) (s1 s2) (.inl rfl) (.stop (.cmp (.nl rfl rfl) .none (.isNot (b := .none) .isNone1 (.inl ⟨rfl, rfl⟩)) rfl))⟩
    · rcases List.mem_append.mp he with he | he
      · exact T.bd bd R (List.mem_of_getElem? T.get) e he
      · cases List.mem_singleton.mp he; exact hy
    · rcases List.mem_or_eq_of_mem_set h with h | rfl
      · have := hg' G' h; exact Z253 this
      · have := hg' G (List.mem_of_getElem? hG); simp; exact this
    · exact ⟨rfl, rfl, rfl, rfl, rfl, rfl, trivial⟩
  | @go rows mks rows1 rows' mks' b p y z down at_ row k R T hz _ ih =>
    intro σ t L bd hy ht hg
    obtain ⟨σ', L1, s1⟩ := turn (n := n) (cm := cm) (key := key) (tn := tn) (q := b) (w := w) H K L T hm bd hy
    have hkl := (List.getElem?_eq_some_iff.mp hz).1
    have e3 : R.drop k = (p, z) :: R.drop (k + 1) := by
      rw [List.drop_eq_getElem_cons hkl]
      rw [List.getElem?_eq_getElem hkl] at hz
      rw [Option.some.inj hz]
    rw [e3] at s1
    have bR := T.bd bd R (List.mem_of_getElem? T.get)
    have s2 := turn_go (n := n + 1) (cm := cm) (key := key) (tn := tn) (q := b) (w := w) (y := y) (down := down) (at_ := at_) (row := row) (k := k) (b := p) (z := z) (l := R.drop (k + 1)) H L1
    obtain ⟨σ'', ρ', L2, b2, g2, sub, wh⟩ := ih (σ := σ') (t := t) L1 (Bd_set (T.bd bd) fun e he => by
      rcases List.mem_append.mp he with he | he
      · exact bR e (List.mem_of_mem_take he)
      · rcases List.mem_cons.mp he with rfl | he
        · exact hy
        · exact bR e (List.mem_of_mem_drop he)) (bR _ (List.mem_of_getElem? hz)) ht (by
      split
      · intro G h
        rcases List.mem_append.mp h with h | h
        · exact hg G h
        · cases List.mem_singleton.mp h; exact Nat.zero_le _
      · exact hg)
    exact ⟨σ'', ρ', L2, b2, g2, sub, .on (.cmp (.nl rfl rfl) .none (not_none P_nn) rfl) (s1 s2) (.inl rfl) (.weak (ρ' := lR nm cm key tn hd σ0.length w (p || (tn && k == 0)) z (if tn then !(p || k == 0) else down && !(k == 0)) (if (if tn then !(p || k == 0) else down && !(k == 0)) then row + 1 else row + k + 1)) ⟨rfl, rfl, rfl, rfl, rfl, rfl, rfl, rfl, rfl, rfl, trivial⟩ wh)⟩
theorem VersOk.low {vers : List (Nat × Nat)} (h : VersOk σ0 vers) (L : LS σ0 σ hd nm rows mks) : VersOk σ vers := fun p hp => by
  obtain ⟨o, e, r⟩ := h p hp
  exact ⟨o, by rw [L.low _ (List.getElem?_eq_some_iff.mp e).1]; exact e, r⟩
theorem laid_walk (H : TT c) (K : KeyOk c nm N key kv) (hm : m ≤ 60) {vers : List (Nat × Nat)} (hv : VersOk σ0 vers) {ws : List Nat} (I : LaidAll m tn ws rows mks rows' mks') : ∀ {σ : Sto} {t : Nat}, LS σ0 σ hd nm rows mks → BdR N rows → (∀ w ∈ ws, w < N) → t + ws.length < 150 → (∀ G ∈ mks, G.length ≤ t) →
    ∃ σ', LS σ0 σ' hd nm rows' mks' ∧ BdR N rows' ∧ (∀ G ∈ mks', G.length ≤ t + ws.length) ∧ LoopB c (n + 3) lS (forT (ith lB 1)) (forB (ith lB 1)) (cmR cm key tn hd σ0.length) σ (ws.map fun w => P nm (false, w)) vers .nxt (cmR cm key tn hd σ0.length) σ' := by
  induction I with
  | nil => intro σ t L bd _ _ hg; exact ⟨σ, L, bd, hg, .nil⟩
  | @cons rows mks rows1 mks1 rows' mks' w ws I _ ih =>
    intro σ t L bd hw ht hg
    rw [List.length_cons] at ht
    obtain ⟨σ1, ρ1, L1, b1, g1, sub, wh⟩ := ins_walk (n := n) (cm := cm) H K hm (hw w (.head _)) I L bd (hw w (.head _)) (by exact Z326 ht) hg
    obtain ⟨σ2, L2, b2, g2, lp⟩ := ih (t := t + 1) L1 b1 (fun w h => hw w (.tail _ h)) (by exact Z327 ht) g1
    refine ⟨σ2, L2, b2, fun G h => by have := g2 G h; rw [List.length_cons]; exact Z50 this, .cons (ρ1 := put "comer" (P nm (false, w)) (cmR cm key tn hd σ0.length)) (fl1 := .nxt) (.name (.inl rfl)) (.cons (.assignT (x := "at") (.tup (.cons (.nl rfl rfl) (.cons .bool (.cons .int .nil fun _ => rfl) fun _ => rfl) fun _ => rfl) lim3) (.tup (.cons (.name (.inl rfl)) (.cons (.name (.inl rfl)) (.cons (.name (.inr rfl)) .nil fun _ => rfl) fun _ => rfl) fun _ => rfl) fun _ => ⟨rfl, rfl⟩)
      (.inl ⟨rfl, .tail _ (.tail _ (.head _))⟩) fun _ => rfl) (.cons (.while wh) .nil)) (.inl rfl) (hv.low L1) (.weak sub lp)⟩
end
end Mine
namespace Mine
open PySem PySem.Calls PyProof.Rows PySem.W
noncomputable abbrev Js := List (Nat × List Pc)
noncomputable def AccAt (s : Sto) (hd : Int) (nm : Nat → Str) (js : Js) : Prop := ∀ p ∈ js, ∃ v, s[p.1]? = some ⟨v, some hd, p.2.map (P nm)⟩
noncomputable def sg (nm : Nat → Str) (R : List Pc) : Nat := signs (R.map fun e => (sb e.1, nm e.2))
noncomputable abbrev szv (nm : Nat → Str) (hd : Int) (R : List Pc) : AV := .tup [ai R.length, .int (hd + sg nm R)]
noncomputable abbrev jv (nm : Nat → Str) (js : Js) : AV := .lst (js.map fun p => .lst (p.2.map (P nm)))
section
variable {c : Cx} {n : Nat} {s : Sto} {nm : Nat → Str} {cm key : AV} {tn : Bool} {hd : Int} {b v v' : Nat} {js js' : Js}
theorem call_lenA (H : TT c) (hl : ∀ v, (nm v).length ≤ 8) (hh : 0 ≤ hd ∧ hd ≤ lim) {j : Nat} {R : List Pc} {sto : Sto} (ho : sto[j]? = some ⟨v, some hd, R.map (P nm)⟩) : CallR c (n + 2) (.val (.builtin "len")) [.mref j] [] sto (.int (hd + sg nm R)) sto := by
  refine H.lenA (ys := R.map fun e => (sb e.1, nm e.2)) (v := v) (by rw [List.map_map]; exact ho) (fun p hp => ?_) hh
  obtain ⟨e, _, rfl⟩ := List.mem_map.mp hp
  exact ⟨Nat.le_trans (show (sb e.1).length ≤ 8 by rw [(sb_ok e.1).2]; split <;> decide) (by decide), Nat.le_trans (hl e.2) (by decide)⟩
theorem szv_pl {R : List Pc} : Pl (szv nm hd R) := .tup fun x hx => by
  rcases List.mem_cons.mp hx with rfl | hx
  · exact .int
  · cases List.mem_singleton.mp hx; exact .int
theorem lst_pl {xs : List AV} (h : ∀ x ∈ xs, Pl x) : Pl (.lst xs) := .lst h
theorem fm_map {α : Type} {l : List α} {g : α → AV} : (l.filterMap fun a => some (g a)) = l.map g := congrFun (List.filterMap_eq_map' (f := g)) l
noncomputable abbrev zR (cm key : AV) (tn : Bool) (hd : Int) (b : Nat) (z : AV) : Ro := [("comers", cm), ("key", key), ("turning", .bool tn), ("head", .int hd), ("rows", .mref b), ("marks", .mref (b + 1)), ("sizes", z)]
theorem sizes_walk (H : TT c) (hl : ∀ v, (nm v).length ≤ 8) (hh : 0 ≤ hd ∧ hd ≤ lim) (lo : LoSto s.length s) (h1 : s[b]? = some ⟨v, none, js.map fun p => .mref p.1⟩) (h2 : s[b + 1]? = some ⟨v', none, js'.map fun p => .mref p.1⟩) (a1 : AccAt s hd nm js) (a2 : AccAt s hd nm js') (l1 : js.length ≤ 64) (l2 : js'.length ≤ 64) :
    StR c (n + 2) lS (ith lB 2) (cmR cm key tn hd b) s .nxt (zR cm key tn hd b (.lst [.lst (js.map fun p => szv nm hd p.2), .lst (js'.map fun p => szv nm hd p.2)])) s := by
  have inner : ∀ (js : Js) (v i : Nat), s[i]? = some ⟨v, none, js.map fun p => .mref p.1⟩ → AccAt s hd nm js → js.length ≤ 64 → ∀ (w2 : Nat) (acc : List AV), (∀ y ∈ acc, Pl y) → (s ++ [(⟨w2, none, acc⟩ : MO)])[i]? = some ⟨v, none, js.map fun p => .mref p.1⟩ ∧ ∀ w3 acc3, AccAt (s ++ [(⟨w2, none, acc⟩ : MO)] ++ [(⟨w3, none, acc3⟩ : MO)]) hd nm js := fun js v i h a l w2 acc hacc =>
    ⟨by rw [List.getElem?_append_left (List.getElem?_eq_some_iff.mp h).1]; exact h, fun w3 acc3 p hp => by
      obtain ⟨u, e⟩ := a p hp
      have := (List.getElem?_eq_some_iff.mp e).1
      exact ⟨u, by rw [List.append_assoc, List.getElem?_append_left this]; exact e⟩⟩
  refine .to (.asgn1 (l := [(b, v, js), (b + 1, v', js')]) (gx := fun t => .mref t.1) (ρ0 := []) (vers := []) (f := fun t => some (.lst (t.2.2.map fun p => szv nm hd p.2))) rfl trivial rfl (fun _ _ => rfl) (.tup (.tup (.cons (.nc rfl rfl) (.cons (.nl rfl rfl) .nil fun _ => rfl) fun _ => rfl) lim2)) (fun _ h => nomatch h) lim2 (fun t ht w2 acc hacc => ?_) lo rfl rfl rfl) rfl rfl
  have ht' : s[t.1]? = some ⟨t.2.1, none, t.2.2.map fun p => .mref p.1⟩ ∧ AccAt s hd nm t.2.2 ∧ t.2.2.length ≤ 64 := by
    rcases List.mem_cons.mp ht with rfl | ht
    · exact ⟨h1, a1, l1⟩
    · cases List.mem_singleton.mp ht; exact ⟨h2, a2, l2⟩
  obtain ⟨i1, i2⟩ := inner t.2.2 t.2.1 t.1 ht'.1 ht'.2.1 ht'.2.2 w2 acc hacc
  refine ⟨_, .name (.inl rfl), trivial, .inr ⟨_, rfl, lst_pl fun x hx => by obtain ⟨p, _, rfl⟩ := List.mem_map.mp hx; exact szv_pl, .inl ⟨rfl, rfl⟩, ?_⟩⟩
  refine .eq (EvE.cmp1 (l := t.2.2) (gx := fun p => .mref p.1) (ρ0 := []) (vers := [(t.1, t.2.1)]) (f := fun p => some (szv nm hd p.2)) rfl trivial rfl (fun _ _ => rfl) (.seq (.nl rfl rfl) (.inr ⟨_, _, rfl, i1, rfl⟩)) (fun p hp => by cases List.mem_singleton.mp hp; exact ⟨_, i1, rfl⟩) (Nat.le_trans ht'.2.2 (by decide)) (fun p hp w3 acc3 hacc3 => ?_) (lo.app hacc)) (congrArg AV.lst fm_map)
  obtain ⟨u, ho⟩ := i2 w3 acc3 p hp
  exact ⟨_, .name (.inl rfl), trivial, .inr ⟨_, rfl, szv_pl, .inl ⟨rfl, rfl⟩, .tup (.cons (.meth (.nl rfl rfl) (.ac H ho rfl rfl) .nil (call_part H ho (List.length_map ..)) (H.k116 _) (fun _ => rfl) fun _ => rfl) (.cons (.call (.gl H rfl rfl) (.cons (.nl rfl rfl) .nil fun _ => rfl) .nil (call_lenA H hl hh ho) .bi (fun _ => rfl) (fun _ => rfl) fun _ => ⟨rfl, rfl⟩) .nil fun _ => rfl) fun _ => rfl) lim2⟩⟩
noncomputable abbrev dR (cm key : AV) (tn : Bool) (hd : Int) (b : Nat) (z la : AV) : Ro := [("comers", cm), ("key", key), ("turning", .bool tn), ("head", .int hd), ("rows", .mref b), ("marks", .mref (b + 1)), ("sizes", z), ("laid", la)]
theorem str_len {x y : Str} : (x ++ y).length = x.length + y.length := Array.size_append
theorem due_walk (H : TT c) (hl : ∀ v, (nm v).length ≤ 8) (lo : LoSto s.length s) {z : AV} (l1 : js.length ≤ 64) (l2 : js'.length ≤ 64) (m1 : ∀ p ∈ js, p.2.length ≤ 64) (m2 : ∀ p ∈ js', p.2.length ≤ 64) :
    StR c (n + 2) lS (ith lB 4) (dR cm key tn hd b z (.lst [jv nm js, jv nm js'])) s .nxt (put "due" (.lst [.lst (js.map fun p => szv nm hd p.2), .lst (js'.map fun p => szv nm hd p.2)]) (dR cm key tn hd b z (.lst [jv nm js, jv nm js']))) s := by
  refine .to (.asgn1 (l := [js, js']) (gx := jv nm) (ρ0 := [("head", .int hd)]) (vers := []) (f := fun t => some (.lst (t.map fun p => szv nm hd p.2))) rfl ⟨rfl, rfl, trivial⟩ rfl (fun _ _ => rfl) (.seq (.nl rfl rfl) (.inl ⟨rfl, rfl⟩)) (fun _ h => nomatch h) lim2 (fun t ht w2 acc hacc => ?_) lo rfl rfl rfl) rfl rfl
  have ht' : t.length ≤ 64 ∧ ∀ p ∈ t, p.2.length ≤ 64 := by
    rcases List.mem_cons.mp ht with rfl | ht
    · exact ⟨l1, m1⟩
    · cases List.mem_singleton.mp ht; exact ⟨l2, m2⟩
  refine ⟨_, .name (.inl rfl), ⟨rfl, trivial⟩, .inr ⟨_, rfl, lst_pl fun x hx => by obtain ⟨p, _, rfl⟩ := List.mem_map.mp hx; exact szv_pl, .inl ⟨rfl, rfl⟩, ?_⟩⟩
  refine .eq (EvE.cmp1 (l := t) (gx := fun p => .lst (p.2.map (P nm))) (ρ0 := [("head", .int hd)]) (vers := []) (f := fun p => some (szv nm hd p.2)) rfl ⟨rfl, rfl, trivial⟩ rfl (fun _ _ => rfl) (.seq (.nl rfl rfl) (.inl ⟨rfl, rfl⟩)) (fun _ h => nomatch h) (Nat.le_trans ht'.1 (by decide)) (fun p hp w3 acc3 hacc3 => ?_) (lo.app hacc)) (congrArg AV.lst fm_map)
  have hp' := ht'.2 p hp
  have cl := CallR.len (c := c) (n := n + 2) (σ := s ++ [⟨w2, none, acc⟩] ++ [⟨w3, none, acc3⟩]) (SeqR.lst (xs := p.2.map (P nm)))
  rw [List.length_map] at cl
  have sm : ((p.2.map fun e => (sb e.1 ++ nm e.2).length).sum) = sg nm p.2 ∧ sg nm p.2 ≤ 9 * p.2.length := by
    unfold sg signs
    rw [List.map_map]
    constructor
    · congr 1
      apply List.map_congr_left
      intro e _
      exact str_len
    · induction p.2 with
      | nil => exact Nat.le_refl _
      | cons e r ih =>
        have h1 := hl e.2
        have h2 : (sb e.1).length ≤ 1 := by rw [(sb_ok e.1).2]; split <;> decide
        rw [List.map_cons, List.sum_cons, List.length_cons]
        simp only [Function.comp] at ih ⊢
        exact Z328 h2 h1 ih
  have cs := call_sum (c := c) (n := n + 2) (σ := s ++ [⟨w2, none, acc⟩] ++ [⟨w3, none, acc3⟩]) (ns := p.2.map fun e => (sb e.1 ++ nm e.2).length) .lst (by rw [sm.1]; exact Z329 sm.2 hp')
  rw [sm.1] at cs
  refine ⟨_, .name (.inl rfl), ⟨rfl, trivial⟩, .inr ⟨_, rfl, szv_pl, .inl ⟨rfl, rfl⟩, .tup (.cons (.call (.gl H rfl rfl) (.cons (.nl rfl rfl) .nil fun _ => rfl) .nil cl .bi (fun _ => rfl) (fun _ => rfl) fun _ => ⟨rfl, rfl⟩) (.cons (.bin (.nf rfl rfl) (.call (.gl H rfl rfl) (.cons (EvE.eq (EvE.cmp1 (l := p.2) (gx := P nm) (ρ0 := []) (vers := []) (f := fun e => some (ai (sb e.1 ++ nm e.2).length)) rfl trivial rfl (fun _ _ => rfl) (.seq (.nl rfl rfl) (.inl ⟨rfl, rfl⟩)) (fun _ h => nomatch h) (Nat.le_trans hp' (by decide)) (fun e he w4 acc4 hacc4 => ?_) ((lo.app hacc).app hacc3)) (congrArg AV.lst (fm_map.trans (by rw [List.map_map]; rfl)))) .nil fun _ => rfl) .nil cs .bi (fun _ => rfl) (fun _ => rfl) fun _ => ⟨rfl, rfl⟩) .add) .nil fun _ => rfl) fun _ => rfl) lim2⟩⟩
  have e8 := hl e.2
  have e1 : (sb e.1).length ≤ 1 := by rw [(sb_ok e.1).2]; split <;> decide
  exact ⟨_, .tup (.cons (.name (.inl rfl)) (.cons (.name (.inl rfl)) .nil fun _ => rfl) fun _ => rfl) fun _ => ⟨rfl, rfl⟩, trivial, .inr ⟨_, rfl, .int, .inl ⟨rfl, rfl⟩, .call (.gl H rfl rfl) (.cons (.bin (.nl rfl rfl) (.nl rfl rfl) (.addStr (by exact Z330 e1 e8))) .nil fun _ => rfl) .nil (.lenStr (by rw [str_len, lim]; exact Z331 e1 e8)) .bi (fun _ => rfl) (fun _ => rfl) fun _ => ⟨rfl, rfl⟩⟩⟩
end
end Mine
namespace Mine
open PySem PySem.Calls PyProof.Rows PySem.W
noncomputable def emp1 (s : Sto) (j : Nat) : Sto := match s[j]? with | some o => s.set j ⟨o.ver + o.items.length, o.acc, []⟩ | none => s
noncomputable def empA (s : Sto) : List Nat → Sto | [] => s | j :: js => empA (emp1 s j) js
theorem emp1_at {s : Sto} {j : Nat} {o : MO} (h : s[j]? = some o) : emp1 s j = s.set j ⟨o.ver + o.items.length, o.acc, []⟩ := by unfold emp1; rw [h]
theorem emp1_ne {s : Sto} {i j : Nat} (h : i ≠ j) : (emp1 s j)[i]? = s[i]? := by
  unfold emp1; split
  · rw [List.getElem?_set_ne (Ne.symm h)]
  · rfl
theorem emp1_len {s : Sto} {j : Nat} : (emp1 s j).length = s.length := by unfold emp1; split <;> simp
theorem emp1_lo {s : Sto} {j m : Nat} (h : LoSto m s) : LoSto m (emp1 s j) := by
  unfold emp1; split
  · rename_i o e
    intro i q hi hq
    by_cases z : j = i
    · subst z
      rw [List.getElem?_set_self (List.getElem?_eq_some_iff.mp e).1] at hq; cases hq
      exact fun _ h => nomatch h
    · rw [List.getElem?_set_ne z] at hq; exact h i q hi hq
  · exact h
theorem empA_len {s : Sto} : ∀ {js : List Nat}, (empA s js).length = s.length
  | [] => rfl
  | j :: js => by rw [empA, empA_len, emp1_len]
theorem empA_lo {m : Nat} : ∀ {js : List Nat} {s : Sto}, LoSto m s → LoSto m (empA s js)
  | [], _, h => h
  | j :: js, s, h => by rw [empA]; exact empA_lo (js := js) (emp1_lo h)
theorem empA_ne {i : Nat} : ∀ {js : List Nat} {s : Sto}, i ∉ js → (empA s js)[i]? = s[i]?
  | [], _, _ => rfl
  | j :: js, s, h => by
    rw [empA, empA_ne (js := js) fun q => h (.tail _ q), emp1_ne]
    intro q; subst q; exact h (.head _)
theorem empA_at {i : Nat} {hd : Int} : ∀ {js : List Nat} {s : Sto}, i ∈ js → js.Nodup → (∃ v xs, s[i]? = some ⟨v, some hd, xs⟩) → ∃ v, (empA s js)[i]? = some ⟨v, some hd, []⟩
  | j :: js, s, h, nd, ⟨v, xs, e⟩ => by
    rw [List.nodup_cons] at nd
    by_cases q : i = j
    · subst q
      rw [empA, empA_ne nd.1, emp1_at e, List.getElem?_set_self (List.getElem?_eq_some_iff.mp e).1]
      exact ⟨_, rfl⟩
    · rcases List.mem_cons.mp h with h | h
      · exact absurd h q
      · rw [empA]; exact empA_at (js := js) (s := emp1 s j) h nd.2 ⟨v, xs, by rw [emp1_ne q]; exact e⟩
section
variable {c : Cx} {n : Nat} {s : Sto} {nm : Nat → Str} {cm key : AV} {tn : Bool} {hd : Int} {b v v' j : Nat} {js js' : Js} {csc : Scope} {pos : Pos} {elt : PySem.Expr} {g : Comprehension} {ρ : Ro}
theorem chg_left {s : Sto} {o o' : MO} {xs : List AV} (h : j < s.length) : chg (s ++ [o']) j o xs = chg s j o xs ++ [o'] := by rw [chg, chg, List.set_append_left _ _ h]
theorem pop_run (hb : ∀ g' ∈ [g], g'.is_async = 0) (hi : g.ifs = []) (hp : ∀ v ρ, AsR c csc g.target v ρ (put "turn" v ρ)) (hs : ∀ v, SubL (put "turn" v ρ) ρ)
    (he : ∀ (s : Sto) (v : Nat) (xs : List AV) (x it : AV), s[j]? = some ⟨v, some hd, xs ++ [x]⟩ → EvE c n csc elt (put "turn" it ρ) s x (chg s j ⟨v, some hd, xs ++ [x]⟩ xs)) :
    ∀ (r its : List AV) (s : Sto) (v : Nat) (acc : List AV) (w : Nat), its.length = r.length → s[j]? = some ⟨v, some hd, r.reverse⟩ → acc.length + r.length ≤ lim → CompL c n (.ListComp elt [g] csc pos) csc g.target 0 s.length ρ (s ++ [⟨w, none, acc⟩]) its [] ρ (s.set j ⟨v + r.length, some hd, []⟩ ++ [⟨w + r.length, none, acc ++ r⟩])
  | [], [], s, v, acc, w, _, h, _ => by
    have e : s.set j ⟨v + 0, some hd, []⟩ = s := by
      apply List.ext_getElem?; intro i
      by_cases q : i = j
      · subst q; rw [List.getElem?_set_self (List.getElem?_eq_some_iff.mp h).1, h]; rfl
      · rw [List.getElem?_set_ne (Ne.symm q)]
    rw [List.length_nil, e, List.append_nil]; exact .nil rfl hb
  | x :: r, it :: its, s, v, acc, w, hl, h, hm => by
    rw [List.reverse_cons] at h
    rw [List.length_cons] at hm
    have hj := (List.getElem?_eq_some_iff.mp h).1
    have ih := pop_run hb hi hp hs he r its (chg s j ⟨v, some hd, r.reverse ++ [x]⟩ r.reverse) (v + 1) (acc ++ [x]) (w + 1) (Nat.succ.inj hl) (chg_same h) (by simp; exact Z48 hm)
    rw [chg_len, List.append_assoc, show (chg s j ⟨v, some hd, r.reverse ++ [x]⟩ r.reverse).set j ⟨v + 1 + r.length, some hd, []⟩ = s.set j ⟨v + (r.length + 1), some hd, []⟩ by rw [chg, List.set_set]; congr 2; exact Z18, show w + 1 + r.length = w + (r.length + 1) by exact Z18] at ih
    have ev := he (s ++ [⟨w, none, acc⟩]) v r.reverse x it (by rw [List.getElem?_append_left hj]; exact h)
    rw [chg_left hj] at ev
    have em := CompT.emit (c := c) (n := n) (csc := csc) (elt := elt) (gens := [g]) (pos := pos) (d := 0) (a := s.length) (ys := acc) (w := w) rfl ev (by rw [← chg_len (σ := s) (i := j) (o := ⟨v, some hd, r.reverse ++ [x]⟩) (xs := r.reverse)]; exact get_app) (by exact Z42 hm)
    have ce : chg (chg s j ⟨v, some hd, r.reverse ++ [x]⟩ r.reverse ++ [⟨w, none, acc⟩]) s.length ⟨w, none, acc⟩ (acc ++ [x]) = chg s j ⟨v, some hd, r.reverse ++ [x]⟩ r.reverse ++ [⟨w + 1, none, acc ++ [x]⟩] := by
      have := chg_app (σ := chg s j ⟨v, some hd, r.reverse ++ [x]⟩ r.reverse) (w := w) (acc := acc) (ys := acc ++ [x])
      rw [chg_len] at this
      exact this
    rw [ce] at em
    exact .cons rfl hb (hp it ρ) (.inl ⟨hi, rfl⟩) (fun _ => em) (fun q => nomatch q) (fun _ h => nomatch h) (.weak (hs it) ih)
theorem CallR.popA (H : TT c) {xs : List AV} {x : AV} {s : Sto} (ho : s[j]? = some ⟨v, some hd, xs ++ [x]⟩) : CallR c n (.val (.ref 79)) [.mref j] [] s x (chg s j ⟨v, some hd, xs ++ [x]⟩ xs) := .pop H.F ho
end
end Mine
namespace Mine
open PySem PySem.Calls PyProof.Rows PySem.W
noncomputable def asgV : Stmt → PySem.Expr | .Assign _ v _ => v | _ => .Constant .none 0 ⟨0, 0, 0, 0⟩
noncomputable def lcE : PySem.Expr → PySem.Expr | .ListComp e _ _ _ => e | _ => .Constant .none 0 ⟨0, 0, 0, 0⟩
noncomputable def lcS : PySem.Expr → Scope | .ListComp _ _ s _ => s | _ => default
noncomputable def lcG : PySem.Expr → List Comprehension | .ListComp _ g _ _ => g | _ => []
noncomputable def eL1 : PySem.Expr := asgV (ith lB 3)
noncomputable def eL2 : PySem.Expr := lcE eL1
noncomputable def eL3 : PySem.Expr := lcE eL2
section
variable {c : Cx} {n : Nat} {s : Sto} {nm : Nat → Str} {cm key : AV} {tn : Bool} {hd : Int} {b v v' j : Nat} {js js' : Js} {csc : Scope} {pos : Pos} {elt : PySem.Expr} {g : Comprehension} {ρ : Ro}
theorem emp1_app {o : MO} (h : j < s.length) : emp1 (s ++ [o]) j = emp1 s j ++ [o] := by
  unfold emp1
  rw [List.getElem?_append_left h, List.getElem?_eq_getElem h]
  exact List.set_append_left _ _ h
theorem empA_app {o : MO} : ∀ {is : List Nat} {s : Sto}, (∀ i ∈ is, i < s.length) → empA (s ++ [o]) is = empA s is ++ [o]
  | [], _, _ => rfl
  | i :: is, s, h => by
    rw [empA, empA, emp1_app (h i (.head _)), empA_app (is := is) (s := emp1 s i) fun k hk => by rw [emp1_len]; exact h k (.tail _ hk)]
theorem pops_one (H : TT c) {R : List Pc} (ho : s[j]? = some ⟨v, some hd, R.map (P nm)⟩) (lo : LoSto s.length s) (hl : R.length ≤ 64) : EvE c (n + 2) (lcS eL2) eL3 [("step", .mref j)] s (.lst (R.map (P nm))) (emp1 s j) := by
  have hj := (List.getElem?_eq_some_iff.mp ho).1
  have hr : s[j]? = some ⟨v, some hd, ((R.map (P nm)).reverse).reverse⟩ := by rw [List.reverse_reverse]; exact ho
  have hlr : (R.map (P nm)).reverse.length = R.length := by rw [List.length_reverse, List.length_map]
  refine .eq (.slice (o1 := none) (o2 := none) (o3 := some _) (σ1 := emp1 s j) (a := .lst (R.map (P nm)).reverse) ?_ ⟨rfl, rfl⟩ ⟨rfl, rfl⟩ (EvE.neg .int) .rev) (by rw [List.reverse_reverse])
  rw [show emp1 s j = (s.set j ⟨v + (R.map (P nm)).reverse.length, some hd, []⟩ ++ [(⟨0 + (R.map (P nm)).reverse.length, none, [] ++ (R.map (P nm)).reverse⟩ : MO)]).take s.length by
    rw [emp1_at ho, List.take_left' (by simp), hlr, List.length_map]]
  refine EvE.comp (ρ0 := [("step", .mref j)]) (inScB_out rfl) ⟨rfl, rfl, trivial⟩ (by decide +kernel) (fun _ _ => rfl) (.range (m := R.length) (.gl H rfl rfl) (.meth (.nc rfl rfl) (.ac H ho rfl rfl) .nil (call_part H ho (List.length_map ..)) (H.k116 _) (fun _ => rfl) fun _ => rfl) (Nat.le_trans hl (by decide)) (fun _ => rfl) fun _ => rfl) (fun _ h => nomatch h)
    (pop_run (hd := hd) (ρ := [("step", .mref j)]) (fun g' h => by cases List.mem_singleton.mp h; rfl) rfl (fun _ _ => .name (.inl rfl)) (fun _ => ⟨rfl, trivial⟩) (fun s v xs x it h => .meth (.nf rfl rfl) (.ac H h rfl rfl) .nil (CallR.popA H h) (H.k79 _) (fun _ => rfl) fun _ => rfl) (R.map (P nm)).reverse _ s v [] 0 (by rw [hlr, List.length_map, List.length_range]) hr (by rw [hlr]; exact Nat.le_trans (by simpa using hl) (by decide)))
    (by rw [show s.length = (s.set j ⟨v + (R.map (P nm)).reverse.length, some hd, []⟩).length from List.length_set.symm]; exact get_app) (fun y hy => ?_) ?_
  · exact (map_pl y (List.mem_reverse.mp hy)).lo _
  · intro i o hi e
    rw [List.getElem?_append_left (by rw [List.length_set]; exact hi)] at e
    by_cases z : j = i
    · subst z; rw [List.getElem?_set_self hj] at e; cases e; exact fun _ h => nomatch h
    · rw [List.getElem?_set_ne z] at e; exact lo i o hi e
theorem LoSto.old' {m : Nat} {o : MO} (h : LoSto m s) (hm : m ≤ s.length) : LoSto m (s ++ [o]) := fun i q hi e => by rw [List.getElem?_append_left (Nat.lt_of_lt_of_le hi hm)] at e; exact h i q hi e
theorem emp1_acc {hd : Int} {js : Js} (h : AccAt s hd nm js) (hn : j ∉ js.map (·.1)) : AccAt (emp1 s j) hd nm js := fun p hp => by
  obtain ⟨v, e⟩ := h p hp
  refine ⟨v, ?_⟩
  rw [emp1_ne]
  · exact e
  · intro q; subst q; exact hn (List.mem_map_of_mem (f := (·.1)) hp)
theorem mid_run (H : TT c) (hb : ∀ g' ∈ [g], g'.is_async = 0) (hi : g.ifs = []) (hp : ∀ v, AsR c (lcS eL2) g.target v [] [("step", v)]) {vers : List (Nat × Nat)} : ∀ (js : Js) (s : Sto) (acc : List AV) (w : Nat), AccAt s hd nm js → (js.map (·.1)).Nodup → LoSto s.length s → (∀ y ∈ acc, Pl y) → (∀ p ∈ js, p.2.length ≤ 64) → VersOk s vers → (∀ p ∈ vers, p.1 ∉ js.map (·.1)) → acc.length + js.length ≤ lim →
    CompL c (n + 2) (.ListComp eL3 [g] (lcS eL2) pos) (lcS eL2) g.target 0 s.length [] (s ++ [⟨w, none, acc⟩]) (js.map fun p => .mref p.1) vers [] (empA s (js.map (·.1)) ++ [⟨w + js.length, none, acc ++ js.map fun p => .lst (p.2.map (P nm))⟩])
  | [], s, acc, w, _, _, _, _, _, _, _, _ => by simp only [List.map_nil, List.append_nil, List.length_nil, Nat.add_zero]; exact .nil rfl hb
  | p :: js, s, acc, w, ha, nd, lo, hc, hl, hv, hvn, hm => by
    obtain ⟨v, ho⟩ := ha p (.head _)
    have hj := (List.getElem?_eq_some_iff.mp ho).1
    rw [List.map_cons, List.nodup_cons] at nd
    rw [List.length_cons] at hm
    have hv' : VersOk (emp1 s p.1) vers := fun q hq => by
      obtain ⟨o, e, r⟩ := hv q hq
      exact ⟨o, by rw [emp1_ne fun z => hvn q hq (by rw [z]; exact .head _)]; exact e, r⟩
    have ih := mid_run H hb hi hp (vers := vers) js (emp1 s p.1) (acc ++ [.lst (p.2.map (P nm))]) (w + 1) (emp1_acc (fun q hq => ha q (.tail _ hq)) nd.1) nd.2 (by rw [emp1_len]; exact emp1_lo lo)
      (fun y hy => (List.mem_append.mp hy).elim (hc y) fun z => by cases List.mem_singleton.mp z; exact lst_pl map_pl) (fun q hq => hl q (.tail _ hq)) hv' (fun q hq z => hvn q hq (.tail _ z)) (by simp; exact Z48 hm)
    rw [emp1_len, List.append_assoc, Nat.add_assoc, Nat.add_comm 1] at ih
    have ev := pops_one (n := n) (s := s ++ [⟨w, none, acc⟩]) (j := p.1) (R := p.2) H (by rw [List.getElem?_append_left hj]; exact ho) (lo.app hc) (hl p (.head _))
    rw [emp1_app hj] at ev
    have em := CompT.emit (c := c) (n := n + 2) (csc := lcS eL2) (elt := eL3) (gens := [g]) (pos := pos) (d := 0) (a := s.length) (ys := acc) (w := w) rfl ev (by rw [← emp1_len (s := s) (j := p.1)]; exact get_app) (by exact Z42 hm)
    have ce : chg (emp1 s p.1 ++ [⟨w, none, acc⟩]) s.length ⟨w, none, acc⟩ (acc ++ [.lst (p.2.map (P nm))]) = emp1 s p.1 ++ [⟨w + 1, none, acc ++ [.lst (p.2.map (P nm))]⟩] := by
      have := chg_app (σ := emp1 s p.1) (w := w) (acc := acc) (ys := acc ++ [.lst (p.2.map (P nm))])
      rw [emp1_len] at this
      exact this
    rw [ce] at em
    exact .cons rfl hb (hp _) (.inl ⟨hi, rfl⟩) (fun _ => em) (fun q => nomatch q) hv'.app (.weak (ρ' := []) trivial ih)
theorem pops_all (H : TT c) {i : Nat} {ρ : Ro} (hρ : ρ.lookup ("side" : Str) = some (.mref i)) (h : s[i]? = some ⟨v, none, js.map fun p => .mref p.1⟩) (ha : AccAt s hd nm js) (nd : (js.map (·.1)).Nodup) (hi : i ∉ js.map (·.1)) (lo : LoSto s.length s) (hl : ∀ p ∈ js, p.2.length ≤ 64) (hl2 : js.length ≤ 64) :
    EvE c (n + 2) (lcS eL1) eL2 ρ s (.lst (js.map fun p => .lst (p.2.map (P nm)))) (empA s (js.map (·.1))) := by
  have vs : VersOk s [(i, v)] := fun p hp => by cases List.mem_singleton.mp hp; exact ⟨_, h, rfl⟩
  rw [show empA s (js.map (·.1)) = (empA s (js.map (·.1)) ++ [(⟨0 + js.length, none, [] ++ js.map fun p => .lst (p.2.map (P nm))⟩ : MO)]).take s.length from (List.take_left' empA_len).symm]
  exact EvE.comp (ρ0 := []) (inScB_out rfl) trivial (by decide +kernel) (fun _ _ => rfl) (.seq (.nl rfl hρ) (.inr ⟨_, _, rfl, h, rfl⟩)) vs
    (mid_run H (fun g' h => by cases List.mem_singleton.mp h; rfl) rfl (fun _ => .name (.inr rfl)) js s [] 0 ha nd lo (fun _ h => nomatch h) hl vs (fun p hp => by cases List.mem_singleton.mp hp; exact hi) (Nat.le_trans (by simpa using hl2) (by decide)))
    (by rw [show s.length = (empA s (js.map (·.1))).length from empA_len.symm]; exact get_app) (fun y hy => by obtain ⟨p, _, rfl⟩ := List.mem_map.mp hy; exact (lst_pl map_pl).lo _) (LoSto.old' (empA_lo lo) (Nat.le_of_eq empA_len.symm))
end
end Mine
namespace Mine
open PySem PySem.Calls PyProof.Rows PySem.W
noncomputable def jR (b k : Nat) (rows : List (List Pc)) : Js := (List.range rows.length).map fun r => (b + k + 2 * r, rows[r]?.getD [])
noncomputable abbrev lvv (hd : Int) : AV := .tup [.tup [.str "", .str ""], .int hd]
section
variable {c : Cx} {n N m : Nat} {s σ σ0 : Sto} {nm : Nat → Str} {cm key : AV} {kv : Nat → AV} {tn : Bool} {hd : Int} {b v v' j k : Nat} {js js' : Js} {rows mks rows' mks' : List (List Pc)}
theorem empty_str : (⟨#[]⟩ : Str) = ("" : Str) := by decide +kernel
theorem jR_refs : (jR b k rows).map (fun p => AV.mref p.1) = (List.range rows.length).map fun r => .mref (b + k + 2 * r) := List.map_map ..
theorem jR_jv : jv nm (jR b k rows) = .lst (rows.map fun R => .lst (R.map (P nm))) := by
  unfold jv jR
  rw [List.map_map]
  congr 1
  apply List.ext_getElem?
  intro i
  rw [List.getElem?_map, List.getElem?_map]
  by_cases h : i < rows.length
  · rw [List.getElem?_range h, List.getElem?_eq_getElem h]; simp [List.getElem?_eq_getElem h]
  · rw [List.getElem?_eq_none (by rw [List.length_range]; exact Nat.le_of_not_lt h), List.getElem?_eq_none (by exact Nat.le_of_not_lt h)]; rfl
theorem jR_mem {p : Nat × List Pc} (h : p ∈ jR b k rows) : ∃ r R, rows[r]? = some R ∧ p = (b + k + 2 * r, R) := by
  obtain ⟨r, hr, rfl⟩ := List.mem_map.mp h
  have hr := List.mem_range.mp hr
  exact ⟨r, _, List.getElem?_eq_getElem hr, by rw [List.getElem?_eq_getElem hr]; rfl⟩
theorem jR_idx {i : Nat} : i ∈ (jR b k rows).map (·.1) ↔ ∃ r, r < rows.length ∧ i = b + k + 2 * r := by
  rw [jR, List.map_map, List.mem_map]
  exact ⟨fun ⟨r, h, e⟩ => ⟨r, List.mem_range.mp h, e.symm⟩, fun ⟨r, h, e⟩ => ⟨r, List.mem_range.mpr h, e.symm⟩⟩
theorem jR_nd : ((jR b k rows).map (·.1)).Nodup := by
  rw [jR, List.map_map]
  exact List.pairwise_map.mpr (List.Pairwise.imp (fun {x y} h e => h (by simp at e; exact Z332 e)) List.nodup_range)
theorem lvv_pl : Pl (lvv hd) := .tup fun x hx => by
  rcases List.mem_cons.mp hx with rfl | hx
  · exact .tup fun y hy => by
      rcases List.mem_cons.mp hy with rfl | hy
      · exact .str
      · cases List.mem_singleton.mp hy; exact .str
  · cases List.mem_singleton.mp hx; exact .int
theorem laid3 (H : TT c) {z : AV} (h1 : s[b]? = some ⟨v, none, js.map fun p => .mref p.1⟩) (h2 : s[b + 1]? = some ⟨v', none, js'.map fun p => .mref p.1⟩) (a1 : AccAt s hd nm js) (a2 : AccAt s hd nm js') (n1 : (js.map (·.1)).Nodup) (n2 : (js'.map (·.1)).Nodup) (d1 : b ∉ js.map (·.1)) (d2 : b + 1 ∉ js.map (·.1)) (d3 : b + 1 ∉ js'.map (·.1))
    (dj : ∀ p ∈ js', p.1 ∉ js.map (·.1)) (lo : LoSto s.length s) (l1 : js.length ≤ 64) (l2 : js'.length ≤ 64) (m1 : ∀ p ∈ js, p.2.length ≤ 64) (m2 : ∀ p ∈ js', p.2.length ≤ 64) (is1 : ∀ i ∈ js.map (·.1), i < s.length) (is2 : ∀ i ∈ js'.map (·.1), i < s.length) :
    StR c (n + 2) lS (ith lB 3) (zR cm key tn hd b z) s .nxt (dR cm key tn hd b z (.lst [jv nm js, jv nm js'])) (empA (empA s (js.map (·.1))) (js'.map (·.1))) := by
  have e1 : EvE c (n + 2) (lcS eL1) eL2 [("side", .mref b)] (s ++ [⟨0, none, []⟩]) (jv nm js) (empA s (js.map (·.1)) ++ [⟨0, none, []⟩]) := by
    rw [← empA_app is1]
    exact pops_all H rfl (by rw [List.getElem?_append_left (List.getElem?_eq_some_iff.mp h1).1]; exact h1) (fun p hp => let ⟨u, e⟩ := a1 p hp; ⟨u, by rw [List.getElem?_append_left (List.getElem?_eq_some_iff.mp e).1]; exact e⟩) n1 d1 (lo.app fun _ h => nomatch h) m1 l1
  have lo1 : LoSto (empA s (js.map (·.1))).length (empA s (js.map (·.1))) := by rw [empA_len]; exact empA_lo lo
  have e2 : EvE c (n + 2) (lcS eL1) eL2 [("side", .mref (b + 1))] (empA s (js.map (·.1)) ++ [⟨1, none, [jv nm js]⟩]) (jv nm js') (empA (empA s (js.map (·.1))) (js'.map (·.1)) ++ [⟨1, none, [jv nm js]⟩]) := by
    rw [← empA_app (s := empA s (js.map (·.1))) fun i hi => by rw [empA_len]; exact is2 i hi]
    refine pops_all (hd := hd) H rfl (by rw [List.getElem?_append_left (by rw [empA_len]; exact (List.getElem?_eq_some_iff.mp h2).1), empA_ne d2]; exact h2) (fun p hp => ?_) n2 d3 (lo1.app fun y hy => by cases List.mem_singleton.mp hy; exact lst_pl fun x hx => by obtain ⟨p, _, rfl⟩ := List.mem_map.mp hx; exact lst_pl map_pl) m2 l2
    obtain ⟨u, e⟩ := a2 p hp
    exact ⟨u, by rw [List.getElem?_append_left (by rw [empA_len]; exact (List.getElem?_eq_some_iff.mp e).1), empA_ne (dj p hp)]; exact e⟩
  have g1 : (empA s (js.map (·.1)) ++ [(⟨0, none, []⟩ : MO)])[s.length]? = some ⟨0, none, []⟩ := by rw [← empA_len (s := s) (js := js.map (·.1))]; exact get_app
  have g2 : (empA (empA s (js.map (·.1))) (js'.map (·.1)) ++ [(⟨1, none, [jv nm js]⟩ : MO)])[s.length]? = some ⟨1, none, [jv nm js]⟩ := by rw [show s.length = (empA (empA s (js.map (·.1))) (js'.map (·.1))).length by rw [empA_len, empA_len]]; exact get_app
  have c1 : chg (empA s (js.map (·.1)) ++ [(⟨0, none, []⟩ : MO)]) s.length ⟨0, none, []⟩ ([] ++ [jv nm js]) = empA s (js.map (·.1)) ++ [⟨1, none, [jv nm js]⟩] := by
    have := chg_app (σ := empA s (js.map (·.1))) (w := 0) (acc := []) (ys := [jv nm js]); rw [empA_len] at this; exact this
  have c2 : chg (empA (empA s (js.map (·.1))) (js'.map (·.1)) ++ [(⟨1, none, [jv nm js]⟩ : MO)]) s.length ⟨1, none, [jv nm js]⟩ ([jv nm js] ++ [jv nm js']) = empA (empA s (js.map (·.1))) (js'.map (·.1)) ++ [⟨2, none, [jv nm js, jv nm js']⟩] := by
    have := chg_app (σ := empA (empA s (js.map (·.1))) (js'.map (·.1))) (w := 1) (acc := [jv nm js]) (ys := [jv nm js, jv nm js']); rw [empA_len, empA_len] at this; exact this
  have t1 := fun (g0 : List Comprehension) (hg : g0[1]? = none) (pos : Pos) => CompT.emit (c := c) (n := n + 2) (csc := lcS eL1) (elt := eL2) (gens := g0) (pos := pos) (d := 0) (a := s.length) (ys := []) (w := 0) hg e1 g1 (by decide)
  have t2 := fun (g0 : List Comprehension) (hg : g0[1]? = none) (pos : Pos) => CompT.emit (c := c) (n := n + 2) (csc := lcS eL1) (elt := eL2) (gens := g0) (pos := pos) (d := 0) (a := s.length) (ys := [jv nm js]) (w := 1) hg e2 g2 (show 1 < lim by decide)
  rw [c1] at t1
  rw [c2] at t2
  have hb : ∀ x ∈ lcG eL1, x.is_async = 0 := by decide +kernel
  refine .to (.assignComp (ρ0 := []) (ρ1 := []) (w := 2) (ys := [jv nm js, jv nm js']) (σ2 := empA (empA s (js.map (·.1))) (js'.map (·.1)) ++ [⟨2, none, [jv nm js, jv nm js']⟩]) (vers := []) (inScB_out rfl) trivial hb (fun _ _ => rfl) (.tup (.tup (.cons (.nc rfl rfl) (.cons (.nl rfl rfl) .nil fun _ => rfl) fun _ => rfl) lim2)) (fun _ h => nomatch h)
    (.cons (ρ1 := [("side", .mref b)]) (ρ2 := [("side", .mref b)]) rfl hb (.name (.inl rfl)) (.inl ⟨rfl, rfl⟩) (fun _ => t1 _ rfl _) (fun q => nomatch q) (fun _ h => nomatch h) (.weak (ρ' := []) trivial (.cons (ρ1 := [("side", .mref (b + 1))]) (ρ2 := [("side", .mref (b + 1))]) rfl hb (.name (.inl rfl)) (.inl ⟨rfl, rfl⟩) (fun _ => t2 _ rfl _) (fun q => nomatch q) (fun _ h => nomatch h) (.weak (ρ' := []) trivial (.nil rfl hb)))))
    ?_ (fun y hy => ?_) ?_ rfl rfl rfl) rfl (List.take_left' (by rw [empA_len, empA_len]))
  · rw [show s.length = (empA (empA s (js.map (·.1))) (js'.map (·.1))).length by rw [empA_len, empA_len]]; exact get_app
  · refine Pl.lo ?_ _
    rcases List.mem_cons.mp hy with rfl | hy
    · exact lst_pl fun x hx => by obtain ⟨p, _, rfl⟩ := List.mem_map.mp hx; exact lst_pl map_pl
    · cases List.mem_singleton.mp hy; exact lst_pl fun x hx => by obtain ⟨p, _, rfl⟩ := List.mem_map.mp hx; exact lst_pl map_pl
  · exact LoSto.old' (empA_lo (empA_lo lo)) (by rw [empA_len, empA_len]; exact Nat.le_refl _)
end
end Mine
namespace Mine
open PySem PySem.Calls PyProof.Rows PySem.W
section
variable {c : Cx} {n N m : Nat} {s σ σ0 : Sto} {nm : Nat → Str} {cm key : AV} {kv : Nat → AV} {tn : Bool} {hd : Int} {b v v' j k : Nat} {js js' : Js} {rows mks rows' mks' : List (List Pc)}
theorem szv_dat {m : Nat} {R : List Pc} : Dat2 c s (m + 1) (szv nm hd R) (szv nm hd R) := .tup fun x hx => by
  rcases List.mem_cons.mp hx with rfl | hx
  · exact .int
  · cases List.mem_singleton.mp hx; exact .int
theorem lvv_dat {m : Nat} : Dat2 c s (m + 2) (lvv hd) (lvv hd) := .tup fun x hx => by
  rcases List.mem_cons.mp hx with rfl | hx
  · exact .tup fun y hy => by
      rcases List.mem_cons.mp hy with rfl | hy
      · exact .str
      · cases List.mem_singleton.mp hy; exact .str
  · cases List.mem_singleton.mp hx; exact .int
noncomputable abbrev fR (cm key : AV) (tn : Bool) (hd : Int) (b : Nat) (z la du : AV) : Ro := [("comers", cm), ("key", key), ("turning", .bool tn), ("head", .int hd), ("rows", .mref b), ("marks", .mref (b + 1)), ("sizes", z), ("laid", la), ("due", du)]
theorem left_walk (H : TT c) (hl : ∀ v, (nm v).length ≤ 8) (hh : 0 ≤ hd ∧ hd ≤ lim) {z la du : AV} (h1 : s[b]? = some ⟨v, none, js.map fun p => .mref p.1⟩) (h2 : s[b + 1]? = some ⟨v', none, js'.map fun p => .mref p.1⟩) (a1 : ∀ p ∈ js ++ js', ∃ v, s[p.1]? = some ⟨v, some hd, []⟩) (lo : LoSto s.length s) (l1 : js.length ≤ 64) (l2 : js'.length ≤ 64) :
    StR c (n + 2) lS (ith lB 5) (fR cm key tn hd b z la du) s .nxt (put "left" (.lst ((js ++ js').map fun _ => lvv hd)) (fR cm key tn hd b z la du)) s := by
  have ll : (js ++ js').length ≤ lim := by rw [List.length_append, lim]; exact Z333 l1 l2
  refine .to (.asgn1 (l := js ++ js') (gx := fun p => .mref p.1) (ρ0 := []) (vers := []) (f := fun _ => some (lvv hd)) rfl trivial rfl (fun _ _ => rfl) (.to (.seq (.bin (.nc rfl rfl) (.nl rfl rfl) (.addSeq (.mref h1) (.mref h2) (by rw [List.length_map, List.length_map, lim]; exact Z333 l1 l2))) (.inl ⟨rfl, rfl⟩)) (List.map_append ..).symm) (fun _ h => nomatch h) ll (fun p hp w2 acc hacc => ?_) lo rfl rfl rfl) (congrArg (fun q => put "left" (AV.lst q) _) fm_map) rfl
  obtain ⟨u, ho⟩ := a1 p hp
  have ho2 : (s ++ [(⟨w2, none, acc⟩ : MO)])[p.1]? = some ⟨u, some hd, []⟩ := by rw [List.getElem?_append_left (List.getElem?_eq_some_iff.mp ho).1]; exact ho
  have p0 := CallR.pop0 (c := c) (n := n + 2) H.F ho2
  rw [empty_str] at p0
  have ln := call_lenA (n := n) (R := []) H hl hh ho2
  rw [show hd + (sg nm [] : Nat) = hd by simp [sg, signs]] at ln
  exact ⟨_, .name (.inl rfl), trivial, .inr ⟨_, rfl, lvv_pl, .inl ⟨rfl, rfl⟩, .tup (.cons (.meth (.nl rfl rfl) (.ac H ho2 rfl rfl) .nil p0 (H.k79 _) (fun _ => rfl) fun _ => rfl) (.cons (.call (.gl H rfl rfl) (.cons (.nl rfl rfl) .nil fun _ => rfl) .nil ln .bi (fun _ => rfl) (fun _ => rfl) fun _ => ⟨rfl, rfl⟩) .nil fun _ => rfl) fun _ => rfl) lim2⟩⟩
theorem end_walk (H : TT c) {α : Type} {la : AV} {xs : List AV} {l : List α} (lo : LoSto s.length s) (hz : ∀ x ∈ xs, Dat2 c s 7 x x) (hl : l.length ≤ 200) :
    StR c (n + 2) lS (ith lB 6) (put "left" (.lst (l.map fun _ => lvv hd)) (fR cm key tn hd b (.lst xs) la (.lst xs))) s (.ret la) (put "left" (.lst (l.map fun _ => lvv hd)) (fR cm key tn hd b (.lst xs) la (.lst xs))) s := by
  refine .ret (.ifExp (k := true) (.boolOn (.cmp (.nl rfl rfl) (.nl rfl rfl) (.eqSame (.same .lst .lst hz)) rfl) (.inl ⟨rfl, rfl⟩) (.boolOn (.cmp (.nl rfl rfl) (.eq (EvE.cmp1 (l := l) (gx := fun _ => lvv hd) (ρ0 := [("head", .int hd)]) (vers := []) (f := fun _ => some (lvv hd)) rfl ⟨rfl, rfl, trivial⟩ rfl (fun _ _ => rfl) (.seq (.nl rfl rfl) (.inl ⟨rfl, rfl⟩)) (fun _ h => nomatch h) (Nat.le_trans hl (by decide)) (fun p hp w2 acc hacc => ?_) lo) (congrArg AV.lst fm_map))
    (.eqSame (.same .lst .lst fun x hx => by obtain ⟨_, _, rfl⟩ := List.mem_map.mp hx; exact lvv_dat)) rfl) (.inl ⟨rfl, rfl⟩) .boolEnd)) (.nl rfl rfl))
  exact ⟨_, .name (.inl rfl), ⟨rfl, trivial⟩, .inr ⟨_, rfl, lvv_pl, .inl ⟨rfl, rfl⟩, .tup (.cons (.tup (.cons (.str ok0) (.cons (.str ok0) .nil fun _ => rfl) fun _ => rfl) lim2) (.cons (.nf rfl rfl) .nil fun _ => rfl) fun _ => rfl) lim2⟩⟩
theorem call_laid (H : TT c) (K : KeyOk c nm N key kv) (hm : m ≤ 60) {vers : List (Nat × Nat)} (hv : VersOk σ vers) {ws : List Nat} (hc : LsR σ cm (ws.map fun w => P nm (false, w)) vers) (I : LaidAll m tn ws [] [] rows' mks') (hw : ∀ w ∈ ws, w < N) (hws : ws.length ≤ 60) (hl : ∀ v, (nm v).length ≤ 8) (hh : 0 ≤ hd ∧ hd ≤ lim)
    (hr : rows'.length ≤ 64 ∧ ∀ R ∈ rows', R.length ≤ 64) (lo : LoSto σ.length σ) : CallR c (n + 4) (.val (.ref 159)) [cm, key, .bool tn, .int hd] [] σ (.lst [.lst (rows'.map fun R => .lst (R.map (P nm))), .lst (mks'.map fun R => .lst (R.map (P nm)))]) σ := by
  have L0 : LS σ (σ ++ [⟨0, none, []⟩] ++ [⟨0, none, []⟩]) hd nm [] [] := ⟨by simp, rfl, by
      have := (lo.app (w := 0) (xs := []) fun _ h => nomatch h).app (w := 0) (xs := []) fun _ h => nomatch h
      exact this, ⟨0, by rw [List.getElem?_append_left (by simp)]; exact get_app⟩, ⟨0, by rw [show σ.length + 1 = (σ ++ [(⟨0, none, []⟩ : MO)]).length by simp]; exact get_app⟩, fun _ _ e => (nomatch e), fun _ _ e => (nomatch e), fun i hi => by rw [List.append_assoc, List.getElem?_append_left hi]⟩
  obtain ⟨s, L, bd, g, lp⟩ := laid_walk (n := n) (cm := cm) H K hm hv I L0 (fun _ h => nomatch h) hw (t := 0) (by exact Z334 hws) (fun _ h => nomatch h)
  have hc' : LsR (σ ++ [⟨0, none, []⟩] ++ [⟨0, none, []⟩]) cm (ws.map fun w => P nm (false, w)) vers := by
    rcases hc with h | ⟨i, u, rfl, e, rfl⟩
    · exact .inl h
    · exact .inr ⟨i, u, rfl, by rw [List.append_assoc, List.getElem?_append_left (List.getElem?_eq_some_iff.mp e).1]; exact e, rfl⟩
  obtain ⟨v1, h1⟩ := L.rl
  obtain ⟨v2, h2⟩ := L.mlst
  have hlen := L.len
  have hml := L.ml
  have hg : ∀ G ∈ mks', G.length ≤ 64 := fun G h => Nat.le_trans (g G h) (by exact Z335 hws)
  have h1' : s[σ.length]? = some ⟨v1, none, (jR σ.length 2 rows').map fun p => .mref p.1⟩ := by rw [jR_refs]; exact h1
  have h2' : s[σ.length + 1]? = some ⟨v2, none, (jR σ.length 3 mks').map fun p => .mref p.1⟩ := by rw [jR_refs, hml]; exact h2
  have a1 : AccAt s hd nm (jR σ.length 2 rows') := fun p hp => by obtain ⟨r, R, e, rfl⟩ := jR_mem hp; exact L.row r R e
  have a2 : AccAt s hd nm (jR σ.length 3 mks') := fun p hp => by obtain ⟨r, R, e, rfl⟩ := jR_mem hp; exact L.mr r R e
  have l1 : (jR σ.length 2 rows').length ≤ 64 := by rw [jR, List.length_map, List.length_range]; exact hr.1
  have l2 : (jR σ.length 3 mks').length ≤ 64 := by rw [jR, List.length_map, List.length_range, hml]; exact hr.1
  have m1 : ∀ p ∈ jR σ.length 2 rows', p.2.length ≤ 64 := fun p hp => by obtain ⟨r, R, e, rfl⟩ := jR_mem hp; exact hr.2 R (List.mem_of_getElem? e)
  have m2 : ∀ p ∈ jR σ.length 3 mks', p.2.length ≤ 64 := fun p hp => by obtain ⟨r, R, e, rfl⟩ := jR_mem hp; exact hg R (List.mem_of_getElem? e)
  have nb : ∀ i, i < σ.length + 2 → i ∉ (jR σ.length 2 rows').map (·.1) := fun i hi h => by obtain ⟨r, _, e⟩ := jR_idx.mp h; exact Z336 hi e
  have nb' : ∀ i, i < σ.length + 2 → i ∉ (jR σ.length 3 mks').map (·.1) := fun i hi h => by obtain ⟨r, _, e⟩ := jR_idx.mp h; exact Z337 hi e
  have dj : ∀ i, i ∈ (jR σ.length 3 mks').map (·.1) → i ∉ (jR σ.length 2 rows').map (·.1) := fun i hi h => by
    obtain ⟨r, _, e⟩ := jR_idx.mp h
    obtain ⟨r', _, e'⟩ := jR_idx.mp hi
    lia
  have i1 : ∀ i ∈ (jR σ.length 2 rows').map (·.1), i < s.length := fun i h => by obtain ⟨r, _, e⟩ := jR_idx.mp h; exact Z338 e hlen (by assumption)
  have i2 : ∀ i ∈ (jR σ.length 3 mks').map (·.1), i < s.length := fun i h => by obtain ⟨r, _, e⟩ := jR_idx.mp h; exact Z339 e hlen (by assumption) hml
  have sz := sizes_walk (n := n + 1) (cm := cm) (key := key) (tn := tn) H hl hh L.lo h1' h2' a1 a2 l1 l2
  have la := laid3 (n := n + 1) (cm := cm) (key := key) (tn := tn) (z := .lst [.lst ((jR σ.length 2 rows').map fun p => szv nm hd p.2), .lst ((jR σ.length 3 mks').map fun p => szv nm hd p.2)]) H h1' h2' a1 a2 jR_nd jR_nd (nb _ (by exact Z340)) (nb _ (by exact Z237)) (nb' _ (by exact Z237)) (fun p hp => dj _ (List.mem_map_of_mem (f := (·.1)) hp)) L.lo l1 l2 m1 m2 i1 i2
  generalize hs2 : empA (empA s ((jR σ.length 2 rows').map (·.1))) ((jR σ.length 3 mks').map (·.1)) = s2 at la
  have len2 : s2.length = s.length := by rw [← hs2, empA_len, empA_len]
  have lo2 : LoSto s2.length s2 := by rw [len2, ← hs2]; exact empA_lo (empA_lo L.lo)
  have k1 : ∀ i, i < σ.length + 2 → s2[i]? = s[i]? := fun i hi => by rw [← hs2, empA_ne (nb' i hi), empA_ne (nb i hi)]
  have em : ∀ p ∈ jR σ.length 2 rows' ++ jR σ.length 3 mks', ∃ v, s2[p.1]? = some ⟨v, some hd, []⟩ := fun p hp => by
    rcases List.mem_append.mp hp with hp | hp
    · obtain ⟨u, e⟩ := a1 p hp
      have hi := List.mem_map_of_mem (f := (·.1)) hp
      rw [← hs2, empA_ne fun q => dj _ q hi]
      exact empA_at hi jR_nd ⟨u, _, e⟩
    · obtain ⟨u, e⟩ := a2 p hp
      have hi := List.mem_map_of_mem (f := (·.1)) hp
      rw [← hs2]
      exact empA_at hi jR_nd ⟨u, _, by rw [empA_ne (dj _ hi)]; exact e⟩
  have du := due_walk (n := n + 1) (cm := cm) (key := key) (tn := tn) (hd := hd) (b := σ.length) (z := .lst [.lst ((jR σ.length 2 rows').map fun p => szv nm hd p.2), .lst ((jR σ.length 3 mks').map fun p => szv nm hd p.2)]) H hl lo2 l1 l2 m1 m2
  have lf := left_walk (n := n + 1) (b := σ.length) (cm := cm) (key := key) (tn := tn) (z := .lst [.lst ((jR σ.length 2 rows').map fun p => szv nm hd p.2), .lst ((jR σ.length 3 mks').map fun p => szv nm hd p.2)]) (la := .lst [jv nm (jR σ.length 2 rows'), jv nm (jR σ.length 3 mks')]) (du := .lst [.lst ((jR σ.length 2 rows').map fun p => szv nm hd p.2), .lst ((jR σ.length 3 mks').map fun p => szv nm hd p.2)]) H hl hh (by rw [k1 _ (by exact Z340)]; exact h1') (by rw [k1 _ (by exact Z237)]; exact h2') em lo2 l1 l2
  have hsz : ∀ x ∈ [AV.lst ((jR σ.length 2 rows').map fun p => szv nm hd p.2), .lst ((jR σ.length 3 mks').map fun p => szv nm hd p.2)], Dat2 c s2 7 x x := fun x hx => by
    rcases List.mem_cons.mp hx with rfl | hx
    · exact .same .lst .lst fun y hy => by obtain ⟨p, _, rfl⟩ := List.mem_map.mp hy; exact szv_dat
    · cases List.mem_singleton.mp hx; exact .same .lst .lst fun y hy => by obtain ⟨p, _, rfl⟩ := List.mem_map.mp hy; exact szv_dat
  have ed := end_walk (n := n + 1) (cm := cm) (key := key) (tn := tn) (hd := hd) (b := σ.length) (la := .lst [jv nm (jR σ.length 2 rows'), jv nm (jR σ.length 3 mks')]) (l := jR σ.length 2 rows' ++ jR σ.length 3 mks') H lo2 hsz (by rw [List.length_append]; exact Z341 l1 l2)
  rw [← jR_jv (b := σ.length) (k := 2), ← jR_jv (b := σ.length) (k := 3)]
  have pl : Pl (.lst [jv nm (jR σ.length 2 rows'), jv nm (jR σ.length 3 mks')]) := lst_pl fun y hy => by
    rcases List.mem_cons.mp hy with rfl | hy
    · exact lst_pl fun x hx => by obtain ⟨p, _, rfl⟩ := List.mem_map.mp hx; exact lst_pl map_pl
    · cases List.mem_singleton.mp hy; exact lst_pl fun x hx => by obtain ⟨p, _, rfl⟩ := List.mem_map.mp hx; exact lst_pl map_pl
  have tk : s2.take σ.length = σ := by
    apply List.ext_getElem?; intro i
    rw [List.getElem?_take]
    split
    · rename_i hi; rw [k1 i (by exact Z342 hi)]; exact L.low i hi
    · rename_i hi; rw [List.getElem?_eq_none (by exact Nat.le_of_not_lt hi)]
  have out := CallR.fn (n := n + 3) (v := .lst [jv nm (jR σ.length 2 rows'), jv nm (jR σ.length 3 mks')]) H.f159 (H.b159 σ cm key (.bool tn) (.int hd)) (fun x hx => by
      have : (fScope (st 64)).names.lookup x = some .local ∨ (fScope (st 64)).names.lookup x = some .cell := by
        rcases List.mem_cons.mp hx with rfl | hx
        · exact .inl rfl
        rcases List.mem_cons.mp hx with rfl | hx
        · exact .inr rfl
        rcases List.mem_cons.mp hx with rfl | hx
        · exact .inl rfl
        cases List.mem_singleton.mp hx; exact .inr rfl
      exact this) (ndB_out rfl)
    (.cons (.assignT (x := "rows") (.tup (.cons (.lstM .nil (Nat.zero_le _)) (.cons (.eq (w := .mref (σ.length + 1)) (.lstM .nil (Nat.zero_le _)) (by simp)) .nil fun _ => rfl) fun _ => rfl) lim2) (.tup (.cons (.name (.inr rfl)) (.cons (.name (.inl rfl)) .nil fun _ => rfl) fun _ => rfl) fun _ => ⟨rfl, rfl⟩) (.inl ⟨rfl, .head _⟩) fun _ => rfl)
      (.cons (.for (.seq (.nl rfl rfl) hc') lp fun _ _ => rfl) (.cons sz (.cons la (.cons du (.cons lf (.stop ed fun h => nomatch h))))))) (.inl rfl) (fun i o hi e => by rw [k1 i (by exact Z342 hi), L.low i hi] at e; exact lo i o hi e) (.inl ⟨pl.lo _, rfl⟩)
  rw [tk] at out
  exact out
end
end Mine
namespace Mine
open PySem PySem.Calls PyProof.Rows PySem.W
noncomputable abbrev wS : Scope := fScope (st 66)
noncomputable def wB : List Stmt := fBody (st 66)
theorem wd_ok : ∀ n, n < 48 → (wd n).length ≤ 3 ∧ PyData.strOk (wd n) = true := by decide +kernel
theorem wd_len (n : Nat) : (wd n).length ≤ 3 := by
  by_cases h : n < 48
  · exact (wd_ok n h).1
  · have : wds.getD n [] = [] := by rw [List.getD_eq_getElem?_getD, List.getElem?_eq_none (by have : wds.length = 48 := rfl; exact Z343 this h)]; rfl
    rw [wd, this]; decide
theorem nm_len (m k : Nat) : (nm m k).length ≤ 8 := by
  have h := wd_len m
  rw [nm, str_len]
  have : (lt k).length = 1 := rfl
  exact Z344 h this
section
variable {c : Cx} {n : Nat} {σ : Sto} {xs : List Int}
theorem law0 (H : TT c) : StR c n wS (ith wB 0) [("script", .lst (xs.map .int))] [] .nxt [("script", .lst (xs.map .int)), ("words", .lst (((List.range 48).map wd).map .str))] [] := by
  refine .assign (.meth (.str (by decide +kernel)) (.str PySem.F.slot_str_split rfl) (.cons (.str ok1) .nil fun _ => rfl) (.split (by decide +kernel) (by decide +kernel) (by decide +kernel) (by decide +kernel) (by kernel_rfl!) (by decide +kernel) (by decide +kernel)) .bi (fun _ => rfl) fun _ => rfl) (.name (.inr rfl)) (fun _ => rfl) (fun _ => rfl) fun _ => rfl
theorem law1 (H : TT c) {ρ : Ro} : ∃ cs : List Int, cs.length = 9 ∧ StR c n wS (ith wB 1) ρ [] .nxt (put "cells" (.mref 0) ρ) [⟨0, none, cs.map .int⟩] :=
  ⟨[13, 28, 7, 20, 0, 20, 7, 33, 14], rfl, .assign (.lstM (.cons .int (.cons .int (.cons .int (.cons .int (.cons .int (.cons .int (.cons .int (.cons .int (.cons .int .nil fun _ => rfl) fun _ => rfl) fun _ => rfl) fun _ => rfl) fun _ => rfl) fun _ => rfl) fun _ => rfl) fun _ => rfl) fun _ => rfl) (by decide +kernel)) (.name (.inl rfl)) (fun _ => rfl) (fun _ => rfl) fun _ => rfl⟩
noncomputable abbrev r1 (xs : List Int) : Ro := [("script", .lst (xs.map .int)), ("words", .lst (((List.range 48).map wd).map .str)), ("cells", .mref 0)]
theorem law2_loop (H : TT c) : ∀ (l : List Int) (k w : Nat) (cs : List Int), cs.length = 9 → ∃ (cs' : List Int) (w' : Nat), cs'.length = 9 ∧ LoopB c n wS (forT (ith wB 2)) (forB (ith wB 2)) (r1 xs) [⟨w, none, cs.map .int⟩] (((l.map AV.int).zipIdx k).map fun p => .tup [.int p.2, p.1]) [] .nxt (r1 xs) [⟨w', none, cs'.map .int⟩]
  | [], k, w, cs, h => ⟨cs, w, h, .nil⟩
  | x :: l, k, w, cs, h => by
    have g : ∀ (cs : List Int) (i : Nat), cs.length = 9 → i < 9 → (cs.map AV.int)[i]? = some (.int (cs.getD i 0)) := fun cs i hc hi => by
      rw [List.getElem?_map, List.getElem?_eq_getElem (by exact Z345 hi hc), List.getD_eq_getElem?_getD, List.getElem?_eq_getElem (by exact Z345 hi hc)]; rfl
    have e8 : (((k : Int)) % 8).toNat = k % 8 := by lia
    obtain ⟨cs', w', h', lp⟩ := law2_loop H l (k + 1) (w + 1 + 1) ((cs.set (k % 8) (cs.getD (k % 8) 0 + x % 1000000)).set 8 ((cs.set (k % 8) (cs.getD (k % 8) 0 + x % 1000000)).getD 8 0 + x % 1000000 / 48)) (by rw [List.length_set, List.length_set]; exact h)
    refine ⟨cs', w', h', .cons (ρ1 := put "x" (.int x) (put "place" (ai k) (r1 xs))) (fl1 := .nxt) (.tup (.cons (.name (.inl rfl)) (.cons (.name (.inl rfl)) .nil fun _ => rfl) fun _ => rfl) fun _ => ⟨rfl, rfl⟩) (.cons (.aug (j := 0) (.nl rfl rfl) (.bin (.nl rfl rfl) .int (.mod (by decide))) rfl (by lia) (by rw [e8]; exact g cs (k % 8) h (by exact Z346)) (.bin (.nl rfl rfl) (.bin .int .int .pow6) (.mod (by decide))) rfl fun _ _ _ => rfl)
      (.cons (.aug (j := 0) (w := w + 1) (xs := (cs.set (k % 8) (cs.getD (k % 8) 0 + x % 1000000)).map .int) (.nl rfl rfl) .int ?_ (by decide) (g _ 8 (by rw [List.length_set]; exact h) (by decide)) (.bin (.bin (.nl rfl rfl) (.bin .int .int .pow6) (.mod (by decide))) .int (.div (by decide) (by decide))) ?_ fun _ _ _ => rfl) .nil)) (.inl rfl) (fun _ h => nomatch h) (.weak (ρ' := r1 xs) ⟨rfl, rfl, rfl, trivial⟩ ?_)⟩
    · rw [e8, ← List.map_set]; rfl
    · rw [e8, ← List.map_set]; rfl
    · rw [e8, ← List.map_set, show Int.toNat 8 = 8 from rfl, ← List.map_set]
      exact lp
end
end Mine
namespace Mine
open PySem PySem.Calls PyProof.Rows PySem.W
noncomputable abbrev wdV : AV := .lst (((List.range 48).map wd).map .str)
noncomputable abbrev nmO (dns : List Nat) (k : Nat) : Str := nm (dns.getD k 0) k
noncomputable abbrev cmV (dns : List Nat) (m : Nat) : AV := .lst ((List.range m).map fun k => P (nmO dns) (false, k))
theorem swapped2 {env : Env} {x y : Str} {p1 p2 tp vp : Pos} {k k2 : _} {e1 e2 : PySem.Expr} (h1 : env.blockKind = .function) (h2 : env.kindOf x = some .local) (h3 : env.kindOf y = some .local) (h0 : (p1.line == p1.line) = true) (hl : (p2.line == p1.line) = true) (hxy : [x, y].eraseDups = [x, y]) (hs : ([e1, e2].any fun | .Starred .. => true | _ => false) = false)
    (hf : [e1, e2].all (foldedForSure 8) = false) (hc : [e1, e2].all (constantsAlone 8) = false) : swappedStores [.Tuple [.Name x p1, .Name y p2] k tp] (.Tuple [e1, e2] k2 vp) env = pure (some [x, y]) := by
  have e : ([.Name x p1, .Name y p2] : List PySem.Expr).filterMap (fun
    | .Name id pos => if env.kindOf id == some .local && pos.line == (([.Name x p1, .Name y p2] : List PySem.Expr).head?.map (·.pos.line)).getD 0 then some id else none
    | _ => none) = [x, y] := by
    show List.filterMap _ [PySem.Expr.Name x p1, PySem.Expr.Name y p2] = _
    simp only [List.filterMap_cons, List.filterMap_nil, h2, h3]
    have h0' : (p1.line == (([.Name x p1, .Name y p2] : List PySem.Expr).head?.map (·.pos.line)).getD 0) = true := h0
    have hl' : (p2.line == (([.Name x p1, .Name y p2] : List PySem.Expr).head?.map (·.pos.line)).getD 0) = true := hl
    rw [h0', hl']; rfl
  have b : (env.blockKind != .function) = false := by rw [h1]; rfl
  unfold swappedStores
  refine (if_neg (c := _ = true) fun q => ?_).trans ((if_neg (c := _ = true) fun q => Bool.noConfusion (hs.symm.trans q)).trans ?_)
  · rw [b] at q; exact nomatch (show false = true from q)
  have eq2 : ∀ {l : List Str} {K : List Str → Sem (Option (List Str))}, l = [x, y] → K [x, y] = pure (some [x, y]) → K l = pure (some [x, y]) := fun a b => a ▸ b
  refine eq2 (K := fun l => if (l.length != 2 || l.eraseDups.length != l.length) = true then _ else if [e1, e2].all (foldedForSure 8) = true then _ else if [e1, e2].all (constantsAlone 8) = true then _ else pure (some l)) e ?_
  refine (if_neg (c := _ = true) fun q => ?_).trans ((if_neg (c := _ = true) fun q => Bool.noConfusion (hf.symm.trans q)).trans (if_neg (c := _ = true) fun q => Bool.noConfusion (hc.symm.trans q)))
  rw [hxy] at q; exact nomatch (show false = true from q)
section
variable {c : Cx} {n : Nat} {σ : Sto} {xs : List Int}
theorem ints_lo {w : Nat} {cs : List Int} : LoSto 1 ([⟨w, none, cs.map .int⟩] : Sto) := fun i o hi e => by
  have : i = 0 := by exact Z347 hi
  subst this; cases e
  exact fun y hy => (Pl.ints y hy).lo _
theorem law2 (H : TT c) {cs : List Int} (h : cs.length = 9) : ∃ (cs' : List Int) (w' : Nat), cs'.length = 9 ∧ StR c n wS (ith wB 2) (r1 xs) [⟨0, none, cs.map .int⟩] .nxt (r1 xs) [⟨w', none, cs'.map .int⟩] := by
  obtain ⟨cs', w', h1, h2⟩ := law2_loop (c := c) (n := n) (xs := xs) H (xs.take 60) 0 0 cs h
  refine ⟨cs', w', h1, .for (.enum (.gl H rfl rfl) (.slice (o1 := none) (o3 := none) (.nl rfl rfl) ⟨rfl, rfl⟩ .int ⟨rfl, rfl⟩ (.seq .lst (.inl ⟨rfl, rfl⟩) (.inr ⟨60, rfl, rfl⟩))) (.inl ⟨rfl, rfl⟩) (fun _ => rfl) fun _ => rfl) ?_ fun _ _ => rfl⟩
  have : cutL (xs.map AV.int) 0 (clipAt (xs.map AV.int).length 60) = (xs.take 60).map AV.int := by
    rw [cut0, List.map_take]
    have q : clipAt (xs.map AV.int).length 60 = min 60 (xs.map AV.int).length := by simp [clipAt]; lia
    rw [q, List.take_eq_take_iff]; simp
  rw [this]
  exact h2
theorem law3 (H : TT c) {cs : List Int} {w : Nat} (h : cs.length = 9) : ∃ (m : Nat) (hd : Int), (5 ≤ m ∧ m ≤ 8) ∧ (0 ≤ hd ∧ hd ≤ 3) ∧ StR c n wS (ith wB 3) (r1 xs) [⟨w, none, cs.map .int⟩] .nxt (put "count" (ai m) (put "head" (.int hd) (r1 xs))) [⟨w, none, cs.map .int⟩] := by
  have g : (cs.map AV.int)[8]? = some (.int (cs.getD 8 0)) := by rw [List.getElem?_map, List.getElem?_eq_getElem (by exact Z348 h), List.getD_eq_getElem?_getD, List.getElem?_eq_getElem (by exact Z348 h)]; rfl
  refine ⟨(5 + cs.getD 8 0 % 4).toNat, cs.getD 8 0 / 4 % 4, by lia, by lia, ?_⟩
  have e : ai (5 + cs.getD 8 0 % 4).toNat = .int (5 + cs.getD 8 0 % 4) := congrArg AV.int (by lia)
  rw [e]
  exact .swap2 (.tup (.cons (.bin .int (.bin (.sub (.nl rfl rfl) .int (.seq (.mref rfl) rfl g)) .int (.mod (by decide))) .add) (.cons (.bin (.bin (.sub (.nl rfl rfl) .int (.seq (.mref rfl) rfl g)) .int (.div (by decide) (by decide))) .int (.mod (by decide))) .nil fun _ => rfl) fun _ => rfl) lim2) rfl rfl fun env h1 h2 h3 => swapped2 h1 h2 h3 rfl rfl rfl rfl rfl rfl
noncomputable abbrev r3 (xs : List Int) (m : Nat) (hd : Int) : Ro := put "count" (ai m) (put "head" (.int hd) (r1 xs))
theorem law4 (H : TT c) {cs : List Int} {w m : Nat} {hd : Int} (h : cs.length = 9) (hm : m ≤ 8) : ∃ dns : List Nat, dns.length = m ∧ (∀ x ∈ dns, x < 48) ∧ StR c n wS (ith wB 4) (r3 xs m hd) [⟨w, none, cs.map .int⟩] .nxt (put "drawn" (.lst (dns.map ai)) (r3 xs m hd)) [⟨w, none, cs.map .int⟩] := by
  refine ⟨(cs.take m).map fun x => (x % 48).toNat, by rw [List.length_map, List.length_take]; exact Z442 hm h, fun x hx => by obtain ⟨y, _, rfl⟩ := List.mem_map.mp hx; lia, ?_⟩
  refine .to (.assignCell (EvE.cmp1 (l := cs.take m) (gx := .int) (ρ0 := []) (vers := []) (f := fun x => some (.int (x % 48))) rfl trivial rfl (fun _ _ => rfl) (.seq (.slice (o1 := none) (o3 := none) (.nl rfl rfl) ⟨rfl, rfl⟩ (.nl rfl rfl) ⟨rfl, rfl⟩ (.seq (.mref rfl) (.inl ⟨rfl, rfl⟩) (.inr ⟨m, rfl, rfl⟩))) (.inl ⟨?_, rfl⟩)) (fun _ h => nomatch h) (by rw [List.length_take, lim]; exact Z443 hm) (fun x _ w2 acc hacc => ?_) ints_lo) rfl) ?_ rfl
  · rw [cut0, clipAt_nat, List.map_take, Nat.min_eq_left (by rw [List.length_map]; exact Z349 hm h)]
  · exact ⟨_, .name (.inl rfl), trivial, .inr ⟨_, rfl, .int, .inl ⟨rfl, rfl⟩, .bin (.nl rfl rfl) .int (.mod (by decide))⟩⟩
  · have : (cs.take m).filterMap (fun x => some (AV.int (x % 48))) = ((cs.take m).map fun x => (x % 48).toNat).map ai := by
      rw [List.map_map, show (fun x : Int => some (AV.int (x % 48))) = some ∘ fun x => AV.int (x % 48) from rfl, List.filterMap_eq_map]
      exact List.map_congr_left fun x _ => congrArg AV.int (show x % 48 = ((x % 48).toNat : Int) by lia)
    rw [this]
noncomputable abbrev r4 (xs : List Int) (m : Nat) (hd : Int) (dns : List Nat) : Ro := put "drawn" (.lst (dns.map ai)) (r3 xs m hd)
theorem let_len (k : Nat) (h : k < 8) : idx (sMk [97, 98, 99, 100, 101, 102, 103, 104]).length (k : Int) = some k ∧ (sMk [97, 98, 99, 100, 101, 102, 103, 104]).cps[k]? = some (97 + k) := by
  revert k; decide
theorem law5 (H : TT c) {dns : List Nat} {m : Nat} {hd : Int} (h : dns.length = m) (hm : m ≤ 8) (h48 : ∀ x ∈ dns, x < 48) (lo : LoSto σ.length σ) : StR c n wS (ith wB 5) (r4 xs m hd dns) σ .nxt (put "comers" (cmV dns m) (r4 xs m hd dns)) σ := by
  refine .to (.assignCell (EvE.cmp1 (l := dns.zipIdx) (gx := fun p => .tup [ai p.2, ai p.1]) (ρ0 := [("words", wdV)]) (vers := []) (f := fun p => some (.tup [.str "", .str (nm p.1 p.2)])) rfl ⟨rfl, rfl, trivial⟩ rfl (fun _ _ => rfl) (.to (.enum (.gl H rfl rfl) (.nc rfl rfl) (.inl ⟨rfl, rfl⟩) (fun _ => rfl) fun _ => rfl) (by rw [List.zipIdx_map, List.map_map]; rfl)) (fun _ h => nomatch h) (by rw [List.length_zipIdx, lim]; exact Z350 h hm) (fun p hp w2 acc hacc => ?_) lo) rfl) ?_ rfl
  · have hk := List.mem_zipIdx hp
    have h1 : p.2 < 8 := by exact Z351 hk.2.1 h hm
    have h2 : p.1 < 48 := by rw [hk.2.2]; exact h48 _ (List.getElem_mem _)
    obtain ⟨l1, l2⟩ := let_len p.2 h1
    refine ⟨_, .tup (.cons (.name (.inl rfl)) (.cons (.name (.inl rfl)) .nil fun _ => rfl) fun _ => rfl) fun _ => ⟨rfl, rfl⟩, ⟨rfl, trivial⟩, .inr ⟨_, rfl, .tup fun y hy => ?_, .inl ⟨rfl, rfl⟩, .tup (.cons (.str (by decide +kernel)) (.cons (.bin (.sub (.nf rfl rfl) (.nl rfl rfl) (.seq .lst idx_nat ?_)) (.sub (.str (by decide +kernel)) (.nl rfl rfl) (.str l1 l2 (by decide))) (.addStr ?_)) .nil fun _ => rfl) fun _ => rfl) lim2⟩⟩
    · rcases List.mem_cons.mp hy with rfl | hy
      · exact .str
      · cases List.mem_singleton.mp hy; exact .str
    · rw [List.getElem?_map, List.getElem?_map, List.getElem?_range h2]; rfl
    · have := wd_len p.1
      rw [show (sMk [97 + p.2]).length = 1 from rfl]; exact Z352 this
  · have : dns.zipIdx.filterMap (fun p => some (AV.tup [.str "", .str (nm p.1 p.2)])) = (List.range m).map fun k => P (nmO dns) (false, k) := by
      rw [show (fun p : Nat × Nat => some (AV.tup [.str "", .str (nm p.1 p.2)])) = some ∘ fun p => AV.tup [.str "", .str (nm p.1 p.2)] from rfl, List.filterMap_eq_map]
      apply List.ext_getElem?; intro i
      rw [List.getElem?_map, List.getElem?_map, List.getElem?_zipIdx]
      by_cases z : i < m
      · rw [List.getElem?_range z, List.getElem?_eq_getElem (by exact Z15 z h)]
        have : dns.getD i 0 = dns[i] := by rw [List.getD_eq_getElem?_getD, List.getElem?_eq_getElem (by exact Z15 z h)]; rfl
        show some (AV.tup [.str "", .str (nm dns[i] (0 + i))]) = some (.tup [.str (sb false), .str (nm (dns.getD i 0) i)])
        rw [this, Nat.zero_add]; rfl
      · rw [List.getElem?_eq_none (by exact Z353 h z), List.getElem?_eq_none (by simp; exact Nat.le_of_not_lt z)]; rfl
    rw [this]
noncomputable abbrev r5 (xs : List Int) (m : Nat) (hd : Int) (dns : List Nat) : Ro := put "comers" (cmV dns m) (r4 xs m hd dns)
theorem law6 (H : TT c) {dns : List Nat} {m : Nat} {hd : Int} : StR c n wS (ith wB 6) (r5 xs m hd dns) σ .nxt (put "ranked" (.mref σ.length) (r5 xs m hd dns)) (σ ++ [⟨0, none, []⟩]) :=
  .assign (.lstM .nil (Nat.zero_le _)) (.name (.inl rfl)) (fun _ => rfl) (fun _ => rfl) fun _ => rfl
end
end Mine
namespace Mine
open PySem PySem.Calls PyProof.Rows PySem.W
noncomputable def oLt (dn : Nat → Nat) (a b : Nat) : Prop := dn a < dn b ∨ (dn a = dn b ∧ a < b)
theorem ins_ok {dn : Nat → Nat} {t : Nat} : ∀ {os : List Nat}, os.Pairwise (oLt dn) → (∀ x ∈ os, x < t) → ∃ p, p ≤ os.length ∧ (∀ i it, os[i]? = some it → (dn t < dn it ↔ p ≤ i)) ∧ (os.take p ++ t :: os.drop p).Pairwise (oLt dn)
  | [], _, _ => ⟨0, Nat.le_refl _, (fun _ _ h => nomatch h), .cons (fun _ h => nomatch h) .nil⟩
  | a :: os, h, hx => by
    rw [List.pairwise_cons] at h
    by_cases q : dn t < dn a
    · refine ⟨0, Nat.zero_le _, fun i it e => ⟨fun _ => Nat.zero_le _, fun _ => ?_⟩, .cons (fun b hb => ?_) (.cons h.1 h.2)⟩
      · cases i with
        | zero => cases e; exact q
        | succ i => rcases h.1 it (List.mem_of_getElem? e) with z | z <;> (first | exact Z16 q z | exact Z105 q z.1)
      · rcases List.mem_cons.mp hb with rfl | hb
        · exact .inl q
        · rcases h.1 b hb with z | z <;> exact .inl (by (first | exact Z16 q z | exact Z105 q z.1))
    · obtain ⟨p, h1, h2, h3⟩ := ins_ok h.2 fun x q => hx x (.tail _ q)
      refine ⟨p + 1, Nat.succ_le_succ h1, fun i it e => ?_, .cons (fun b hb => ?_) h3⟩
      · cases i with
        | zero => cases e; exact ⟨fun z => absurd z q, fun z => by exact Z354 z⟩
        | succ i => exact (h2 i it e).trans (Nat.succ_le_succ_iff).symm
      · rcases List.mem_append.mp hb with hb | hb
        · exact h.1 b (List.mem_of_mem_take hb)
        · rcases List.mem_cons.mp hb with rfl | hb
          · have := hx a (.head _)
            rcases Nat.lt_or_ge (dn a) (dn b) with z | z
            · exact .inl z
            · exact .inr ⟨by exact Z246 z q, this⟩
          · exact h.1 b (List.mem_of_mem_drop hb)
section
variable {c : Cx} {n : Nat} {xs : List Int} {dns : List Nat} {m : Nat} {hd : Int}
noncomputable abbrev r6 (xs : List Int) (m : Nat) (hd : Int) (dns : List Nat) : Ro := put "ranked" (.mref 1) (r5 xs m hd dns)
noncomputable abbrev iP (dns : List Nat) (k : Nat) : AV := P (nmO dns) (false, k)
noncomputable abbrev σ2 (w : Nat) (cs : List Int) (u : Nat) (dns os : List Nat) : Sto := [⟨w, none, cs.map .int⟩, ⟨u, none, os.map (iP dns)⟩]
theorem lo2 {w u : Nat} {cs : List Int} {os : List Nat} : LoSto 2 (σ2 w cs u dns os) := fun i o hi e => by
  match i, hi with
  | 0, _ => cases e; exact fun y hy => (Pl.ints y hy).lo _
  | 1, _ => cases e; exact fun y hy => by obtain ⟨k, _, rfl⟩ := List.mem_map.mp hy; exact P_pl.lo _
theorem num_call (H : TT c) {k : Nat} {σ : Sto} (h48 : ∀ x ∈ dns, x < 48) (hk : k < dns.length) (h8 : dns.length ≤ 8) (lo : LoSto σ.length σ) : CallR c (n + 1) (.val (.ref 154)) [iP dns k] [] σ (ai (7 + dns.getD k 0)) σ := by
  have h1 : dns.getD k 0 < 48 := by rw [List.getD_eq_getElem?_getD, List.getElem?_eq_getElem hk]; exact h48 _ (List.getElem_mem _)
  have := call_number (c := c) (n := n) (b := sb false) H h1 (show k < 8 by exact Z355 hk h8) lo
  rw [show AV.int (7 + (dns.getD k 0 : Nat)) = ai (7 + dns.getD k 0) from congrArg AV.int (by lia)] at this
  exact this
theorem ltN {σ : Sto} {a b : Nat} {k : Prop} [Decidable k] (h : a < b ↔ k) : Op2 c σ (compareOp .Lt) (ai a) (ai b) (.bool (decide k)) := by
  have : Op2 c σ (compareOp .Lt) (ai a) (ai b) (.bool (decide ((a : Int) < b))) := .lt
  rwa [show decide ((a : Int) < b) = decide k from decide_eq_decide.mpr (by rw [← h]; lia)] at this
theorem ref_ne {a : Addr} : ∀ F μ h x, VR F μ h (.val (.ref a)) x → x ≠ .none := fun F μ h x r => by obtain rfl := r.val_inv; exact fun q => nomatch q
theorem law7_loop (H : TT c) (h48 : ∀ x ∈ dns, x < 48) (hl : dns.length = m) (hm : m ≤ 8) {w : Nat} {cs : List Int} : ∀ (d t u : Nat) (os : List Nat), t + d = m → os.Pairwise (oLt fun k => dns.getD k 0) → os.Perm (List.range t) → ∃ (u' : Nat) (os' : List Nat), os'.Pairwise (oLt fun k => dns.getD k 0) ∧ os'.Perm (List.range m) ∧
    LoopB c (n + 3) wS (forT (ith wB 7)) (forB (ith wB 7)) (r6 xs m hd dns) (σ2 w cs u dns os) ((List.range' t d).map (iP dns)) [] .nxt (r6 xs m hd dns) (σ2 w cs u' dns os')
  | 0, t, u, os, e, h1, h2 => ⟨u, os, h1, by rw [← e]; exact h2, .nil⟩
  | d + 1, t, u, os, e, h1, h2 => by
    have hin : ∀ x ∈ os, x < t := fun x hx => List.mem_range.mp (h2.mem_iff.mp hx)
    have hlen : os.length = t := by rw [h2.length_eq, List.length_range]
    obtain ⟨p, p1, p2, p3⟩ := ins_ok h1 hin
    obtain ⟨u', os', a1, a2, lp⟩ := law7_loop H h48 hl hm d (t + 1) (u + 1) (os.take p ++ t :: os.drop p) (by exact Z82 e) p3 (by
      rw [List.range_succ]
      refine List.perm_middle.trans ?_
      rw [List.take_append_drop]
      exact (List.Perm.cons t h2).trans (List.perm_append_comm (l₁ := [t])))
    refine ⟨u', os', a1, a2, ?_⟩
    have lo : LoSto (σ2 w cs u dns os).length (σ2 w cs u dns os) := lo2
    have nt : ∀ {n : Nat} {σ : Sto}, LoSto σ.length σ → CallR c (n + 1) (.val (.ref 154)) [iP dns t] [] σ (ai (7 + dns.getD t 0)) σ := fun l => num_call H h48 (by exact Z104 e hl) (by exact Z356 hl hm) l
    have ns : ∀ {n : Nat} {σ : Sto} {k}, k ∈ os → LoSto σ.length σ → CallR c (n + 1) (.val (.ref 154)) [iP dns k] [] σ (ai (7 + dns.getD k 0)) σ := fun hk l => num_call H h48 (by have := hin _ hk; exact Z357 this hl e) (by exact Z356 hl hm) l
    have hkk : ∀ i it, os[i]? = some it → Op2 c (σ2 w cs u dns os) (compareOp .Lt) (ai (7 + dns.getD t 0)) (ai (7 + dns.getD it 0)) (.bool (decide (p ≤ i))) := fun i it q => ltN (by have := p2 i it q; exact Z358 this)
    have fm : os.filterMap (fun k => some (ai (7 + dns.getD k 0))) = os.map fun k => ai (7 + dns.getD k 0) := fm_map
    have b1 := call_bis2 (n := n + 2) (p := p) (x := ai (7 + dns.getD t 0)) (xs := os.map fun k => ai (7 + dns.getD k 0)) H lo .lst (by rw [List.length_map]; exact p1) fun i it q => by
      obtain ⟨k, q1, rfl⟩ := List.getElem?_map .. ▸ q |> Option.map_eq_some_iff.mp
      exact hkk i k q1
    have b2 := call_insort (n := n + 1) (i := 1) (u := u) (p := p) (xs := os.map (iP dns)) (x := iP dns t) (key := .val (.ref 154)) (kx := ai (7 + dns.getD t 0)) H (show (σ2 w cs u dns os)[1]? = _ from rfl) (by rw [List.length_map, lim]; exact Z359 hlen e hm) lo (P_pl.lo _) (by rw [List.length_map]; exact p1) ref_ne H.f154.keep (nt lo) fun i it q => by
      obtain ⟨k, q1, rfl⟩ := List.getElem?_map .. ▸ q |> Option.map_eq_some_iff.mp
      exact ⟨_, .inr ⟨ref_ne, H.f154.keep, ns (List.mem_of_getElem? q1) lo⟩, hkk i k q1⟩
    have es : chg (σ2 w cs u dns os) 1 ⟨u, none, os.map (iP dns)⟩ ((os.map (iP dns)).take p ++ iP dns t :: (os.map (iP dns)).drop p) = σ2 w cs (u + 1) dns (os.take p ++ t :: os.drop p) := by
      rw [← List.map_take, ← List.map_drop, ← List.map_cons, ← List.map_append]; rfl
    rw [es] at b2
    have cut : cutL ((os.take p ++ t :: os.drop p).map (iP dns)) (clipAt ((os.take p ++ t :: os.drop p).map (iP dns)).length p) (clipAt ((os.take p ++ t :: os.drop p).map (iP dns)).length ((p : Int) + 1)) = [iP dns t] := by
      have hL : ((os.take p ++ t :: os.drop p).map (iP dns)).length = t + 1 := by simp; exact Z444 p1 hlen
      rw [hL, show ((p : Int) + 1) = ((p + 1 : Nat) : Int) from rfl, clipAt_nat, clipAt_nat, Nat.min_eq_left (by exact Z360 p1 hlen), Nat.min_eq_left (by exact Z361 p1 hlen), cutL, Nat.add_sub_cancel_left, List.map_append, List.drop_append, List.drop_eq_nil_of_le (by simp; exact Z445), List.length_map, List.length_take, Nat.min_eq_left p1, Nat.sub_self]
      rfl
    rw [List.range'_succ, List.map_cons]
    refine .cons (ρ1 := put "comer" (iP dns t) (r6 xs m hd dns)) (fl1 := .nxt) (.name (.inl rfl))
      (.cons (.assign (EvE.call (.gl H rfl rfl) (.cons (EvE.eq (.cmp1 (l := os) (gx := iP dns) (ρ0 := []) (vers := [(1, u)]) (f := fun k => some (ai (7 + dns.getD k 0))) rfl trivial rfl (fun _ _ => rfl) (.seq (.nl rfl rfl) (.inr ⟨1, u, rfl, rfl, rfl⟩)) (fun q hq => by cases List.mem_singleton.mp hq; exact ⟨_, rfl, rfl⟩) (by rw [lim]; exact Z362 hlen e hm) (fun k hk w2 acc hacc => ?st) lo) (congrArg AV.lst fm)) (.cons (.call (.gl H rfl rfl) (.cons (.nl rfl rfl) .nil fun _ => rfl) .nil (nt lo) H.f154.keep (fun _ => rfl) (fun _ => rfl) fun _ => ⟨rfl, rfl⟩) .nil fun _ => rfl) fun _ => rfl) .nil b1 H.f39.keep (fun _ => rfl) (fun _ => rfl) fun _ => ⟨rfl, rfl⟩) (.name (.inl rfl)) (fun _ => rfl) (fun _ => rfl) fun _ => rfl)
      (.cons (.expr (EvE.call (.gl H rfl rfl) (.cons (.nl rfl rfl) (.cons (.nl rfl rfl) .nil fun _ => rfl) fun _ => rfl) (.one (.gl H rfl rfl)) b2 H.f30.keep (fun _ => rfl) (fun _ => rfl) fun _ => ⟨rfl, rfl⟩) fun _ => rfl)
      (.cons (.if (k := false) (.cmp (EvE.eq (.slice (o3 := none) (.nl rfl rfl) (.nl rfl rfl) (.bin (.nl rfl rfl) .int .add) ⟨rfl, rfl⟩ (.seq (.mref rfl) (.inr ⟨_, rfl, rfl⟩) (.inr ⟨_, rfl, rfl⟩))) (congrArg AV.lst cut)) (.lst (.cons (.nl rfl rfl) .nil fun _ => rfl) (show 1 ≤ lim by decide)) (.neSame (.same .lst .lst fun y hy => by cases List.mem_singleton.mp hy; exact P_dat)) rfl) .nil) .nil))) (.inl rfl) (fun _ h => nomatch h) (.weak (ρ' := r6 xs m hd dns) ?wk lp)
    case wk => exact ⟨rfl, rfl, rfl, rfl, rfl, rfl, rfl, rfl, trivial⟩
    case st => exact ⟨_, .name (.inl rfl), trivial, .inr ⟨_, rfl, .int, .inl ⟨rfl, rfl⟩, .call (.gl H rfl rfl) (.cons (.nl rfl rfl) .nil fun _ => rfl) .nil (ns hk (lo.app hacc)) H.f154.keep (fun _ => rfl) (fun _ => rfl) fun _ => ⟨rfl, rfl⟩⟩⟩
theorem law7 (H : TT c) (h48 : ∀ x ∈ dns, x < 48) (hl : dns.length = m) (hm : m ≤ 8) {w : Nat} {cs : List Int} : ∃ (u' : Nat) (os' : List Nat), os'.Pairwise (oLt fun k => dns.getD k 0) ∧ os'.Perm (List.range m) ∧ StR c (n + 3) wS (ith wB 7) (r6 xs m hd dns) (σ2 w cs 0 dns []) .nxt (r6 xs m hd dns) (σ2 w cs u' dns os') := by
  obtain ⟨u', os', a1, a2, lp⟩ := law7_loop (n := n) (xs := xs) (hd := hd) (w := w) (cs := cs) H h48 hl hm m 0 0 [] (by exact Z107) .nil (.refl _)
  rw [← List.range_eq_range'] at lp
  exact ⟨u', os', a1, a2, .for (.seq (.nc rfl rfl) (.inl ⟨rfl, rfl⟩)) lp fun _ _ => rfl⟩
end
end Mine
namespace Mine
open PySem PySem.Calls PyProof.Rows PySem.W
structure One (A : Around) (env : Env) : Prop where
  fr : A.frames = some [env]
  ff : env.frame = some env.locals
noncomputable def StA (c : Cx) (n : Nat) (sc : Scope) (b : List Stmt) (ρ : Ro) (σ : Sto) (fl : Fl) (ρ' : Ro) (σ' : Sto) : Prop :=
  ∀ ⦃A : Around⦄ ⦃E : Value → Shared → Prop⦄ ⦃F : Addr → Prop⦄ ⦃μ : List Addr⦄ ⦃s : Shared⦄ ⦃env : Env⦄ ⦃Q : Flow → Shared → Prop⦄, One A env → Room A n → Inv c F μ s σ → EnvR F μ s.heap env sc ρ →
    (∀ f s' μ', Go c F (Own env sc) μ s σ μ' s' σ' → EnvR F μ' s'.heap env sc ρ' → FlR F μ' s'.heap fl f → Q f s') → wpAny c.M A (execs b env) Q E s
noncomputable def SrA (c : Cx) (n : Nat) (sc : Scope) (b : Stmt) (ρ : Ro) (σ : Sto) (fl : Fl) (ρ' : Ro) (σ' : Sto) : Prop :=
  ∀ ⦃A : Around⦄ ⦃E : Value → Shared → Prop⦄ ⦃F : Addr → Prop⦄ ⦃μ : List Addr⦄ ⦃s : Shared⦄ ⦃env : Env⦄ ⦃Q : Flow → Shared → Prop⦄, One A env → Room A n → Inv c F μ s σ → EnvR F μ s.heap env sc ρ →
    (∀ f s' μ', Go c F (Own env sc) μ s σ μ' s' σ' → EnvR F μ' s'.heap env sc ρ' → FlR F μ' s'.heap fl f → Q f s') → wpAny c.M A (exec b env) Q E s
noncomputable def LoopA (c : Cx) (n : Nat) (sc : Scope) (t : PySem.Expr) (b : List Stmt) (ρ : Ro) (σ : Sto) (xs : List AV) (vers : List (Nat × Nat)) (fl : Fl) (ρ' : Ro) (σ' : Sto) : Prop :=
  ∀ ⦃A : Around⦄ ⦃F F0 Wr : Addr → Prop⦄ ⦃μ0 μ : List Addr⦄ ⦃s0 s : Shared⦄ ⦃σ0 : Sto⦄ ⦃env : Env⦄ ⦃I : Addr⦄ ⦃R : Result → Shared → Prop⦄, One A env → Room A n → (∀ a, F a ↔ F0 a ∨ Wr a) → (∀ a, Wr a → s0.heap.get? a = none) → (∀ a, F0 a → ¬Wr a) →
    (∀ a, Mem env a → F0 a) →
    Go c F (fun a => Own env sc a ∨ Wr a) μ0 s0 σ0 μ s σ → EnvR F μ s.heap env sc ρ → Itr c A F Wr μ s σ t I xs vers →
    (∀ f s' μ', Go c F0 (Own env sc) μ0 s0 σ0 μ' s' σ' → EnvR F0 μ' s'.heap env sc ρ' → FlR F0 μ' s'.heap fl f → R (.ok f) s') → codeAny c.M A (.forLoop t (.ref I) b [] env) R s
section
variable {c : Cx} {n : Nat} {sc : Scope} {ρ ρ1 ρ2 ρ3 : Ro} {σ σ1 σ2 : Sto} {b : List Stmt} {fl : Fl} {st : Stmt} {t : PySem.Expr} {x : AV} {xs : List AV} {vers : List (Nat × Nat)} {pos : Pos}
theorem StB.a (h : StB c n sc b ρ σ fl ρ1 σ1) : StA c n sc b ρ σ fl ρ1 σ1 := fun _ _ _ _ _ _ _ _ rm I N q => h rm I N q
theorem StR.a (h : StR c n sc st ρ σ fl ρ1 σ1) : SrA c n sc st ρ σ fl ρ1 σ1 := fun _ _ _ _ _ _ _ _ rm I N q => h rm I N q
theorem StA.cons (h1 : SrA c n sc st ρ σ .nxt ρ1 σ1) (h2 : StA c n sc b ρ1 σ1 fl ρ2 σ2) : StA c n sc (st :: b) ρ σ fl ρ2 σ2 := fun _ _ _ _ _ _ _ O rm I N q =>
  wpAny_execs_cons (h1 O rm I N fun f s1 μ1 p1 N1 r1 => by
    cases r1
    exact h2 O rm p1.inv N1 fun f s2 μ2 p2 N2 r2 => q _ _ _ (p1.trans p2) N2 r2)
theorem StA.weak (s : SubL ρ ρ1) (h : StA c n sc b ρ1 σ fl ρ2 σ1) : StA c n sc b ρ σ fl ρ2 σ1 := fun _ _ _ _ _ _ _ O rm I N q => h O rm I (N.weak s) q
theorem SrA.weak (s : SubL ρ ρ1) (h : SrA c n sc st ρ1 σ fl ρ2 σ1) : SrA c n sc st ρ σ fl ρ2 σ1 := fun _ _ _ _ _ _ _ O rm I N q => h O rm I (N.weak s) q
theorem LoopA.nil : LoopA c n sc t b ρ σ [] vers .nxt ρ σ := fun _ _ _ _ _ _ _ _ _ _ _ _ _ rm hF hW hd hM p N T q => LoopB.nil rm hF hW hd hM p N T q
theorem LoopA.weak (s : SubL ρ ρ1) (h : LoopA c n sc t b ρ1 σ xs vers fl ρ2 σ1) : LoopA c n sc t b ρ σ xs vers fl ρ2 σ1 := fun _ _ _ _ _ _ _ _ _ _ _ _ O rm hF hW hd hM p N T q => h O rm hF hW hd hM p (N.weak s) T q
theorem LoopA.cons (h1 : AsR c sc t x ρ ρ1) (h2 : StA c n sc b ρ1 σ .nxt ρ2 σ1) (hv : VersOk σ1 vers) (h3 : LoopA c n sc t b ρ2 σ1 xs vers fl ρ3 σ2) : LoopA c n sc t b ρ σ (x :: xs) vers fl ρ3 σ2 := by
  intro A F F0 Wr μ0 μ s0 s σ0 env I R O rm hF hW hd hM p N T q
  have hWF : ∀ a, Wr a → F a := fun a h => (hF a).2 (.inr h)
  refine forLoop_step fun E => wpAny_mono (T.turn (Q := TurnQ c A t b env (.ref I) R E) p.inv fun v s1 g1 rv T1 => ?_) (fun r s1 h => .inr h) fun _ _ x => x
  have N1 : EnvR F μ s1.heap env sc ρ := N.pres (g1.pres hWF fun _ h => .inl h) N.mem fun a o m e => g1.sameF p.inv (N.mem a m) (hd a (hM a m)) e
  refine h1 rm.hh g1.inv N1 rv fun s2 g2 N2 => h2 O rm g2.inv N2 fun f s3 μ3 g3 N3 r3 => ?_
  have g23 := g2.trans g3
  cases r3
  exact h3 O rm hF hW hd hM ((p.trans (g1.weaken fun a h => .inl (.inr h))).trans (g23.weaken fun a h => .inl (.inl h))) N3 (T1.go g23 g1.inv (fun a h => ⟨N.own h, hd a (hM a (by
    rcases h with h | ⟨y, h, h'⟩
    · exact .inl h
    · exact .inr ⟨y, .inl ((N.kinds y _ h).resolve_right fun q => absurd q.1 (by decide)), h'⟩))⟩) hv) q
theorem SrA.for {it : PySem.Expr} (h : SrcR c n sc it t ρ σ xs vers σ1) (hl : LoopA c n sc t b ρ σ1 xs vers fl ρ1 σ2) (hs : ∀ env x, foldedSetIterable it env x = pure x) : SrA c n sc (.For t it b [] pos) ρ σ fl ρ1 σ2 := by
  intro A E F μ s env Q O rm I N q
  refine wpAny_For (h rm I N fun J s' μ' F' Wr hF hWr g T => ?_) (hs env)
  have hd : ∀ a, F a → ¬Wr a := fun a x y => let ⟨_, e⟩ := I.flt a (.inl x); absent e (hWr a y)
  exact hl O rm hF hWr hd N.mem (g.weaken fun _ h => h.elim) (N.pres (g.pres (fun _ h => h.elim) fun a x => ((hF a).1 x).imp id (hWr a)) (fun a m => (hF a).2 (.inl (N.mem a m))) fun a o m e => g.same a o (fun h => h) (I.fm a (N.mem a m)) (fun t => (I.ft a t).1 (N.mem a m)) e) T q
theorem glob_any {A : Around} {E : Value → Shared → Prop} {F : Addr → Prop} {μ : List Addr} {h0 : Heap} {s : Shared} {env : Env} {Q : Value → Shared → Prop} {y : Str} {u : Value} (h : Glo c y u) (hk : nmOk sc y .globalImplicit = true) (k : ∀ a o, c.g.get? a = some o → s.heap.get? a = some o) (N : EnvR F μ h0 env sc ρ) (q : Q u s) : wpAny c.M A (eval (.Name y pos) env) Q E s := by
  obtain ⟨mg, mb, hg, hb, hy⟩ := h
  have hx : env.kindOf y = some .globalImplicit := (N.kinds y _ (nmOk_out hk).1).resolve_right fun q => absurd q.1 (by decide)
  refine wpAny_Name ?_ (nmOk_out hk).2.1
  rw [loadName_read N.kind hx]
  rcases hy with hy | ⟨h1, h2⟩
  · exact loadGlobal_global (N.glob ▸ hg.keeps k) hy q
  · exact loadGlobal_builtin (N.glob ▸ hg.keeps k) h1 (N.bns ▸ hb.keeps k) h2 q
theorem loc_any {A : Around} {E : Value → Shared → Prop} {F : Addr → Prop} {μ : List Addr} {h0 : Heap} {s : Shared} {env : Env} {Q : Value → Shared → Prop} {y : Str} {u : Value} {m : Str → Option Value} (hk : nmOk sc y .local = true) (N : EnvR F μ h0 env sc ρ) (hn : s.heap.Ns env.locals m) (e : m y = some u) (q : Q u s) : wpAny c.M A (eval (.Name y pos) env) Q E s :=
  wpAny_Name (wpAny_loadName_local N.kind ((N.kinds y _ (nmOk_out hk).1).resolve_right fun q => absurd q.1 (by decide)) hn e q) (nmOk_out hk).2.1
noncomputable def msg : Str := "lo must be non-negative"
theorem msg_ok : PyData.strOk msg = true := by decide +kernel
theorem raise_call (H : TT c) {a y k : AV} {A : Around} {E : Value → Shared → Prop} {F : Addr → Prop} {μ : List Addr} {s : Shared} {env : Env} {Q : Value → Shared → Prop} {ys : List Value} {kws : List (Str × Value)} (O : One A env) (rm : Room A (n + 1)) (I : Inv c F μ s σ) (N : EnvR F μ s.heap env sc ρ) (r : VRs F μ s.heap [a, y, .int (-1)] ys) (rk : KR F μ s.heap [("key", k)] kws)
    (q : ∀ e t u s', Heap.FlyingW (hideAll s.heap [env.locals]) [env] e (.type "ValueError") (.ref t) s'.heap → s'.heap.TupAt t [.str msg u] → s.heap.UpToSlots s'.heap → AllBare s'.gens → s'.os = c.os → E (.ref e) s') : wpAny c.M A (call (.ref 39) ys kws) Q E s := by
  have Hf := H.f39
  obtain ⟨o, ho, hd⟩ := Hf.at_
  obtain ⟨bs, hbt, hnm, rb⟩ := H.b39r σ a y (.int (-1)) k I r rk
  have hcd : s.heap.CodeRec fd39.code fd39.qualname := by
    obtain ⟨k, ok, us, t, e1, e2, e3⟩ := Hf.code
    exact ⟨k, ok, us, t, e1, I.keep _ _ e2, e3⟩
  refine wpAny_call (codeAny_call_function rm.depth (I.keep _ _ ho) hd Hf.co Hf.gen Hf.body hcd (hbt _ _ _ _ ?_))
  rw [Hf.clo, Hf.gl, Hf.bn]
  have nd : (([("a", a), ("x", y), ("lo", .int (-1)), ("hi", .none), ("key", k)] : Ro).map (·.1)).Nodup := ndB_out rfl
  refine wpAny_newFunctionEnv_cells Hf.kind (fun x hx => ?_) fun env2 he s1 x => ?_
  · have : x.1 ∈ ([("a", a), ("x", y), ("lo", .int (-1)), ("hi", .none), ("key", k)] : Ro).map (·.1) := by rw [hnm]; exact List.mem_map_of_mem hx
    left
    have al : ∀ z ∈ ([("a", a), ("x", y), ("lo", .int (-1)), ("hi", .none), ("key", k)] : Ro).map (·.1), (fScope (st 3)).names.lookup z = some .local := fun z hz => by
      rcases List.mem_cons.mp hz with rfl | hz
      · rfl
      rcases List.mem_cons.mp hz with rfl | hz
      · rfl
      rcases List.mem_cons.mp hz with rfl | hz
      · rfl
      rcases List.mem_cons.mp hz with rfl | hz
      · rfl
      cases List.mem_singleton.mp hz; rfl
    exact al _ this
  · obtain ⟨g, N2, new⟩ := enter_ok I (ρ := [("a", a), ("x", y), ("lo", .int (-1)), ("hi", .none), ("key", k)]) (by rw [he]; rfl) Hf.kind Hf.free hnm (hnm ▸ nd) rb (by rw [he]; exact Hf.tag) x
    have kp := x.toInCall.keep
    refine ⟨Hf.lim.keeps fun b o e => kp b o (I.keep b o e), codeAny_func (wpAny_execs_cons (wpAny_If ?_))⟩
    obtain ⟨m2, hn2, hm2⟩ := N2.ns
    obtain ⟨lo, e1, e2⟩ := hm2 "lo" (.int (-1)) rfl ((N2.kinds "lo" _ (show fd39.scope.names.lookup ("lo" : Str) = some .local from rfl)).resolve_right fun q => absurd q.1 (by decide))
    have uu : (A.deeper env2).units + 64 < cLine := (rm.deeper env2).u64
    refine wpAny_isTrue_Compare1 (loc_any (sc := fd39.scope) rfl N2 hn2 e1 (wpAny_Constant_int ?_)) rfl
    refine Op2.lt (c := c) (σ := σ) uu (g.inv.grow (W := NoW) (Kp.refl.toks _)).inv e2 (.int 0 _) fun z s3 k3 I3 r3 => ?_
    obtain rfl := r3.bool_inv
    refine wpAny_truthy_bool ?_
    refine wpAny_execs_cons (wpAny_Raise_call PySem.F.excCall_ValueError PySem.F.excRaise_ValueError rm.hh rfl (glob_any (sc := fd39.scope) (H.gl "ValueError" _ rfl) rfl I3.keep N2 ⟨rfl, Calls.evalArgs_plain (spliced_cons (wpAny_Constant_str (k := 0) (pos := ⟨0, 0, 0, 0⟩) (spliced_nil ⟨rfl, show 1 ≤ sizeLine by decide, fun h' e mk => ?_⟩)))⟩))
    have st : ∀ b o, s.heap.get? b = some o → s3.heap.get? b = some o := fun b o q => k3 b o (kp b o q)
    obtain ⟨m1, hn1, _⟩ := N.ns
    refine wpAny_leaves_madeW (base := hideAll s.heap [env.locals]) (h := s3.heap) (L := env2.locals) (outer := [env]) (Around.frames_deeper O.fr) (by rw [he]; rfl) (fun b o q => st b o (of_hideAll _ q))
      (.cons (by rw [N2.kind]; decide) (by rw [he]; rfl) (hn2.keeps k3) ?_ (.cons (by rw [N.kind]; decide) O.ff (hn1.keeps st) (hideAll_none _ (.head _)) trivial)) (Heap.MadeExc.of mk) fun h'' t x1 x2 x3 x4 => q e t _ _ x1 x2 (((Heap.UpToSlots.of_keeps st).trans (Heap.UpToSlots.of_keeps mk.keeps)).trans x4) I3.bare I3.os
    cases q : (hideAll s.heap [env.locals]).get? env2.locals with
    | none => rfl
    | some o => exact absent (of_hideAll _ q) (new _ (.inl rfl))
end
end Mine
namespace Mine
open PySem PySem.Calls PyProof.Rows PySem.W
section
variable {c : Cx} {n : Nat} {sc : Scope} {ρ ρ1 ρ2 ρ3 : Ro} {σ σ1 σ2 : Sto} {b : List Stmt} {fl : Fl} {st : Stmt} {t : PySem.Expr} {x : AV} {xs : List AV} {vers : List (Nat × Nat)} {pos : Pos} {F : Addr → Prop} {μ : List Addr} {s : Shared} {env : Env}
theorem go_at (I : Inv c F μ s σ) (N : EnvR F μ s.heap env sc ρ) {s' : Shared} (st : (hideAll s.heap [env.locals]).StaysIn s'.heap) (ns : ∃ o, s'.heap.get? env.locals = some o) (hb : AllBare s'.gens) (os : s'.os = c.os) : Go c F (Own env sc) μ s σ μ s' σ := by
  have p := (I.step (W := fun a => a = env.locals) (F' := F) (h' := s'.heap) (tk := s'.toks) (gs := s'.gens) hb (fun a h => by subst h; exact ⟨N.loc, ns⟩) (fun b o nb e => st b o (hideAll_get _ e fun h => nb (List.mem_singleton.mp h))) fun _ h => .inl h).weaken (W' := Own env sc) fun a h => .inl (.inl h)
  have J := p.inv
  exact ⟨p.same, p.ex, p.pre, p.new, p.mono, ⟨J.keep, J.fg, J.flt, J.fm, J.ft, J.nd, J.len, J.mo, hb, os, J.lam, J.gen⟩⟩
theorem SrA.try8 (H : TT c) {f : PySem.Expr} {args : List PySem.Expr} {ks : List Keyword} {cp ep np w1 w2 w3 w4 w5 w6 hp6 : Pos} {kk : Nat} {b1 : List Stmt} {s2 : Stmt} {a y k : AV} (h0 : EvE c (n + 1) sc f ρ σ (.val (.ref 39)) σ) (h1 : EvL c (n + 1) sc args ρ σ [a, y, .int (-1)] σ) (h2 : EvK c (n + 1) sc ks ρ σ [("key", k)] σ)
    (he : ∀ env, eval (.Call f args ks cp) env = (do callWith cp (← eval f env) [] (backTo cp (starEach args env)) (backToKw cp (keywordEach ks env))))
    (hp : ∀ env, (backTo cp (starEach args env)).any (·.1) = false) (hq : ∀ env, (backToKw cp (keywordEach ks env)).all (·.1.isSome) = true ∧ (backToKw cp (keywordEach ks env)).filterMap (·.1) = [("key" : Str)])
    (hs : ∀ env, swapsWith (.Call f args ks cp) none ep.line env = pure false) (hr : nmOk sc "refusal" .local = true) (hg1 : nmOk sc "ValueError" .globalImplicit = true) (hg2 : nmOk sc "str" .globalImplicit = true) (hρ : ρ.lookup ("refusal" : Str) = none) :
    SrA c (n + 1) sc (.Try [.Expr (.Call f args ks cp) ep, s2] [.ExceptHandler (some (.Name "ValueError" np)) (some "refusal") [.If (.Compare (.Call (.Name "str" w1) [.Name "refusal" w2] [] w3) [.NotEq] [.Constant (.str msg) kk w4] w5) b1 [] w6] hp6] [] [] pos) ρ σ .nxt ρ σ := by
  intro A E F μ s env Q O rm I N q
  refine wpAny_Try_except (wpAny_execs_cons ?_)
  rw [exec_Expr env _ ep (by unfold interactive; rw [N.kind]; rfl) (hs env)]
  refine wpAny_bind (wpAny_standAt (wpAny_bind ?_))
  rw [he]
  refine wpAny_bind (h0 rm I N fun x s1 μ1 p1 r1 => ?_)
  obtain rfl := r1.val_inv
  have hn : (backToKw cp (keywordEach ks env)).any (·.1.isNone) = false := by
    have := (hq env).1
    rw [List.all_eq_true] at this
    rw [List.any_eq_false]
    intro x hx; have := this x hx; cases h : x.1 <;> simp_all
  have N1 := N.go I p1
  refine callWith_of (P := Kept c.M (.ref 39)) (by rw [hp, hn]; rfl) (fun _ x => x) (evalArgs_gen (hp env) (hq env).1 (h1 rm p1.inv N1 fun ys s2 μ2 p2 r2 => h2 rm p2.inv (N1.go p1.inv p2) fun us s3 μ3 p3 r3 => ?_))
  have N3 := (N1.go p1.inv p2).go p2.inv p3
  have I3 := p3.inv
  refine ⟨H.f39.keep I3 (.val _), raise_call (k := k) H O rm I3 N3 (r2.pres p3.pres0) ⟨?_, ?_⟩ fun e t u s4 fly tu up gb os => ?_⟩
  · rw [(hq env).2, List.map_fst_zip (by rw [← r3.len]; exact Nat.le_refl _)]; rfl
  · rw [(hq env).2, List.map_snd_zip (by rw [← r3.len]; exact Nat.le_refl _)]; exact r3
  have N0 := N3
  obtain ⟨m0, hn0, hm0⟩ := N0.ns
  have kB : ∀ {h : Heap}, (hideAll s3.heap [env.locals]).StaysIn h → ∀ a o, c.g.get? a = some o → h.get? a = some o := fun st a o e => st a o (hideAll_get _ (I3.keep a o e) fun z => absent e (List.mem_singleton.mp z ▸ I3.fg _ (.inl N3.loc)))
  refine wpAny_looks_onW O.fr O.ff fly fun h4 held up4 => ?_
  refine wpAny_landsW held fun h5 fly5 up5 => ?_
  obtain ⟨ob, hob, hobc⟩ := fly5.there
  refine wpAny_handleBy_builtin_as (X := "ValueError") (T := "ValueError") (b := true) PySem.F.isExc_ValueError PySem.F.notTuple_ValueError (by rw [isSubtype_type]; kernel_rfl) (glob_any (H.gl "ValueError" _ rfl) hg1 (kB fly5.1) N ⟨rfl, ⟨ob, hob, hobc⟩, ?_⟩)
  refine lands_againW fly5 fun h6 fly6 up6 => ?_
  have up36 := ((up.trans up4).trans up5).trans up6
  have hn6 := up36.ns hn0
  have hl : env.kindOf "refusal" = some .local := (N.kinds _ _ (nmOk_out hr).1).resolve_right fun q => absurd q.1 (by decide)
  have hcl : (env.scope.kind == .class || (env.scope.kind == .module && env.locals != mainGlobals)) = false := by rw [N.kind]; rfl
  obtain ⟨oe, ws, he1, he2, he3, he4⟩ := fly6.first
  have tu6 := ((tu.of_slots up4).of_slots up5).of_slots up6
  refine wpAny_storeName_local hl hn6 (fun h7 hn7 hs7 => ?_) (by rw [N.kind]; rfl)
  have st7 : (hideAll s3.heap [env.locals]).StaysIn h7 := fun b o q => (hs7.2 b fun z => absent q (z ▸ hideAll_none _ (.head _))).trans (fly6.1 b o q)
  have g7 := go_at (s' := ⟨h7, s4.gens, s4.drawn, s4.toks + 1, s4.os⟩) I3 N3 st7 (by obtain ⟨o, _, _, e, _⟩ := hn7; exact ⟨o, e⟩) gb os
  have eL : e ≠ env.locals := fun z => by
    obtain ⟨o, es, _, e', hd, _⟩ := hn6
    rw [z, e'] at he1; cases he1; rw [hd] at he3; cases he3
  obtain ⟨ot, nt, ht1, ht2, ht3⟩ := tu6
  have tL : t ≠ env.locals := fun z => by
    obtain ⟨o, es, _, e', hd, _⟩ := hn6
    rw [z, e'] at ht1; cases ht1; rw [hd] at ht3; cases ht3
  have uu : (A.mark (some (.ref e))).units + 64 < cLine := rm.u64
  refine wpAny_execs_cons (wpAny_If (wpAny_isTrue_Compare1 ?_ rfl))
  show wpAny _ _ (do callWith w3 (← eval (.Name "str" w1) env) [] (backTo w3 (starEach [.Name "refusal" w2] env)) (backToKw w3 (keywordEach [] env))) _ _ _
  refine wpAny_bind (glob_any (H.gl "str" _ rfl) hg2 (kB st7) N ?_)
  refine callWith_of (P := Kept c.M (.type "str")) rfl (fun _ x => x) (evalArgs_gen (ks := []) rfl rfl (spliced_cons (loc_any hr N hn7 (if_pos rfl) (spliced_nil (wpAny_pure ⟨⟨.machine, .inr (.inl rfl), .now⟩, ?_⟩)))))
  refine P.str_of_exc_one PySem.F.excStr_ValueError (Nat.lt_of_le_of_lt (Nat.add_le_add_left (by decide) _) uu) ⟨oe, ws, (hs7.2 e eL).trans he1, he2, he3, he4⟩ ⟨ot, nt, (hs7.2 t tL).trans ht1, ht2, ht3⟩ ?_
  refine wpAny_Constant_str ?_
  refine Op2.neSame (c := c) (σ := σ) (a := .str msg) (b := .str msg) Dat2.str uu (g7.inv.grow (W := NoW) (Kp.refl.toks _)).inv (.str _ msg_ok) (.str _ msg_ok) fun z s8 k8 I8 r8 => ?_
  obtain rfl := r8.bool_inv
  refine wpAny_truthy_bool (wpAny_execs_nil (wpAny_execs_nil ?_))
  refine wpAny_nameGoes_keeps hl (hn7.keeps k8) (by rw [N.kind]; rfl) fun h9 v9 hn9 hs9 => ?_
  have st9 : (hideAll s3.heap [env.locals]).StaysIn h9 := fun b o q => (hs9.2 b fun z => absent q (z ▸ hideAll_none _ (.head _))).trans (k8 _ _ (st7 b o q))
  have g9 := go_at (s' := ⟨h9, s8.gens, s8.drawn, s8.toks + 1, s8.os⟩) I3 N3 st9 (by obtain ⟨o, _, _, e, _⟩ := hn9; exact ⟨o, e⟩) I8.bare I8.os
  have pr : Pres F μ3 s3.heap F μ3 h9 := g9.pres (fun a => N3.own) fun _ h => .inl h
  refine q _ _ μ3 (((p1.trans p2).trans p3).own.trans g9) (N3.presL pr N3.mem (fun z u e1 e2 => ?_) hn9 fun a o m ne e => st9 a o (hideAll_get _ e fun z => ne (List.mem_singleton.mp z))) .nxt
  obtain ⟨w, d1, d2⟩ := hm0 z u e1 e2
  have nz : z ≠ ("refusal" : Str) := fun q => by rw [q, hρ] at e1; cases e1
  exact ⟨w, (if_neg nz).trans ((if_neg nz).trans d1), d2⟩
end
end Mine
namespace Mine
open PySem PySem.Calls PyProof.Rows PySem.W
section
variable {c : Cx} {n : Nat} {xs : List Int} {dns os : List Nat} {m w u : Nat} {hd : Int} {cs : List Int}
theorem try_one (H : TT c) {y k : AV} : SrA c (n + 1) wS (ith (forB (ith wB 8)) 0) (put "key" k (put "sought" y (r6 xs m hd dns))) (σ2 w cs u dns os) .nxt (put "key" k (put "sought" y (r6 xs m hd dns))) (σ2 w cs u dns os) :=
  .try8 H (k := k) (y := y) (.gl H rfl rfl) (.cons (.nl rfl rfl) (.cons (.nl rfl rfl) (.cons (.neg .int) .nil fun _ => rfl) fun _ => rfl) fun _ => rfl) (.one (.nl rfl rfl)) (fun _ => rfl) (fun _ => rfl) (fun _ => ⟨rfl, rfl⟩) (fun _ => rfl) rfl rfl rfl rfl
theorem law8 (H : TT c) (hm : 0 < m) : SrA c (n + 1) wS (ith wB 8) (r6 xs m hd dns) (σ2 w cs u dns os) .nxt (r6 xs m hd dns) (σ2 w cs u dns os) := by
  refine .for (.tup (xs := [.tup [iP dns 0, .none], .tup [.int 7, .val (.ref 154)]]) (.tup (.cons (.tup (.cons (.sub (.nc rfl rfl) .int (.seq .lst rfl ?_)) (.cons .none .nil fun _ => rfl) fun _ => rfl) lim2) (.cons (.tup (.cons .int (.cons (.gl H rfl rfl) .nil fun _ => rfl) fun _ => rfl) lim2) .nil fun _ => rfl) fun _ => rfl) lim2))
    (.cons (ρ1 := put "key" .none (put "sought" (iP dns 0) (r6 xs m hd dns))) (.tup (.cons (.name (.inl rfl)) (.cons (.name (.inl rfl)) .nil fun _ => rfl) fun _ => rfl) fun _ => ⟨rfl, rfl⟩) (.cons (try_one H) StB.nil.a) (fun _ h => nomatch h)
      (.weak (ρ1 := r6 xs m hd dns) ⟨rfl, rfl, rfl, rfl, rfl, rfl, rfl, rfl, trivial⟩ (.cons (ρ1 := put "key" (.val (.ref 154)) (put "sought" (.int 7) (r6 xs m hd dns))) (.tup (.cons (.name (.inl rfl)) (.cons (.name (.inl rfl)) .nil fun _ => rfl) fun _ => rfl) fun _ => ⟨rfl, rfl⟩) (.cons (try_one H) StB.nil.a) (fun _ h => nomatch h)
        (.weak (ρ1 := r6 xs m hd dns) ⟨rfl, rfl, rfl, rfl, rfl, rfl, rfl, rfl, trivial⟩ .nil)))) fun _ _ => rfl
  rw [List.getElem?_map, show Int.toNat 0 = 0 from rfl, List.getElem?_range hm]; rfl
end
end Mine
namespace Mine
open PySem PySem.Calls PyProof.Rows PySem.W
section
variable {c : Cx} {n : Nat} {xs : List Int} {dns os : List Nat} {m w u : Nat} {hd : Int} {cs : List Int} {σ : Sto}
theorem pw_int {r : Nat → Int} {R : Nat → Nat → Prop} {os : List Nat} (h : os.Pairwise R) (hr : ∀ a ∈ os, ∀ b ∈ os, R a b → r a ≤ r b) : (os.map r).Pairwise (· ≤ ·) := by
  rw [List.pairwise_map]
  exact List.Pairwise.imp_of_mem (fun ha hb q => hr _ ha _ hb q) h
theorem sort_eq {d : Nat → Nat} (h2 : 2 ≤ m) (hm : m ≤ 8) (h1 : os.Pairwise (oLt d)) (hp : os.Perm (List.range m)) : sortOrd (fun k => (d k : Int)) m = os := by
  obtain ⟨P1, U1⟩ := kev_sort (r := rk fun k => (d k : Int)) h2 (rk_inj (by exact Z363 hm))
  have p1 : (sortOrd (fun k => (d k : Int)) m).Perm (List.range m) := by simpa [sortOrd] using Array.perm_iff_toList_perm.mp P1.perm
  have lt1 : ∀ x ∈ sortOrd (fun k => (d k : Int)) m, x < m := fun x hx => List.mem_range.mp (p1.mem_iff.mp hx)
  have lt2 : ∀ x ∈ os, x < m := fun x hx => List.mem_range.mp (hp.mem_iff.mp hx)
  have e := sorted_same (xs := (sortOrd (fun k => (d k : Int)) m).map (rk fun k => (d k : Int))) (ys := os.map (rk fun k => (d k : Int))) ((p1.trans hp.symm).map _) (by
    rw [List.pairwise_iff_getElem]
    intro i j hi hj hij
    have sz : (kev (rk fun k => (d k : Int)) (kas_sort m)).size = m := P1.size
    have hj' : j < m := by simp [sortOrd, sz] at hj; exact hj
    have := U1.lt hij hj'
    have g : ∀ k, k < m → (kev (rk fun k => (d k : Int)) (kas_sort m)).getD k 0 = (kev (rk fun k => (d k : Int)) (kas_sort m)).toList.getD k 0 := fun k hk => by
      have hk' : k < (kev (rk fun k => (d k : Int)) (kas_sort m)).size := by rw [sz]; exact hk
      simp [Array.getD, hk']
    rw [g _ (by exact Z16 hij hj'), g _ hj'] at this
    simp only [List.getElem_map]
    have gg : ∀ k (hk : k < (sortOrd (fun k => (d k : Int)) m).length), (kev (rk fun k => (d k : Int)) (kas_sort m)).toList.getD k 0 = (sortOrd (fun k => (d k : Int)) m)[k] := fun k hk => by
      rw [List.getD_eq_getElem?_getD]; unfold sortOrd at hk ⊢; rw [List.getElem?_eq_getElem hk]; rfl
    rw [gg _ (by simpa using hi), gg _ (by simpa using hj)] at this
    exact Int.le_of_lt this) (pw_int h1 fun a ha b hb q => by
      have := lt2 a ha; have := lt2 b hb
      show (d a : Int) * 64 + a ≤ (d b : Int) * 64 + b
      rcases (show d a < d b ∨ (d a = d b ∧ a < b) from q) with q | q <;> lia)
  have e2 := congrArg (List.map fun z : Int => (z % 64).toNat) e
  rw [List.map_map, List.map_map] at e2
  have id_ : ∀ l : List Nat, (∀ x ∈ l, x < m) → l.map ((fun z : Int => (z % 64).toNat) ∘ rk fun k => (d k : Int)) = l := fun l hl => by
    conv => rhs; rw [← List.map_id l]
    exact List.map_congr_left fun x hx => by
      have := hl x hx
      show (((d x : Int) * 64 + x) % 64).toNat = x
      lia
  rwa [id_ _ lt1, id_ _ lt2] at e2
noncomputable abbrev r9 (xs : List Int) (m : Nat) (hd : Int) (dns os : List Nat) : Ro := put "order" (.lst (os.map ai)) (r6 xs m hd dns)
theorem law9 (H : TT c) (h5 : 2 ≤ m) (hm : m ≤ 8) (hl : dns.length = m) (h1 : os.Pairwise (oLt fun k => dns.getD k 0)) (hp : os.Perm (List.range m)) : StR c (n + 3) wS (ith wB 9) (r6 xs m hd dns) (σ2 w cs u dns os) .nxt (r9 xs m hd dns os) (σ2 w cs u dns os) := by
  refine .to (.assignSorted (dn := fun k => (dns.getD k 0 : Nat)) (x := "drawn") (dv := .lst (dns.map ai)) (m := m) H.F.T rfl rfl rfl (.gl H rfl rfl) (.gl H rfl rfl) (.nl rfl rfl) h5 (by exact Z364 hm) rfl (by decide) (by decide) rfl rfl rfl (fun i hi => ?_) lo2 (.name (.inr rfl)) (fun _ => rfl) (fun _ => rfl) (fun _ => rfl) (fun _ => rfl) (fun _ => rfl) (fun _ => rfl) fun _ => rfl) ?_ rfl
  · exact .tup (.cons (.sub (.nf rfl rfl) (.nl rfl rfl) (.seq .lst idx_nat (map_getD (by exact Z15 hi hl)))) (.cons (.nl rfl rfl) .nil fun _ => rfl) fun _ => rfl) lim2
  · rw [sort_eq (d := fun k => dns.getD k 0) h5 hm h1 hp]
theorem range_getD : ∀ {l : List Nat}, (List.range l.length).map (fun k => l.getD k 0) = l := fun {l} => by
  apply List.ext_getElem?; intro i
  rw [List.getElem?_map]
  by_cases z : i < l.length
  · rw [List.getElem?_range z, List.getElem?_eq_getElem z, Option.map_some, List.getD_eq_getElem?_getD, List.getElem?_eq_getElem z]; rfl
  · rw [List.getElem?_eq_none (by simpa using z), List.getElem?_eq_none (by exact Nat.le_of_not_lt z)]; rfl
theorem law10 (H : TT c) (hm : m ≤ 8) (hl : dns.length = m) (h48 : ∀ x ∈ dns, x < 48) (hp : os.Perm (List.range m)) : StR c (n + 1) wS (ith wB 10) (r9 xs m hd dns os) (σ2 w cs u dns os) .nxt (r9 xs m hd dns os) (σ2 w cs u dns os) := by
  have lt2 : ∀ x ∈ os, x < m := fun x hx => List.mem_range.mp (hp.mem_iff.mp hx)
  have ll : os.length = m := by rw [hp.length_eq, List.length_range]
  have q2 : (List.range m).filterMap (fun k => some (ai (7 + dns.getD k 0))) = dns.filterMap fun n => some (ai (7 + n)) := by
    rw [fm_map, fm_map]
    conv => rhs; rw [← range_getD (l := dns), hl, List.map_map]
    rfl
  refine .if (k := false) (.boolOn (k := false) (.cmp (.nl rfl rfl) (.eq (.cmp1 (l := os) (gx := ai) (ρ0 := [("comers", cmV dns m)]) (vers := []) (f := fun k => some (iP dns k)) rfl ⟨rfl, rfl, trivial⟩ rfl (fun _ _ => rfl) (.seq (.nc rfl rfl) (.inl ⟨rfl, rfl⟩)) (fun _ h => nomatch h) (by rw [ll, lim]; exact Z365 hm) (fun k hk w2 acc hacc => ?_) lo2) (congrArg AV.lst fm_map))
      (.neSame (.same (.mref rfl) .lst fun y hy => by obtain ⟨k, _, rfl⟩ := List.mem_map.mp hy; exact P_dat)) rfl) (.inr ⟨rfl, rfl⟩)
    (.boolOn (k := false) (.cmp (.cmp1 (l := List.range m) (gx := iP dns) (ρ0 := []) (vers := []) (f := fun k => some (ai (7 + dns.getD k 0))) rfl trivial rfl (fun _ _ => rfl) (.seq (.nc rfl rfl) (.inl ⟨rfl, rfl⟩)) (fun _ h => nomatch h) (by rw [List.length_range, lim]; exact Z365 hm) (fun k hk w2 acc hacc => ?_) lo2)
      (.eq (.cmp1 (l := dns) (gx := ai) (ρ0 := []) (vers := []) (f := fun n => some (ai (7 + n))) rfl trivial rfl (fun _ _ => rfl) (.seq (.nc rfl rfl) (.inl ⟨rfl, rfl⟩)) (fun _ h => nomatch h) (by rw [hl, lim]; exact Z365 hm) (fun k hk w2 acc hacc => ?_) lo2) (congrArg AV.lst q2.symm))
      (.neSame (.same .lst .lst fun y hy => by obtain ⟨k, _, e⟩ := List.mem_filterMap.mp hy; cases e; exact .int)) rfl) (.inr ⟨rfl, rfl⟩) .boolEnd)) .nil
  · have hk := lt2 k hk
    exact ⟨_, .name (.inl rfl), ⟨rfl, trivial⟩, .inr ⟨_, rfl, P_pl, .inl ⟨rfl, rfl⟩, .sub (.nf rfl rfl) (.nl rfl rfl) (.seq .lst idx_nat (by rw [List.getElem?_map, List.getElem?_range hk]; rfl))⟩⟩
  · have hk := List.mem_range.mp hk
    exact ⟨_, .name (.inl rfl), trivial, .inr ⟨_, rfl, .int, .inl ⟨rfl, rfl⟩, .call (.gl H rfl rfl) (.cons (.nl rfl rfl) .nil fun _ => rfl) .nil (num_call H h48 (by exact Z15 hk hl) (by exact Z356 hl hm) (LoSto.app lo2 hacc)) H.f154.keep (fun _ => rfl) (fun _ => rfl) fun _ => ⟨rfl, rfl⟩⟩⟩
  · exact ⟨_, .name (.inl rfl), trivial, .inr ⟨_, rfl, .int, .inl ⟨rfl, rfl⟩, .eq (.bin .int (.nl rfl rfl) .add) (congrArg AV.int (by lia))⟩⟩
end
end Mine
namespace Mine
open PySem PySem.Calls PyProof.Rows PySem.W
noncomputable def lamV : PySem.Expr → AV | .Lambda a b s _ => .lam a b s | _ => .none
noncomputable def callA : PySem.Expr → Nat → PySem.Expr | .Call _ as _ _, i => (as[i]?).getD (.Constant .none 0 ⟨0, 0, 0, 0⟩) | e, _ => e
noncomputable def key1 : AV := lamV (callA (asgV (ith wB 11)) 1)
noncomputable def key2 : AV := lamV (callA (asgV (ith wB 12)) 1)
theorem nofree {l : List (Str × NameKind)} (h : (l.all fun p => !(p.2 == .free)) = true) : ∀ y, l.lookup y ≠ some .free := fun y e => by
  have := List.all_eq_true.mp h _ (mem_of_lookup e)
  simp at this
theorem lt_lt : ∀ a, a < 8 → ∀ b, b < 8 → strLt (lt a) (lt b) = decide (a < b) := by decide
section
variable {c : Cx} {n : Nat} {xs : List Int} {dns os : List Nat} {m w u : Nat} {hd : Int} {cs : List Int} {σ : Sto}
theorem lam_ne {a : Arguments} {b : PySem.Expr} {s : Scope} : ∀ F μ h x, VR F μ h (.lam a b s) x → x ≠ .none := fun F μ h x r => by obtain ⟨ad, rfl, _⟩ := r.lam_inv; exact fun q => nomatch q
theorem os_lt {d : Nat → Nat} (h1 : os.Pairwise (oLt d)) (hl : os.length = m) {y u : Nat} (h : y < u) (hu : u < m) : oLt d (os.getD y 0) (os.getD u 0) := by
  rw [List.getD_eq_getElem?_getD, List.getElem?_eq_getElem (by exact Z366 h hl hu), List.getD_eq_getElem?_getD, List.getElem?_eq_getElem (by exact Z15 hu hl)]
  exact List.pairwise_iff_getElem.mp h1 y u (by exact Z366 h hl hu) (by exact Z15 hu hl) h
theorem os_mem (hp : os.Perm (List.range m)) {y : Nat} (h : y < m) : os.getD y 0 < m := by
  have hl : os.length = m := by rw [hp.length_eq, List.length_range]
  rw [List.getD_eq_getElem?_getD, List.getElem?_eq_getElem (by exact Z15 h hl)]
  exact List.mem_range.mp (hp.mem_iff.mp (List.getElem_mem _))
theorem dn_lt (h48 : ∀ x ∈ dns, x < 48) {k : Nat} : dns.getD k 0 < 48 := by
  by_cases hk : k < dns.length
  · rw [List.getD_eq_getElem?_getD, List.getElem?_eq_getElem hk]; exact h48 _ (List.getElem_mem _)
  · rw [List.getD_eq_getElem?_getD, List.getElem?_eq_none (by exact Nat.le_of_not_lt hk)]; decide
noncomputable abbrev nm1 (dns os : List Nat) (v : Nat) : Str := nmO dns (os.getD v 0)
theorem key1_ok (H : TT c) (hm : m ≤ 8) (h48 : ∀ x ∈ dns, x < 48) (h1 : os.Pairwise (oLt fun k => dns.getD k 0)) (hp : os.Perm (List.range m)) : KeyOk c (nm1 dns os) m key1 (fun v => .tup [ai (7 + dns.getD (os.getD v 0) 0), .str (lt (os.getD v 0))]) where
  nn := lam_ne
  keep := fun _ => .lam
  call := fun σ lo e he => by
    have hk : os.getD e.2 0 < 8 := Nat.lt_of_lt_of_le (os_mem hp he) hm
    have h4 : dns.getD (os.getD e.2 0) 0 < 48 := dn_lt h48
    obtain ⟨q1, q2, q3, q4, q5⟩ := nm_cut _ h4 _ hk
    refine .lam H.F.T rfl rfl rfl rfl (nofree rfl) (fun h => nomatch (show (none : Option NameKind) = some .local from h)) (.tup (.cons (.eq (.call (.gl H rfl rfl) (.cons (.nl rfl rfl) .nil fun _ => rfl) .nil (call_number (n := 0) (b := sb e.1) H h4 hk lo) H.f154.keep (fun _ => rfl) (fun _ => rfl) fun _ => ⟨rfl, rfl⟩) (congrArg AV.int (by lia))) (.cons (.sub (.sub (.nl rfl rfl) .int (.tup (j := 1) rfl rfl)) (.neg .int) (.str q2 q3 (lim8 q4))) .nil fun _ => rfl) fun _ => rfl) lim2) lo (.tup fun y hy => ?_)
    rcases List.mem_cons.mp hy with rfl | hy
    · exact .int
    · cases List.mem_singleton.mp hy; exact .str
  lt := fun σ y u hy hu => by
    have ll : os.length = m := by rw [hp.length_eq, List.length_range]
    have : ∀ {b : Bool}, (if ((7 + dns.getD (os.getD y 0) 0 : Nat) : Int) == ((7 + dns.getD (os.getD u 0) 0 : Nat) : Int) then strLt (lt (os.getD y 0)) (lt (os.getD u 0)) else decide (((7 + dns.getD (os.getD y 0) 0 : Nat) : Int) < ((7 + dns.getD (os.getD u 0) 0 : Nat) : Int))) = b → Op2 c σ (compareOp .Lt) (.tup [ai (7 + dns.getD (os.getD y 0) 0), .str (lt (os.getD y 0))]) (.tup [ai (7 + dns.getD (os.getD u 0) 0), .str (lt (os.getD u 0))]) (.bool b) := fun e => e ▸ .ltTup
    refine this ?_
    rw [lt_lt _ (Nat.lt_of_lt_of_le (os_mem hp hy) hm) _ (Nat.lt_of_lt_of_le (os_mem hp hu) hm)]
    rcases Nat.lt_trichotomy y u with q | q | q
    · have z : dns.getD (os.getD y 0) 0 < dns.getD (os.getD u 0) 0 ∨ (dns.getD (os.getD y 0) 0 = dns.getD (os.getD u 0) 0 ∧ os.getD y 0 < os.getD u 0) := os_lt h1 ll q hu
      rw [decide_eq_true q]
      rcases z with z | ⟨z, z2⟩
      · rw [if_neg (by rw [beq_iff_eq]; lia)]; exact decide_eq_true (by lia)
      · rw [if_pos (by rw [beq_iff_eq]; lia)]; exact decide_eq_true z2
    · subst q
      rw [if_pos (by rw [beq_iff_eq])]
      exact decide_eq_decide.mpr (by exact Z367)
    · have z : dns.getD (os.getD u 0) 0 < dns.getD (os.getD y 0) 0 ∨ (dns.getD (os.getD u 0) 0 = dns.getD (os.getD y 0) 0 ∧ os.getD u 0 < os.getD y 0) := os_lt h1 ll q hy
      rw [decide_eq_false (show ¬ y < u by exact Z130 q)]
      rcases z with z | ⟨z, z2⟩
      · rw [if_neg (by rw [beq_iff_eq]; lia)]; exact decide_eq_false (by lia)
      · rw [if_pos (by rw [beq_iff_eq]; lia)]; exact decide_eq_false (by exact Z130 z2)
  pl := fun v => .tup fun y hy => by
    rcases List.mem_cons.mp hy with rfl | hy
    · exact .int
    · cases List.mem_singleton.mp hy; exact .str
theorem key2_ok (H : TT c) (hm : m ≤ 8) (h48 : ∀ x ∈ dns, x < 48) : KeyOk c (nmO dns) m key2 (fun v => .str (lt v)) where
  nn := lam_ne
  keep := fun _ => .lam
  call := fun σ lo e he => by
    obtain ⟨q1, q2, q3, q4, q5⟩ := nm_cut _ (dn_lt (k := e.2) h48) _ (Nat.lt_of_lt_of_le he hm)
    exact .lam H.F.T rfl rfl rfl rfl (nofree rfl) (fun h => nomatch (show (none : Option NameKind) = some .local from h)) (.sub (.sub (.nl rfl rfl) .int (.tup (j := 1) rfl rfl)) (.neg .int) (.str q2 q3 (lim8 q4))) lo .str
  lt := fun σ y u hy hu => by rw [← lt_lt y (by exact Z355 hy hm) u (by exact Z355 hu hm)]; exact .ltStr
  pl := fun v => .str
end
end Mine
namespace Mine
open PySem PySem.Calls PyProof.Rows PySem.W
noncomputable abbrev rv (nm : Nat → Str) (rows : List (List Pc)) : AV := .lst (rows.map fun R => .lst (R.map (P nm)))
theorem inv2 {os : List Nat} {m : Nat} (hp : os.Perm (List.range m)) : Inv2 m (fun k => os.idxOf k) (fun v => os.getD v 0) := by
  have hl : os.length = m := by rw [hp.length_eq, List.length_range]
  have nd : os.Nodup := hp.nodup_iff.mpr List.nodup_range
  refine ⟨fun i hi => ?_, fun v hv => ⟨os_mem hp hv, ?_⟩⟩
  · have hm : i ∈ os := hp.mem_iff.mpr (List.mem_range.mpr hi)
    have h1 := List.idxOf_lt_length_of_mem hm
    exact ⟨by exact Z105 h1 hl, by rw [List.getD_eq_getElem?_getD, List.getElem?_eq_getElem h1]; exact List.getElem_idxOf h1⟩
  · have h1 : v < os.length := by exact Z15 hv hl
    have e : os.getD v 0 = os[v] := by rw [List.getD_eq_getElem?_getD, List.getElem?_eq_getElem h1]; rfl
    rw [e]; exact nd.idxOf_getElem v h1
section
variable {c : Cx} {n : Nat} {xs : List Int} {dns os : List Nat} {m w u : Nat} {hd : Int} {cs : List Int} {σ : Sto} {rows1 rows2 : List (List Pc)}
noncomputable abbrev r11 (xs : List Int) (m : Nat) (hd : Int) (dns os : List Nat) (rows1 rows2 : List (List Pc)) : Ro := put "first" (.lst [rv (nm1 dns os) rows1, rv (nmO dns) rows2]) (r9 xs m hd dns os)
noncomputable abbrev r12 (xs : List Int) (m : Nat) (hd : Int) (dns os : List Nat) (rows1 rows2 : List (List Pc)) : Ro := put "second" (.lst [rv (nmO dns) rows2, rv (nm1 dns os) rows1]) (r11 xs m hd dns os rows1 rows2)
theorem hd_lim (h : 0 ≤ hd ∧ hd ≤ 3) : 0 ≤ hd ∧ hd ≤ lim := ⟨h.1, Int.le_trans h.2 (by decide)⟩
theorem law11 (H : TT c) (hm : m ≤ 8) (hh : 0 ≤ hd ∧ hd ≤ 3) (h48 : ∀ x ∈ dns, x < 48) (h1 : os.Pairwise (oLt fun k => dns.getD k 0)) (hp : os.Perm (List.range m))
    (L : LaidAll 60 true ((List.range m).map fun k => os.idxOf k) [] [] rows1 (rows2.map fun R => R.map fun e => (e.1, os.idxOf e.2))) (l1 : rows1.length ≤ m) (l2 : ∀ R ∈ rows1, R.length ≤ m) (l3 : ∀ R ∈ rows2, R.length ≤ m ∧ ∀ e ∈ R, e.2 < m) :
    StR c (n + 4) wS (ith wB 11) (r9 xs m hd dns os) (σ2 w cs u dns os) .nxt (r11 xs m hd dns os rows1 rows2) (σ2 w cs u dns os) := by
  have I := inv2 hp
  have nn : ∀ k, k < m → nm1 dns os (os.idxOf k) = nmO dns k := fun k hk => congrArg (nmO dns) (I.c k hk).2
  have cl := call_laid (n := n) (σ := σ2 w cs u dns os) (vers := []) (cm := cmV dns m) H (key1_ok H hm h48 h1 hp) (Nat.le_refl 60) (fun _ h => nomatch h) (.inl ⟨?_, rfl⟩) L (fun w hw => by
    obtain ⟨k, hk, rfl⟩ := List.mem_map.mp hw
    exact (I.c k (List.mem_range.mp hk)).1) (by rw [List.length_map, List.length_range]; exact Z368 hm) (fun v => nm_len _ _) (hd_lim hh) ⟨by exact Z369 l1 hm, fun R hR => Nat.le_trans (l2 R hR) (by exact Z363 hm)⟩ lo2
  · rw [show (rows2.map fun R => R.map fun e => (e.1, os.idxOf e.2)).map (fun R => AV.lst (R.map (P (nm1 dns os)))) = rows2.map fun R => .lst (R.map (P (nmO dns))) by
      rw [List.map_map]
      refine List.map_congr_left fun R hR => ?_
      show AV.lst ((R.map _).map _) = _
      rw [List.map_map]
      refine congrArg AV.lst (List.map_congr_left fun e he => ?_)
      show AV.tup [.str (sb e.1), .str (nm1 dns os (os.idxOf e.2))] = .tup [.str (sb e.1), .str (nmO dns e.2)]
      rw [nn _ ((l3 R hR).2 e he)]] at cl
    exact .assign (.call (.gl H rfl rfl) (.cons (.nc rfl rfl) (.cons (.lam H.F.T rfl (fun x hx => by
      have := List.all_eq_true.mp (show ((_ : List (Str × NameKind)).all fun p => !(p.2 == .free)) = true from rfl) x hx
      simpa using this) fun _ => rfl) (.cons .bool (.cons (.nl rfl rfl) .nil fun _ => rfl) fun _ => rfl) fun _ => rfl) fun _ => rfl) .nil cl H.f159.keep (fun _ => rfl) (fun _ => rfl) fun _ => ⟨rfl, rfl⟩) (.name (.inl rfl)) (fun _ => rfl) (fun _ => rfl) fun _ => rfl
  · rw [List.map_map]
    refine congrArg AV.lst (List.map_congr_left fun k hk => ?_)
    show AV.tup [.str (sb false), .str (nmO dns k)] = .tup [.str (sb false), .str (nm1 dns os (os.idxOf k))]
    rw [nn k (List.mem_range.mp hk)]
theorem law12 (H : TT c) (hm : m ≤ 8) (hh : 0 ≤ hd ∧ hd ≤ 3) (h48 : ∀ x ∈ dns, x < 48) (hp : os.Perm (List.range m))
    (L : LaidAll 60 false ((List.range m).map fun v => os.getD v 0) [] [] rows2 (rows1.map fun R => R.map fun e => (e.1, os.getD e.2 0))) (l1 : rows1.length = rows2.length) (l2 : rows1.length ≤ m) (l3 : ∀ R ∈ rows2, R.length ≤ m ∧ ∀ e ∈ R, e.2 < m) :
    StR c (n + 4) wS (ith wB 12) (r11 xs m hd dns os rows1 rows2) (σ2 w cs u dns os) .nxt (r12 xs m hd dns os rows1 rows2) (σ2 w cs u dns os) := by
  have hl : os.length = m := by rw [hp.length_eq, List.length_range]
  rw [← hl, range_getD] at L
  have cl := call_laid (n := n) (σ := σ2 w cs u dns os) (vers := [(1, u)]) (cm := .mref 1) (hd := hd) H (key2_ok H hm h48) (show 60 ≤ 60 from Nat.le_refl 60) (fun p hp => by cases List.mem_singleton.mp hp; exact ⟨_, rfl, rfl⟩) (.inr ⟨1, u, rfl, rfl, rfl⟩) L (fun w hw => List.mem_range.mp (hp.mem_iff.mp hw)) (by exact Z370 hl hm) (fun v => nm_len _ _) (hd_lim hh) ⟨by exact Z371 l1 l2 hm, fun R hR => Nat.le_trans (l3 R hR).1 (by exact Z363 hm)⟩ lo2
  rw [show (rows1.map fun R => R.map fun e => (e.1, os.getD e.2 0)).map (fun R => AV.lst (R.map (P (nmO dns)))) = rows1.map fun R => .lst (R.map (P (nm1 dns os))) by
    rw [List.map_map]
    refine List.map_congr_left fun R hR => ?_
    show AV.lst ((R.map _).map _) = _
    rw [List.map_map]; rfl] at cl
  exact .assign (.call (.gl H rfl rfl) (.cons (.nl rfl rfl) (.cons (.lam H.F.T rfl (fun x hx => by
    have := List.all_eq_true.mp (show ((_ : List (Str × NameKind)).all fun p => !(p.2 == .free)) = true from rfl) x hx
    simpa using this) fun _ => rfl) (.cons .bool (.cons (.nl rfl rfl) .nil fun _ => rfl) fun _ => rfl) fun _ => rfl) fun _ => rfl) .nil cl H.f159.keep (fun _ => rfl) (fun _ => rfl) fun _ => ⟨rfl, rfl⟩) (.name (.inl rfl)) (fun _ => rfl) (fun _ => rfl) fun _ => rfl
theorem lst_ne {l : List AV} : ∀ F μ h x, VR F μ h (.lst l) x → x ≠ .none := fun F μ h x r => by obtain ⟨a, vs, rfl, _⟩ := r.lst_inv; exact fun q => nomatch q
theorem rv_dat {nm : Nat → Str} {rows : List (List Pc)} {k : Nat} : Dat2 c σ (k + 3) (rv nm rows) (rv nm rows) := .same .lst .lst fun x hx => by
  obtain ⟨R, _, rfl⟩ := List.mem_map.mp hx
  exact .same .lst .lst fun y hy => by obtain ⟨e, _, rfl⟩ := List.mem_map.mp hy; exact P_dat
theorem law13 : StR c n wS (ith wB 13) (r12 xs m hd dns os rows1 rows2) σ .nxt (r12 xs m hd dns os rows1 rows2) σ :=
  .if (k := false) (.boolOn (k := false) (.cmp (.nl rfl rfl) .none (.isNone lst_ne) rfl) (.inr ⟨rfl, rfl⟩) (.boolOn (k := false) (.cmp (.nl rfl rfl) .none (.isNone lst_ne) rfl) (.inr ⟨rfl, rfl⟩)
    (.boolOn (k := false) (.cmp (.sub (.nl rfl rfl) .int (.seq .lst rfl rfl)) (.sub (.nl rfl rfl) .int (.seq .lst rfl rfl)) (.neSame rv_dat) rfl) (.inr ⟨rfl, rfl⟩) (.boolOn (k := false) (.cmp (.sub (.nl rfl rfl) .int (.seq .lst rfl rfl)) (.sub (.nl rfl rfl) .int (.seq .lst rfl rfl)) (.neSame rv_dat) rfl) (.inr ⟨rfl, rfl⟩) .boolEnd)))) .nil
end
end Mine
namespace Mine
open PySem PySem.Calls PyProof.Rows PySem.W
theorem idx_cast {k : Nat} : ∀ {l : List Nat}, (l.map Int.ofNat).idxOf (k : Int) = l.idxOf k
  | [] => rfl
  | x :: l => by
    rw [List.map_cons, List.idxOf_cons, List.idxOf_cons, idx_cast (l := l)]
    have : (Int.ofNat x == (k : Int)) = (x == k) := by
      by_cases h : x = k
      · subst h; simp
      · rw [beq_eq_false_iff_ne.mpr h, beq_eq_false_iff_ne]; exact fun q => h (Int.ofNat.inj q)
    rw [this]
theorem occ_ok : ∀ k, k < 8 → Builtin.Str.occurrences (sMk [97, 98, 99, 100, 101, 102, 103, 104]) (lt k) 0 (sMk [97, 98, 99, 100, 101, 102, 103, 104]).length 1 = [k] := by decide +kernel
section
variable {c : Cx} {n : Nat} {xs : List Int} {dns os : List Nat} {m w u : Nat} {hd : Int} {cs : List Int} {σ : Sto} {rows1 rows2 : List (List Pc)}
theorem call_idx {k : Nat} (hk : k ∈ os) : CallR c n (.val (.builtin "list.index")) [.lst (os.map ai), ai k] [] σ (ai (os.idxOf k)) σ := by
  have h := CallR.lindex (c := c) (n := n) (σ := σ) (a := .lst (os.map ai)) (ns := os.map Int.ofNat) (k := k) (by rw [List.map_map]; exact .lst) (List.mem_map_of_mem hk)
  rwa [idx_cast] at h
noncomputable abbrev rkV (rows : List (List Pc)) : AV := .lst (rows.map fun R => .lst ((R.map (·.2)).map ai))
noncomputable abbrev r14 (m : Nat) (dns os : List Nat) (rows1 rows2 : List (List Pc)) : Ro := [("comers", cmV dns m), ("order", .lst (os.map ai)), ("first", .lst [rv (nm1 dns os) rows1, rv (nmO dns) rows2]), ("second", .lst [rv (nmO dns) rows2, rv (nm1 dns os) rows1]), ("count", ai m), ("ranks", rkV rows1)]
theorem law14 (H : TT c) (hm : m ≤ 8) (h48 : ∀ x ∈ dns, x < 48) (hp : os.Perm (List.range m)) (l1 : rows1.length ≤ m) (l2 : ∀ R ∈ rows1, R.length ≤ m ∧ ∀ e ∈ R, e.2 < m) (lo : LoSto σ.length σ) :
    StR c (n + 1) wS (ith wB 14) (r12 xs m hd dns os rows1 rows2) σ .nxt (r14 m dns os rows1 rows2) σ := by
  have I := inv2 hp
  refine .out (ρ1 := put "ranks" (rkV rows1) (r12 xs m hd dns os rows1 rows2)) ⟨rfl, rfl, rfl, rfl, rfl, rfl, trivial⟩ (.to (.asgn1 (l := rows1) (gx := fun R => .lst (R.map (P (nm1 dns os)))) (ρ0 := [("order", .lst (os.map ai))]) (vers := []) (f := fun R => some (.lst ((R.map (·.2)).map ai))) rfl ⟨rfl, rfl, trivial⟩ rfl (fun _ _ => rfl) (.seq (.sub (.nl rfl rfl) .int (.seq .lst rfl rfl)) (.inl ⟨rfl, rfl⟩)) (fun _ h => nomatch h) (Nat.le_trans l1 (Nat.le_trans hm (by decide))) (fun R hR w2 acc hacc => ?_) lo rfl rfl rfl) (congrArg (fun q => put "ranks" (AV.lst q) _) fm_map) rfl)
  refine ⟨_, .name (.inl rfl), ⟨rfl, trivial⟩, .inr ⟨_, rfl, lst_pl fun y hy => ?_, .inl ⟨rfl, rfl⟩, .eq (.cmp1 (l := R) (gx := P (nm1 dns os)) (ρ0 := [("order", .lst (os.map ai))]) (vers := []) (f := fun e => some (ai e.2)) rfl ⟨rfl, rfl, trivial⟩ rfl (fun _ _ => rfl) (.seq (.nl rfl rfl) (.inl ⟨rfl, rfl⟩)) (fun _ h => nomatch h) (Nat.le_trans (l2 R hR).1 (Nat.le_trans hm (by decide))) (fun e he w3 acc3 hacc3 => ?_) (lo.app hacc)) (by rw [fm_map, List.map_map]; rfl)⟩⟩
  · obtain ⟨e, _, rfl⟩ := List.mem_map.mp hy; exact .int
  · have he := (l2 R hR).2 e he
    have hk : os.getD e.2 0 < m := os_mem hp he
    obtain ⟨q1, q2, q3, q4, q5⟩ := nm_cut _ (dn_lt (k := os.getD e.2 0) h48) _ (Nat.lt_of_lt_of_le hk hm)
    have ci := call_idx (c := c) (n := n + 1) (σ := σ ++ [(⟨w2, none, acc⟩ : MO)] ++ [(⟨w3, none, acc3⟩ : MO)]) (hp.mem_iff.mpr (List.mem_range.mpr hk))
    rw [(I.o e.2 he).2] at ci
    exact ⟨_, .tup (.cons (.name (.inl rfl)) (.cons (.name (.inl rfl)) .nil fun _ => rfl) fun _ => rfl) fun _ => ⟨rfl, rfl⟩, ⟨rfl, trivial⟩, .inr ⟨_, rfl, .int, .inl ⟨rfl, rfl⟩, .meth (.nf rfl rfl) (.seq .lst PySem.F.slot_list_index rfl) (.cons (.meth (.str (by decide +kernel)) (.str PySem.F.slot_str_index rfl) (.cons (.sub (.nl rfl rfl) (.neg .int) (.str q2 q3 (lim8 q4))) .nil fun _ => rfl) (.sindex (occ_ok _ (Nat.lt_of_lt_of_le hk hm))) .bi (fun _ => rfl) fun _ => rfl) .nil fun _ => rfl) ci .bi (fun _ => rfl) fun _ => rfl⟩⟩
noncomputable abbrev r16 (m : Nat) (dns os : List Nat) (rows1 rows2 : List (List Pc)) : Ro := put "came" (.lst (((List.range m).map fun k => os.idxOf k).map ai)) (r14 m dns os rows1 rows2)
theorem law16 (H : TT c) (hm : m ≤ 8) (hp : os.Perm (List.range m)) (lo : LoSto σ.length σ) : StR c n wS (ith wB 16) (r14 m dns os rows1 rows2) σ .nxt (r16 m dns os rows1 rows2) σ := by
  refine .to (.asgn1 (l := List.range m) (gx := ai) (ρ0 := [("order", .lst (os.map ai))]) (vers := []) (f := fun k => some (ai (os.idxOf k))) rfl ⟨rfl, rfl, trivial⟩ rfl (fun _ _ => rfl) (.range (m := m) (.gl H rfl rfl) (.nl rfl rfl) (by rw [lim]; exact Z365 hm) (fun _ => rfl) fun _ => rfl) (fun _ h => nomatch h) (by rw [List.length_range, lim]; exact Z365 hm) (fun k hk w2 acc hacc => ?_) lo rfl rfl rfl) (by rw [fm_map, r16, List.map_map]; rfl) rfl
  exact ⟨_, .name (.inl rfl), ⟨rfl, trivial⟩, .inr ⟨_, rfl, .int, .inl ⟨rfl, rfl⟩, .meth (.nf rfl rfl) (.seq .lst PySem.F.slot_list_index rfl) (.cons (.nl rfl rfl) .nil fun _ => rfl) (call_idx (hp.mem_iff.mpr hk)) .bi (fun _ => rfl) fun _ => rfl⟩⟩
end
end Mine
namespace Mine
open PySem PySem.Calls PyProof.Rows PySem.W
section
variable {c : Cx} {n : Nat} {xs : List Int} {dns os : List Nat} {m w u len : Nat} {hd : Int} {cs : List Int} {σ : Sto} {rows1 rows2 : List (List Pc)}
noncomputable abbrev rkR (R : List Pc) : List Nat := R.map (·.2)
theorem rk_getD {R : List Pc} {i : Nat} {e : Pc} (h : R[i]? = some e) : (rkR R).getD i 0 = e.2 := by rw [List.getD_eq_getElem?_getD, List.getElem?_map, h]; rfl
theorem above_ok (H : TT c) (S : Stair m rows1 len) (l2 : ∀ R ∈ rows1, R.length ≤ m) (hm : m ≤ 8) {r : Nat} {R : List Pc} (hR : rows1[r]? = some R) : ∃ A : List Nat, A.length = R.length ∧ (∀ i, i < R.length → A.getD i 0 ≤ (rkR R).getD i 0) ∧
    StR c n wS (ith (forB (ith wB 15)) 0) (put "row" (.lst ((rkR R).map ai)) (put "r" (ai r) (r14 m dns os rows1 rows2))) σ .nxt (put "above" (.lst (A.map ai)) (put "row" (.lst ((rkR R).map ai)) (put "r" (ai r) (r14 m dns os rows1 rows2)))) σ := by
  cases r with
  | zero => exact ⟨rkR R, List.length_map .., fun i _ => Nat.le_refl _, .assign (.ifExp (k := false) (.eq (.cmp (.nl rfl rfl) .int .gt rfl) (decide_eq_false (by decide))) (.nc rfl rfl)) (.name (.inr rfl)) (fun _ => rfl) (fun _ => rfl) fun _ => rfl⟩
  | succ r =>
    obtain ⟨R', hR'⟩ : ∃ R', rows1[r]? = some R' := ⟨_, List.getElem?_eq_getElem (Nat.lt_of_succ_lt (List.getElem?_eq_some_iff.mp hR).1)⟩
    obtain ⟨n1, n2⟩ := S.next r R R' hR' hR
    have hl := l2 R' (List.mem_of_getElem? hR')
    have ll : CallR c n (.val (.builtin "len")) [.lst ((rkR R).map ai)] [] σ (ai ((rkR R).map ai).length) σ := .len .lst
    rw [List.length_map, List.length_map] at ll
    refine ⟨((rkR R').drop 1).take R.length, by rw [List.length_take, List.length_drop, List.length_map]; exact Z446 n1, fun i hi => ?_, .assign (.ifExp (k := true) (.eq (.cmp (.nl rfl rfl) .int .gt rfl) (decide_eq_true (by lia))) (.eq (.slice (o3 := none) (.sub (.nl rfl rfl) (.bin (.nl rfl rfl) .int .sub) (.seq .lst (j := r) ?_ (by rw [List.getElem?_map, hR']; rfl))) .int (.bin (.call (.gl H rfl rfl) (.cons (.nc rfl rfl) .nil fun _ => rfl) .nil ll .bi (fun _ => rfl) (fun _ => rfl) fun _ => ⟨rfl, rfl⟩) .int .add) ⟨rfl, rfl⟩ (.seq .lst (.inr ⟨_, rfl, rfl⟩) (.inr ⟨_, rfl, rfl⟩))) ?_)) (.name (.inr rfl)) (fun _ => rfl) (fun _ => rfl) fun _ => rfl⟩
    · obtain ⟨e, he⟩ : ∃ e, R[i]? = some e := ⟨_, List.getElem?_eq_getElem hi⟩
      obtain ⟨e', he'⟩ : ∃ e', R'[i + 1]? = some e' := ⟨_, List.getElem?_eq_getElem (by exact Z372 hi n1)⟩
      rw [rk_getD he, List.getD_eq_getElem?_getD, List.getElem?_take, if_pos hi, List.getElem?_drop, Nat.add_comm, List.getElem?_map, he']
      exact n2 i e e' he he'
    · rw [show (((r + 1 : Nat) : Int) - 1) = ((r : Nat) : Int) by lia]; exact idx_nat
    · refine congrArg AV.lst ?_
      have h1 : clipAt ((rkR R').map ai).length 1 = 1 := by
        rw [show (1 : Int) = ((1 : Nat) : Int) from rfl, clipAt_nat, List.length_map, List.length_map]; exact Z447 n1
      have h2 : clipAt ((rkR R').map ai).length ((R.length : Int) + 1) = R.length + 1 := by
        rw [show ((R.length : Int) + 1) = ((R.length + 1 : Nat) : Int) from rfl, clipAt_nat, List.length_map, List.length_map]; exact Nat.le_antisymm (Nat.min_le_left _ _) (Nat.le_of_eq (Nat.min_eq_left n1).symm)
      rw [h1, h2, cutL, Nat.add_sub_cancel, List.map_take, List.map_drop]
theorem sort_same (S : Stair m rows1 len) (hm : m ≤ 8) {R : List Pc} (hR : R ∈ rows1) (hl : R.length ≤ m) : CallR c n (.val (.builtin "sorted")) [.lst ((rkR R).map ai)] [] σ (.lst ((rkR R).map ai)) σ := by
  obtain ⟨r, hr⟩ := List.getElem?_of_mem hR
  have e : (rkR R).map ai = ((rkR R).map Int.ofNat).map AV.int := by generalize rkR R = l; rw [List.map_map]; rfl
  have := CallR.sorted (c := c) (n := n) (σ := σ) (a := .lst ((rkR R).map ai)) (ns := (rkR R).map Int.ofNat) (by rw [e]; exact .lst) (by
    rw [List.pairwise_map, List.pairwise_map]
    exact (S.row r R hr).1.imp fun h => Int.ofNat_le.mpr (Nat.le_of_lt h)) (by rw [List.length_map, List.length_map]; exact Z373 hl hm)
  rwa [← e] at this
theorem check15 (H : TT c) (S : Stair m rows1 len) (hm : m ≤ 8) (lo : LoSto σ.length σ) {R : List Pc} (mR : R ∈ rows1) (hl : R.length ≤ m) {A : List Nat} (a1 : A.length = R.length) (a2 : ∀ i, i < R.length → A.getD i 0 ≤ (rkR R).getD i 0) {ρ : Ro} (e1 : ρ.lookup ("above" : Str) = some (.lst (A.map ai))) (e2 : ρ.lookup ("row" : Str) = some (.lst ((rkR R).map ai))) :
    StR c n wS (ith (forB (ith wB 15)) 1) ρ σ .nxt ρ σ := by
  have la : CallR c n (.val (.builtin "len")) [.lst (A.map ai)] [] σ (ai (A.map ai).length) σ := .len .lst
  have lr : CallR c n (.val (.builtin "len")) [.lst ((rkR R).map ai)] [] σ (ai ((rkR R).map ai).length) σ := .len .lst
  have so := sort_same (c := c) (n := n) (σ := σ) S hm mR hl
  have ll : (rkR R).length = R.length := List.length_map ..
  revert so lr la a2 e2
  generalize rkR R = B at ll ⊢
  intro a2 e2 la lr so
  rw [List.length_map, a1] at la
  rw [List.length_map, ll] at lr
  refine .if (k := false) (.boolOn (k := false) (.cmp (.nc rfl e2) (.call (.gl H rfl rfl) (.cons (.nc rfl e2) .nil fun _ => rfl) .nil so .bi (fun _ => rfl) (fun _ => rfl) fun _ => ⟨rfl, rfl⟩) (.neSame (.same .lst .lst fun y hy => by obtain ⟨e, _, rfl⟩ := List.mem_map.mp hy; exact .int)) rfl) (.inr ⟨rfl, rfl⟩)
    (.boolOn (k := false) (.eq (.cmp (.call (.gl H rfl rfl) (.cons (.nc rfl e1) .nil fun _ => rfl) .nil la .bi (fun _ => rfl) (fun _ => rfl) fun _ => ⟨rfl, rfl⟩) (.call (.gl H rfl rfl) (.cons (.nc rfl e2) .nil fun _ => rfl) .nil lr .bi (fun _ => rfl) (fun _ => rfl) fun _ => ⟨rfl, rfl⟩) .lt rfl) (decide_eq_false (by lia))) (.inr ⟨rfl, rfl⟩)
      (.boolOn (k := false) (.cmp (.eq (.cmp1 (l := List.range R.length) (gx := ai) (ρ0 := [("above", .lst (A.map ai)), ("row", .lst (B.map ai))]) (vers := []) (f := fun _ => none) rfl ⟨rfl, e1, rfl, e2, trivial⟩ rfl (fun _ _ => rfl) (.range (m := R.length) (.gl H rfl rfl) (.call (.gl H rfl rfl) (.cons (.nc rfl e2) .nil fun _ => rfl) .nil lr .bi (fun _ => rfl) (fun _ => rfl) fun _ => ⟨rfl, rfl⟩) (by rw [lim]; exact Z374 hl hm) (fun _ => rfl) fun _ => rfl) (fun _ h => nomatch h) (by rw [List.length_range, lim]; exact Z374 hl hm) (fun k hk w2 acc hacc => ?_) lo) (congrArg AV.lst (List.filterMap_eq_nil_iff.mpr fun _ _ => rfl)))
        (.lst .nil (Nat.zero_le _)) (.neSame (.same .lst .lst fun y hy => nomatch hy)) rfl) (.inr ⟨rfl, rfl⟩) .boolEnd))) .nil
  have hk := List.mem_range.mp hk
  have := a2 k hk
  exact ⟨_, .name (.inl rfl), ⟨rfl, rfl, trivial⟩, .inl ⟨rfl, .inr ⟨_, rfl, .eq (.cmp (.sub (.nf rfl rfl) (.nl rfl rfl) (.seq .lst idx_nat (map_getD (by exact Z15 hk a1)))) (.sub (.nf rfl rfl) (.nl rfl rfl) (.seq .lst idx_nat (map_getD (by exact Z15 hk ll)))) .gt rfl) (decide_eq_false (by lia))⟩⟩⟩
theorem law15_loop (H : TT c) (S : Stair m rows1 len) (l2 : ∀ R ∈ rows1, R.length ≤ m) (hm : m ≤ 8) (lo : LoSto σ.length σ) : ∀ (l : List (List Pc)) (t : Nat), (∀ i, rows1[t + i]? = l[i]?) →
    LoopB c n wS (forT (ith wB 15)) (forB (ith wB 15)) (r14 m dns os rows1 rows2) σ (((l.map fun R => AV.lst ((rkR R).map ai)).zipIdx t).map fun p => .tup [.int p.2, p.1]) [] .nxt (r14 m dns os rows1 rows2) σ
  | [], t, h => .nil
  | R :: l, t, h => by
    have hR : rows1[t]? = some R := h 0
    have mR := List.mem_of_getElem? hR
    obtain ⟨A, a1, a2, a3⟩ := above_ok (n := n) (dns := dns) (os := os) (rows2 := rows2) (σ := σ) H S l2 hm hR
    exact .cons (ρ1 := put "row" (.lst ((rkR R).map ai)) (put "r" (ai t) (r14 m dns os rows1 rows2))) (fl1 := .nxt) (.tup (.cons (.name (.inl rfl)) (.cons (.name (.inr rfl)) .nil fun _ => rfl) fun _ => rfl) fun _ => ⟨rfl, rfl⟩)
      (.cons a3 (.cons (check15 H S hm lo mR (l2 R mR) a1 a2 rfl rfl) .nil)) (.inl rfl) (fun _ h => nomatch h) (.weak (ρ' := r14 m dns os rows1 rows2) ⟨rfl, rfl, rfl, rfl, rfl, rfl, trivial⟩ (law15_loop H S l2 hm lo l (t + 1) fun i => by rw [Nat.add_assoc, Nat.add_comm 1]; exact h (i + 1)))
theorem law15 (H : TT c) (S : Stair m rows1 len) (l2 : ∀ R ∈ rows1, R.length ≤ m) (hm : m ≤ 8) (lo : LoSto σ.length σ) : StR c n wS (ith wB 15) (r14 m dns os rows1 rows2) σ .nxt (r14 m dns os rows1 rows2) σ :=
  .for (.enum (.gl H rfl rfl) (.nl rfl rfl) (.inl ⟨rfl, rfl⟩) (fun _ => rfl) fun _ => rfl) (law15_loop H S l2 hm lo rows1 0 fun i => by rw [Nat.zero_add]) fun _ _ => rfl
end
end Mine
namespace Mine
open PySem PySem.Calls PyProof.Rows PySem.W
theorem rev_getD {l : List Nat} {m k : Nat} (hl : l.length = m) (hk : k < m) : l.reverse.getD k 0 = l.getD (m - 1 - k) 0 := by
  rw [List.getD_eq_getElem?_getD, List.getElem?_reverse (by exact Z15 hk hl), hl, ← List.getD_eq_getElem?_getD]
theorem rmap_getD {f : Nat → Nat} {m k : Nat} (hk : k < m) : ((List.range m).map f).getD k 0 = f k := by
  rw [List.getD_eq_getElem?_getD, List.getElem?_map, List.getElem?_range hk]; rfl
theorem spec_f {came : Nat → Nat} {m : Nat} {fs : List Nat} (hl : fs.length = m) (h : ∀ k, k < fs.length → FallsOf ((List.range m).map came) fs k) : FSpec came m false fun k => fs.getD k 0 := fun k hk => by
  obtain ⟨x, e, a, b⟩ := h k (by exact Z15 hk hl)
  rw [rmap_getD hk] at a b
  exact ⟨x, e, a.imp id fun ⟨j, j1, j2, j3⟩ => ⟨j, by exact Z16 j1 hk, j1, by rwa [rmap_getD (by exact Z16 j1 hk)] at j2, j3⟩, fun j hj hb hc => b j hb (by rw [rmap_getD hj]; exact hc)⟩
theorem spec_r {came : Nat → Nat} {m : Nat} {gs : List Nat} (hl : gs.length = m) (h : ∀ k, k < gs.length → FallsOf ((List.range m).map came).reverse gs k) : FSpec came m true fun k => gs.reverse.getD k 0 := fun k hk => by
  have hn : ((List.range m).map came).length = m := by rw [List.length_map, List.length_range]
  have g : ∀ j, j < m → ((List.range m).map came).reverse.getD (m - 1 - j) 0 = came j := fun j hj => by
    rw [rev_getD hn (by exact Z375 hj), rmap_getD (by exact Z376 hj)]; congr 1; exact Z377 hj
  obtain ⟨x, e, a, b⟩ := h (m - 1 - k) (by exact Z378 hk hl)
  rw [g k hk] at a b
  exact ⟨x, (rev_getD hl hk).trans e, a.imp id fun ⟨j, j1, j2, j3⟩ => ⟨m - 1 - j, by exact Z379 hk, show k < m - 1 - j by exact Z380 hk j1, by
      have := g (m - 1 - j) (by exact Z379 hk)
      rw [show m - 1 - (m - 1 - j) = j by exact Z381 j1] at this
      rw [this] at j2; exact j2, by
      show x = gs.reverse.getD (m - 1 - j) 0
      rw [rev_getD hl (by exact Z379 hk), show m - 1 - (m - 1 - j) = j by exact Z381 j1]; exact j3⟩, fun j hj hb hc => by
    have hb : k < j := hb
    have := b (m - 1 - j) (by exact Z382 hj hb) (by rw [g j hj]; exact hc)
    show gs.reverse.getD j 0 ≤ x
    rw [rev_getD hl hj]; exact this⟩
section
variable {c : Cx} {n : Nat} {xs : List Int} {dns os fs gs : List Nat} {m w u len : Nat} {hd : Int} {cs : List Int} {σ : Sto} {rows1 rows2 : List (List Pc)}
noncomputable abbrev r17 (m : Nat) (dns os : List Nat) (rows1 rows2 : List (List Pc)) (fs gs : List Nat) : Ro := put "rises" (.lst (gs.map ai)) (put "falls" (.lst (fs.map ai)) (r16 m dns os rows1 rows2))
theorem law17 (H : TT c) (hm : m ≤ 8) (lo : LoSto σ.length σ) : ∃ fs gs : List Nat, fs.length = m ∧ gs.length = m ∧ FSpec (fun k => os.idxOf k) m false (fun k => fs.getD k 0) ∧ FSpec (fun k => os.idxOf k) m true (fun k => gs.getD k 0) ∧
    StR c (n + 1) wS (ith wB 17) (r16 m dns os rows1 rows2) σ .nxt (r17 m dns os rows1 rows2 fs gs) σ := by
  have hn : ((List.range m).map fun k => os.idxOf k).length = m := by rw [List.length_map, List.length_range]
  obtain ⟨fs, f1, f2, f3⟩ := call_falls (n := n) (ns := (List.range m).map fun k => os.idxOf k) H (by exact Z383 hn hm) lo
  obtain ⟨gs, g1, g2, g3⟩ := call_falls (n := n) (ns := ((List.range m).map fun k => os.idxOf k).reverse) H (by rw [List.length_reverse]; exact Z383 hn hm) lo
  rw [List.length_reverse] at g1
  rw [List.map_reverse] at g3
  refine ⟨fs, gs.reverse, by exact Z384 f1 hn, by rw [List.length_reverse]; exact Z384 g1 hn, spec_f (by exact Z384 f1 hn) f2, spec_r (by exact Z384 g1 hn) g2, .assignT (x := "falls") (.tup (.cons (.call (.gl H rfl rfl) (.cons (.nl rfl rfl) .nil fun _ => rfl) .nil f3 H.f164.keep (fun _ => rfl) (fun _ => rfl) fun _ => ⟨rfl, rfl⟩) (.cons (.eq (.slice (o1 := none) (o2 := none) (o3 := some _) (.call (.gl H rfl rfl) (.cons (.slice (o1 := none) (o2 := none) (o3 := some _) (.nl rfl rfl) ⟨rfl, rfl⟩ ⟨rfl, rfl⟩ (EvE.neg .int) .rev) .nil fun _ => rfl) .nil g3 H.f164.keep (fun _ => rfl) (fun _ => rfl) fun _ => ⟨rfl, rfl⟩) ⟨rfl, rfl⟩ ⟨rfl, rfl⟩ (EvE.neg .int) .rev) (congrArg AV.lst List.map_reverse.symm)) .nil fun _ => rfl) fun _ => rfl) lim2)
    (.tup (.cons (.name (.inr rfl)) (.cons (.name (.inr rfl)) .nil fun _ => rfl) fun _ => rfl) fun _ => ⟨rfl, rfl⟩) (.inl ⟨rfl, .head _⟩) fun _ => rfl⟩
theorem law18 (H : TT c) (h0 : 0 < m) (hm : m ≤ 8) (hp : os.Perm (List.range m)) (lf : fs.length = m) (lg : gs.length = m) (hf : FSpec (fun k => os.idxOf k) m false fun k => fs.getD k 0) (hg : FSpec (fun k => os.idxOf k) m true fun k => gs.getD k 0) (S : Stair m rows1 (nR (sA false (fun v => os.getD v 0) m) m 0)) (lo : LoSto σ.length σ) :
    StR c n wS (ith wB 18) (r17 m dns os rows1 rows2 fs gs) σ .nxt (r17 m dns os rows1 rows2 fs gs) σ := by
  obtain ⟨R, hR, hl⟩ := S.first h0
  have I := inv2 hp
  rw [first_len I h0 hm] at hl
  obtain ⟨⟨k0, k1, k2⟩, kk⟩ := longest I hf hg h0
  have f1 : ∀ k, k < m → 1 ≤ fs.getD k 0 := fun k hk => by obtain ⟨x, e, _⟩ := hf k hk; have e : fs.getD k 0 = 1 + x := e; exact Z207 e
  obtain ⟨M, m1, m2, m3⟩ := call_max (c := c) (n := n) (σ := σ) (a := .lst (((List.range m).map fun k => fs.getD k 0 + gs.getD k 0 - 1).map ai)) (ns := (List.range m).map fun k => fs.getD k 0 + gs.getD k 0 - 1) .lst (by rw [List.length_map, List.length_range]; exact h0)
  have eM : M = R.length := by
    obtain ⟨k, hk, e⟩ := List.mem_map.mp m1
    have a1 := kk k (List.mem_range.mp hk)
    have a2 := m2 _ (List.mem_map.mpr ⟨k0, List.mem_range.mpr k1, rfl⟩)
    have e : fs.getD k 0 + gs.getD k 0 - 1 = M := e
    have k2 : fs.getD k0 0 + gs.getD k0 0 = _ := k2
    have a1 : fs.getD k 0 + gs.getD k 0 ≤ _ := a1
    exact Z448 hl (by assumption) (by assumption) (by assumption) a2
  have ll : CallR c n (.val (.builtin "len")) [.lst ((rkR R).map ai)] [] σ (ai ((rkR R).map ai).length) σ := .len .lst
  rw [List.length_map, List.length_map, ← eM] at ll
  refine .if (k := false) (.eq (.cmp (.call (.gl H rfl rfl) (.cons (.sub (.nl rfl rfl) .int (.seq .lst (j := 0) rfl (by rw [List.getElem?_map, hR]; rfl))) .nil fun _ => rfl) .nil ll .bi (fun _ => rfl) (fun _ => rfl) fun _ => ⟨rfl, rfl⟩) (.call (.gl H rfl rfl) (.cons (.eq (.cmp1 (l := List.range m) (gx := ai) (ρ0 := [("falls", .lst (fs.map ai)), ("rises", .lst (gs.map ai))]) (vers := []) (f := fun k => some (ai (fs.getD k 0 + gs.getD k 0 - 1))) rfl ⟨rfl, rfl, rfl, rfl, trivial⟩ rfl (fun _ _ => rfl) (.range (m := m) (.gl H rfl rfl) (.nl rfl rfl) (by rw [lim]; exact Z365 hm) (fun _ => rfl) fun _ => rfl) (fun _ h => nomatch h) (by rw [List.length_range, lim]; exact Z365 hm) (fun k hk w2 acc hacc => ?_) lo) (by rw [fm_map, List.map_map]; rfl)) .nil fun _ => rfl) .nil m3 .bi (fun _ => rfl) (fun _ => rfl) fun _ => ⟨rfl, rfl⟩) .neInt rfl) (by simp)) .nil
  have hk := List.mem_range.mp hk
  have := f1 k hk
  exact ⟨_, .name (.inl rfl), ⟨rfl, rfl, trivial⟩, .inr ⟨_, rfl, .int, .inl ⟨rfl, rfl⟩, .eq (.bin (.bin (.sub (.nf rfl rfl) (.nl rfl rfl) (.seq .lst idx_nat (map_getD (by exact Z15 hk lf)))) (.sub (.nf rfl rfl) (.nl rfl rfl) (.seq .lst idx_nat (map_getD (by exact Z15 hk lg)))) .add) .int .sub) (congrArg AV.int (by lia))⟩⟩
end
end Mine
namespace Mine
open PySem PySem.Calls PyProof.Rows PySem.W
noncomputable def jx (b i : Nat) : Nat := if i = 0 then b else b + 1 + i
theorem jx_inj {b i j : Nat} (h : jx b i = jx b j) : i = j := by unfold jx at h; split at h <;> split at h <;> (first | exact Z385 (by assumption) (by assumption) | exact Z386 h | exact Z387 h | exact Z388 h)
theorem jx_ne {b i : Nat} : jx b i ≠ b + 1 := by unfold jx; split <;> (first | exact Z281 | exact Z389 (by assumption))
theorem jx_ge {b i : Nat} : b ≤ jx b i := by unfold jx; split <;> (first | exact Z390 | exact Z391)
structure RS (b : Nat) (σ : Sto) (nm : Nat → Str) (rd : List (List Pc)) : Prop where
  ne : rd ≠ []
  len : σ.length = b + 1 + rd.length
  lo : LoSto σ.length σ
  rl : ∃ v, σ[b + 1]? = some ⟨v, none, (List.range rd.length).map fun i => .mref (jx b i)⟩
  it : ∀ (i : Nat) (R : List Pc), rd[i]? = some R → ∃ v, σ[jx b i]? = some ⟨v, none, R.map (P nm)⟩
section
variable {c : Cx} {n b : Nat} {σ : Sto} {nm : Nat → Str} {rd : List (List Pc)} {R : List Pc} {e : Pc}
theorem RS.push (h : RS b σ nm (rd ++ [R])) : ∃ o : MO, σ[jx b rd.length]? = some o ∧ o.acc = none ∧ o.items = R.map (P nm) ∧ RS b (chg σ (jx b rd.length) o ((R ++ [e]).map (P nm))) nm (rd ++ [R ++ [e]]) := by
  obtain ⟨v, hv⟩ := h.it rd.length R get_end'
  refine ⟨_, hv, rfl, rfl, ?_⟩
  obtain ⟨v1, h1⟩ := h.rl
  refine ⟨by simp, by rw [chg_len, h.len]; simp, by rw [chg_len]; exact chg_lo h.lo fun y hy => (map_pl y hy).lo _, ⟨v1, ?_⟩, fun i R' e1 => ?_⟩
  · rw [chg_ne jx_ne, h1]; simp
  · by_cases z : i = rd.length
    · subst z
      have : R' = R ++ [e] := by rw [get_end'] at e1; exact (Option.some.inj e1).symm
      subst this
      exact ⟨_, chg_same hv⟩
    · have hi := (List.getElem?_eq_some_iff.mp e1).1
      rw [List.length_append, List.length_singleton] at hi
      rw [List.getElem?_append_left (by exact Z115 hi z)] at e1
      obtain ⟨v2, h2⟩ := h.it i R' (by rw [List.getElem?_append_left (by exact Z115 hi z)]; exact e1)
      exact ⟨v2, by rw [chg_ne fun q => z (jx_inj q).symm]; exact h2⟩
theorem RS.grow (h : RS b σ nm rd) : ∃ o : MO, (σ ++ [(⟨0, none, []⟩ : MO)])[b + 1]? = some o ∧ o.acc = none ∧ o.items = ((List.range rd.length).map fun i => .mref (jx b i)) ∧ RS b (chg (σ ++ [⟨0, none, []⟩]) (b + 1) o (o.items ++ [.mref σ.length])) nm (rd ++ [[]]) := by
  obtain ⟨v1, h1⟩ := h.rl
  have hl := h.len
  have h0 : 0 < rd.length := List.length_pos_iff.mpr h.ne
  have h1' : (σ ++ [(⟨0, none, []⟩ : MO)])[b + 1]? = some ⟨v1, none, (List.range rd.length).map fun i => .mref (jx b i)⟩ := by rw [List.getElem?_append_left (by exact Z392 h0 hl)]; exact h1
  have jl : σ.length = jx b rd.length := by unfold jx; rw [if_neg (by exact Z393 h0)]; exact hl
  refine ⟨_, h1', rfl, rfl, by simp, by rw [chg_len]; simp [hl]; exact Z394, ?_, ⟨v1 + 1, ?_⟩, fun i R e1 => ?_⟩
  · rw [chg_len]
    refine chg_lo (h.lo.app fun _ q => nomatch q) fun y hy => ?_
    rcases List.mem_append.mp hy with hy | hy
    · obtain ⟨i, hi, rfl⟩ := List.mem_map.mp hy
      have hi := List.mem_range.mp hi
      exact .mref (by rw [List.length_append]; unfold jx; simp; split <;> (first | exact Z395 h0 hl | exact Z396 hi hl))
    · cases List.mem_singleton.mp hy
      exact .mref (by simp)
  · rw [chg_same h1', List.length_append, List.length_singleton, List.range_succ, List.map_append, jl]; rfl
  · rw [chg_ne fun q => jx_ne q.symm]
    by_cases z : i = rd.length
    · subst z
      rw [get_end'] at e1; cases e1
      exact ⟨0, by rw [← jl]; exact get_app⟩
    · have hi := (List.getElem?_eq_some_iff.mp e1).1
      rw [List.length_append, List.length_singleton] at hi
      rw [List.getElem?_append_left (by exact Z115 hi z)] at e1
      obtain ⟨v2, h2⟩ := h.it i R e1
      exact ⟨v2, by rw [List.getElem?_append_left (List.getElem?_eq_some_iff.mp h2).1]; exact h2⟩
theorem RS.dat (h : RS b σ nm (rd ++ [[]])) {k : Nat} : Dat2 c σ (k + 4) (.mref (b + 1)) (.lst ((rd.map fun R => .lst (R.map (P nm))) ++ [.lst []])) := by
  obtain ⟨v1, h1⟩ := h.rl
  refine .seq (.mref h1) .lst (by simp) fun i x y e1 e2 => ?_
  rw [List.getElem?_map] at e1
  have hi : i < (rd ++ [[]]).length := by
    have := (List.getElem?_eq_some_iff.mp e2).1
    simpa using this
  rw [List.getElem?_range hi] at e1; cases e1
  obtain ⟨v2, h2⟩ := h.it i _ (List.getElem?_eq_getElem hi)
  have : y = .lst (((rd ++ [[]])[i]).map (P nm)) := by
    have q : ((rd.map fun (R : List Pc) => AV.lst (R.map (P nm))) ++ [.lst []]) = (rd ++ [[]]).map fun (R : List Pc) => AV.lst (R.map (P nm)) := by rw [List.map_append]; rfl
    rw [q, List.getElem?_map, List.getElem?_eq_getElem hi] at e2
    exact (Option.some.inj e2).symm
  subst this
  exact .same (.mref h2) .lst fun y hy => by obtain ⟨e, _, rfl⟩ := List.mem_map.mp hy; exact P_dat
end
end Mine
namespace Mine
open PySem PySem.Calls PyProof.Rows PySem.W
noncomputable abbrev r20 (m : Nat) (dns os : List Nat) (rows1 rows2 : List (List Pc)) (b : Nat) : Ro := [("comers", cmV dns m), ("order", .lst (os.map ai)), ("first", .lst [rv (nm1 dns os) rows1, rv (nmO dns) rows2]), ("second", .lst [rv (nmO dns) rows2, rv (nm1 dns os) rows1]), ("ranks", rkV rows1), ("read", .mref (b + 1))]
noncomputable def iF : Stmt := ith (forB (ith wB 20)) 0
noncomputable def sym (e : Pc) : Int := 255 + if e.1 then (e.2 : Int) else -(e.2 : Int)
section
variable {c : Cx} {n b : Nat} {σ : Sto} {dns os : List Nat} {m : Nat} {rows1 rows2 rd : List (List Pc)} {R : List Pc} {e : Pc} {ρ : Ro}
theorem isT_is {sc : Scope} {l r : PySem.Expr} {p q : Bool} {pos : Pos} (h1 : EvE c n sc l ρ σ (.bool p) σ) (h2 : EvE c n sc r ρ σ (.bool q) σ) {k : Bool} (hk : (p == q) = k) (hm : behindInMarks .Is r = false) : IsT c n sc (.Compare l [.Is] [r] pos) ρ σ k σ := .eq (.cmp h1 h2 .isBool hm) hk
theorem sym_eq (e : Pc) : (if sym e - 255 < 0 then -(sym e - 255) else sym e - 255) = (e.2 : Int) := by
  unfold sym
  cases e.1
  · simp only [Bool.false_eq_true, if_false]; split <;> lia
  · simp only [if_true]; split <;> lia
theorem step_sym (H : TT c) (hm : m ≤ 8) (hp : os.Perm (List.range m)) (he : e.2 < m) (h0 : e.2 = 0 → e.1 = false) (h : RS b σ (nm1 dns os) (rd ++ [R])) (hl : R.length < 64)
    (e1 : ρ.lookup ("comers" : Str) = some (cmV dns m)) (e2 : ρ.lookup ("order" : Str) = some (.lst (os.map ai))) (e3 : ρ.lookup ("read" : Str) = some (.mref (b + 1))) (e4 : ρ.lookup ("symbol" : Str) = some (.int (sym e))) :
    ∃ σ', RS b σ' (nm1 dns os) (rd ++ [R ++ [e]]) ∧ StR c (n + 1) wS (ith (forB iF) 0) ρ σ .nxt ρ σ' := by
  obtain ⟨o, o1, o2, o3, o4⟩ := h.push (e := e)
  refine ⟨_, o4, ?_⟩
  obtain ⟨v1, h1⟩ := h.rl
  obtain ⟨v, acc, its⟩ := o
  cases o2
  have o3 : its = R.map (P (nm1 dns os)) := o3
  subst o3
  have hk := os_mem hp he
  have ll : os.length = m := by rw [hp.length_eq, List.length_range]
  have ne : sym e ≠ 0 := by unfold sym; cases e.1 <;> simp <;> lia
  have ge : decide (sym e ≥ 256) = e.1 := by
    unfold sym
    cases q : e.1
    · exact decide_eq_false (by simp; lia)
    · have : e.2 ≠ 0 := fun z => by rw [h0 z] at q; cases q
      exact decide_eq_true (by simp; lia)
  have ci := call_iseof (n := n) (i := sym e) H h.lo
  have cn := call_isnon (n := n) (i := sym e) H h.lo
  rw [show (sym e == 0) = false by simpa using ne] at ci
  rw [ge] at cn
  have len1 : ((List.range (rd ++ [R]).length).map fun i => AV.mref (jx b i)).length = rd.length + 1 := by simp
  refine .to (.if (k := false) (isT_is (.call (.gl H rfl rfl) (.cons (.nl rfl e4) .nil fun _ => rfl) .nil ci H.f147.keep (fun _ => rfl) (fun _ => rfl) fun _ => ⟨rfl, rfl⟩) .bool rfl rfl) (.cons (.expr (EvE.meth (.sub (.nl rfl e3) (.neg .int) (.seq (.mref h1) (j := rd.length) ?_ ?_)) (.seq (.mref o1) PySem.F.slot_list_append rfl) (.cons (.tup (.cons (v := .str (sb e.1)) ?_ (.cons (.sub (.sub (.nc rfl e1) (.sub (.nc rfl e2) (.eq (.call (.gl H rfl rfl) (.cons (.bin (.nl rfl e4) .int .sub) .nil fun _ => rfl) .nil .abs .bi (fun _ => rfl) (fun _ => rfl) fun _ => ⟨rfl, rfl⟩) (congrArg AV.int (sym_eq e))) (.seq .lst idx_nat (map_getD (by exact Z15 he ll)))) (.seq .lst idx_nat (by rw [List.getElem?_map, List.getElem?_range hk]; rfl))) .int (.tup (j := 1) rfl rfl)) .nil fun _ => rfl) fun _ => rfl) lim2) .nil fun _ => rfl) (.append o1 (by rw [List.length_map, lim]; exact Z299 hl)) .bi (fun _ => rfl) fun _ => rfl) fun _ => rfl) .nil)) rfl ?_
  · rw [len1, idx, if_neg (by decide), if_pos (by lia)]; congr 1; lia
  · rw [List.getElem?_map, List.getElem?_range (by simp)]; rfl
  · cases q : e.1
    · exact .ifExp (k := false) (isT_is (.call (.gl H rfl rfl) (.cons (.nl rfl e4) .nil fun _ => rfl) .nil (q ▸ cn) H.f140.keep (fun _ => rfl) (fun _ => rfl) fun _ => ⟨rfl, rfl⟩) .bool rfl rfl) (.str ok0)
    · exact .ifExp (k := true) (isT_is (.call (.gl H rfl rfl) (.cons (.nl rfl e4) .nil fun _ => rfl) .nil (q ▸ cn) H.f140.keep (fun _ => rfl) (fun _ => rfl) fun _ => ⟨rfl, rfl⟩) .bool rfl rfl) (.str ok1)
  · rw [List.map_append]; rfl
end
end Mine
namespace Mine
open PySem PySem.Calls PyProof.Rows PySem.W
section
variable {c : Cx} {n b : Nat} {σ : Sto} {dns os : List Nat} {m : Nat} {rows1 rows2 rd : List (List Pc)} {R : List Pc} {e : Pc} {ρ : Ro}
theorem step_end (H : TT c) {nm : Nat → Str} (h : RS b σ nm rd) (hl : rd.length < 64) (e3 : ρ.lookup ("read" : Str) = some (.mref (b + 1))) (e4 : ρ.lookup ("symbol" : Str) = some (.int 0)) :
    ∃ σ', RS b σ' nm (rd ++ [[]]) ∧ StR c (n + 1) wS (ith (forB iF) 0) ρ σ .nxt ρ σ' := by
  obtain ⟨o, o1, o2, o3, o4⟩ := h.grow
  refine ⟨_, o4, ?_⟩
  obtain ⟨v1, h1⟩ := h.rl
  obtain ⟨v, acc, its⟩ := o
  cases o2
  have o3 : its = (List.range rd.length).map fun i => AV.mref (jx b i) := o3
  subst o3
  have ci := call_iseof (n := n) (i := 0) H h.lo
  exact .if (k := true) (isT_is (.call (.gl H rfl rfl) (.cons (.nl rfl e4) .nil fun _ => rfl) .nil ci H.f147.keep (fun _ => rfl) (fun _ => rfl) fun _ => ⟨rfl, rfl⟩) .bool rfl rfl) (.cons (.expr (EvE.meth (.nl rfl e3) (.seq (.mref h1) PySem.F.slot_list_append rfl) (.cons (.lstM .nil (Nat.zero_le _)) .nil fun _ => rfl) (.append o1 (by rw [List.length_map, List.length_range, lim]; exact Z299 hl)) .bi (fun _ => rfl) fun _ => rfl) fun _ => rfl) .nil)
theorem inner_loop (H : TT c) (hm : m ≤ 8) (hp : os.Perm (List.range m)) (hr : rd.length ≤ 8) : ∀ (l R : List Pc) (σ : Sto), RS b σ (nm1 dns os) (rd ++ [R]) → (∀ e ∈ l, e.2 < m ∧ (e.2 = 0 → e.1 = false)) → R.length + l.length ≤ 8 →
    ∃ σ', RS b σ' (nm1 dns os) (rd ++ [R ++ l] ++ [[]]) ∧ LoopB c (n + 1) wS (forT iF) (forB iF) (r20 m dns os rows1 rows2 b) σ ((l.map fun e => .int (sym e)) ++ [.int 0]) [] .nxt (r20 m dns os rows1 rows2 b) σ'
  | [], R, σ, h, hl, hn => by
    obtain ⟨σ', a1, a2⟩ := step_end (n := n) (ρ := put "symbol" (.int 0) (r20 m dns os rows1 rows2 b)) H h (by simp; exact Z397 hr) rfl rfl
    exact ⟨σ', by rw [List.append_nil]; exact a1, .cons (ρ1 := put "symbol" (.int 0) (r20 m dns os rows1 rows2 b)) (fl1 := .nxt) (.name (.inl rfl)) (.cons a2 .nil) (.inl rfl) (fun _ h => nomatch h) (.weak (ρ' := r20 m dns os rows1 rows2 b) ⟨rfl, rfl, rfl, rfl, rfl, rfl, trivial⟩ .nil)⟩
  | e :: l, R, σ, h, hl, hn => by
    rw [List.length_cons] at hn
    obtain ⟨q1, q2⟩ := hl e (.head _)
    obtain ⟨σ1, a1, a2⟩ := step_sym (n := n) (ρ := put "symbol" (.int (sym e)) (r20 m dns os rows1 rows2 b)) H hm hp q1 q2 h (by exact Z398 hn) rfl rfl rfl rfl
    obtain ⟨σ', b1, b2⟩ := inner_loop H hm hp hr l (R ++ [e]) σ1 a1 (fun x hx => hl x (.tail _ hx)) (by simp; exact Z399 hn)
    rw [show R ++ [e] ++ l = R ++ e :: l by simp] at b1
    exact ⟨σ', b1, .cons (ρ1 := put "symbol" (.int (sym e)) (r20 m dns os rows1 rows2 b)) (fl1 := .nxt) (.name (.inl rfl)) (.cons a2 .nil) (.inl rfl) (fun _ h => nomatch h) (.weak (ρ' := r20 m dns os rows1 rows2 b) ⟨rfl, rfl, rfl, rfl, rfl, rfl, trivial⟩ b2)⟩
theorem zip_map {R : List Pc} {nm : Nat → Str} : (((R.map (P nm)).zip ((rkR R).map ai)).map fun p => AV.tup [p.1, p.2]) = R.map fun e => .tup [P nm e, ai e.2] := by
  rw [List.map_map, List.zip_map', List.map_map]; rfl
theorem syms (H : TT c) {ρ : Ro} {nm : Nat → Str} (hl : R.length ≤ 8) (lo : LoSto σ.length σ) (e1 : ρ.lookup ("row" : Str) = some (.lst (R.map (P nm)))) (e2 : ρ.lookup ("places" : Str) = some (.lst ((rkR R).map ai))) {σ' : Sto} {ρ' : Ro}
    (lp : LoopB c n wS (forT iF) (forB iF) ρ σ ((R.map fun e => .int (sym e)) ++ [.int 0]) [] .nxt ρ' σ') : StR c n wS iF ρ σ .nxt ρ' σ' := by
  refine .for (.seq (.bin (.eq (.cmp1 (l := R) (gx := fun e => .tup [P nm e, ai e.2]) (ρ0 := []) (vers := []) (f := fun e => some (.int (sym e))) rfl trivial rfl (fun _ _ => rfl) (.to (.zip (.gl H rfl rfl) (.nc rfl e1) (.nl rfl e2) (.inl ⟨rfl, rfl⟩) (.inl ⟨rfl, rfl⟩) (fun _ => rfl) (fun _ => rfl) fun _ => rfl) zip_map) (fun _ h => nomatch h) (Nat.le_trans hl (by decide)) (fun e he w2 acc hacc => ?_) lo) (congrArg AV.lst fm_map)) (.lst (.cons .int .nil fun _ => rfl) (show 1 ≤ lim by decide)) (.addSeq .lst .lst (by rw [List.length_map, List.length_singleton, lim]; exact Z400 hl))) (.inl ⟨rfl, rfl⟩)) lp fun _ _ => rfl
  refine ⟨_, .tup (.cons (.name (.inl rfl)) (.cons (.name (.inl rfl)) .nil fun _ => rfl) fun _ => rfl) fun _ => ⟨rfl, rfl⟩, trivial, .inr ⟨_, rfl, .int, .inl ⟨rfl, rfl⟩, ?_⟩⟩
  unfold sym P
  cases e.1
  · exact .bin .int (.ifExp (k := false) (.eq (.cmp (.sub (.nl rfl rfl) .int (.tup (j := 0) rfl rfl)) (.str ok1) (.eq .str .str) rfl) (by decide)) (.neg (.nl rfl rfl))) .add
  · exact .bin .int (.ifExp (k := true) (.cmp (.sub (.nl rfl rfl) .int (.tup (j := 0) rfl rfl)) (.str ok1) (.eqSame .str) rfl) (.nl rfl rfl)) .add
end
end Mine
namespace Mine
open PySem PySem.Calls PyProof.Rows PySem.W
section
variable {c : Cx} {n b : Nat} {σ : Sto} {dns os fs gs : List Nat} {m len : Nat} {rows1 rows2 rd : List (List Pc)} {R : List Pc} {e : Pc} {ρ : Ro}
theorem law19 (H : TT c) (hs : σ.length = b) : StR c n wS (ith wB 19) (r17 m dns os rows1 rows2 fs gs) σ .nxt (r20 m dns os rows1 rows2 b) (σ ++ [⟨0, none, []⟩] ++ [⟨0, none, [.mref b]⟩]) := by
  subst hs
  refine .out (ρ1 := put "read" (.mref (σ.length + 1)) (r17 m dns os rows1 rows2 fs gs)) ⟨rfl, rfl, rfl, rfl, rfl, rfl, trivial⟩ (.assign (.eq (.lstM (.cons (.lstM .nil (Nat.zero_le _)) .nil fun _ => rfl) (show 1 ≤ lim by decide)) (by rw [List.length_append]; rfl)) (.name (.inl rfl)) (fun _ => rfl) (fun _ => rfl) fun _ => rfl)
theorem rs0 (hs : σ.length = b) (lo : LoSto σ.length σ) {nm : Nat → Str} : RS b (σ ++ [⟨0, none, []⟩] ++ [⟨0, none, [.mref b]⟩]) nm ([] ++ [[]]) := by
  subst hs
  refine ⟨by simp, by simp, ?_, ⟨0, ?_⟩, fun i R e => ?_⟩
  · intro i o hi e
    have h1 := lo.app (w := 0) (xs := []) fun _ h => nomatch h
    by_cases q : i < (σ ++ [(⟨0, none, []⟩ : MO)]).length
    · rw [List.getElem?_append_left q] at e
      exact fun y hy => (h1 i o q e y hy).mono (by simp)
    · rw [List.getElem?_append_right (by exact Nat.le_of_not_lt q)] at e
      have : i - (σ ++ [(⟨0, none, []⟩ : MO)]).length = 0 := by simp at hi ⊢; exact Z401 hi
      rw [this] at e; cases e
      exact fun y hy => by cases List.mem_singleton.mp hy; exact .mref (by simp)
  · rw [show σ.length + 1 = (σ ++ [(⟨0, none, []⟩ : MO)]).length by simp]; exact get_app
  · cases i with
    | zero => cases e; exact ⟨0, by rw [jx, if_pos rfl, List.getElem?_append_left (by simp)]; exact get_app⟩
    | succ i => cases e
theorem outer_loop (H : TT c) (hm : m ≤ 8) (hp : os.Perm (List.range m)) (S : Stair m rows1 len) (l1 : rows1.length ≤ m) (l2 : ∀ R ∈ rows1, R.length ≤ m) : ∀ (l D : List (List Pc)) (σ : Sto), rows1 = D ++ l → RS b σ (nm1 dns os) (D ++ [[]]) →
    ∃ σ', RS b σ' (nm1 dns os) (rows1 ++ [[]]) ∧ LoopB c (n + 1) wS (forT (ith wB 20)) (forB (ith wB 20)) (r20 m dns os rows1 rows2 b) σ (l.map fun R => .tup [.lst (R.map (P (nm1 dns os))), .lst ((rkR R).map ai)]) [] .nxt (r20 m dns os rows1 rows2 b) σ'
  | [], D, σ, e, h => ⟨σ, by rw [e, List.append_nil]; exact h, .nil⟩
  | R :: l, D, σ, e, h => by
    have hR : rows1[D.length]? = some R := by rw [e, List.getElem?_append_right (Nat.le_refl _), Nat.sub_self]; rfl
    have hl := l2 R (List.mem_of_getElem? hR)
    have hD : D.length ≤ 8 := by rw [e, List.length_append] at l1; exact Z402 l1 hm
    obtain ⟨σ1, a1, a2⟩ := inner_loop (n := n) (rows1 := rows1) (rows2 := rows2) H hm hp hD R [] σ h (S.row _ R hR).2 (by simp; exact Z403 hl hm)
    rw [List.nil_append] at a1
    obtain ⟨σ', b1, b2⟩ := outer_loop H hm hp S l1 l2 l (D ++ [R]) σ1 (by rw [e]; simp) a1
    have h0 := h.lo
    exact ⟨σ', b1, .cons (ρ1 := put "places" (.lst ((rkR R).map ai)) (put "row" (.lst (R.map (P (nm1 dns os)))) (r20 m dns os rows1 rows2 b))) (fl1 := .nxt) (.tup (.cons (.name (.inr rfl)) (.cons (.name (.inl rfl)) .nil fun _ => rfl) fun _ => rfl) fun _ => ⟨rfl, rfl⟩)
      (.cons (syms (R := R) (nm := nm1 dns os) H (by exact Z403 hl hm) h0 rfl rfl (.weak (ρ' := r20 m dns os rows1 rows2 b) ⟨rfl, rfl, rfl, rfl, rfl, rfl, trivial⟩ a2)) .nil) (.inl rfl) (fun _ h => nomatch h) b2⟩
theorem law20 (H : TT c) (hm : m ≤ 8) (hp : os.Perm (List.range m)) (S : Stair m rows1 len) (l1 : rows1.length ≤ m) (l2 : ∀ R ∈ rows1, R.length ≤ m) (h : RS b σ (nm1 dns os) ([] ++ [[]])) : ∃ σ', RS b σ' (nm1 dns os) (rows1 ++ [[]]) ∧ StR c (n + 1) wS (ith wB 20) (r20 m dns os rows1 rows2 b) σ .nxt (r20 m dns os rows1 rows2 b) σ' := by
  obtain ⟨σ', a1, a2⟩ := outer_loop (n := n) (rows2 := rows2) H hm hp S l1 l2 rows1 [] σ rfl h
  refine ⟨σ', a1, .for (.to (.zip (.gl H rfl rfl) (.sub (.nl rfl rfl) .int (.seq .lst rfl rfl)) (.nl rfl rfl) (.inl ⟨rfl, rfl⟩) (.inl ⟨rfl, rfl⟩) (fun _ => rfl) (fun _ => rfl) fun _ => rfl) ?_) a2 fun _ _ => rfl⟩
  rw [List.zip_map', List.map_map]; rfl
theorem law21 (l1 : rows1.length ≤ 8) (h : RS b σ (nm1 dns os) (rows1 ++ [[]])) : StR c n wS (ith wB 21) (r20 m dns os rows1 rows2 b) σ (.ret (.bool true)) (r20 m dns os rows1 rows2 b) σ :=
  .ret (.cmp (.nl rfl rfl) (.bin (.sub (.nl rfl rfl) .int (.seq .lst rfl rfl)) (.lst (.cons (.lst .nil (Nat.zero_le _)) .nil fun _ => rfl) (show 1 ≤ lim by decide)) (.addSeq .lst .lst (by rw [List.length_map, List.length_singleton, lim]; exact Z400 l1))) (.eqSame h.dat) rfl)
end
end Mine
namespace Mine
open PySem PySem.Calls PyProof.Rows PySem.W
theorem law_body {c : Cx} (H : TT c) (xs : List Int) : ∃ ρ' σ', StA c 5 wS wB [("script", .lst (xs.map .int))] [] (.ret (.bool true)) ρ' σ' := by
  obtain ⟨cs0, c0, s1⟩ := law1 (n := 5) (ρ := [("script", .lst (xs.map .int)), ("words", wdV)]) H
  obtain ⟨cs, w, c1, s2⟩ := law2 (n := 5) (xs := xs) H c0
  obtain ⟨m, hd, hm, hh, s3⟩ := law3 (n := 5) (xs := xs) (w := w) H c1
  obtain ⟨dns, hl, h48, s4⟩ := law4 (n := 5) (xs := xs) (w := w) (m := m) (hd := hd) H c1 hm.2
  have s5 := law5 (n := 5) (xs := xs) (hd := hd) (σ := [⟨w, none, cs.map .int⟩]) H hl hm.2 h48 ints_lo
  have s6 := law6 (n := 5) (xs := xs) (hd := hd) (m := m) (dns := dns) (σ := [⟨w, none, cs.map .int⟩]) H
  obtain ⟨u, os, hs, hp, s7⟩ := law7 (n := 2) (xs := xs) (hd := hd) (w := w) (cs := cs) H h48 hl hm.2
  have s8 := law8 (n := 4) (xs := xs) (hd := hd) (w := w) (cs := cs) (u := u) (dns := dns) (os := os) (m := m) H (by exact Z404 hm.1)
  have s9 := law9 (n := 2) (xs := xs) (hd := hd) (w := w) (cs := cs) (u := u) H (by exact Z405 hm.1) hm.2 hl hs hp
  have s10 := law10 (n := 4) (xs := xs) (hd := hd) (w := w) (cs := cs) (u := u) H hm.2 hl h48 hp
  have I := inv2 hp
  obtain ⟨rows1, rows2, L1, L2, e1, S, l1, l2, l3⟩ := plain_law (m := 60) I (by exact Z406 hm.2)
  have l2' : ∀ R ∈ rows1, R.length ≤ m ∧ ∀ e ∈ R, e.2 < m := fun R hR => ⟨l2 R hR, fun e he => by
    obtain ⟨r, hr⟩ := List.getElem?_of_mem hR
    exact ((S.row r R hr).2 e he).1⟩
  have s11 := law11 (n := 1) (xs := xs) (w := w) (cs := cs) (u := u) H hm.2 hh h48 hs hp L1 l1 l2 l3
  have s12 := law12 (n := 1) (xs := xs) (w := w) (cs := cs) (u := u) H hm.2 hh h48 hp L2 e1 l1 l3
  have s13 := law13 (c := c) (n := 5) (xs := xs) (m := m) (hd := hd) (dns := dns) (os := os) (rows1 := rows1) (rows2 := rows2) (σ := σ2 w cs u dns os)
  have lo : LoSto (σ2 w cs u dns os).length (σ2 w cs u dns os) := lo2
  have s14 := law14 (n := 4) (xs := xs) (hd := hd) (rows2 := rows2) H hm.2 h48 hp l1 l2' lo
  have s15 := law15 (n := 5) (dns := dns) (os := os) (rows2 := rows2) H S l2 hm.2 lo
  have s16 := law16 (n := 5) (dns := dns) (rows1 := rows1) (rows2 := rows2) H hm.2 hp lo
  obtain ⟨fs, gs, f1, g1, f2, g2, s17⟩ := law17 (n := 4) (dns := dns) (os := os) (rows1 := rows1) (rows2 := rows2) H hm.2 lo
  have s18 := law18 (n := 5) (dns := dns) (rows2 := rows2) H (by exact Z404 hm.1) hm.2 hp f1 g1 f2 g2 S lo
  have s19 := law19 (n := 5) (b := 2) (m := m) (dns := dns) (os := os) (rows1 := rows1) (rows2 := rows2) (fs := fs) (gs := gs) (σ := σ2 w cs u dns os) H rfl
  obtain ⟨σ', r1, s20⟩ := law20 (n := 4) (rows2 := rows2) H hm.2 hp S l1 l2 (rs0 (b := 2) (σ := σ2 w cs u dns os) (nm := nm1 dns os) rfl lo)
  have s21 := law21 (c := c) (n := 5) (m := m) (rows2 := rows2) (by exact Z403 l1 hm.2) r1
  exact ⟨_, σ', .cons (law0 H).a (.cons s1.a (.cons s2.a (.cons s3.a (.cons s4.a (.cons s5.a (.cons s6.a (.cons s7.a (.cons s8 (.cons s9.a (.cons s10.a (.cons s11.a (.cons s12.a (.cons s13.a (.cons s14.a (.cons s15.a (.cons s16.a (.cons s17.a (.cons s18.a (.cons s19.a (.cons s20.a (StB.stop s21 fun h => nomatch h).a))))))))))))))))))))⟩
end Mine
namespace Mine
open PySem PySem.Calls PyProof.Rows PySem.W PySem.W.X
noncomputable def kG (P : Params) : Frag := (kF P).filter fun p => !(p.1 == 81 || p.1 == 166)
theorem fil_look {l : Frag} {a : Addr} {o : Obj} : (l.filter fun p => !(p.1 == 81 || p.1 == 166)).lookup a = some o → l.lookup a = some o ∧ a ≠ 81 ∧ a ≠ 166 := by
  induction l with
  | nil => intro h; cases h
  | cons p l ih =>
    intro h
    obtain ⟨b, q⟩ := p
    rw [List.filter_cons] at h
    by_cases e : a = b
    · subst e
      by_cases z : (a == 81 || a == 166) = true
      · rw [if_neg (by simp only [z]; decide)] at h
        obtain ⟨_, n1, n2⟩ := ih h
        simp only [Bool.or_eq_true, beq_iff_eq] at z
        exact absurd z (by simp [n1, n2])
      · rw [if_pos (by simpa using z)] at h
        rw [List.lookup_cons, beq_self_eq_true] at h ⊢
        simp only [Bool.or_eq_true, beq_iff_eq, not_or] at z
        exact ⟨h, z.1, z.2⟩
    · have e' : (a == b) = false := beq_eq_false_iff_ne.mpr e
      rw [List.lookup_cons, e']
      split at h
      · rw [List.lookup_cons, e'] at h; exact ih h
      · exact ih h
noncomputable def cx (w : World) (s : Shared) : Cx := ⟨pw, w, kG w.params, hideAll s.heap [166, 81], s.os⟩
section
variable {w : World} {s : Shared}
theorem kx (X : InK kF w s.heap) : (kG w.params).In (cx w s).g := fun a o e => by
  obtain ⟨h, n1, n2⟩ := fil_look e
  exact hideAll_get _ (X a o h) (by simp [n1, n2])
theorem acck (X : InK kF w s.heap) : AccK (cx w s) where
  x := kx X
  getitem := by show findIn (kG w.params) _ _ = _; kernel_rfl
  setitem := by show findIn (kG w.params) _ _ = _; kernel_rfl
  iter := by show findIn (kG w.params) _ _ = _; kernel_rfl
  sub := by show subIn (kG w.params) _ _ = _; kernel_rfl
  noSeq := by show noSeq (kG w.params) _ = _; kernel_rfl
  ga := by show findIn (kG w.params) _ _ = _; kernel_rfl
  gattr := by show findIn (kG w.params) _ _ = _; kernel_rfl
  cls := by
    have h : ∀ P, (clsIn (kG P) 119).map (fun cd => (cd.mro, cd.qualname)) = some ([.ref 119, .type "list", .type "object"], ⟨⟨[95, 65, 99, 99, 117, 109, 117, 108, 97, 116, 111, 114]⟩⟩) := fun P => by kernel_rfl
    obtain ⟨cd, h1, h2⟩ := Option.map_eq_some_iff.mp (h w.params)
    simp only [Prod.mk.injEq] at h2
    exact ⟨cd, h1, h2.1, by rw [h2.2]; decide +kernel⟩
  meta_ := by show typeIn (kG w.params) _ = _; kernel_rfl
  noMod := by show subIn (kG w.params) _ _ = _; kernel_rfl
  opq := by show nsIn (kG w.params) _ _ = _; kernel_rfl
theorem storek : StoreK (cx w s) where
  set := by show findIn (kG w.params) _ _ = _; kernel_rfl
  none_ := by show findIn (kG w.params) _ _ = _; kernel_rfl
  dict := by show (clsIn (kG w.params) 119).any (·.hasDict) = true; kernel_rfl
noncomputable def es3 (P : Params) : Array DictEntry := match (ob3 P).data with | .dict es _ => es | _ => #[]
structure HB (w : World) (s : Shared) where
  x : InK kF w s.heap
  q : Program
  loose : List Str
  mean : ExcName → Option Value
  mg : Str → Option Value
  mb : Str → Option Value
  t : Top q loose mean mg mb s.heap
theorem HB.gk (B : HB w s) {b : Addr} {o : Obj} (h : s.heap.get? b = some o) (h1 : b ≠ 166) (h2 : b ≠ 81) : (cx w s).g.get? b = some o := hideAll_get _ h (by simp [h1, h2])
theorem HB.nsg {a : Addr} {m : Str → Option Value} (h : s.heap.Ns a m) (h1 : a ≠ 166) (h2 : a ≠ 81) : (cx w s).g.Ns a m := by
  obtain ⟨o, es, ep, e, r⟩ := h
  exact ⟨o, es, ep, hideAll_get _ e (by simp [h1, h2]), r⟩
theorem HB.mgx (B : HB w s) (x : Str) : B.mg x = nsFind (es3 w.params) x := by
  obtain ⟨o, es, ep, e, hd, _, hx⟩ := B.t.g
  have e3 := B.x 3 (ob3 w.params) rfl
  rw [show mainGlobals = 3 from rfl, e3] at e
  cases e
  have : es3 w.params = es := by unfold es3; rw [hd]
  rw [this]; exact (hx x).symm
end
end Mine
namespace Mine
open PySem PySem.Calls PyProof.Rows PySem.W PySem.W.X
noncomputable def gf (P : Params) (x : Str) : Option Value := match nsFind (es3 P) x with | some v => some v | none => bootBuiltins x
noncomputable def intOf : Value → Option Int | .int i _ => some i | _ => none
theorem intOf_inv {v : Value} {i : Int} (h : intOf v = some i) : ∃ t, v = .int i t := by cases v <;> cases h; exact ⟨_, rfl⟩
noncomputable def es124 (P : Params) : Array DictEntry := match (ob124 P).data with | .dict es _ => es | _ => #[]
theorem keys124 (P : Params) : KeysLit P (es124 P).toList := by
  repeat (first | exact trivial | refine ⟨⟨_, _, rfl, rfl⟩, ?_⟩)
section
variable {w : World} {s : Shared}
theorem glo (B : HB w s) {x : Str} {u : Value} (h : gf w.params x = some u) : Glo (cx w s) x u := by
  refine ⟨B.mg, B.mb, HB.nsg B.t.g (by decide) (by decide), HB.nsg B.t.b (by decide) (by decide), ?_⟩
  unfold gf at h
  rw [B.mgx]
  cases q : nsFind (es3 w.params) x with
  | some v => rw [q] at h; cases h; exact .inl rfl
  | none =>
    rw [q] at h
    refine .inr ⟨rfl, ?_⟩
    have hn : x ≠ ("__name__" : Str) := fun z => by
      have e : ∀ P, (nsFind (es3 P) "__name__").isSome = true := fun P => by kernel_rfl
      have := e w.params
      rw [← z, q] at this; cases this
    exact (B.t.builtins x hn).trans h
theorem gl_ok (B : HB w s) : ∀ x u, globs.lookup x = some u → Glo (cx w s) x u := fun x u h => by
  have e : ∀ P, (globs.map fun p => gf P p.1) = globs.map fun p => some p.2 := fun P => by kernel_rfl
  have h2 := List.map_inj_left.mp (e w.params) (x, u) (mem_of_lookup h)
  exact glo B (show gf w.params (x, u).1 = some (x, u).2 from h2)
theorem gi_ok (B : HB w s) : ∀ x i, globI.lookup x = some i → ∃ t, Glo (cx w s) x (.int i t) := fun x i h => by
  have e : ∀ P, (globI.map fun p => (gf P p.1).bind intOf) = globI.map fun p => some p.2 := fun P => by kernel_rfl
  obtain ⟨v, h1, h2⟩ := Option.bind_eq_some_iff.mp (List.map_inj_left.mp (e w.params) _ (mem_of_lookup h))
  obtain ⟨t, rfl⟩ := intOf_inv h2
  exact ⟨t, glo B h1⟩
theorem tab_ok (X : InK kF w s.heap) : ∀ n, n < 48 → TabR (cx w s) 124 (wd n) (.int (7 + n)) := fun n hn => by
  have e : ∀ P, ((List.range 48).map fun n => (findBy Value.isStrOf (es124 P) (wd n)).bind intOf) = (List.range 48).map fun n => some ((7 + n : Nat) : Int) := fun P => by kernel_rfl
  obtain ⟨v, h1, h2⟩ := Option.bind_eq_some_iff.mp (List.map_inj_left.mp (e w.params) n (List.mem_range.mpr hn))
  obtain ⟨t, rfl⟩ := intOf_inv h2
  refine ⟨_, _, mapOf_K (kx X) (es := es124 w.params) (n := 48) rfl (keys124 _), h1, fun F μ h => ?_⟩
  rw [show ((7 + n : Nat) : Int) = 7 + (n : Int) from Int.natCast_add ..]
  exact .int _ _
theorem topr (B : HB w s) : TopR (cx w s) where
  lam := ⟨ob168 w.params, _, _, _, _, _, _, _, _, B.gk (B.x 168 _ rfl) (by decide) (by decide), rfl, rfl, rfl, rfl, rfl, rfl, rfl, rfl, by decide⟩
  gen := ⟨ob85 w.params, _, _, _, _, _, _, _, _, B.gk (B.x 85 _ rfl) (by decide) (by decide), rfl, rfl, rfl, rfl, rfl, rfl, rfl, rfl, by decide⟩
  mg := by
    obtain ⟨bm, ob, h1, h2, h3, h4, h5, h6⟩ := B.t.bmain
    have e : ∀ P, nsFind (es3 P) "__builtins__" = some (.ref 4) := fun P => by kernel_rfl
    rw [B.mgx, e] at h1; cases h1
    have g := B.gk h3 (by decide) (by decide)
    have m4 : B.mg "__builtins__" = some (.ref 4) := (B.mgx _).trans (e _)
    exact ⟨B.mg, HB.nsg B.t.g (by decide) (by decide), ⟨4, ob, m4, h2, by decide, by decide, g, h4, h5, h6⟩, ⟨4, ob, m4, h2, by decide, by decide, g, h4, h5, h6⟩⟩
  lim := by
    obtain ⟨mc, h1, h2⟩ := B.t.nolimit
    exact ⟨mc, HB.nsg h1 (by decide) (by decide), h2⟩
theorem suptop (B : HB w s) : SupTop (cx w s) where
  top := by show (pw.main.scope.names.lookup ("super" : Str)).isSome = false; decide +kernel
  cell := ⟨_, B.gk (B.x 43 _ rfl) (by decide) (by decide), rfl⟩
  cls := ⟨_, _, B.gk (B.x 119 _ rfl) (by decide) (by decide), rfl⟩
  sup := by
    refine ⟨B.mg, B.mb, HB.nsg B.t.g (by decide) (by decide), HB.nsg B.t.b (by decide) (by decide), ?_, (B.t.builtins _ (by decide)).trans (by kernel_rfl)⟩
    have e : ∀ P, nsFind (es3 P) "super" = none := fun P => by kernel_rfl
    rw [B.mgx]; exact e _
theorem makek (B : HB w s) : MakeK (cx w s) where
  obj := ⟨_, _, _, _, B.gk (B.x 119 _ rfl) (by decide) (by decide), rfl, rfl, rfl, rfl⟩
  call := by show specialIn (kG w.params) _ _ = _; kernel_rfl
  typ := by show instIn (kG w.params) _ _ = _; kernel_rfl
  init := by show findIn (kG w.params) _ _ = _; kernel_rfl
  fn := by show typeIn (kG w.params) _ = _; kernel_rfl
end
end Mine
namespace Mine
open PySem PySem.Calls PyProof.Rows PySem.W PySem.W.X
section
variable {w : World} {s : Shared}
noncomputable def fnOk (P : Params) (ad cd : Addr) (fd : FuncData) : Prop := ∃ ob oc vs t, (kF P).lookup ad = some ob ∧ ob.data = .func fd ∧ fd.code = .ref cd ∧ (kF P).lookup cd = some oc ∧ oc.data = .fields vs ∧ vs[1]? = some (.str fd.qualname t)
theorem fnat (B : HB w s) {ad cd : Addr} {fd : FuncData} {body : List Stmt} (h : fnOk w.params ad cd fd) (h1 : ad ≠ 166 ∧ ad ≠ 81 ∧ cd ≠ 166 ∧ cd ≠ 81) (hb : fd.body = .stmts body) (hc : fd.closure = []) (hg : fd.globals = mainGlobals) (hn : fd.builtins = builtinsNs) (h2 : fd.scope.isCoroutine = false ∧ fd.scope.isGenerator = false ∧ fd.scope.kind = .function)
    (hf : (fd.scope.names.all fun p => !(p.2 == .free)) = true) (ht : fd.scope.names.lookup ("script" : Str) = some .local → fd.code = .ref 168 ∧ fd.qualname ++ ".<locals>." ++ "<lambda>" = qLam) : FnAt (cx w s) ad fd body := by
  obtain ⟨ob, oc, vs, t, e1, e2, e3, e4, e5, e6⟩ := h
  exact ⟨⟨ob, B.gk (B.x _ _ e1) h1.1 h1.2.1, e2⟩, ⟨cd, oc, vs, t, e3, B.gk (B.x _ _ e4) h1.2.2.1 h1.2.2.2, e5, e6⟩, (topr B).lim, hb, hc, hg, hn, h2.1, h2.2.1, h2.2.2, nofree hf, ht⟩
theorem noScr {o : Option NameKind} {p : Prop} (h : o = none) : o = some .local → p := fun q => by rw [h] at q; cases q
theorem f133 (B : HB w s) : FnAt (cx w s) 133 fd133 (fBody (st 59)) := fnat B (cd := 132) ⟨_, _, _, _, rfl, rfl, rfl, rfl, rfl, rfl⟩ (by decide) rfl rfl rfl rfl ⟨rfl, rfl, rfl⟩ rfl (noScr rfl)
theorem f140 (B : HB w s) : FnAt (cx w s) 140 fd140 (fBody (st 60)) := fnat B (cd := 139) ⟨_, _, _, _, rfl, rfl, rfl, rfl, rfl, rfl⟩ (by decide) rfl rfl rfl rfl ⟨rfl, rfl, rfl⟩ rfl (noScr rfl)
theorem f147 (B : HB w s) : FnAt (cx w s) 147 fd147 (fBody (st 61)) := fnat B (cd := 146) ⟨_, _, _, _, rfl, rfl, rfl, rfl, rfl, rfl⟩ (by decide) rfl rfl rfl rfl ⟨rfl, rfl, rfl⟩ rfl (noScr rfl)
theorem f154 (B : HB w s) : FnAt (cx w s) 154 fd154 (fBody (st 63)) := fnat B (cd := 153) ⟨_, _, _, _, rfl, rfl, rfl, rfl, rfl, rfl⟩ (by decide) rfl rfl rfl rfl ⟨rfl, rfl, rfl⟩ rfl (noScr rfl)
theorem f164 (B : HB w s) : FnAt (cx w s) 164 fd164 (fBody (st 65)) := fnat B (cd := 163) ⟨_, _, _, _, rfl, rfl, rfl, rfl, rfl, rfl⟩ (by decide) rfl rfl rfl rfl ⟨rfl, rfl, rfl⟩ rfl (noScr rfl)
theorem f159 (B : HB w s) : FnAt (cx w s) 159 fd159 (fBody (st 64)) := fnat B (cd := 158) ⟨_, _, _, _, rfl, rfl, rfl, rfl, rfl, rfl⟩ (by decide) rfl rfl rfl rfl ⟨rfl, rfl, rfl⟩ rfl (noScr rfl)
theorem f39 (B : HB w s) : FnAt (cx w s) 39 fd39 (fBody (st 3)) := fnat B (cd := 38) ⟨_, _, _, _, rfl, rfl, rfl, rfl, rfl, rfl⟩ (by decide) rfl rfl rfl rfl ⟨rfl, rfl, rfl⟩ rfl (noScr rfl)
theorem f30 (B : HB w s) : FnAt (cx w s) 30 fd30 (fBody (st 2)) := fnat B (cd := 29) ⟨_, _, _, _, rfl, rfl, rfl, rfl, rfl, rfl⟩ (by decide) rfl rfl rfl rfl ⟨rfl, rfl, rfl⟩ rfl (noScr rfl)
theorem f63 (B : HB w s) : FnAt (cx w s) 63 fd63 (fBody (mt 1)) := fnat B (cd := 62) ⟨_, _, _, _, rfl, rfl, rfl, rfl, rfl, rfl⟩ (by decide) rfl rfl rfl rfl ⟨rfl, rfl, rfl⟩ rfl (noScr rfl)
theorem f71 (B : HB w s) : FnAt (cx w s) 71 fd71 (fBody (mt 2)) := fnat B (cd := 70) ⟨_, _, _, _, rfl, rfl, rfl, rfl, rfl, rfl⟩ (by decide) rfl rfl rfl rfl ⟨rfl, rfl, rfl⟩ rfl (noScr rfl)
theorem f86 (B : HB w s) : FnAt (cx w s) 86 fd86 (fBody (mt 4)) := fnat B (cd := 85) ⟨_, _, _, _, rfl, rfl, rfl, rfl, rfl, rfl⟩ (by decide) rfl rfl rfl rfl ⟨rfl, rfl, rfl⟩ rfl (noScr rfl)
theorem f169 (B : HB w s) : FnAt (cx w s) 169 fd169 (fBody (st 66)) := fnat B (cd := 168) ⟨_, _, _, _, rfl, rfl, rfl, rfl, rfl, rfl⟩ (by decide) rfl rfl rfl rfl ⟨rfl, rfl, rfl⟩ rfl (fun _ => ⟨rfl, by decide +kernel⟩)
theorem bind1 (X : InK kF w s.heap) {fd : FuncData} {x : Str} (h : ∀ P S y, peek (kG P) S (bindArgs fd ⟨[y], []⟩) = some [(x, y)]) (σ : Sto) (a : AV) : BindR (cx w s) fd σ [a] [] [(x, a)] := fun F μ s' ys kws I r rk => by
  obtain rfl := rk.nil_inv
  obtain ⟨y, rfl, r1⟩ := r.inv1
  exact ⟨[(x, y)], kp_binds ((kx X).keeps I.keep) fun S => h w.params S y, rfl, r⟩
theorem inv3 {F : Addr → Prop} {μ : List Addr} {h : Heap} {a b d : AV} {vs : List Value} (r : VRs F μ h [a, b, d] vs) : ∃ x y z, vs = [x, y, z] :=
  r.inv3.imp fun _ => .imp fun _ => .imp fun _ => And.left
theorem inv4 {F : Addr → Prop} {μ : List Addr} {h : Heap} {a b d e : AV} {vs : List Value} (r : VRs F μ h [a, b, d, e] vs) : ∃ x y z u, vs = [x, y, z, u] := by
  obtain ⟨x, ws, rfl, q⟩ := r.cons_inv
  exact ⟨x, (inv3 q.2).imp fun _ => .imp fun _ => .imp fun _ e => congrArg _ e⟩
theorem kr1 {F : Addr → Prop} {μ : List Addr} {h : Heap} {x : Str} {k : AV} {kws : List (Str × Value)} (r : KR F μ h [(x, k)] kws) : ∃ y, kws = [(x, y)] ∧ VR F μ h k y := by
  obtain ⟨u, e, q⟩ := r.2.inv1
  obtain ⟨p, rfl, rfl⟩ := List.map_eq_singleton_iff.mp e
  exact ⟨p.2, congrArg (fun z => [(z, p.2)]) (List.cons.inj r.1).1.symm, q⟩
theorem vrs5 {F : Addr → Prop} {μ : List Addr} {h : Heap} {a b d e k : AV} {x y z u v : Value} (h1 : VR F μ h a x) (h2 : VR F μ h b y) (h3 : VR F μ h d z) (h4 : VR F μ h e u) (h5 : VR F μ h k v) : VRs F μ h [a, b, d, e, k] [x, y, z, u, v] := .cons h1 (.cons h2 (.cons h3 (.cons h4 (.one h5))))
theorem b39a (X : InK kF w s.heap) (σ : Sto) (a x : AV) : BindR (cx w s) fd39 σ [a, x] [] [("a", a), ("x", x), ("lo", .int 0), ("hi", .none), ("key", .none)] := fun F μ s' ys kws I r rk => by
  obtain rfl := rk.nil_inv
  obtain ⟨y, z, rfl, r1, r2⟩ := r.inv2
  have h : ∀ P S, peek (kG P) S (bindArgs fd39 ⟨[y, z], []⟩) = some [(("a" : Str), y), ("x", z), ("lo", .int 0 209), ("hi", .none), ("key", .none)] := fun P S => by kernel_rfl
  exact ⟨_, kp_binds ((kx X).keeps I.keep) fun S => h w.params S, rfl, vrs5 r1 r2 (.int _ _) .none .none⟩
theorem b39p (X : InK kF w s.heap) (σ : Sto) (a x l e : AV) : BindR (cx w s) fd39 σ [a, x, l, e] [] [("a", a), ("x", x), ("lo", l), ("hi", e), ("key", .none)] := fun F μ s' ys kws I r rk => by
  obtain rfl := rk.nil_inv
  obtain ⟨y, z, u, v, rfl⟩ := inv4 r
  have h : ∀ P S, peek (kG P) S (bindArgs fd39 ⟨[y, z, u, v], []⟩) = some [(("a" : Str), y), ("x", z), ("lo", u), ("hi", v), ("key", .none)] := fun P S => by kernel_rfl
  exact ⟨_, kp_binds ((kx X).keeps I.keep) fun S => h w.params S, rfl, vrs5 (r.at_ 0 _ _ rfl rfl) (r.at_ 1 _ _ rfl rfl) (r.at_ 2 _ _ rfl rfl) (r.at_ 3 _ _ rfl rfl) .none⟩
theorem b39k (X : InK kF w s.heap) (σ : Sto) (a x l e k : AV) : BindR (cx w s) fd39 σ [a, x, l, e] [("key", k)] [("a", a), ("x", x), ("lo", l), ("hi", e), ("key", k)] := fun F μ s' ys kws I r rk => by
  obtain ⟨ky, rfl, rq⟩ := kr1 rk
  obtain ⟨y, z, u, v, rfl⟩ := inv4 r
  have h : ∀ P S, peek (kG P) S (bindArgs fd39 ⟨[y, z, u, v], [("key", ky)]⟩) = some [(("a" : Str), y), ("x", z), ("lo", u), ("hi", v), ("key", ky)] := fun P S => by kernel_rfl
  exact ⟨_, kp_binds ((kx X).keeps I.keep) fun S => h w.params S, rfl, vrs5 (r.at_ 0 _ _ rfl rfl) (r.at_ 1 _ _ rfl rfl) (r.at_ 2 _ _ rfl rfl) (r.at_ 3 _ _ rfl rfl) rq⟩
theorem b39r (X : InK kF w s.heap) (σ : Sto) (a x l k : AV) : BindR (cx w s) fd39 σ [a, x, l] [("key", k)] [("a", a), ("x", x), ("lo", l), ("hi", .none), ("key", k)] := fun F μ s' ys kws I r rk => by
  obtain ⟨ky, rfl, rq⟩ := kr1 rk
  obtain ⟨y, z, u, rfl⟩ := inv3 r
  have h : ∀ P S, peek (kG P) S (bindArgs fd39 ⟨[y, z, u], [("key", ky)]⟩) = some [(("a" : Str), y), ("x", z), ("lo", u), ("hi", .none), ("key", ky)] := fun P S => by kernel_rfl
  exact ⟨_, kp_binds ((kx X).keeps I.keep) fun S => h w.params S, rfl, vrs5 (r.at_ 0 _ _ rfl rfl) (r.at_ 1 _ _ rfl rfl) (r.at_ 2 _ _ rfl rfl) .none rq⟩
theorem b30 (X : InK kF w s.heap) (σ : Sto) (a x k : AV) : BindR (cx w s) fd30 σ [a, x] [("key", k)] [("a", a), ("x", x), ("lo", .int 0), ("hi", .none), ("key", k)] := fun F μ s' ys kws I r rk => by
  obtain ⟨ky, rfl, rq⟩ := kr1 rk
  obtain ⟨y, z, rfl, r1, r2⟩ := r.inv2
  have h : ∀ P S, peek (kG P) S (bindArgs fd30 ⟨[y, z], [("key", ky)]⟩) = some [(("a" : Str), y), ("x", z), ("lo", .int 0 196), ("hi", .none), ("key", ky)] := fun P S => by kernel_rfl
  exact ⟨_, kp_binds ((kx X).keeps I.keep) fun S => h w.params S, rfl, vrs5 r1 r2 (.int _ _) .none rq⟩
theorem b63 (X : InK kF w s.heap) (σ : Sto) (a x y : AV) : BindR (cx w s) fd63 σ [a, x, y] [] [("self", a), ("fws", x), ("string", y)] := fun F μ s' ys kws I r rk => by
  obtain rfl := rk.nil_inv
  obtain ⟨y, z, u, rfl⟩ := inv3 r
  have h : ∀ P S, peek (kG P) S (bindArgs fd63 ⟨[y, z, u], []⟩) = some [(("self" : Str), y), ("fws", z), ("string", u)] := fun P S => by kernel_rfl
  exact ⟨_, kp_binds ((kx X).keeps I.keep) fun S => h w.params S, rfl, r⟩
theorem b71 (X : InK kF w s.heap) (σ : Sto) (a x : AV) : BindR (cx w s) fd71 σ [a, x] [] [("self", a), ("i", x)] := fun F μ s' ys kws I r rk => by
  obtain rfl := rk.nil_inv
  obtain ⟨y, z, rfl, r1, r2⟩ := r.inv2
  have h : ∀ P S, peek (kG P) S (bindArgs fd71 ⟨[y, z], []⟩) = some [(("self" : Str), y), ("i", z)] := fun P S => by kernel_rfl
  exact ⟨_, kp_binds ((kx X).keeps I.keep) fun S => h w.params S, rfl, r⟩
theorem b159 (X : InK kF w s.heap) (σ : Sto) (a b d e : AV) : BindR (cx w s) fd159 σ [a, b, d, e] [] [("comers", a), ("key", b), ("turning", d), ("head", e)] := fun F μ s' ys kws I r rk => by
  obtain rfl := rk.nil_inv
  obtain ⟨y, z, u, v, rfl⟩ := inv4 r
  have h : ∀ P S, peek (kG P) S (bindArgs fd159 ⟨[y, z, u, v], []⟩) = some [(("comers" : Str), y), ("key", z), ("turning", u), ("head", v)] := fun P S => by kernel_rfl
  exact ⟨_, kp_binds ((kx X).keeps I.keep) fun S => h w.params S, rfl, r⟩
end
end Mine
namespace Mine
open PySem PySem.Calls PyProof.Rows PySem.W PySem.W.X
section
variable {w : World} {s : Shared}
theorem supfn (B : HB w s) {ad cd : Addr} {fd : FuncData} {body : List Stmt} (h : ∃ ob oc vs t file tf, (kF w.params).lookup ad = some ob ∧ ob.data = .func fd ∧ fd.code = .ref cd ∧ (kF w.params).lookup cd = some oc ∧ oc.data = .fields vs ∧ vs[2]? = some (.str file tf) ∧ ((pw.main.file : Str) == file) = true ∧ vs[1]? = some (.str fd.qualname t)) (h1 : ad ≠ 166 ∧ ad ≠ 81 ∧ cd ≠ 166 ∧ cd ≠ 81) (hb : fd.body = .stmts body)
    (hc : fd.closure = [(("__class__" : Str), 43)]) (hg : fd.globals = mainGlobals) (hn : fd.builtins = builtinsNs) (h2 : fd.scope.isCoroutine = false ∧ fd.scope.isGenerator = false ∧ fd.scope.kind = .function) (hf : (fd.scope.names.all fun p => !(p.2 == .cell)) = true)
    (h3 : fd.scope.names.lookup ("super" : Str) = some .globalImplicit) (h4 : fd.scope.names.lookup ("__class__" : Str) = some .free) (h5 : fd.scope.names.lookup ("self" : Str) = some .local) (h6 : ∃ ar, (fd.params.posonlyargs ++ fd.params.args).head? = some ar ∧ ar.arg = ("self" : Str)) : SupFn (cx w s) ad fd body := by
  obtain ⟨ob, oc, vs, t, file, tf, e1, e2, e3, e4, e5, e6, e7, e8⟩ := h
  exact ⟨⟨ob, B.gk (B.x _ _ e1) h1.1 h1.2.1, e2⟩, ⟨cd, oc, vs, file, tf, t, e3, B.gk (B.x _ _ e4) h1.2.2.1 h1.2.2.2, e5, e6, e7, e8⟩, hb, hc, hg, hn, h2.1, h2.2.1, h2.2.2, fun x hx => by
    have := List.all_eq_true.mp hf x hx
    simpa using this, h3, h4, h5, h6⟩
theorem s116 (B : HB w s) : SupFn (cx w s) 116 fd116 (fBody (mt 8)) := supfn B (cd := 115) ⟨_, _, _, _, _, _, rfl, rfl, rfl, rfl, rfl, rfl, by decide +kernel, rfl⟩ (by decide) rfl rfl rfl rfl ⟨rfl, rfl, rfl⟩ rfl rfl rfl rfl ⟨_, rfl, rfl⟩
theorem s79 (B : HB w s) : SupFn (cx w s) 79 fd79 (fBody (mt 3)) := supfn B (cd := 78) ⟨_, _, _, _, _, _, rfl, rfl, rfl, rfl, rfl, rfl, by decide +kernel, rfl⟩ (by decide) rfl rfl rfl rfl ⟨rfl, rfl, rfl⟩ rfl rfl rfl rfl ⟨_, rfl, rfl⟩
theorem s56 (B : HB w s) : SupFn (cx w s) 56 fd56 (fBody (mt 0)) := supfn B (cd := 55) ⟨_, _, _, _, _, _, rfl, rfl, rfl, rfl, rfl, rfl, by decide +kernel, rfl⟩ (by decide) rfl rfl rfl rfl ⟨rfl, rfl, rfl⟩ rfl rfl rfl rfl ⟨_, rfl, rfl⟩
theorem selfB {fd : FuncData} (h : ∀ P S y, peek (kG P) S (bindArgs fd ⟨[y], []⟩) = some [(("self" : Str), y)]) : SelfB (cx w s) fd := fun s' x X => kp_binds X fun S => h w.params S x
theorem bl : Bi (cx w s) "__len__" "list.__len__" "wrapper_descriptor" "wrapper_descriptor.__get__" "method-wrapper" := bi_len (by show alongIn (kG w.params) _ _ = _; kernel_rfl)
theorem bp : Bi (cx w s) "pop" "list.pop" "method_descriptor" "method_descriptor.__get__" "builtin_function_or_method" := bi_pop (by show alongIn (kG w.params) _ _ = _; kernel_rfl)
theorem bi : Bi (cx w s) "__init__" "list.__init__" "wrapper_descriptor" "wrapper_descriptor.__get__" "method-wrapper" := bi_init (by show alongIn (kG w.params) _ _ = _; kernel_rfl)
theorem part_ (B : HB w s) {A : Around} {E : Value → Shared → Prop} {s' : Shared} {Q : Value → Shared → Prop} {a d : Addr} {e : Nat} {vs : List Value} (hd : A.depth < recursionLimit) (k : ∀ b o, (cx w s).g.get? b = some o → s'.heap.get? b = some o) (ho : s'.heap.get? a = some (accO d vs e)) (q : ∀ h' tk t, Kp s' { s' with heap := h', toks := tk } → Q (.int vs.length t) { s' with heap := h', toks := tk }) : wpAny (cx w s).M A (call (.ref 116) [.ref a]) Q E s' :=
  part_raw (s116 B) (selfB fun P S y => by kernel_rfl) (topr B) (suptop B) bl (acck B.x) (fun L => ⟨_, rfl⟩) hd k ho q
theorem accf (B : HB w s) : AccF (cx w s) where
  KA := acck B.x
  T := topr B
  part := fun A E s' Q a d e vs hd k ho q => part_ B hd k ho q
  pop := fun A E s' Q a d e vs od hd k ho hl hod hs q1 q2 => pop_raw (s79 B) (selfB fun P S y => by kernel_rfl) (topr B) (suptop B) bp (acck B.x) (fun L => ⟨_, rfl⟩) (fun L => ⟨_, rfl⟩) (by show findIn (kG w.params) _ _ = _; kernel_rfl) (by show typeIn (kG w.params) _ = _; kernel_rfl) ⟨_, _, B.gk (B.x 116 _ rfl) (by decide) (by decide), rfl⟩ (fun hd k ho q => part_ B hd k ho q) hd k ho hl hod hs q1 q2
  make := fun A E s' Q hv hd k hg h1 h2 q => by
    refine make_raw (makek B) (acck B.x) k (init_raw (s56 B) (fun s2 x y X => kp_binds X fun S => by kernel_rfl) (topr B) (suptop B) bi (acck B.x) storek rfl (fun L => ⟨_, rfl⟩) (fun _ => rfl) (fun _ => rfl) ?hd (fun b o e => Heap.get?_push_of_some _ (Heap.get?_push_of_some _ (k b o e))) ?_ (Heap.get?_push_of_some _ (Heap.get?_push_size _ rfl)) hg (Nat.succ_ne_self _) fun h' tk kk t e e1 e2 e3 => ⟨rfl, q h' tk kk t e e1 e2 fun b o e0 => e3 b o ?_ ?_ (Heap.get?_push_of_some _ (Heap.get?_push_of_some _ e0))⟩)
    case hd => show A.depth + _ < _; rw [show (Code.builtin "type.__call__" ⟨[Value.ref 119, hv], []⟩).weight = 1 from by first | rfl | decide +kernel | kernel_rfl]; exact hd
    · rw [show s'.heap.objs.size + 1 = (s'.heap.push eDict).objs.size from (Heap.size_push ..).symm]
      exact Heap.get?_push_size _ rfl
    · exact Nat.ne_of_lt (Nat.lt_succ_of_lt (Heap.lt_size e0))
    · exact Nat.ne_of_lt (Heap.lt_size e0)
  keep := fun h k => (Looks.ld (part := Option.none) (k _ _ (B.gk (B.x 119 _ rfl) (by decide) (by decide)))).andThen ((looks_specialIn ((kx B.x).keeps k) (makek B).call).andThen .now)
theorem lenk (B : HB w s) : ∃ gsc kt p0 p1 p2 p3 p4 p5 p6 p7 p8 p9 p10 gp q0 q1 q2 q3 q4, LenK (cx w s) fd86 gsc kt p0 p1 p2 p3 p4 p5 p6 p7 p8 p9 p10 gp q0 q1 q2 q3 q4 := by
  refine ⟨_, _, _, _, _, _, _, _, _, _, _, _, _, _, _, _, _, _, _, {
    fn := f86 B
    code := rfl
    qual := by decide +kernel
    self := selfB fun P S y => by kernel_rfl
    nself := rfl
    nsum := rfl
    nscr := fun h => nomatch (show (none : Option NameKind) = some .local from h)
    sum := gl_ok B _ _ rfl
    len := ?_
    look := by show findIn (kG w.params) _ _ = _; kernel_rfl
    isFn := by show typeIn (kG w.params) _ = _; kernel_rfl
    gco := rfl
    gfree := ?_
    gcell := ?_
    g0 := rfl
    g1 := rfl
    g2 := rfl
    g3 := rfl
    gk := rfl
    fold := fun _ _ => rfl
    attr := fun _ => rfl
    args := fun _ => rfl }⟩
  · refine ⟨B.mg, B.mb, HB.nsg B.t.g (by decide) (by decide), HB.nsg B.t.b (by decide) (by decide), ?_, (B.t.builtins _ (by decide)).trans (by kernel_rfl)⟩
    have e : ∀ P, nsFind (es3 P) "len" = none := fun P => by kernel_rfl
    rw [B.mgx]; exact e _
  · intro x hx
    have := List.all_eq_true.mp (show ((_ : List (Str × NameKind)).all fun p => !(p.2 == .free)) = true from rfl) x hx
    simpa using this
  · intro x hx
    have := List.all_eq_true.mp (show ((_ : List (Str × NameKind)).all fun p => !(p.2 == .cell)) = true from rfl) x hx
    simpa using this
noncomputable def fpL : List (Str × Value) := [("append", .builtin "list.append"), ("push", .ref 63), ("pop_from", .ref 71), ("pop", .ref 79), ("part_count", .ref 116)]
theorem tt (B : HB w s) : TT (cx w s) where
  F := accf B
  SK := storek
  gl := gl_ok B
  gi := gi_ok B
  tab := tab_ok B.x
  f133 := f133 B
  f140 := f140 B
  f147 := f147 B
  f154 := f154 B
  f164 := f164 B
  f159 := f159 B
  f39 := f39 B
  f30 := f30 B
  f63 := f63 B
  f71 := f71 B
  b133 := bind1 B.x fun P S y => by kernel_rfl
  b140 := bind1 B.x fun P S y => by kernel_rfl
  b147 := bind1 B.x fun P S y => by kernel_rfl
  b154 := bind1 B.x fun P S y => by kernel_rfl
  b164 := bind1 B.x fun P S y => by kernel_rfl
  b159 := b159 B.x
  b39 := b39a B.x
  b39p := b39p B.x
  b39k := b39k B.x
  b39r := b39r B.x
  b30 := b30 B.x
  b63 := b63 B.x
  b71 := b71 B.x
  k116 := fun σ => .fn (B.gk (B.x 116 _ rfl) (by decide) (by decide)) rfl
  k79 := fun σ => .fn (B.gk (B.x 79 _ rfl) (by decide) (by decide)) rfl
  findP := fun nm f h => by
    have e : ∀ P, (fpL.map fun p => (findIn (kG P) (.ref 119) p.1, typeIn (kG P) p.2)) = fpL.map fun p => (some (some p.2), some (.type (match p.2 with | .builtin _ => "method_descriptor" | _ => "function"))) := fun P => by kernel_rfl
    have h2 := List.map_inj_left.mp (e w.params) (nm, f) (mem_of_lookup h)
    simp only [Prod.mk.injEq] at h2
    exact ⟨h2.1, _, h2.2, by cases f <;> rfl⟩
  lenA := fun ho hy hk => by
    obtain ⟨gsc, kt, p0, p1, p2, p3, p4, p5, p6, p7, p8, p9, p10, gp, q0, q1, q2, q3, q4, L⟩ := lenk B
    exact .lenA (acck B.x) storek (topr B) L ho hy hk
end
end Mine
namespace Mine
open PySem PySem.Calls PyProof.Rows PySem.W PySem.W.X
theorem ints_vrs {F : Addr → Prop} {μ : List Addr} {h : Heap} {vs : List Value} {xs : List Int} (r : IntsAre vs xs) : VRs F μ h (xs.map .int) vs := by
  induction r with
  | nil => exact .nil
  | cons n t _ ih => exact .cons (.int n t) ih
theorem law_run {w : World} {q0 : Program} {loose : List Str} {mean : ExcName → Option Value} {mg mb : Str → Option Value} {s : Shared} {xs : List Int} {vs : List Value} {a : Addr} {E : Value → Shared → Prop} {Q : Value → Shared → Prop} (T : Top q0 loose mean mg mb s.heap) (X : InK kF w s.heap) (hI : IntsAre vs xs) (hL : s.heap.get? a = some { cls := .type "list", data := .seq vs.toArray }) (hl : xs.length ≤ 63) (ha : a ≠ 166 ∧ a ≠ 81) (hg : s.gens = #[])
    (q : ∀ s', OldK s.heap s'.heap → s'.os = s.os → AllBare s'.gens → Q (.bool true) s') : wpAny (model pw w) callerA (call (.ref 169) [.ref a]) Q E s := by
  have B : HB w s := ⟨X, _, _, _, _, _, T⟩
  have H := tt B
  have g81 := X 81 _ rfl
  have g166 := X 166 _ rfl
  have I : Inv (cx w s) (fun _ => False) [] s [] := by
    have tn : ∀ b, Tab b → (hideAll s.heap [166, 81]).get? b = none := fun b t => hideAll_none _ (by rcases t with rfl | rfl <;> simp)
    have tt : ∀ b, Hid (fun _ => False) [] b → Tab b := fun b h => h.elim False.elim fun h => h.elim (fun m => nomatch m) id
    exact ⟨fun b o e => of_hideAll _ e, fun b h => tn b (tt b h), fun b h => (tt b h).elim (fun e => ⟨_, e ▸ g166⟩) (fun e => ⟨_, e ▸ g81⟩), fun b h => h.elim, fun b t => ⟨fun h => h, fun m => nomatch m⟩, (fun i j b e => nomatch e), rfl, (fun i o b e => nomatch e), by rw [hg]; exact AllBare.empty, rfl,
      ⟨#[], g166, trivial, fun pos c e => nomatch e⟩, ⟨#[], g81, trivial, fun pos c e => nomatch e⟩⟩
  have Hf := f169 B
  obtain ⟨o, ho, hd⟩ := Hf.at_
  have r : VRs (fun _ => False) [] s.heap [.lst (xs.map .int)] [.ref a] := .one (.lst (fun h => h.elim id fun h => h.elim (fun m => nomatch m) fun h => h.elim ha.1 ha.2) ⟨_, hL⟩ (by rw [List.length_map, lim]; exact Z407 hl) (ints_vrs (F := fun _ => False) (μ := []) (h := s.heap) hI).len (ints_vrs hI).at_)
  obtain ⟨bs, hbt, hnm, rb⟩ := (bind1 (x := "script") X (fun P S y => by kernel_rfl) [] (.lst (xs.map .int)) : BindR (cx w s) fd169 [] [.lst (xs.map .int)] [] [(("script" : Str), .lst (xs.map .int))]) I r (kws := []) ⟨rfl, .nil⟩
  have hcd : s.heap.CodeRec fd169.code fd169.qualname := by
    obtain ⟨k, ok, us, t, e1, e2, e3⟩ := Hf.code
    exact ⟨k, ok, us, t, e1, I.keep _ _ e2, e3⟩
  have rm : Room callerA 6 := ⟨rfl, by decide, by decide⟩
  obtain ⟨ρ', σ', hB⟩ := law_body H xs
  refine wpAny_call (codeAny_call_function rm.depth (I.keep _ _ ho) hd Hf.co Hf.gen Hf.body hcd (hbt _ _ _ _ ?_))
  rw [Hf.clo, Hf.gl, Hf.bn]
  have nd : (([(("script" : Str), AV.lst (xs.map .int))] : Ro).map (·.1)).Nodup := ndB_out rfl
  refine wpAny_newFunctionEnv_cells Hf.kind (fun x hx => ?_) fun env he s1 x => ?_
  · have : x.1 ∈ ([(("script" : Str), AV.lst (xs.map .int))] : Ro).map (·.1) := by rw [hnm]; exact List.mem_map_of_mem hx
    rw [List.mem_singleton.mp this]; exact .inl rfl
  · obtain ⟨g, N, new⟩ := enter_ok I (ρ := [(("script" : Str), .lst (xs.map .int))]) (by rw [he]; rfl) Hf.kind Hf.free hnm (hnm ▸ nd) rb (by rw [he]; exact Hf.tag) x
    refine ⟨Hf.lim.keeps fun b o e => x.toInCall.keep b o (I.keep b o e), codeAny_func (hB ⟨Around.frames_deeper rfl, by rw [he]; rfl⟩ (rm.deeper env) g.inv N fun fw s2 μ2 p2 N2 r2 => ?_)⟩
    have p := (g.weaken (W' := Own env fd169.scope) fun _ h => h.elim).trans p2
    have no : ∀ b o, s.heap.get? b = some o → ¬ Own env fd169.scope b := fun b o e h => absent e (new b (by
      rcases h with h | ⟨y, h, h'⟩
      · exact .inl h
      · exact .inr ⟨y, .inl ((N.kinds y _ h).resolve_right fun q => absurd q.1 (by decide)), h'⟩))
    cases r2 with
    | ret ry =>
      obtain rfl := ry.bool_inv
      refine q s2 ⟨fun b o e => ?_, fun b o e => p.ex b o e⟩ p.inv.os p.inv.bare
      by_cases t : Tab b
      · rcases t with rfl | rfl
        · rw [g166] at e; cases e
          obtain ⟨ps, e2, _⟩ := p.inv.lam
          exact .inr (.inl ⟨⟨168, _, _, X 168 _ rfl, rfl, rfl, rfl⟩, rfl, #[], ps, rfl, by rw [e2]; simp [tabObj, ob166]⟩)
        · rw [g81] at e; cases e
          obtain ⟨ps, e2, _⟩ := p.inv.gen
          exact .inr (.inl ⟨⟨85, _, _, X 85 _ rfl, rfl, rfl, rfl⟩, rfl, #[], ps, rfl, by rw [e2]; simp [tabObj, ob81]⟩)
      · exact .inl (p.same b o (no b o e) (fun m => nomatch m) t e)
end Mine
namespace Mine
open PySem PySem.Calls PyProof.Rows PySem.W PySem.W.X
theorem row_said : row.wellSaid = true := by rw [Fast.te9446332074065402090]; kernel_rfl
set_option maxHeartbeats 0 in
theorem hz2 : row.Holds := by
  w_on
  refine holds_law (l := row) row_said fun said => ?_
  refine holds_openX (q := viewQ) (loose := loose0) (Xt := Xt0) (XP := fun _ _ => True) (Yf := obsZ kAs) (Ya := valZ kF 170 570) (N := 4688) headL (fun _ _ => trivial) (fun _ _ _ _ _ => trivial) (by rfl) (by rfl) (by rfl) (fun s e => recFacts_of e) (by rfl) (by first | assumption | decide +kernel) (by decide +kernel) ⟨rfl, rfl, rfl, rfl, rfl, by decide +kernel⟩ ?hw ?hc
  case hw => exact ⟨[.list []], by decide +kernel, by decide +kernel⟩
  case hc =>
    intro w s₀ s₁ mg mb G Y fa o pm cd doc dV kV ho hd hcd hD hmg hg args vals as L hpre hlay hrd hwl hlo
    clear hd hD hcd ho
    have T := G.T
    have hm : mg ("law" : Str) = some (.ref fa) := hmg
    clear hmg
    wrow_args hpre hlay hrd hwl hlo
    rename_i xs hs hlay0 hL1 hr1 hl2 as1 as2 a vs as3 hL ra w1 r0 hI hr c1 c2
    obtain ⟨_, X0, Zn, _⟩ := z_facts (K := kF) (as := kAs) (fun _ => rfl) Y
    obtain ⟨hat, _⟩ := script_at L
    rw [Zn] at hat
    have hol := script_obj L hL
    have X1 : InK kF w s₁.heap := Frag.In.keeps X0 L.keeps
    have B : HB w s₁ := ⟨X1, _, _, _, mg, mb, T⟩
    have e : ∀ P, nsFind (es3 P) "law" = some (.ref 169) := fun P => by kernel_rfl
    have hB : mg ("law" : Str) = nsFind (es3 w.params) "law" := HB.mgx ⟨X1, _, _, _, mg, mb, T⟩ "law"
    rw [hB, e] at hm
    cases hm
    subst hat
    have hpost : row.row.claim.post [ofPy (PyData.list (List.map PyData.int xs))] (WData.bool true) [ofPy (PyData.list (List.map PyData.int xs))] = true := by first | rfl | (with_unfolding_all rfl) | kernel_rfl
    exact law_run T X1 hI hol (by omega) (by decide) hg fun s' k1 k2 k3 => ⟨.inl ⟨_, _, [], rfl, fun cls => rfl, ReadsW.bool true, hpost, fun _ => ⟨List.nodup_nil, fun _ h => nomatch h⟩⟩, k1, k2, k3⟩
end Mine
theorem PySem.Challenge.cw_ux0022_01_holds : PySem.Challenge.rw_ux0022_01.Holds :=
  Mine.hz2
