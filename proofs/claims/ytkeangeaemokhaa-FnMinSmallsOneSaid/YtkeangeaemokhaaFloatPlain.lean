/-
  Floating-point numbers of the model as plain data, no program in sight: every number that is no NaN has a whole number as its value, and two are ordered as their values are; a number's key (its value with the sign below it) tells it whole. No condition.
-/
import Derived.Test.YtkeangeaemokhaaBase
import GoSem.Core.Float
import Derived.Laws.FloatBits
namespace Go.Proofs.Ytkeangeaemokhaa
open Ieee

/-- What a word of a format can stand for. -/
def Fine (f : Format) : Datum → Prop
  | .number _ m i => f.leastPlace ≤ i ∧ m < 2 * f.binade ∧ (i = f.leastPlace ∨ f.binade ≤ m) ∧ (i - f.leastPlace).toNat ≤ 2 ^ f.exponentBits
  | _ => True

theorem read_fine (f : Format) (x : Nat) : Fine f (f.read x) := by
  have hb : 0 < f.binade := Nat.two_pow_pos _
  unfold Format.read
  dsimp only
  split
  · rename_i h
    simp only [Fine]
    exact ⟨Int.le_refl _, by omega, Or.inl trivial, by simp⟩
  · split
    · rename_i h1 h2
      have hm := Nat.mod_lt (x % f.signWeight) hb
      have hd : (x % f.signWeight) / f.binade < 2 ^ f.exponentBits - 1 := by
        rw [Nat.div_lt_iff_lt_mul hb]; exact h2
      simp only [Fine]
      generalize (x % f.signWeight) / f.binade = q at hd
      generalize 2 ^ f.exponentBits = E at hd
      exact ⟨by omega, by omega, Or.inr (by omega), by omega⟩
    · split <;> trivial

def big (f : Format) : Nat := 2 * f.binade * 2 ^ (2 ^ f.exponentBits)

theorem big_pos (f : Format) : 0 < big f := by
  unfold big
  have hb : 0 < f.binade := Nat.two_pow_pos _
  exact Nat.mul_pos (by omega) (Nat.two_pow_pos _)

def val (f : Format) : Datum → Int
  | .number s m i => Ieee.signed s m (i - f.leastPlace).toNat
  | .infinity s => if s then -(big f : Int) else (big f : Int)
  | .nan .. => 0

theorem signed_eq (s : Bool) (m u : Nat) : Ieee.signed s m u = (if s then -1 else 1) * ((m * 2 ^ u : Nat) : Int) := by
  unfold Ieee.signed
  rw [Nat.shiftLeft_eq]
  cases s <;> simp

theorem signed_add (s : Bool) (m u v : Nat) : Ieee.signed s m (u + v) = Ieee.signed s m u * ((2 ^ v : Nat) : Int) := by
  rw [signed_eq, signed_eq, Nat.pow_add, ← Nat.mul_assoc, Int.natCast_mul, Int.mul_assoc]

theorem mul_pow_lt {m A u U : Nat} (hm : m < A) (hu : u ≤ U) : m * 2 ^ u < A * 2 ^ U :=
  Nat.lt_of_lt_of_le (Nat.mul_lt_mul_of_pos_right hm (Nat.two_pow_pos _)) (Nat.mul_le_mul_left _ (Nat.pow_le_pow_right (by omega) hu))

theorem number_lt (f : Format) {s : Bool} {m : Nat} {i : Int} (h : Fine f (.number s m i)) : -(big f : Int) < val f (.number s m i) ∧ val f (.number s m i) < (big f : Int) := by
  obtain ⟨_, hm, _, hu⟩ := h
  have := mul_pow_lt hm hu
  simp only [val, signed_eq]
  unfold big
  generalize 2 * f.binade * 2 ^ (2 ^ f.exponentBits) = B at this
  generalize m * 2 ^ (i - f.leastPlace).toNat = q at this
  cases s <;> simp <;> omega

theorem compare_mul (a b c : Int) (h : 0 < c) : compare (a * c) (b * c) = compare a b := by
  rcases Int.lt_trichotomy a b with g | g | g
  · rw [Int.compare_eq_lt.2 g, Int.compare_eq_lt.2 (Int.mul_lt_mul_of_pos_right g h)]
  · rw [g, Int.compare_eq_eq.2 rfl, Int.compare_eq_eq.2 rfl]
  · rw [Int.compare_eq_gt.2 g, Int.compare_eq_gt.2 (Int.mul_lt_mul_of_pos_right g h)]

theorem order_val (f : Format) (d e : Datum) (hd : Fine f d) (he : Fine f e) (nd : d.isNaN = false) (ne : e.isNaN = false) : d.order e = some (compare (val f d) (val f e)) := by
  have hB := big_pos f
  cases d with
  | nan s t => simp [Datum.isNaN] at nd
  | infinity s =>
    cases e with
    | nan => simp [Datum.isNaN] at ne
    | infinity t =>
      have c1 : compare (big f : Int) (-(big f : Int)) = .gt := Int.compare_eq_gt.2 (by omega)
      have c2 : compare (-(big f : Int)) (big f : Int) = .lt := Int.compare_eq_lt.2 (by omega)
      have c3 : compare (big f : Int) (big f : Int) = .eq := Int.compare_eq_eq.2 rfl
      have c4 : compare (-(big f : Int)) (-(big f : Int)) = .eq := Int.compare_eq_eq.2 rfl
      cases s <;> cases t
      · show some (compare (0 : Nat) 0) = some (compare (big f : Int) (big f : Int)); rw [c3]; rfl
      · show some (compare (1 : Nat) 0) = some (compare (big f : Int) (-(big f : Int))); rw [c1]; rfl
      · show some (compare (0 : Nat) 1) = some (compare (-(big f : Int)) (big f : Int)); rw [c2]; rfl
      · show some (compare (1 : Nat) 1) = some (compare (-(big f : Int)) (-(big f : Int))); rw [c4]; rfl
    | number t n j =>
      have hn := number_lt f he
      simp only [Datum.order]
      have hv : val f (.infinity s) = if s then -(big f : Int) else (big f : Int) := rfl
      rw [hv]
      cases s
      · rw [Int.compare_eq_gt.2 (by simp; omega)]; simp
      · rw [Int.compare_eq_lt.2 (by simp; omega)]; simp
  | number s m i =>
    cases e with
    | nan => simp [Datum.isNaN] at ne
    | infinity t =>
      have hn := number_lt f hd
      simp only [Datum.order]
      have hv : val f (.infinity t) = if t then -(big f : Int) else (big f : Int) := rfl
      rw [hv]
      cases t
      · rw [Int.compare_eq_lt.2 (by simp; omega)]; simp
      · rw [Int.compare_eq_gt.2 (by simp; omega)]; simp
    | number t n j =>
      have h1 := hd.1
      have h2 := he.1
      simp only [Datum.order, val]
      have e1 : (i - f.leastPlace).toNat = (i - min i j).toNat + (min i j - f.leastPlace).toNat := by omega
      have e2 : (j - f.leastPlace).toNat = (j - min i j).toNat + (min i j - f.leastPlace).toNat := by omega
      rw [e1, e2, signed_add, signed_add, compare_mul _ _ _ (by have := Nat.two_pow_pos (min i j - f.leastPlace).toNat; omega)]

theorem order_none (d e : Datum) (h : d.isNaN = true ∨ e.isNaN = true) : d.order e = none := by
  cases d <;> cases e <;> simp_all [Datum.isNaN, Datum.order]

/-- Two numbers of one value and one sign are one. -/
theorem val_inj (f : Format) (d e : Datum) (hd : Fine f d) (he : Fine f e) (nd : d.isNaN = false) (ne : e.isNaN = false) (hv : val f d = val f e) (hs : d.neg = e.neg) : d = e := by
  have hB := big_pos f
  cases d with
  | nan s t => simp [Datum.isNaN] at nd
  | infinity s =>
    cases e with
    | nan => simp [Datum.isNaN] at ne
    | infinity t => simp only [Datum.neg] at hs; rw [hs]
    | number t n j =>
      have hn := number_lt f he
      have hq : val f (.infinity s) = if s then -(big f : Int) else (big f : Int) := rfl
      rw [hq] at hv
      exfalso
      cases s <;> simp at hv <;> omega
  | number s m i =>
    cases e with
    | nan => simp [Datum.isNaN] at ne
    | infinity t =>
      have hn := number_lt f hd
      have hq : val f (.infinity t) = if t then -(big f : Int) else (big f : Int) := rfl
      rw [hq] at hv
      exfalso
      cases t <;> simp at hv <;> omega
    | number t n j =>
      simp only [Datum.neg] at hs
      subst hs
      obtain ⟨a1, a2, a3, _⟩ := hd
      obtain ⟨b1, b2, b3, _⟩ := he
      simp only [val, signed_eq] at hv
      have hN : m * 2 ^ (i - f.leastPlace).toNat = n * 2 ^ (j - f.leastPlace).toNat := by
        generalize m * 2 ^ (i - f.leastPlace).toNat = A at hv ⊢
        generalize n * 2 ^ (j - f.leastPlace).toNat = C at hv ⊢
        cases s <;> simp at hv <;> omega
      have key : ∀ (m n u v : Nat), m * 2 ^ u = n * 2 ^ v → u < v → m < 2 * f.binade → f.binade ≤ n → False := by
        intro m n u v h hu hm hn
        have e : v = u + (v - u - 1) + 1 := by omega
        rw [e, Nat.pow_succ, Nat.pow_add] at h
        have p1 := Nat.two_pow_pos u
        have p2 := Nat.two_pow_pos (v - u - 1)
        have h' : m * 2 ^ u = (n * 2 ^ (v - u - 1) * 2) * 2 ^ u := by rw [h]; ac_rfl
        have hm' : m = n * 2 ^ (v - u - 1) * 2 := Nat.eq_of_mul_eq_mul_right p1 h'
        have : n * 1 ≤ n * 2 ^ (v - u - 1) := Nat.mul_le_mul_left _ p2
        omega
      rcases Nat.lt_trichotomy (i - f.leastPlace).toNat (j - f.leastPlace).toNat with g | g | g
      · exact (key m n _ _ hN g a2 (by rcases b3 with b3 | b3 <;> omega)).elim
      · rw [g] at hN
        have hmn : m = n := Nat.eq_of_mul_eq_mul_right (Nat.two_pow_pos _) hN
        have hij : i = j := by omega
        rw [hmn, hij]
      · exact (key n m _ _ hN.symm g b2 (by rcases a3 with a3 | a3 <;> omega)).elim

/-! ### The kinds' words -/
def nanB (k : FloatKind) (x : Nat) : Bool := (k.format.read x).isNaN
def negB (k : FloatKind) (x : Nat) : Bool := (k.format.read x).neg
def fval (k : FloatKind) (x : Nat) : Int := val k.format (k.format.read x)

/-- The number's key: none for a NaN; else twice its value, and one more where it has no sign: the order of min and max. -/
def key (k : FloatKind) (x : Nat) : Option Int := if nanB k x then none else some (2 * fval k x + if negB k x then 0 else 1)

theorem key_nan {k : FloatKind} {x : Nat} (h : nanB k x = true) : key k x = none := by simp [key, h]
theorem key_num {k : FloatKind} {x : Nat} (h : nanB k x = false) : key k x = some (2 * fval k x + if negB k x then 0 else 1) := by simp [key, h]
theorem nan_of_key {k : FloatKind} {x : Nat} : nanB k x = true ↔ key k x = none := by
  unfold key; cases nanB k x <;> simp

theorem order_num {k : FloatKind} {x y : Nat} (hx : nanB k x = false) (hy : nanB k y = false) : k.format.order x y = some (compare (fval k x) (fval k y)) :=
  order_val _ _ _ (read_fine _ _) (read_fine _ _) hx hy
theorem order_nan {k : FloatKind} {x y : Nat} (h : nanB k x = true ∨ nanB k y = true) : k.format.order x y = none := order_none _ _ h

theorem order_lt {k : FloatKind} {x y : Nat} (hx : nanB k x = false) (hy : nanB k y = false) (h : fval k x < fval k y) : k.format.order x y = some .lt := by
  rw [order_num hx hy, Int.compare_eq_lt.2 h]
theorem order_eq {k : FloatKind} {x y : Nat} (hx : nanB k x = false) (hy : nanB k y = false) (h : fval k x = fval k y) : k.format.order x y = some .eq := by
  rw [order_num hx hy, Int.compare_eq_eq.2 h]
theorem order_gt {k : FloatKind} {x y : Nat} (hx : nanB k x = false) (hy : nanB k y = false) (h : fval k y < fval k x) : k.format.order x y = some .gt := by
  rw [order_num hx hy, Int.compare_eq_gt.2 h]

theorem order_self_nan (k : FloatKind) (x : Nat) : (k.format.order x x != some .eq) = nanB k x := by
  cases h : nanB k x
  · rw [order_eq h h rfl]; rfl
  · rw [order_nan (Or.inl h)]; rfl

theorem key_inj {k : FloatKind} {x y : Nat} (hx : nanB k x = false) (h : key k x = key k y) : nanB k y = false ∧ fval k x = fval k y ∧ negB k x = negB k y ∧ k.format.read x = k.format.read y := by
  have hy : nanB k y = false := by
    cases hy : nanB k y
    · rfl
    · rw [key_num hx, key_nan hy] at h; cases h
  rw [key_num hx, key_num hy] at h
  have h' : 2 * fval k x + (if negB k x then 0 else 1) = 2 * fval k y + if negB k y then 0 else 1 := Option.some.inj h
  have hv : fval k x = fval k y := by
    revert h'; cases negB k x <;> cases negB k y <;> simp <;> omega
  have hs : negB k x = negB k y := by
    revert h'; cases negB k x <;> cases negB k y <;> simp <;> omega
  exact ⟨hy, hv, hs, val_inj _ _ _ (read_fine _ _) (read_fine _ _) hx hy hv hs⟩

/-- The reference's notion of one and the same number. -/
def sameB (k : FloatKind) (x y : Nat) : Bool := (nanB k x && nanB k y) || (k.format.order x y == some .eq && negB k x == negB k y)

theorem same_of_key {k : FloatKind} {x y : Nat} (h : key k x = key k y) : sameB k x y = true := by
  unfold sameB
  cases hx : nanB k x
  · obtain ⟨hy, hv, hs, _⟩ := key_inj hx h
    rw [order_eq hx hy hv, hs]; simp
  · rw [key_nan hx] at h
    have := nan_of_key.2 h.symm
    simp [this]

/-- Of two keys the smaller one, the larger one; none where one is none. -/
def kmin : Option Int → Option Int → Option Int
  | some a, some b => some (imin a b)
  | _, _ => none
def kmax : Option Int → Option Int → Option Int
  | some a, some b => some (imax a b)
  | _, _ => none

theorem kmin_comm (a b : Option Int) : kmin a b = kmin b a := by cases a <;> cases b <;> simp [kmin, imin_comm]
theorem kmax_comm (a b : Option Int) : kmax a b = kmax b a := by cases a <;> cases b <;> simp [kmax, imax_comm]
theorem kmin_assoc (a b c : Option Int) : kmin (kmin a b) c = kmin a (kmin b c) := by cases a <;> cases b <;> cases c <;> simp [kmin, imin_assoc]
theorem kmax_assoc (a b c : Option Int) : kmax (kmax a b) c = kmax a (kmax b c) := by cases a <;> cases b <;> cases c <;> simp [kmax, imax_assoc]
theorem kmin_self (a : Option Int) : kmin a a = a := by cases a <;> simp [kmin, imin_self]
theorem kmax_self (a : Option Int) : kmax a a = a := by cases a <;> simp [kmax, imax_self]
theorem kmin_turn (a b c : Option Int) : kmin (kmin a b) c = kmin (kmin c a) b := by rw [kmin_comm c a, kmin_assoc a c b, kmin_comm c b, ← kmin_assoc]
theorem kmax_turn (a b c : Option Int) : kmax (kmax a b) c = kmax (kmax c a) b := by rw [kmax_comm c a, kmax_assoc a c b, kmax_comm c b, ← kmax_assoc]
theorem kmin_swap (a b c : Option Int) : kmin (kmin a b) c = kmin (kmin b a) c := by rw [kmin_comm a b]
theorem kmax_swap (a b c : Option Int) : kmax (kmax a b) c = kmax (kmax b a) c := by rw [kmax_comm a b]

/-- What min, max of two numbers give that are no NaNs. -/
def fmin (k : FloatKind) (x y : Nat) : Nat := if fval k x < fval k y then x else if fval k y < fval k x then y else if negB k x then x else y
def fmax (k : FloatKind) (x y : Nat) : Nat := if fval k x < fval k y then y else if fval k y < fval k x then x else if negB k x then y else x

theorem sgn_cases (b : Bool) : (b = true ∧ (if b then (0 : Int) else 1) = 0) ∨ (b = false ∧ (if b then (0 : Int) else 1) = 1) := by cases b <;> simp

theorem key_fmin {k : FloatKind} {x y : Nat} (hx : nanB k x = false) (hy : nanB k y = false) : key k (fmin k x y) = kmin (key k x) (key k y) := by
  have h1 := key_num hx
  have h2 := key_num hy
  have s1 := sgn_cases (negB k x)
  have s2 := sgn_cases (negB k y)
  have hi := imin_cases (2 * fval k x + if negB k x then 0 else 1) (2 * fval k y + if negB k y then 0 else 1)
  have hR : kmin (key k x) (key k y) = some (imin (2 * fval k x + if negB k x then 0 else 1) (2 * fval k y + if negB k y then 0 else 1)) := by rw [h1, h2]; rfl
  rw [hR]
  rcases Int.lt_trichotomy (fval k x) (fval k y) with h | h | h
  · have e : fmin k x y = x := by simp [fmin, h]
    rw [e, h1]
    exact congrArg some (by omega)
  · rcases s1 with ⟨n1, s1⟩ | ⟨n1, s1⟩
    · have e : fmin k x y = x := by simp [fmin, h, n1]
      rw [e, h1]
      exact congrArg some (by omega)
    · have e : fmin k x y = y := by simp [fmin, h, n1]
      rw [e, h2]
      exact congrArg some (by omega)
  · have e : fmin k x y = y := by
      have : ¬ fval k x < fval k y := by omega
      simp [fmin, h, this]
    rw [e, h2]
    exact congrArg some (by omega)

theorem key_fmax {k : FloatKind} {x y : Nat} (hx : nanB k x = false) (hy : nanB k y = false) : key k (fmax k x y) = kmax (key k x) (key k y) := by
  have h1 := key_num hx
  have h2 := key_num hy
  have s1 := sgn_cases (negB k x)
  have s2 := sgn_cases (negB k y)
  have hi := imax_cases (2 * fval k x + if negB k x then 0 else 1) (2 * fval k y + if negB k y then 0 else 1)
  have hR : kmax (key k x) (key k y) = some (imax (2 * fval k x + if negB k x then 0 else 1) (2 * fval k y + if negB k y then 0 else 1)) := by rw [h1, h2]; rfl
  rw [hR]
  rcases Int.lt_trichotomy (fval k x) (fval k y) with h | h | h
  · have e : fmax k x y = y := by simp [fmax, h]
    rw [e, h2]
    exact congrArg some (by omega)
  · rcases s1 with ⟨n1, s1⟩ | ⟨n1, s1⟩
    · have e : fmax k x y = y := by simp [fmax, h, n1]
      rw [e, h2]
      exact congrArg some (by omega)
    · have e : fmax k x y = x := by simp [fmax, h, n1]
      rw [e, h1]
      exact congrArg some (by omega)
  · have e : fmax k x y = x := by
      have : ¬ fval k x < fval k y := by omega
      simp [fmax, h, this]
    rw [e, h1]
    exact congrArg some (by omega)

theorem kmin_nan_left {k : FloatKind} {x : Nat} (h : nanB k x = true) (b : Option Int) : kmin (key k x) b = none := by rw [key_nan h]; rfl
theorem kmin_nan_right {k : FloatKind} {x : Nat} (h : nanB k x = true) (a : Option Int) : kmin a (key k x) = none := by rw [key_nan h]; cases a <;> rfl
theorem kmax_nan_left {k : FloatKind} {x : Nat} (h : nanB k x = true) (b : Option Int) : kmax (key k x) b = none := by rw [key_nan h]; rfl
theorem kmax_nan_right {k : FloatKind} {x : Nat} (h : nanB k x = true) (a : Option Int) : kmax a (key k x) = none := by rw [key_nan h]; cases a <;> rfl

end Go.Proofs.Ytkeangeaemokhaa
