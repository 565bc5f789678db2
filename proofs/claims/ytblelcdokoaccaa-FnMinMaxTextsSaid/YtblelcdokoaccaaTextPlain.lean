/-
  The order of texts of the model as a plain order, no program in sight: it is total, it goes on over three, and two that are not apart are one; the smaller and the larger one of two. No condition.
-/
import Derived.Test.YtblelcdokoaccaaBase
import GoSem.Op.String
import Derived.Laws.Strings
import Derived.WideShapes
namespace Go.Proofs.Ytblelcdokoaccaa

theorem u8_tri (a b : UInt8) : (a < b ∧ ¬ b < a ∧ a ≠ b) ∨ (a = b ∧ ¬ a < b ∧ ¬ b < a) ∨ (¬ a < b ∧ b < a ∧ a ≠ b) := by
  simp only [UInt8.lt_iff_toNat_lt, ← UInt8.toNat_inj, ne_eq]
  omega

theorem less_cons_eq (a : UInt8) (x y : List UInt8) : Op.bytesLess (a :: x) (a :: y) = Op.bytesLess x y := by
  rcases u8_tri a a with h | h | h
  · exact (h.2.2 rfl).elim
  · simp [Op.bytesLess]
  · exact (h.2.2 rfl).elim

theorem less_cons_ne (a b : UInt8) (x y : List UInt8) (h : a ≠ b) : Op.bytesLess (a :: x) (b :: y) = decide (a < b) := by
  simp [Op.bytesLess, h]

theorem less_tri : ∀ x y : List UInt8, (Op.bytesLess x y = true ∧ Op.bytesLess y x = false) ∨ (x = y ∧ Op.bytesLess x y = false ∧ Op.bytesLess y x = false) ∨ (Op.bytesLess x y = false ∧ Op.bytesLess y x = true)
  | [], [] => Or.inr (Or.inl ⟨rfl, rfl, rfl⟩)
  | [], _ :: _ => Or.inl ⟨rfl, rfl⟩
  | _ :: _, [] => Or.inr (Or.inr ⟨rfl, rfl⟩)
  | a :: x, b :: y => by
    rcases u8_tri a b with ⟨h1, h2, h3⟩ | ⟨h1, h2, h3⟩ | ⟨h1, h2, h3⟩
    · rw [less_cons_ne a b x y h3, less_cons_ne b a y x (Ne.symm h3)]; left; simp [h1, h2]
    · subst h1
      rw [less_cons_eq, less_cons_eq]
      rcases less_tri x y with h | ⟨h, h'⟩ | h
      · exact Or.inl h
      · subst h; exact Or.inr (Or.inl ⟨rfl, h'⟩)
      · exact Or.inr (Or.inr h)
    · rw [less_cons_ne a b x y h3, less_cons_ne b a y x (Ne.symm h3)]; right; right; simp [h1, h2]

theorem less_trans : ∀ x y z : List UInt8, Op.bytesLess x y = true → Op.bytesLess y z = true → Op.bytesLess x z = true
  | x, [], _, h, _ => by cases x <;> cases h
  | _, _ :: _, [], _, h => by cases h
  | [], _ :: _, _ :: _, _, _ => rfl
  | a :: x, b :: y, c :: z, h, g => by
    by_cases ab : a = b
    · subst ab
      rw [less_cons_eq] at h
      by_cases bc : a = c
      · subst bc
        rw [less_cons_eq] at g ⊢
        exact less_trans x y z h g
      · rw [less_cons_ne _ _ _ _ bc] at g ⊢; exact g
    · rw [less_cons_ne _ _ _ _ ab] at h
      by_cases bc : b = c
      · subst bc
        rw [less_cons_ne _ _ _ _ ab]; exact h
      · rw [less_cons_ne _ _ _ _ bc] at g
        simp only [decide_eq_true_eq, UInt8.lt_iff_toNat_lt] at h g
        have ac : a ≠ c := by
          intro e; subst e; omega
        rw [less_cons_ne _ _ _ _ ac]
        simp only [decide_eq_true_eq, UInt8.lt_iff_toNat_lt]; omega

/-- The first text is not behind the second one. -/
def tle (x y : ByteArray) : Bool := !Op.bytesLess y.toList x.toList

theorem toList_inj {x y : ByteArray} (h : x.toList = y.toList) : x = y := by
  rw [ByteArray.toList_eq, ByteArray.toList_eq] at h
  exact WideShapes.bytes_inj h

theorem tle_eq (x y : ByteArray) : (Op.bytesLess x.toList y.toList || x.toList == y.toList) = tle x y := by
  unfold tle
  rcases less_tri x.toList y.toList with ⟨h1, h2⟩ | ⟨h0, h1, h2⟩ | ⟨h1, h2⟩
  · rw [h1, h2]; rfl
  · rw [h1, h2, h0]; simp
  · rw [h1, h2]
    have : (x.toList == y.toList) = false := by
      rw [beq_eq_false_iff_ne]
      intro e; rw [e] at h1 h2; rw [h1] at h2; cases h2
    rw [this]; rfl

theorem tle_refl (x : ByteArray) : tle x x = true := by
  rw [← tle_eq]; simp
theorem tle_total (x y : ByteArray) (h : tle x y = false) : tle y x = true := by
  unfold tle at *
  rcases less_tri x.toList y.toList with ⟨h1, h2⟩ | ⟨h0, h1, h2⟩ | ⟨h1, h2⟩ <;> simp_all
theorem tle_anti (x y : ByteArray) (h : tle x y = true) (g : tle y x = true) : x = y := by
  unfold tle at *
  rcases less_tri x.toList y.toList with ⟨h1, h2⟩ | ⟨h0, h1, h2⟩ | ⟨h1, h2⟩
  · simp_all
  · exact toList_inj h0
  · simp_all
theorem tle_trans (x y z : ByteArray) (h : tle x y = true) (g : tle y z = true) : tle x z = true := by
  rw [← tle_eq] at h g ⊢
  rw [Bool.or_eq_true] at h g ⊢
  rcases h with h | h
  · rcases g with g | g
    · exact Or.inl (less_trans _ _ _ h g)
    · rw [beq_iff_eq] at g; rw [← g]; exact Or.inl h
  · rw [beq_iff_eq] at h; rw [h]; exact g

def tmin (x y : ByteArray) : ByteArray := if tle x y then x else y
def tmax (x y : ByteArray) : ByteArray := if tle y x then x else y

theorem tmin_pos {x y : ByteArray} (h : tle x y = true) : tmin x y = x := by simp [tmin, h]
theorem tmin_neg {x y : ByteArray} (h : tle x y = false) : tmin x y = y := by simp [tmin, h]
theorem tmax_pos {x y : ByteArray} (h : tle y x = true) : tmax x y = x := by simp [tmax, h]
theorem tmax_neg {x y : ByteArray} (h : tle y x = false) : tmax x y = y := by simp [tmax, h]

theorem tmin_comm (x y : ByteArray) : tmin x y = tmin y x := by
  cases h : tle x y
  · rw [tmin_neg h, tmin_pos (tle_total _ _ h)]
  · cases g : tle y x
    · rw [tmin_pos h, tmin_neg g]
    · rw [tle_anti _ _ h g]
theorem tmax_comm (x y : ByteArray) : tmax x y = tmax y x := by
  cases h : tle y x
  · rw [tmax_neg h, tmax_pos (tle_total _ _ h)]
  · cases g : tle x y
    · rw [tmax_pos h, tmax_neg g]
    · rw [tle_anti _ _ h g]
theorem tmin_assoc (x y z : ByteArray) : tmin (tmin x y) z = tmin x (tmin y z) := by
  cases xy : tle x y
  · rw [tmin_neg xy]
    cases yz : tle y z
    · rw [tmin_neg yz]
      cases xz : tle x z
      · rw [tmin_neg xz]
      · have := tle_trans x z y xz (tle_total _ _ yz)
        rw [xy] at this; cases this
    · rw [tmin_pos yz, tmin_neg xy]
  · rw [tmin_pos xy]
    cases yz : tle y z
    · rw [tmin_neg yz]
    · rw [tmin_pos yz, tmin_pos xy, tmin_pos (tle_trans _ _ _ xy yz)]
theorem tmax_assoc (x y z : ByteArray) : tmax (tmax x y) z = tmax x (tmax y z) := by
  cases xy : tle y x
  · rw [tmax_neg xy]
    cases yz : tle z y
    · rw [tmax_neg yz]
      cases xz : tle z x
      · rw [tmax_neg xz]
      · have := tle_trans y z x (tle_total _ _ yz) xz
        rw [xy] at this; cases this
    · rw [tmax_pos yz, tmax_neg xy]
  · rw [tmax_pos xy]
    cases yz : tle z y
    · rw [tmax_neg yz]
    · rw [tmax_pos yz, tmax_pos xy, tmax_pos (tle_trans _ _ _ yz xy)]
theorem tmin_self (x : ByteArray) : tmin x x = x := tmin_pos (tle_refl x)
theorem tmax_self (x : ByteArray) : tmax x x = x := tmax_pos (tle_refl x)
theorem tmin_turn (a b c : ByteArray) : tmin (tmin a b) c = tmin (tmin c a) b := by rw [tmin_comm c a, tmin_assoc a c b, tmin_comm c b, ← tmin_assoc]
theorem tmax_turn (a b c : ByteArray) : tmax (tmax a b) c = tmax (tmax c a) b := by rw [tmax_comm c a, tmax_assoc a c b, tmax_comm c b, ← tmax_assoc]
theorem tmin_swap (a b c : ByteArray) : tmin (tmin a b) c = tmin (tmin b a) c := by rw [tmin_comm a b]
theorem tmax_swap (a b c : ByteArray) : tmax (tmax a b) c = tmax (tmax b a) c := by rw [tmax_comm a b]
theorem tmin_one (x y : ByteArray) : tmin x y = x ∨ tmin x y = y := by unfold tmin; split <;> simp
theorem tmax_one (x y : ByteArray) : tmax x y = x ∨ tmax x y = y := by unfold tmax; split <;> simp
theorem tmin_le (x y : ByteArray) : tle (tmin x y) x = true ∧ tle (tmin x y) y = true := by
  cases h : tle x y
  · rw [tmin_neg h]; exact ⟨tle_total _ _ h, tle_refl _⟩
  · rw [tmin_pos h]; exact ⟨tle_refl _, h⟩
theorem tmax_ge (x y : ByteArray) : tle x (tmax x y) = true ∧ tle y (tmax x y) = true := by
  cases h : tle y x
  · rw [tmax_neg h]; exact ⟨tle_total _ _ h, tle_refl _⟩
  · rw [tmax_pos h]; exact ⟨tle_refl _, h⟩

/-! ### A step of the reference's comparison, byte by byte -/
theorem data_length (x : ByteArray) : x.toList.length = x.size := by rw [ByteArray.toList_eq]; simp
theorem drop_byte (x : ByteArray) (k : Nat) (h : k < x.size) : x.toList.drop k = x[k] :: x.toList.drop (k + 1) := by
  rw [List.drop_eq_getElem_cons (by rw [data_length]; exact h)]
  congr 1
  simp only [ByteArray.toList_eq]
  rfl
theorem less_step (x y : ByteArray) (k : Nat) (hx : k < x.size) (hy : k < y.size) (e : (x[k].toNat : Int) = y[k].toNat) : Op.bytesLess (x.toList.drop k) (y.toList.drop k) = Op.bytesLess (x.toList.drop (k + 1)) (y.toList.drop (k + 1)) := by
  have e' : x[k] = y[k] := UInt8.toNat_inj.1 (by omega)
  rw [drop_byte x k hx, drop_byte y k hy, e', less_cons_eq]
theorem less_here (x y : ByteArray) (k : Nat) (hx : k < x.size) (hy : k < y.size) (e : (x[k].toNat : Int) ≠ y[k].toNat) : Op.bytesLess (x.toList.drop k) (y.toList.drop k) = decide ((x[k].toNat : Int) < y[k].toNat) := by
  have e' : x[k] ≠ y[k] := fun h => e (by rw [h])
  rw [drop_byte x k hx, drop_byte y k hy, less_cons_ne _ _ _ _ e']
  simp [UInt8.lt_iff_toNat_lt]
theorem less_end (x y : ByteArray) (k : Nat) (h : x.size ≤ k ∨ y.size ≤ k) (hx : k ≤ x.size) (hy : k ≤ y.size) : Op.bytesLess (x.toList.drop k) (y.toList.drop k) = decide (x.size < y.size) := by
  by_cases hy' : k < y.size
  · have ex : x.toList.drop k = [] := List.drop_eq_nil_of_le (by rw [data_length]; omega)
    rw [ex, drop_byte y k hy']
    have : x.size < y.size := by omega
    simp [Op.bytesLess, this]
  · have ey : y.toList.drop k = [] := List.drop_eq_nil_of_le (by rw [data_length]; omega)
    rw [ey]
    have : ¬ x.size < y.size := by omega
    cases x.toList.drop k <;> simp [Op.bytesLess, this]

theorem min2_text (x y : ByteArray) : Builtin.min2 (.string x) (.string y) = pure (.string (tmin x y)) := by
  have h := tle_eq x y
  simp [Builtin.min2, Op.stringOp, asBool, tmin, ← h]
theorem max2_text (x y : ByteArray) : Builtin.max2 (.string x) (.string y) = pure (.string (tmax x y)) := by
  simp [Builtin.max2, Op.stringOp, asBool, tmax, tle]

section
variable {P : Program} (w : World)
theorem run_min_text2 (ts : Array TypeId) (t : TypeId) (x y : ByteArray) : (Builtin.min_ ts t #[.string x, .string y]).run P w = .ok (.string (tmin x y)) w := by
  simp [Builtin.min_, min2_text]
theorem run_max_text2 (ts : Array TypeId) (t : TypeId) (x y : ByteArray) : (Builtin.max_ ts t #[.string x, .string y]).run P w = .ok (.string (tmax x y)) w := by
  simp [Builtin.max_, max2_text]
theorem run_min_text3 (ts : Array TypeId) (t : TypeId) (x y z : ByteArray) : (Builtin.min_ ts t #[.string x, .string y, .string z]).run P w = .ok (.string (tmin (tmin x y) z)) w := by
  simp [Builtin.min_, min2_text]
theorem run_max_text3 (ts : Array TypeId) (t : TypeId) (x y z : ByteArray) : (Builtin.max_ ts t #[.string x, .string y, .string z]).run P w = .ok (.string (tmax (tmax x y) z)) w := by
  simp [Builtin.max_, max2_text]
end

end Go.Proofs.Ytblelcdokoaccaa
