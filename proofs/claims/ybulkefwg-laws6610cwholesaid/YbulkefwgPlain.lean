/-
  The plain law: runs of digits, their value, saturation, and the comparison of texts of equal length. No Go here.
-/
import Derived.Test.YbulkefwgProg
import Derived.WalkKit
namespace Go.Proofs.Ybulkefwg

/-- The byte at j. -/
def bt (s : ByteArray) (j : Nat) : Nat := if h : j < s.size then (s[j]'h).toNat else 0
theorem bt_eq {s : ByteArray} {j : Nat} (h : j < s.size) : (s[j]'h).toNat = bt s j := by simp [bt, h]
theorem bt_lt (s : ByteArray) (j : Nat) : bt s j < 256 := by
  unfold bt
  split
  · rename_i h
    exact (s[j]'h).toNat_lt
  · omega
theorem bt_list {s : ByteArray} {j : Nat} (h : j < s.size) : s.toList[j]? = some (UInt8.ofNat (bt s j)) := by
  rw [ByteArray.toList_eq, Array.getElem?_toList]
  have h' : j < s.data.size := h
  rw [Array.getElem?_eq_getElem h', ← bt_eq h]
  simp
  rfl

/-- The first i bytes are the leading run of digits. -/
structure Run (s : ByteArray) (i : Nat) : Prop where
  le : i ≤ s.size
  all : ∀ j, j < i → 48 ≤ bt s j ∧ bt s j ≤ 57
  stop : i < s.size → ¬ (48 ≤ bt s i ∧ bt s i ≤ 57)
theorem Run.uniq {s : ByteArray} {i k : Nat} (h : Run s i) (h' : Run s k) : i = k := by
  rcases Nat.lt_trichotomy i k with a | a | a
  · exact absurd (h'.all i a) (h.stop (by have := h'.le; omega))
  · exact a
  · exact absurd (h.all k a) (h'.stop (by have := h.le; omega))

/-- The value of k digits from a. -/
def val (s : ByteArray) (a : Nat) : Nat → Nat
  | 0 => 0
  | k + 1 => val s a k * 10 + (bt s (a + k) - 48)

theorem sat_step (V d : Nat) (hd : d ≤ 9) : (if min V 9223372036854775807 ≤ (9223372036854775807 - d) / 10 then min V 9223372036854775807 * 10 + d else 9223372036854775807) = min (V * 10 + d) 9223372036854775807 := by
  split <;> omega

theorem val_zero {s : ByteArray} {j : Nat} (h : ∀ t, t < j → bt s t = 48) : val s 0 j = 0 := by
  induction j with
  | zero => rfl
  | succ j ih =>
    simp only [val, ih (fun t ht => h t (by omega)), Nat.zero_add, Nat.zero_mul, h j (by omega)]
theorem val_shift {s : ByteArray} {j : Nat} (h : ∀ t, t < j → bt s t = 48) (k : Nat) : val s 0 (j + k) = val s j k := by
  induction k with
  | zero => exact val_zero h
  | succ k ih =>
    rw [← Nat.add_assoc, val, val, ih, Nat.zero_add]
theorem val_congr {s x : ByteArray} {a b : Nat} (k : Nat) (h : ∀ t, t < k → bt s (a + t) = bt x (b + t)) : val s a k = val x b k := by
  induction k with
  | zero => rfl
  | succ k ih =>
    rw [val, val, ih (fun t ht => h t (by omega)), h k (by omega)]
theorem val_mono (s : ByteArray) (a : Nat) {k m : Nat} (h : k ≤ m) : val s a k ≤ val s a m := by
  induction m with
  | zero => rw [Nat.le_zero.1 h]; exact Nat.le_refl _
  | succ m ih =>
    by_cases e : k = m + 1
    · subst e; exact Nat.le_refl _
    · have := ih (by omega)
      rw [val]
      omega
theorem val_ge {s : ByteArray} {a : Nat} (h : 49 ≤ bt s a) (k : Nat) : 10 ^ k ≤ val s a (k + 1) := by
  induction k with
  | zero => simp [val]; omega
  | succ k ih =>
    rw [val, Nat.pow_succ]
    omega

/-- The value of a list of digits. -/
def vl : List UInt8 → Nat
  | [] => 0
  | c :: r => (c.toNat - 48) * 10 ^ r.length + vl r
def Digs (l : List UInt8) : Prop := ∀ c ∈ l, 48 ≤ c.toNat ∧ c.toNat ≤ 57
theorem vl_lt : ∀ (l : List UInt8), Digs l → vl l < 10 ^ l.length
  | [], _ => by simp [vl]
  | c :: r, h => by
    have h1 := vl_lt r (fun x hx => h x (List.mem_cons_of_mem _ hx))
    have h2 := h c (List.mem_cons_self ..)
    have h3 : (c.toNat - 48) * 10 ^ r.length ≤ 9 * 10 ^ r.length := Nat.mul_le_mul_right _ (by omega)
    simp only [vl, List.length_cons, Nat.pow_succ]
    omega
theorem vl_snoc : ∀ (l : List UInt8) (c : UInt8), vl (l ++ [c]) = vl l * 10 + (c.toNat - 48)
  | [], c => by simp [vl]
  | a :: r, c => by
    simp only [List.cons_append, vl, vl_snoc r c, List.length_append, List.length_cons, List.length_nil, Nat.zero_add, Nat.pow_succ]
    rw [Nat.add_mul, ← Nat.mul_assoc]
    omega
theorem less_iff : ∀ (x y : List UInt8), x.length = y.length → Digs x → Digs y → (Op.bytesLess x y = true ↔ vl x < vl y)
  | [], [], _, _, _ => by simp [Op.bytesLess, vl]
  | [], _ :: _, h, _, _ => by simp at h
  | _ :: _, [], h, _, _ => by simp at h
  | a :: x, b :: y, h, hx, hy => by
    have hl : x.length = y.length := by simpa using h
    have ih := less_iff x y hl (fun c hc => hx c (List.mem_cons_of_mem _ hc)) (fun c hc => hy c (List.mem_cons_of_mem _ hc))
    have vx := vl_lt x (fun c hc => hx c (List.mem_cons_of_mem _ hc))
    have vy := vl_lt y (fun c hc => hy c (List.mem_cons_of_mem _ hc))
    have ha := hx a (List.mem_cons_self ..)
    have hb := hy b (List.mem_cons_self ..)
    simp only [Op.bytesLess, vl, Bool.or_eq_true, Bool.and_eq_true, decide_eq_true_eq, beq_iff_eq]
    rw [hl] at vx ⊢
    rcases Nat.lt_trichotomy a.toNat b.toNat with c | c | c
    · have h1 : a < b := c
      have h2 : (a.toNat - 48 + 1) * 10 ^ y.length ≤ (b.toNat - 48) * 10 ^ y.length := Nat.mul_le_mul_right _ (by omega)
      rw [Nat.add_mul] at h2
      constructor
      · intro _; omega
      · intro _; exact Or.inl h1
    · have h1 : a = b := UInt8.toNat_inj.1 c
      subst h1
      have h2 : ¬ a < a := Nat.lt_irrefl a.toNat
      rw [ih]
      constructor
      · rintro (h | h)
        · exact absurd h h2
        · omega
      · intro h; exact Or.inr ⟨rfl, by omega⟩
    · have h1 : ¬ a < b := Nat.not_lt.2 (Nat.le_of_lt c)
      have h3 : a ≠ b := fun e => by subst e; exact Nat.lt_irrefl _ c
      have h2 : (b.toNat - 48 + 1) * 10 ^ y.length ≤ (a.toNat - 48) * 10 ^ y.length := Nat.mul_le_mul_right _ (by omega)
      rw [Nat.add_mul] at h2
      constructor
      · rintro (h | h)
        · exact absurd h h1
        · exact absurd h.1 h3
      · intro h; omega
theorem vl_val (x : ByteArray) (k : Nat) (h : k ≤ x.size) : vl (x.toList.take k) = val x 0 k := by
  induction k with
  | zero => rfl
  | succ k ih =>
    rw [List.take_add_one, bt_list (by omega)]
    simp only [Option.toList_some]
    rw [vl_snoc, ih (by omega), val, Nat.zero_add]
    have := bt_lt x k
    rw [UInt8.toNat_ofNat_of_lt' this]
end Go.Proofs.Ybulkefwg
