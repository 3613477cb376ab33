/- Plain law: how many items a tree of a height holds. -/
import Derived.Test.YtcabnhpnkaielaaBx
namespace Go.Proofs.Ytcabnhpnkaielaa
set_option linter.unusedSimpArgs false
set_option linter.unusedVariables false

theorem sum_ge : ∀ {l : List Nat} {m : Nat}, (∀ x ∈ l, m ≤ x) → l.length * m ≤ l.sum
  | [], _, _ => by simp
  | x :: l, m, h => by
    have h1 := h x List.mem_cons_self
    have h2 := sum_ge (l := l) (fun y hy => h y (List.mem_cons_of_mem _ hy))
    simp only [List.length_cons, List.sum_cons, Nat.add_mul, Nat.one_mul]; omega

theorem sum_le : ∀ {l : List Nat} {m : Nat}, (∀ x ∈ l, x ≤ m) → l.sum ≤ l.length * m
  | [], _, _ => by simp
  | x :: l, m, h => by
    have h1 := h x List.mem_cons_self
    have h2 := sum_le (l := l) (fun y hy => h y (List.mem_cons_of_mem _ hy))
    simp only [List.length_cons, List.sum_cons, Nat.add_mul, Nat.one_mul]; omega

theorem low_bound {α : Type} {mn mx : Nat} (hmn : 1 ≤ mn) : {h : Nat} → {T : BT α h} → Sh mn mx h T → 1 ≤ (its T).length → 2 ^ (h + 1) ≤ (toL h T).length + 1
  | 0, T, _, h1 => by
    have h1' : 1 ≤ T.2.length := h1
    show 2 ≤ T.2.length + 1
    omega
  | h + 1, T, hs, h1 => by
    have h1' : 1 ≤ T.2.1.length := h1
    have e := inter_len T.2.1 (T.2.2.map (toL h)) (by simpa using hs.2.1)
    have e2 : (toL (h + 1) T).length = T.2.1.length + ((T.2.2.map (toL h)).map (·.length)).sum := e
    have hk : ∀ x ∈ (T.2.2.map (toL h)).map (·.length), 2 ^ (h + 1) - 1 ≤ x := by
      intro x hx
      simp only [List.map_map, List.mem_map] at hx
      obtain ⟨c, hc, rfl⟩ := hx
      obtain ⟨g1, g2⟩ := hs.2.2 c hc
      have := low_bound hmn g2 (Nat.le_trans hmn g1)
      show 2 ^ (h + 1) - 1 ≤ (toL h c).length
      omega
    have hsum := sum_ge hk
    have hl : ((T.2.2.map (toL h)).map (·.length)).length = T.2.1.length + 1 := by simpa using hs.2.1
    rw [hl] at hsum
    have h2 : 2 * (2 ^ (h + 1) - 1) ≤ (T.2.1.length + 1) * (2 ^ (h + 1) - 1) := Nat.mul_le_mul_right _ (by omega)
    have h3 : 0 < 2 ^ (h + 1) := Nat.pow_pos (by omega)
    rw [e2, Nat.pow_succ]
    omega

theorem high_bound {α : Type} {mn mx : Nat} : {h : Nat} → {T : BT α h} → Sh mn mx h T → (toL h T).length + 1 ≤ (mx + 1) ^ (h + 1)
  | 0, T, hs => by
    have h1 : T.2.length ≤ mx := hs
    show T.2.length + 1 ≤ (mx + 1) ^ 1
    rw [Nat.pow_one]; omega
  | h + 1, T, hs => by
    have h1 : T.2.1.length ≤ mx := hs.1
    have e := inter_len T.2.1 (T.2.2.map (toL h)) (by simpa using hs.2.1)
    have e2 : (toL (h + 1) T).length = T.2.1.length + ((T.2.2.map (toL h)).map (·.length)).sum := e
    have hk : ∀ x ∈ (T.2.2.map (toL h)).map (·.length), x ≤ (mx + 1) ^ (h + 1) - 1 := by
      intro x hx
      simp only [List.map_map, List.mem_map] at hx
      obtain ⟨c, hc, rfl⟩ := hx
      have := high_bound (hs.2.2 c hc).2
      show (toL h c).length ≤ _
      omega
    have hsum := sum_le hk
    have hl : ((T.2.2.map (toL h)).map (·.length)).length = T.2.1.length + 1 := by simpa using hs.2.1
    rw [hl] at hsum
    have h3 : 0 < (mx + 1) ^ (h + 1) := Nat.pow_pos (by omega)
    have h4 : (T.2.1.length + 1) * (mx + 1) ^ (h + 1) ≤ (mx + 1) * (mx + 1) ^ (h + 1) := Nat.mul_le_mul_right _ (by omega)
    have h5 : (T.2.1.length + 1) * ((mx + 1) ^ (h + 1) - 1) + (T.2.1.length + 1) = (T.2.1.length + 1) * (mx + 1) ^ (h + 1) := by
      rw [Nat.mul_sub, Nat.mul_one]
      have : T.2.1.length + 1 ≤ (T.2.1.length + 1) * (mx + 1) ^ (h + 1) := Nat.le_mul_of_pos_right _ h3
      omega
    have h6 : (mx + 1) ^ (h + 1 + 1) = (mx + 1) * (mx + 1) ^ (h + 1) := by rw [Nat.pow_succ, Nat.mul_comm]
    rw [e2, h6]
    omega

/-- What a height says of a number of items. -/
def HgtOk (b : Nat) (q m : Nat) : Prop := (q = 0 ↔ m = 0) ∧ q ≤ 63 ∧ 2 ^ q ≤ m + 1 ∧ m + 1 ≤ b ^ q

theorem hgt_ok {α : Type} {mn mx : Nat} (hmn : 1 ≤ mn) {h : Nat} {T : BT α h} (hs : Sh mn mx h T) (h1 : 1 ≤ (its T).length) (hlen : (toL h T).length ≤ 2147483647) : HgtOk (mx + 1) (h + 1) (toL h T).length := by
  have hl := low_bound hmn hs h1
  have hh := high_bound hs
  have h2 : 1 ≤ (toL h T).length := Nat.le_trans h1 (its_sub hs).length_le
  refine ⟨⟨by omega, by omega⟩, ?_, hl, hh⟩
  have : 2 ^ (h + 1) ≤ 2 ^ 31 := by omega
  have := (Nat.pow_le_pow_iff_right (by omega : 1 < 2)).1 this
  omega
end Go.Proofs.Ytcabnhpnkaielaa
