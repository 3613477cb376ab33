/- What the laws over words share: sizes, examples, degrees. -/
import Derived.Laws.Strings
import Derived.ProofKit
import Derived.OpenShut
import Derived.Carry
import Derived.ChangeSame
import Derived.Deep.SlicePairs
import Derived.BigQuiet
import Derived.Test.YtbpnabhgnijbfaaA1
import Derived.Test.YtbpnabhgnijbfaaA3
namespace Go.Proofs.Ytbpnabhgnijbfaa
set_option linter.unusedSimpArgs false
set_option linter.unusedVariables false
open Go.RowKit

/-- How elements lie in cells. -/
structure El (α : Type) where
  es : Nat
  enc : α → List Value
  T : TypeId
  epos : 0 < es
  elen : ∀ x, (enc x).length = es
  eone : ∀ x, ∀ v ∈ enc x, v.oneCell' = true

def El.par {α : Type} (p : El α) : Par α := ⟨p.es, p.enc, 0, p.T, 0, 0, 0, p.epos, p.elen, p.eone⟩

variable {α : Type}

/-- A slice that is only read. -/
def SlE (p : El α) (w : World) (v : Value) (xs : List α) : Prop := ∃ a cap, v = .slice a xs.length cap ∧ xs.length ≤ cap ∧ (xs = [] ∨ ∃ b o, a = some ⟨b, o, none⟩ ∧ ∀ j u, (flat p.par xs)[j]? = some u → w.cell? ⟨b, o + j, none⟩ = some u)

/-- A slice of the call's own: nil, or a row from base on. -/
def OwnE (p : El α) (w : World) (v : Value) (xs : List α) (base : Nat) : Prop := (xs = [] ∧ v = .slice none 0 0) ∨ ∃ b o cap, v = .slice (some ⟨b, o, none⟩) xs.length cap ∧ xs.length ≤ cap ∧ base ≤ b ∧ RowAt w p.T b o (cap * p.es) (flat p.par xs)

theorem OwnE.nil (p : El α) (w : World) (base : Nat) : OwnE p w (.slice none 0 0) [] base := .inl ⟨rfl, rfl⟩

theorem OwnE.chg {p : El α} {w w' : World} {v : Value} {xs : List α} {base : Nat} {A : Nat → Nat → Prop} (h : OwnE p w v xs base) (c : Chg A w w') (hA : ∀ b o, base ≤ b → ¬ A b o) : OwnE p w' v xs base := by
  rcases h with h | ⟨b, o, cap, h1, h2, h3, h4⟩
  · exact .inl h
  · exact .inr ⟨b, o, cap, h1, h2, h3, h4.chg c (fun j _ => hA _ _ h3)⟩

theorem OwnE.keep {p : El α} {w w' : World} {v : Value} {xs : List α} {base : Nat} (h : OwnE p w v xs base) (c : Chg (fun _ _ => False) w w') : OwnE p w' v xs base := h.chg c (fun _ _ _ h => h)

theorem OwnE.mono {p : El α} {w : World} {v : Value} {xs : List α} {base base' : Nat} (h : OwnE p w v xs base) (hb : base' ≤ base) : OwnE p w v xs base' := by
  rcases h with h | ⟨b, o, cap, h1, h2, h3, h4⟩
  · exact .inl h
  · exact .inr ⟨b, o, cap, h1, h2, by omega, h4⟩

theorem OwnE.sl {p : El α} {w : World} {v : Value} {xs : List α} {base : Nat} (h : OwnE p w v xs base) : SlE p w v xs := by
  rcases h with ⟨rfl, rfl⟩ | ⟨b, o, cap, rfl, h2, h3, h4⟩
  · exact ⟨none, 0, rfl, Nat.le_refl _, .inl rfl⟩
  · exact ⟨_, cap, rfl, h2, .inr ⟨b, o, rfl, fun j u hj => h4.cell hj⟩⟩

theorem SlE.chg {p : El α} {w w' : World} {v : Value} {xs : List α} (h : SlE p w v xs) (c : Chg (fun _ _ => False) w w') : SlE p w' v xs := by
  obtain ⟨a, cap, h1, h2, h3⟩ := h
  refine ⟨a, cap, h1, h2, h3.imp id ?_⟩
  rintro ⟨b, o, g1, g2⟩
  exact ⟨b, o, g1, fun j u hj => c.cell (fun h => h) (g2 j u hj)⟩

theorem SlE.form {p : El α} {w : World} {v : Value} {xs : List α} (h : SlE p w v xs) : ∃ a cap, v = .slice a xs.length cap := by
  obtain ⟨a, cap, h1, _⟩ := h
  exact ⟨a, cap, h1⟩

/-- One cell of one element. -/
theorem SlE.cell {p : El α} {w : World} {a : Option Addr} {n cap : Nat} {xs : List α} (h : SlE p w (.slice a n cap) xs) {j : Nat} {x : α} (hj : xs[j]? = some x) : ∃ b o, a = some ⟨b, o, none⟩ ∧ ∀ q u, (p.enc x)[q]? = some u → w.cell? ⟨b, o + (j * p.es + q), none⟩ = some u := by
  obtain ⟨a', cap', h1, h2, h3⟩ := h
  injection h1 with e1 e2 e3
  subst e1
  rcases h3 with rfl | ⟨b, o, rfl, h4⟩
  · simp at hj
  · exact ⟨b, o, rfl, fun q u hq => h4 _ u (flat_get p.par hj hq)⟩

section
variable {P : Program}

theorem run_append_E (p : El α) (w : World) (t ty : TypeId) (i : TypeInfo) (z : Value) (bytes : Nat) (ht : P.underlying t = some (.slice p.T)) (hi : P.info? p.T = some i) (hz : i.zero = some z)
    (hsize : i.size = p.es) (hby : i.bytes = bytes) (hzs : z.cells.size = p.es) (v : Value) (xs : List α) (base : Nat) (how : OwnE p w v xs base) (hbase : base ≤ w.heap.size)
    (ad : Addr) (m c : Nat) (ys : List α) (hm : ys.length = m) (hm0 : 0 < m) (hsrc : ∀ j u, (flat p.par ys)[j]? = some u → w.cell? (ad.add j) = some u) (h63 : xs.length + m ≤ maxLen) (hbytes : (xs.length + m) * bytes ≤ 140737488355328) :
    ∃ v' w', (Builtin.append_ #[t, t] ty #[v, .slice (some ad) m c]).run P w = .ok v' w' ∧ OwnE p w' v' (xs ++ ys) base ∧ Chg (fun b _ => base ≤ b) w w' ∧ v' ≠ .slice none 0 0 := by
  have hfl : (flat p.par ys).length = m * p.es := by rw [flat_len, hm]; rfl
  have hone : ∀ u ∈ flat p.par ys, u.oneCell' = true := flat_one p.par ys
  rcases how with ⟨rfl, rfl⟩ | ⟨b, o, cap, rfl, h2, h3, h4⟩
  · simp only [List.length_nil, Nat.zero_add] at h63 hbytes
    have hr := run_append_nil (P := P) w t ty p.T i z ht hi hz ad m c (flat p.par ys) (by rw [hfl, hsize]) hsrc hm0 (by simp only [maxLen] at h63; omega) (by rw [hby]; omega)
    have hge : m ≤ grownCap w m 0 p.T := by have := grownCap_ge w (0 + m) 0 p.T; simpa using this
    refine ⟨_, _, hr, .inr ⟨w.heap.size, 0, grownCap w m 0 p.T, by simp [hm], by simpa [hm] using hge, hbase, ?_⟩, ((Chg.refl _ _).drew).alloc _, by simp⟩
    have hs : ((flat p.par ys).toArray ++ Builtin.zeroCells z.cells (grownCap w m 0 p.T - m)).size = grownCap w m 0 p.T * p.es := by
      simp only [Array.size_append, List.size_toArray, size_zeroCells, hzs, hfl, ← Nat.add_mul]
      congr 1
      omega
    refine RowAt.of_block (heap_alloc_new w.drew _) _ _ ?_ ?_ ?_
    · rw [List.nil_append, hfl]; exact Nat.mul_le_mul_right _ hge
    · omega
    · intro j hj
      rw [List.nil_append] at hj ⊢
      rw [Nat.zero_add, Array.getElem?_append_left (by simpa using hj)]
      simp
  · obtain ⟨b', o', cap', w', hr, hA⟩ := run_append_row (P := P) w t ty p.T i z p.es bytes ht hi hz hsize hby hzs b o xs.length cap (flat p.par xs) h4 (flat_len p.par xs) ad m c (flat p.par ys) hfl hsrc hone h63 hbytes
    have hlen : (xs ++ ys).length = xs.length + m := by simp [hm]
    refine ⟨_, w', hr, .inr ⟨b', o', cap', by rw [hlen], by rw [hlen]; exact hA.room, ?_, by rw [flat_append]; exact hA.row⟩, hA.chg.mono (fun b1 _ _ h => by rw [h.1]; exact h3), by simp⟩
    rcases hA.place with h | h
    · rw [h.1]; exact h3
    · exact Nat.le_trans hbase h.1

theorem wp_append_E (p : El α) {o' : Oper} {a : Act} {w : World} {K : Act → World → Prop} {Q : Exit → Act → World → Prop} (s x : Operand) (t : TypeId)
    (ho : o'.op = .call { callee := .builtin .append, args := #[s, x], argTypes := #[t, t] }) (i : TypeInfo) (z : Value) (bytes : Nat) (ht : P.underlying t = some (.slice p.T)) (hi : P.info? p.T = some i) (hz : i.zero = some z)
    (hsize : i.size = p.es) (hby : i.bytes = bytes) (hzs : z.cells.size = p.es) (v : Value) (hs : a.eval s = v) (xs : List α) (base : Nat) (how : OwnE p w v xs base) (hbase : base ≤ w.heap.size)
    (ad : Addr) (m c : Nat) (hx : a.eval x = .slice (some ad) m c) (ys : List α) (hm : ys.length = m) (hm0 : 0 < m) (hsrc : ∀ j u, (flat p.par ys)[j]? = some u → w.cell? (ad.add j) = some u) (h63 : xs.length + m ≤ maxLen) (hbytes : (xs.length + m) * bytes ≤ 140737488355328)
    (h : ∀ v' w', OwnE p w' v' (xs ++ ys) base → Chg (fun b _ => base ≤ b) w w' → v' ≠ .slice none 0 0 → K (a.put o'.dst v') w') : o'.wp P a w K Q := by
  obtain ⟨v', w', hr, h2, h3, h4⟩ := run_append_E (P := P) p w t o'.type i z bytes ht hi hz hsize hby hzs v xs base how hbase ad m c ys hm hm0 hsrc h63 hbytes
  unfold Oper.wp execOp
  simp only [ho, resolve, invoke, builtin, Sem.run_bind, Sem.run_pure, Result.andThen_ok, List.map_toArray, List.map_cons, List.map_nil, hs, hx, hr]
  exact h v' w' h2 h3 h4

theorem wpList_append_E (p : El α) {ops : Array Oper} {rest : List Oper} {o' : Oper} {a : Act} {w : World} {Q : Exit → Act → World → Prop} (hgd : o'.guard = none) (s x : Operand) (t : TypeId)
    (ho : o'.op = .call { callee := .builtin .append, args := #[s, x], argTypes := #[t, t] }) (i : TypeInfo) (z : Value) (bytes : Nat) (ht : P.underlying t = some (.slice p.T)) (hi : P.info? p.T = some i) (hz : i.zero = some z)
    (hsize : i.size = p.es) (hby : i.bytes = bytes) (hzs : z.cells.size = p.es) (v : Value) (hs : a.eval s = v) (xs : List α) (base : Nat) (how : OwnE p w v xs base) (hbase : base ≤ w.heap.size)
    (ad : Addr) (m c : Nat) (hx : a.eval x = .slice (some ad) m c) (ys : List α) (hm : ys.length = m) (hm0 : 0 < m) (hsrc : ∀ j u, (flat p.par ys)[j]? = some u → w.cell? (ad.add j) = some u) (h63 : xs.length + m ≤ maxLen) (hbytes : (xs.length + m) * bytes ≤ 140737488355328)
    (h : ∀ v' w', OwnE p w' v' (xs ++ ys) base → Chg (fun b _ => base ≤ b) w w' → v' ≠ .slice none 0 0 → wpList P ops Q rest (a.put o'.dst v') w') : wpList P ops Q (o' :: rest) a w :=
  wpList_plain hgd fun _ hK => wp_append_E p s x t ho i z bytes ht hi hz hsize hby hzs v hs xs base how hbase ad m c hx ys hm hm0 hsrc h63 hbytes fun v' w' h2 h3 h4 => hK _ _ (h v' w' h2 h3 h4)
end

/-- No block in common. -/
def Apart (v1 v2 : Value) : Prop := ∀ b, v1.ownBlock = some b → v2.ownBlock ≠ some b

theorem OwnE.chgOwn {p : El α} {w w' : World} {v : Value} {xs : List α} {base : Nat} {A : Nat → Nat → Prop} (h : OwnE p w v xs base) (c : Chg A w w') (hA : ∀ b o, v.ownBlock = some b → ¬ A b o) : OwnE p w' v xs base := by
  rcases h with h | ⟨b, o, cap, rfl, h2, h3, h4⟩
  · exact .inl h
  · exact .inr ⟨b, o, cap, rfl, h2, h3, h4.chg c (fun j _ => hA _ _ rfl)⟩

theorem OwnE.own_lt {p : El α} {w : World} {v : Value} {xs : List α} {base b : Nat} (h : OwnE p w v xs base) (hb : v.ownBlock = some b) : base ≤ b ∧ b < w.heap.size := by
  rcases h with ⟨_, rfl⟩ | ⟨b', o, cap, rfl, h2, h3, h4⟩
  · cases hb
  · have e : b' = b := Option.some.inj hb
    subst e
    exact ⟨h3, h4.lt⟩

section
variable {P : Program}
/-- append, with what it may touch and where the new slice lies. -/
theorem run_append_E2 (p : El α) (w : World) (t ty : TypeId) (i : TypeInfo) (z : Value) (bytes : Nat) (ht : P.underlying t = some (.slice p.T)) (hi : P.info? p.T = some i) (hz : i.zero = some z)
    (hsize : i.size = p.es) (hby : i.bytes = bytes) (hzs : z.cells.size = p.es) (v : Value) (xs : List α) (base : Nat) (how : OwnE p w v xs base) (hbase : base ≤ w.heap.size)
    (ad : Addr) (m c : Nat) (ys : List α) (hm : ys.length = m) (hm0 : 0 < m) (hsrc : ∀ j u, (flat p.par ys)[j]? = some u → w.cell? (ad.add j) = some u) (h63 : xs.length + m ≤ maxLen) (hbytes : (xs.length + m) * bytes ≤ 140737488355328) :
    ∃ v' w', (Builtin.append_ #[t, t] ty #[v, .slice (some ad) m c]).run P w = .ok v' w' ∧ OwnE p w' v' (xs ++ ys) base ∧ Chg (fun b _ => v.ownBlock = some b) w w' ∧ (v'.ownBlock = v.ownBlock ∨ ∃ nb, v'.ownBlock = some nb ∧ w.heap.size ≤ nb) ∧ v' ≠ .slice none 0 0 := by
  have hfl : (flat p.par ys).length = m * p.es := by rw [flat_len, hm]; rfl
  have hone : ∀ u ∈ flat p.par ys, u.oneCell' = true := flat_one p.par ys
  obtain ⟨v1, w1, hr1, h1, _, h4⟩ := run_append_E (P := P) p w t ty i z bytes ht hi hz hsize hby hzs v xs base how hbase ad m c ys hm hm0 hsrc h63 hbytes
  refine ⟨v1, w1, hr1, h1, ?_, ?_, h4⟩
  · rcases how with ⟨rfl, rfl⟩ | ⟨b, o, cap, rfl, h2, h3, h4⟩
    · simp only [List.length_nil, Nat.zero_add] at h63 hbytes
      have hr := run_append_nil (P := P) w t ty p.T i z ht hi hz ad m c (flat p.par ys) (by rw [hfl, hsize]) hsrc hm0 (by simp only [maxLen] at h63; omega) (by rw [hby]; omega)
      rw [hr] at hr1
      injection hr1 with e1 e2
      rw [← e2]
      exact ((Chg.refl _ _).drew).alloc _
    · obtain ⟨b', o', cap', w', hr, hA⟩ := run_append_row (P := P) w t ty p.T i z p.es bytes ht hi hz hsize hby hzs b o xs.length cap (flat p.par xs) h4 (flat_len p.par xs) ad m c (flat p.par ys) hfl hsrc hone h63 hbytes
      rw [hr] at hr1
      injection hr1 with e1 e2
      rw [← e2]
      exact hA.chg.mono fun b1 _ _ h => by rw [h.1]; rfl
  · rcases how with ⟨rfl, rfl⟩ | ⟨b, o, cap, rfl, h2, h3, h4⟩
    · simp only [List.length_nil, Nat.zero_add] at h63 hbytes
      have hr := run_append_nil (P := P) w t ty p.T i z ht hi hz ad m c (flat p.par ys) (by rw [hfl, hsize]) hsrc hm0 (by simp only [maxLen] at h63; omega) (by rw [hby]; omega)
      rw [hr] at hr1
      injection hr1 with e1 e2
      exact .inr ⟨w.heap.size, by rw [← e1]; rfl, Nat.le_refl _⟩
    · obtain ⟨b', o', cap', w', hr, hA⟩ := run_append_row (P := P) w t ty p.T i z p.es bytes ht hi hz hsize hby hzs b o xs.length cap (flat p.par xs) h4 (flat_len p.par xs) ad m c (flat p.par ys) hfl hsrc hone h63 hbytes
      rw [hr] at hr1
      injection hr1 with e1 e2
      rcases hA.place with h | h
      · exact .inl (by rw [← e1, h.1]; rfl)
      · exact .inr ⟨b', by rw [← e1]; rfl, h.1⟩

theorem wp_append_E2 (p : El α) {o' : Oper} {a : Act} {w : World} {K : Act → World → Prop} {Q : Exit → Act → World → Prop} (s x : Operand) (t : TypeId)
    (ho : o'.op = .call { callee := .builtin .append, args := #[s, x], argTypes := #[t, t] }) (i : TypeInfo) (z : Value) (bytes : Nat) (ht : P.underlying t = some (.slice p.T)) (hi : P.info? p.T = some i) (hz : i.zero = some z)
    (hsize : i.size = p.es) (hby : i.bytes = bytes) (hzs : z.cells.size = p.es) (v : Value) (hs : a.eval s = v) (xs : List α) (base : Nat) (how : OwnE p w v xs base) (hbase : base ≤ w.heap.size)
    (ad : Addr) (m c : Nat) (hx : a.eval x = .slice (some ad) m c) (ys : List α) (hm : ys.length = m) (hm0 : 0 < m) (hsrc : ∀ j u, (flat p.par ys)[j]? = some u → w.cell? (ad.add j) = some u) (h63 : xs.length + m ≤ maxLen) (hbytes : (xs.length + m) * bytes ≤ 140737488355328)
    (h : ∀ v' w', OwnE p w' v' (xs ++ ys) base → Chg (fun b _ => v.ownBlock = some b) w w' → (v'.ownBlock = v.ownBlock ∨ ∃ nb, v'.ownBlock = some nb ∧ w.heap.size ≤ nb) → K (a.put o'.dst v') w') : o'.wp P a w K Q := by
  obtain ⟨v', w', hr, h2, h3, h4, _⟩ := run_append_E2 (P := P) p w t o'.type i z bytes ht hi hz hsize hby hzs v xs base how hbase ad m c ys hm hm0 hsrc h63 hbytes
  unfold Oper.wp execOp
  simp only [ho, resolve, invoke, builtin, Sem.run_bind, Sem.run_pure, Result.andThen_ok, List.map_toArray, List.map_cons, List.map_nil, hs, hx, hr]
  exact h v' w' h2 h3 h4

theorem wpList_append_E2 (p : El α) {ops : Array Oper} {rest : List Oper} {o' : Oper} {a : Act} {w : World} {Q : Exit → Act → World → Prop} (hgd : o'.guard = none) (s x : Operand) (t : TypeId)
    (ho : o'.op = .call { callee := .builtin .append, args := #[s, x], argTypes := #[t, t] }) (i : TypeInfo) (z : Value) (bytes : Nat) (ht : P.underlying t = some (.slice p.T)) (hi : P.info? p.T = some i) (hz : i.zero = some z)
    (hsize : i.size = p.es) (hby : i.bytes = bytes) (hzs : z.cells.size = p.es) (v : Value) (hs : a.eval s = v) (xs : List α) (base : Nat) (how : OwnE p w v xs base) (hbase : base ≤ w.heap.size)
    (ad : Addr) (m c : Nat) (hx : a.eval x = .slice (some ad) m c) (ys : List α) (hm : ys.length = m) (hm0 : 0 < m) (hsrc : ∀ j u, (flat p.par ys)[j]? = some u → w.cell? (ad.add j) = some u) (h63 : xs.length + m ≤ maxLen) (hbytes : (xs.length + m) * bytes ≤ 140737488355328)
    (h : ∀ v' w', OwnE p w' v' (xs ++ ys) base → Chg (fun b _ => v.ownBlock = some b) w w' → (v'.ownBlock = v.ownBlock ∨ ∃ nb, v'.ownBlock = some nb ∧ w.heap.size ≤ nb) → wpList P ops Q rest (a.put o'.dst v') w') : wpList P ops Q (o' :: rest) a w := by
  refine wpList_plain hgd fun K hK => ?_
  obtain ⟨v', w', hr, h2, h3, h4, _⟩ := run_append_E2 (P := P) p w t o'.type i z bytes ht hi hz hsize hby hzs v xs base how hbase ad m c ys hm hm0 hsrc h63 hbytes
  unfold Oper.wp execOp
  simp only [ho, resolve, invoke, builtin, Sem.run_bind, Sem.run_pure, Result.andThen_ok, List.map_toArray, List.map_cons, List.map_nil, hs, hx, hr]
  exact hK _ _ (h v' w' h2 h3 h4)

/-- Two lists of the call's own, one of which grows. -/
theorem Apart.grow {w : World} {v v' u : Value} (h : Apart v u) (hv : v'.ownBlock = v.ownBlock ∨ ∃ nb, v'.ownBlock = some nb ∧ w.heap.size ≤ nb) (hu : ∀ b, u.ownBlock = some b → b < w.heap.size) : Apart v' u := by
  intro b hb hub
  rcases hv with hv | ⟨nb, hv, hn⟩
  · exact h b (hv ▸ hb) hub
  · rw [hv] at hb
    have e : nb = b := Option.some.inj hb
    have := hu b hub
    omega
theorem Apart.symm {v u : Value} (h : Apart v u) : Apart u v := fun b h1 h2 => h b h2 h1
end

/-- One element out of a new block. -/
theorem El.src1 (p : El α) {w : World} {b : Nat} {c : Array Value} {T : TypeId} {fr : Nat × Nat} (h : w.heap[b]? = some (.cells c T fr)) (x : α) (hc : c.toList = p.enc x) : ∀ j u, (flat p.par [x])[j]? = some u → w.cell? ((⟨b, 0, none⟩ : Addr).add j) = some u := by
  intro j u hj
  rw [flat_single] at hj
  have hj' : c[j]? = some u := by rw [← Array.getElem?_toList, hc]; exact hj
  rw [add_none]
  simp [World.cell?, h, hj']
end Go.Proofs.Ytbpnabhgnijbfaa

namespace Go.Proofs.Ytbpnabhgnijbfaa
set_option linter.unusedSimpArgs false
set_option linter.unusedVariables false
open Go.RowKit
variable {P : Program}

theorem run_append_opt (w : World) (t ty e : TypeId) (i : TypeInfo) (z : Value) (size bytes : Nat) (ht : P.underlying t = some (.slice e)) (hi : P.info? e = some i) (hz : i.zero = some z)
    (hsize : i.size = size) (hby : i.bytes = bytes) (hzs : z.cells.size = size)
    (b o len cap : Nat) (xs : List Value) (hrow : RowAt w e b o (cap * size) xs) (hxs : xs.length = len * size) (hcap : len ≤ cap)
    (p : Option Addr) (m c : Nat) (news : List Value) (hl : news.length = m * size) (hsrc : (∃ ad, p = some ad ∧ ∀ j u, news[j]? = some u → w.cell? (ad.add j) = some u) ∨ (m = 0 ∧ news = [])) (h1 : ∀ u ∈ news, u.oneCell' = true)
    (h63 : len + m ≤ maxLen) (hbytes : (len + m) * bytes ≤ 140737488355328) :
    ∃ b' o' cap' w', (Builtin.append_ #[t, t] ty #[.slice (some ⟨b, o, none⟩) len cap, .slice p m c]).run P w = .ok (.slice (some ⟨b', o', none⟩) (len + m) cap') w' ∧ Appd e size w b o len cap xs news m b' o' cap' w' := by
  cases p with
  | some ad =>
    refine run_append_row w t ty e i z size bytes ht hi hz hsize hby hzs b o len cap xs hrow hxs ad m c news hl ?_ h1 h63 hbytes
    rcases hsrc with ⟨ad', h, hc⟩ | ⟨_, rfl⟩
    · obtain rfl := Option.some.inj h; exact hc
    · intro j u h; simp at h
  | none =>
    rcases hsrc with ⟨ad', h, _⟩ | ⟨rfl, rfl⟩
    · cases h
    refine ⟨b, o, cap, w, ?_, by rw [List.append_nil]; exact hrow, Chg.refl _ _, by omega, .inl ⟨rfl, rfl, rfl⟩⟩
    subst hsize
    simp [Builtin.append_, run_underlying ht, sizeOf, typeInfo, hi, Builtin.lenOf, hcap, Builtin.firstCells, storeCells]

theorem wp_append_opt {o' : Oper} {a : Act} {w : World} {K : Act → World → Prop} {Q : Exit → Act → World → Prop} (s x : Operand) (t : TypeId)
    (ho : o'.op = .call { callee := .builtin .append, args := #[s, x], argTypes := #[t, t] })
    (e : TypeId) (i : TypeInfo) (z : Value) (size bytes : Nat) (ht : P.underlying t = some (.slice e)) (hi : P.info? e = some i) (hz : i.zero = some z)
    (hsize : i.size = size) (hby : i.bytes = bytes) (hzs : z.cells.size = size)
    (b o len cap : Nat) (hs : a.eval s = .slice (some ⟨b, o, none⟩) len cap) (xs : List Value) (hrow : RowAt w e b o (cap * size) xs) (hxs : xs.length = len * size) (hcap : len ≤ cap)
    (p : Option Addr) (m c : Nat) (hx : a.eval x = .slice p m c) (news : List Value) (hl : news.length = m * size) (hsrc : (∃ ad, p = some ad ∧ ∀ j u, news[j]? = some u → w.cell? (ad.add j) = some u) ∨ (m = 0 ∧ news = [])) (h1 : ∀ u ∈ news, u.oneCell' = true)
    (h63 : len + m ≤ maxLen) (hbytes : (len + m) * bytes ≤ 140737488355328)
    (h : ∀ b' o1 cap' w', Appd e size w b o len cap xs news m b' o1 cap' w' → K (a.put o'.dst (.slice (some ⟨b', o1, none⟩) (len + m) cap')) w') : o'.wp P a w K Q := by
  obtain ⟨b', o1, cap', w', hr, h2⟩ := run_append_opt (P := P) w t o'.type e i z size bytes ht hi hz hsize hby hzs b o len cap xs hrow hxs hcap p m c news hl hsrc h1 h63 hbytes
  unfold Oper.wp execOp
  simp only [ho, resolve, invoke, builtin, Sem.run_bind, Sem.run_pure, Result.andThen_ok, List.map_toArray, List.map_cons, List.map_nil, hs, hx, hr]
  exact h b' o1 cap' w' h2

theorem wpList_append_opt {ops : Array Oper} {rest : List Oper} {o' : Oper} {a : Act} {w : World} {Q : Exit → Act → World → Prop} (hgd : o'.guard = none) (s x : Operand) (t : TypeId)
    (ho : o'.op = .call { callee := .builtin .append, args := #[s, x], argTypes := #[t, t] })
    (e : TypeId) (i : TypeInfo) (z : Value) (size bytes : Nat) (ht : P.underlying t = some (.slice e)) (hi : P.info? e = some i) (hz : i.zero = some z)
    (hsize : i.size = size) (hby : i.bytes = bytes) (hzs : z.cells.size = size)
    (b o len cap : Nat) (hs : a.eval s = .slice (some ⟨b, o, none⟩) len cap) (xs : List Value) (hrow : RowAt w e b o (cap * size) xs) (hxs : xs.length = len * size) (hcap : len ≤ cap)
    (p : Option Addr) (m c : Nat) (hx : a.eval x = .slice p m c) (news : List Value) (hl : news.length = m * size) (hsrc : (∃ ad, p = some ad ∧ ∀ j u, news[j]? = some u → w.cell? (ad.add j) = some u) ∨ (m = 0 ∧ news = [])) (h1 : ∀ u ∈ news, u.oneCell' = true)
    (h63 : len + m ≤ maxLen) (hbytes : (len + m) * bytes ≤ 140737488355328)
    (h : ∀ b' o1 cap' w', Appd e size w b o len cap xs news m b' o1 cap' w' → wpList P ops Q rest (a.put o'.dst (.slice (some ⟨b', o1, none⟩) (len + m) cap')) w') : wpList P ops Q (o' :: rest) a w := by
  refine wpList_plain hgd fun K hK => ?_
  obtain ⟨b', o1, cap', w', hr, h2⟩ := run_append_opt (P := P) w t o'.type e i z size bytes ht hi hz hsize hby hzs b o len cap xs hrow hxs hcap p m c news hl hsrc h1 h63 hbytes
  unfold Oper.wp execOp
  simp only [ho, resolve, invoke, builtin, Sem.run_bind, Sem.run_pure, Result.andThen_ok, List.map_toArray, List.map_cons, List.map_nil, hs, hx, hr]
  exact hK _ _ (h b' o1 cap' w' h2)
end Go.Proofs.Ytbpnabhgnijbfaa

namespace Go.Proofs.Ytbpnabhgnijbfaa
set_option linter.unusedSimpArgs false
set_option linter.unusedVariables false
open Go.RowKit

def intE : El Int where
  es := 1
  enc := fun x => [.int .i64 x]
  T := 3
  epos := by omega
  elen := fun _ => rfl
  eone := by intro x v hv; simp at hv; subst hv; rfl

def boolE : El Bool where
  es := 1
  enc := fun x => [.bool x]
  T := 4
  epos := by omega
  elen := fun _ => rfl
  eone := by intro x v hv; simp at hv; subst hv; rfl

def strE : El ByteArray where
  es := 1
  enc := fun x => [.string x]
  T := 9
  epos := by omega
  elen := fun _ => rfl
  eone := by intro x v hv; simp at hv; subst hv; rfl

def wordE : El (ByteArray × Int) where
  es := 2
  enc := fun x => [.string x.1, .int .i64 x.2]
  T := 35
  epos := by omega
  elen := fun _ => rfl
  eone := by intro x v hv; simp at hv; rcases hv with rfl | rfl <;> rfl

theorem infoInt : (Try.prog.info? 3).map (fun i => (i.zero, i.size, i.bytes)) = some (some (.int .i64 0), 1, 8) := by kernel_rfl
theorem infoBool : (Try.prog.info? 4).map (fun i => (i.zero, i.size, i.bytes)) = some (some (.bool false), 1, 1) := by kernel_rfl
theorem infoStr : (Try.prog.info? 9).map (fun i => (i.zero, i.size, i.bytes)) = some (some (.string ⟨#[]⟩), 1, 16) := by kernel_rfl
theorem infoWord : (Try.prog.info? 35).map (fun i => (i.zero, i.size, i.bytes)) = some (some (.agg #[.string ⟨#[]⟩, .int .i64 0]), 2, 24) := by kernel_rfl

theorem SlE.int {w : World} {a : Option Addr} {n cap : Nat} {xs : List Int} (h : SlE intE w (.slice a n cap) xs) {j : Nat} {x : Int} (hj : xs[j]? = some x) : ∃ b o, a = some ⟨b, o, none⟩ ∧ w.cell? ⟨b, o + j, none⟩ = some (.int .i64 x) := by
  obtain ⟨b, o, h1, h2⟩ := h.cell hj
  exact ⟨b, o, h1, by have := h2 0 _ rfl; simpa [intE] using this⟩

theorem SlE.bool {w : World} {a : Option Addr} {n cap : Nat} {xs : List Bool} (h : SlE boolE w (.slice a n cap) xs) {j : Nat} {x : Bool} (hj : xs[j]? = some x) : ∃ b o, a = some ⟨b, o, none⟩ ∧ w.cell? ⟨b, o + j, none⟩ = some (.bool x) := by
  obtain ⟨b, o, h1, h2⟩ := h.cell hj
  exact ⟨b, o, h1, by have := h2 0 _ rfl; simpa [boolE] using this⟩

theorem SlE.str {w : World} {a : Option Addr} {n cap : Nat} {xs : List ByteArray} (h : SlE strE w (.slice a n cap) xs) {j : Nat} {x : ByteArray} (hj : xs[j]? = some x) : ∃ b o, a = some ⟨b, o, none⟩ ∧ w.cell? ⟨b, o + j, none⟩ = some (.string x) := by
  obtain ⟨b, o, h1, h2⟩ := h.cell hj
  exact ⟨b, o, h1, by have := h2 0 _ rfl; simpa [strE] using this⟩

theorem SlE.word {w : World} {a : Option Addr} {n cap : Nat} {xs : List (ByteArray × Int)} (h : SlE wordE w (.slice a n cap) xs) {j : Nat} {x : ByteArray × Int} (hj : xs[j]? = some x) : ∃ b o, a = some ⟨b, o, none⟩ ∧ w.cell? ⟨b, o + j * 2, none⟩ = some (.string x.1) ∧ w.cell? ⟨b, o + j * 2 + 1, none⟩ = some (.int .i64 x.2) := by
  obtain ⟨b, o, h1, h2⟩ := h.cell hj
  exact ⟨b, o, h1, by have := h2 0 _ rfl; simpa [wordE] using this, by have := h2 1 _ rfl; rw [Nat.add_assoc]; simpa [wordE] using this⟩

/-- Parts of a row as a source. -/
theorem RowAt.srcTake {α : Type} {p : Par α} {w : World} {T b o m : Nat} {xs : List α} (h : RowAt w T b o m (flat p xs)) (i : Nat) : ∀ j u, (flat p (xs.take i))[j]? = some u → w.cell? ((⟨b, o, none⟩ : Addr).add j) = some u := by
  intro j u hj
  rw [add_none]
  rw [← flat_take] at hj
  have hlt := (List.getElem?_eq_some_iff.1 hj).1
  rw [List.length_take] at hlt
  rw [List.getElem?_take_of_lt (by omega)] at hj
  exact h.cell hj

theorem RowAt.srcDrop {α : Type} {p : Par α} {w : World} {T b o m : Nat} {xs : List α} (h : RowAt w T b o m (flat p xs)) (i : Nat) : ∀ j u, (flat p (xs.drop i))[j]? = some u → w.cell? ((⟨b, o + i * p.es, none⟩ : Addr).add j) = some u := by
  intro j u hj
  rw [add_none]
  rw [← flat_drop, List.getElem?_drop] at hj
  rw [Nat.add_assoc]
  exact h.cell hj

section
variable {α : Type} {P : Program}
/-- What an append to a row leaves. -/
structure AppdP (p : El α) (w : World) (b : Nat) (zs : List α) (m : Nat) (b' o1 cap' : Nat) (w' : World) : Prop where
  row : RowAt w' p.T b' o1 (cap' * p.es) (flat p.par zs)
  room : m ≤ cap'
  chg : Chg (fun B _ => B = b) w w'
  place : b' = b ∨ w.heap.size ≤ b'

/-- append of a part, which may be nothing, to a row. -/
theorem wpList_append_P (p : El α) {ops : Array Oper} {rest : List Oper} {o' : Oper} {a : Act} {w : World} {Q : Exit → Act → World → Prop} (hgd : o'.guard = none) (s x : Operand) (t : TypeId)
    (ho : o'.op = .call { callee := .builtin .append, args := #[s, x], argTypes := #[t, t] }) (i : TypeInfo) (z : Value) (bytes : Nat) (ht : P.underlying t = some (.slice p.T)) (hi : P.info? p.T = some i) (hz : i.zero = some z)
    (hsize : i.size = p.es) (hby : i.bytes = bytes) (hzs : z.cells.size = p.es) (b o len cap : Nat) (hs : a.eval s = .slice (some ⟨b, o, none⟩) len cap) (xs : List α) (hl : xs.length = len) (hcap : len ≤ cap) (hrow : RowAt w p.T b o (cap * p.es) (flat p.par xs))
    (q : Option Addr) (m c : Nat) (hx : a.eval x = .slice q m c) (ys : List α) (hm : ys.length = m) (hsrc : (∃ ad, q = some ad ∧ ∀ j u, (flat p.par ys)[j]? = some u → w.cell? (ad.add j) = some u) ∨ ys = []) (h63 : len + m ≤ maxLen) (hbytes : (len + m) * bytes ≤ 140737488355328)
    (h : ∀ b' o1 cap' w', AppdP p w b (xs ++ ys) (len + m) b' o1 cap' w' → wpList P ops Q rest (a.put o'.dst (.slice (some ⟨b', o1, none⟩) (len + m) cap')) w') : wpList P ops Q (o' :: rest) a w := by
  refine wpList_append_opt (P := P) hgd s x t ho p.T i z p.es bytes ht hi hz hsize hby hzs b o len cap hs (flat p.par xs) hrow (by rw [flat_len, hl]; rfl) hcap q m c hx (flat p.par ys) (by rw [flat_len, hm]; rfl) ?_ (flat_one p.par ys) h63 hbytes ?_
  · rcases hsrc with hsrc | rfl
    · exact .inl hsrc
    · exact .inr ⟨by rw [← hm]; rfl, rfl⟩
  · intro b' o1 cap' w' hA
    refine h b' o1 cap' w' ⟨by rw [flat_append]; exact hA.row, hA.room, hA.chg.mono fun _ _ _ h => h.1, ?_⟩
    rcases hA.place with h | h
    · exact .inl h.1
    · exact .inr h.1
end


set_option maxRecDepth 100000 in
theorem equal_int (v v' : Value) (xs : List Int) (w : World) (h : SlE intE w v xs) (h' : SlE intE w v' xs) (hlen : xs.length ≤ 9223372036854775806) :
    Calls Try.prog 28 #[v, v'] w fun e w' => e = .returned (.bool true) ∧ Chg (fun _ _ => False) w w' := by
  obtain ⟨a, cap, rfl⟩ := h.form
  obtain ⟨a', cap', rfl⟩ := h'.form
  have HS := Lib.hid h
  have HS' := Lib.hid h'
  clear h h'
  go_enter Try.func28, Try.ntmps28
  go_wp2
  go_loopw [13] (fun i wr => ∃ (j : Nat), j ≤ xs.length ∧ i = .int .i64 j ∧ Chg (fun _ _ => False) w wr) (fun i _ => xs.length - (intOf i).toNat)
  case atStart => exact ⟨0, Nat.zero_le _, rfl, Chg.refl _ _⟩
  case round =>
    obtain ⟨j, hj, rfl, hc⟩ := hrel
    by_cases hlt : j < xs.length
    · obtain ⟨x, hx⟩ : ∃ x, xs[j]? = some x := ⟨_, List.getElem?_eq_getElem hlt⟩
      obtain ⟨b, o, rfl, g0⟩ := (HS.out.chg hc).int hx
      obtain ⟨b', o', rfl, g0'⟩ := (HS'.out.chg hc).int hx
      skip
      clear hx
      have i0 : (0 : Int) ≤ (j : Int) := by omega
      have i1 : (j : Int) < (xs.length : Int) := by omega
      go_wp2
      go_quiet (fail)
      go_wp2
      go_roundw
      case rel => exact ⟨j + 1, by omega, by go_num, hc.drewN _⟩
      case measure => simp [intOf]; omega
    · obtain rfl : j = xs.length := by omega
      go_wp2
      go_ret
      exact ⟨rfl, hc⟩

set_option maxRecDepth 100000 in
theorem equal_bool (v v' : Value) (xs : List Bool) (w : World) (h : SlE boolE w v xs) (h' : SlE boolE w v' xs) (hlen : xs.length ≤ 9223372036854775806) :
    Calls Try.prog 25 #[v, v'] w fun e w' => e = .returned (.bool true) ∧ Chg (fun _ _ => False) w w' := by
  obtain ⟨a, cap, rfl⟩ := h.form
  obtain ⟨a', cap', rfl⟩ := h'.form
  have HS := Lib.hid h
  have HS' := Lib.hid h'
  clear h h'
  go_enter Try.func25, Try.ntmps25
  go_wp2
  go_loopw [13] (fun i wr => ∃ (j : Nat), j ≤ xs.length ∧ i = .int .i64 j ∧ Chg (fun _ _ => False) w wr) (fun i _ => xs.length - (intOf i).toNat)
  case atStart => exact ⟨0, Nat.zero_le _, rfl, Chg.refl _ _⟩
  case round =>
    obtain ⟨j, hj, rfl, hc⟩ := hrel
    by_cases hlt : j < xs.length
    · obtain ⟨x, hx⟩ : ∃ x, xs[j]? = some x := ⟨_, List.getElem?_eq_getElem hlt⟩
      obtain ⟨b, o, rfl, g0⟩ := (HS.out.chg hc).bool hx
      obtain ⟨b', o', rfl, g0'⟩ := (HS'.out.chg hc).bool hx
      skip
      clear hx
      have i0 : (0 : Int) ≤ (j : Int) := by omega
      have i1 : (j : Int) < (xs.length : Int) := by omega
      go_wp2
      go_quiet (fail)
      go_wp2
      go_roundw
      case rel => exact ⟨j + 1, by omega, by go_num, hc.drewN _⟩
      case measure => simp [intOf]; omega
    · obtain rfl : j = xs.length := by omega
      go_wp2
      go_ret
      exact ⟨rfl, hc⟩

set_option maxRecDepth 100000 in
theorem equal_str (v v' : Value) (xs : List ByteArray) (w : World) (h : SlE strE w v xs) (h' : SlE strE w v' xs) (hlen : xs.length ≤ 9223372036854775806) :
    Calls Try.prog 19 #[v, v'] w fun e w' => e = .returned (.bool true) ∧ Chg (fun _ _ => False) w w' := by
  obtain ⟨a, cap, rfl⟩ := h.form
  obtain ⟨a', cap', rfl⟩ := h'.form
  have HS := Lib.hid h
  have HS' := Lib.hid h'
  clear h h'
  go_enter Try.func19, Try.ntmps19
  go_wp2
  go_loopw [13] (fun i wr => ∃ (j : Nat), j ≤ xs.length ∧ i = .int .i64 j ∧ Chg (fun _ _ => False) w wr) (fun i _ => xs.length - (intOf i).toNat)
  case atStart => exact ⟨0, Nat.zero_le _, rfl, Chg.refl _ _⟩
  case round =>
    obtain ⟨j, hj, rfl, hc⟩ := hrel
    by_cases hlt : j < xs.length
    · obtain ⟨x, hx⟩ : ∃ x, xs[j]? = some x := ⟨_, List.getElem?_eq_getElem hlt⟩
      obtain ⟨b, o, rfl, g0⟩ := (HS.out.chg hc).str hx
      obtain ⟨b', o', rfl, g0'⟩ := (HS'.out.chg hc).str hx
      skip
      clear hx
      have i0 : (0 : Int) ≤ (j : Int) := by omega
      have i1 : (j : Int) < (xs.length : Int) := by omega
      go_wp2
      go_quiet (fail)
      go_wp2
      go_roundw
      case rel => exact ⟨j + 1, by omega, by go_num, hc.drewN _⟩
      case measure => simp [intOf]; omega
    · obtain rfl : j = xs.length := by omega
      go_wp2
      go_ret
      exact ⟨rfl, hc⟩

set_option maxRecDepth 100000 in
theorem equal_word (v v' : Value) (xs : List (ByteArray × Int)) (w : World) (h : SlE wordE w v xs) (h' : SlE wordE w v' xs) (hlen : xs.length ≤ 9223372036854775806) :
    Calls Try.prog 24 #[v, v'] w fun e w' => e = .returned (.bool true) ∧ Chg (fun _ _ => False) w w' := by
  obtain ⟨a, cap, rfl⟩ := h.form
  obtain ⟨a', cap', rfl⟩ := h'.form
  have HS := Lib.hid h
  have HS' := Lib.hid h'
  clear h h'
  go_enter Try.func24, Try.ntmps24
  go_wp2
  go_loopw [13] (fun i wr => ∃ (j : Nat), j ≤ xs.length ∧ i = .int .i64 j ∧ Chg (fun _ _ => False) w wr) (fun i _ => xs.length - (intOf i).toNat)
  case atStart => exact ⟨0, Nat.zero_le _, rfl, Chg.refl _ _⟩
  case round =>
    obtain ⟨j, hj, rfl, hc⟩ := hrel
    by_cases hlt : j < xs.length
    · obtain ⟨x, hx⟩ : ∃ x, xs[j]? = some x := ⟨_, List.getElem?_eq_getElem hlt⟩
      obtain ⟨b, o, rfl, g0, g1⟩ := (HS.out.chg hc).word hx
      obtain ⟨b', o', rfl, g0', g1'⟩ := (HS'.out.chg hc).word hx
      skip
      clear hx
      have i0 : (0 : Int) ≤ (j : Int) := by omega
      have i1 : (j : Int) < (xs.length : Int) := by omega
      go_wp2
      go_quiet (fail)
      go_wp2
      go_roundw
      case rel => exact ⟨j + 1, by omega, by go_num, hc.drewN _⟩
      case measure => simp [intOf]; omega
    · obtain rfl : j = xs.length := by omega
      go_wp2
      go_ret
      exact ⟨rfl, hc⟩
end Go.Proofs.Ytbpnabhgnijbfaa

namespace Go.Proofs.Ytbpnabhgnijbfaa
set_option linter.unusedSimpArgs false
set_option linter.unusedVariables false
open Go.ChangeShapes Go.WideShapes Go.ChangeAt Go.RowKit

section
variable {H : Type} {enc : TypeId × Value → H} {P : Program}

theorem trodAll_carry (hl : laidOutB P = true) {W W' : World} (hb : Below W.heap.size W W') : ∀ {ts : List TypeId} {vs : List Value} {ds : List (DataW H)} {ps : List MemPlace},
    (ts.all fun t => P.readableRec t && decide (t < P.types.size)) = true → DataW.TrodAll enc P W 0 (fun _ => true) true ts vs ds ps → (∀ x ∈ ps, x.block < W.heap.size) → ∀ sp : Nat → Bool, (∀ p ∈ ps, sp p.block = true) → DataW.TrodAll enc P W' 0 sp true ts vs ds ps
  | [], _, _, _, _, h, _, _, _ => by
    obtain ⟨rfl, rfl, rfl⟩ := trodAll_nil h
    exact trodAll_mk0
  | t :: ts, _, _, _, ht, h, hlt, sp, hsp => by
    obtain ⟨v, vs1, d, ds1, a, b, rfl, rfl, rfl, h1, h2⟩ := trodAll_cons h
    simp only [List.all_cons, Bool.and_eq_true, decide_eq_true_eq] at ht
    obtain ⟨⟨g1, g2⟩, g3⟩ := ht
    refine ⟨a, b, WideElems.Trod_stays hl g1 g2 h1 (fun x hx => hb.same (hlt x (List.mem_append.2 (.inl hx)))) (fun x hx => hsp x (List.mem_append.2 (.inl hx))), trodAll_carry hl hb g3 h2 (fun x hx => hlt x (List.mem_append.2 (.inr hx))) sp (fun x hx => hsp x (List.mem_append.2 (.inr hx))), rfl⟩

/-- A law's end: it returned true, and below the heap's old size nothing has turned. -/
theorem law_post {f : Func} {s : ChangeSpec} {apart fresh handsOn again : Bool} {W W' : World} {args : Array Value} {ds gs : List (DataW H)} {before : List MemPlace} {tb : TypeId} (hl : laidOutB P = true)
    (hts : (f.params.toList.all fun t => P.readableRec t && decide (t < P.types.size)) = true) (hr : f.resultTypes = #[tb]) (hb4 : P.underlying tb = some .bool)
    (hW : DataW.Whole enc P f.params.toList s.vars apart W args.toList ds gs before) (hv : s.vars = []) (hfn : s.fn H ds = { results := [.lit (.bool true)], args := ds }) (hb : Below W.heap.size W W') :
    s.post enc P f apart fresh handsOn again W args (.bool true) W' := by
  have hW0 := hW
  obtain ⟨p, q, hA, hV, rfl, hz, hn⟩ := hW0
  rw [hv] at hV
  obtain ⟨rfl, rfl⟩ := trodVars_none hV
  have hfn' : s.fn H (ds ++ []) = { results := [.lit (.bool true)], args := ds } := by rw [List.append_nil]; exact hfn
  have hvn : (s.fn H (ds ++ [])).vars = [] := by rw [hfn']
  have hlt : ∀ x ∈ p, x.block < W.heap.size := fun x hx => hW.lt x (by simpa using hx)
  have hres : ∀ (b : Nat) (sp : Nat → Bool) (hd : Bool), DataW.TrodAll enc P W' b sp hd f.resultTypes.toList ((Value.bool true).resultList f.resultTypes.size) (s.fn H (ds ++ [])).results [] := by
    intro b sp hd
    rw [hfn', hr]
    exact trodAll_mk1 (shut_bool hb4 _)
  have hargs : ∀ sp : Nat → Bool, (∀ x ∈ p, sp x.block = true) → DataW.TrodAll enc P W' 0 sp true f.params.toList args.toList (s.fn H (ds ++ [])).args p := by
    intro sp hsp
    rw [hfn']
    exact trodAll_carry hl hb hts hA hlt sp hsp
  have hvars : ∀ sp : Nat → Bool, DataW.TrodVars enc P W' sp s.vars (s.fn H (ds ++ [])).vars [] := by
    intro sp
    rw [hvn, hv]
    exact rfl
  have hold : ∀ x ∈ p, (fun b => decide (b < W.heap.size)) x.block = true := fun x hx => by simpa using hlt x hx
  refine ⟨ds, [], p ++ [], [], p, [], hW, hres _ _ _, hargs _ hold, hvars _, World.keptBut_mono (fun x hx => ⟨hx, ?_⟩) (hb.frame (· ∈ p ++ [])), fun _ => ?_⟩
  · simpa using hx
  · refine ⟨ok_one hr rfl (okWide_bool_mk hb4 _), _, _, ([] ++ p) ++ [], ⟨[] ++ p, [], trodAll_append (hargs _ (fun _ _ => rfl)) (hres _ _ _), hvars _, rfl, ?_, ?_⟩, ?_⟩
    · intro b off hp
      have hin : MemPlace.cell b off ∈ p := by simpa using hp
      rw [hb.frozen (hlt _ hin)]
      exact hz b off (by simpa using hin)
    · intro ha
      have := hn ha
      simpa using this
    · intro x hx _
      simpa using hx

/-- The bytes of a string's value. -/
def strOf (v : Value) : ByteArray := match v with
  | .string s => s
  | _ => ⟨#[]⟩

/-- A slice of structs of a string and an integer opened. -/
theorem open_words {r : Reach} {b0 : Nat} {t e t3 t4 : TypeId} {f0 f1 : Field} {v : Value} {d : DataW H} {ps : List MemPlace} {w : World} (ht : P.underlying t = some (.slice e)) (he : P.underlying e = some (.struct #[f0, f1])) (ce : P.cellsOf e = 2) (o0 : f0.offset = 0) (o1 : f1.offset = 1)
    (g0 : f0.type = t3) (g1 : f1.type = t4) (c3 : P.cellsOf t3 = 1) (c4 : P.cellsOf t4 = 1) (h3 : P.underlying t3 = some .string) (h4 : P.underlying t4 = some (.int .i64)) (hv : Value.okWide P w r b0 t v) (h : DataW.Trod enc P w 0 (fun _ => true) true t v d ps) :
    ∃ l, SlE wordE w v l := by
  obtain ⟨a, len, cap, rfl⟩ := okWide_slice ht hv
  obtain ⟨fuel, hf⟩ := h
  rcases Deep.open_slice_pairs ht he ce o0 o1 (by rw [g0]; exact c3) (by rw [g1]; exact c4) hf with ⟨hc, _⟩ | ⟨a', len', cap', m, n, V0, V1, D0, D1, P0, P1, hcs, _, hlc, _, hm, _, hi⟩
  · simp only [Value.cells, List.cons.injEq, Value.slice.injEq, and_true] at hc
    obtain ⟨rfl, rfl, rfl⟩ := hc
    exact ⟨[], none, 0, rfl, Nat.le_refl _, .inl rfl⟩
  · simp only [Value.cells, List.cons.injEq, Value.slice.injEq, and_true] at hcs
    obtain ⟨rfl, rfl, rfl⟩ := hcs
    have hsp : a'.spot = none := by
      simp only [Value.okWide, ht, Cell.okWide, Cell.ok] at hv
      exact hv.2.2.2.1
    have haddr : a' = ⟨a'.block, a'.off, none⟩ := by
      obtain ⟨b1, o1, s1⟩ := a'
      obtain rfl : s1 = none := hsp
      rfl
    have hm' : m = cap := by simpa using hm
    subst hm'
    have hl : ((List.range len).map fun i => (strOf (V0 i), intOf (V1 i))).length = len := by simp
    refine ⟨(List.range len).map fun i => (strOf (V0 i), intOf (V1 i)), some a', m, by rw [hl], by rw [hl]; exact hlc, .inr ⟨a'.block, a'.off, congrArg some haddr, fun j u hj => ?_⟩⟩
    obtain ⟨x, hx, hu⟩ := flat_place wordE.par hj
    have hil : j / 2 < len := by
      have := (List.getElem?_eq_some_iff.1 hx).1
      rw [hl] at this
      exact this
    have hxe : x = (strOf (V0 (j / 2)), intOf (V1 (j / 2))) := by
      have h2 : ((List.range len).map fun i => (strOf (V0 i), intOf (V1 i)))[j / 2]? = some x := hx
      rw [List.getElem?_map, List.getElem?_range hil] at h2
      simpa using h2.symm
    obtain ⟨k0, k1, k2, k3⟩ := hi (j / 2) (by omega)
    rw [g0] at k2
    rw [g1] at k3
    obtain ⟨n0, e0, _⟩ := DataW.trod_string h3 k2
    obtain ⟨n1, e1, _⟩ := DataW.trod_int h4 k3
    rw [haddr, add_none] at k0 k1
    have e0' : V0 (j / 2) = .string n0 := by simpa using e0
    have e1' : V1 (j / 2) = .int .i64 n1 := by simpa using e1
    rw [e0'] at k0 hxe
    rw [e1'] at k1 hxe
    have hu2 : [Value.string n0, Value.int .i64 n1][j % 2]? = some u := by
      have h2 : (wordE.par.enc x)[j % 2]? = some u := hu
      rw [hxe] at h2
      exact h2
    rcases Nat.mod_two_eq_zero_or_one j with hp | hp
    · rw [hp] at hu2
      obtain rfl : Value.string n0 = u := by simpa using hu2
      rw [show j = j / 2 * 2 by omega]; exact k0
    · rw [hp] at hu2
      obtain rfl : Value.int .i64 n1 = u := by simpa using hu2
      rw [show a'.off + j = a'.off + (j / 2 * 2 + 1) by omega]; exact k1
end
end Go.Proofs.Ytbpnabhgnijbfaa

namespace Go.Proofs.Ytbpnabhgnijbfaa
set_option linter.unusedSimpArgs false
set_option linter.unusedVariables false
open Go.RowKit

def OwnPost {α : Type} (p : El α) (xs : List α) (w : World) (e : Ending) (w' : World) : Prop := ∃ v, e = .returned v ∧ OwnE p w' v xs w.heap.size ∧ Chg (fun _ _ => False) w w'
end Go.Proofs.Ytbpnabhgnijbfaa

namespace Go.Proofs.Ytbpnabhgnijbfaa
set_option linter.unusedSimpArgs false
set_option linter.unusedVariables false
open Go.RowKit

theorem fits_yes (d : Int) (w : World) (h1 : 2 ≤ d) (h2 : d ≤ 128) : Calls Try.prog 13 #[.int .i64 d] w fun e w' => e = .returned (.bool true) ∧ w = w' := by
  have h0 : (d == 0) = false := by simp; omega
  go_enter Try.func13, Try.ntmps13
  go_wp2
  go_ret
  exact ⟨rfl, rfl⟩

theorem fits_no (d : Int) (w : World) (h0 : d ≠ 0) (h : d < 2 ∨ 128 < d) : Calls Try.prog 13 #[.int .i64 d] w fun e w' => e = .returned (.bool false) ∧ w = w' := by
  have h0 : (d == 0) = false := by simp; omega
  by_cases h2 : d < 2
  · have h3 : ¬ 2 ≤ d := by omega
    go_enter Try.func13, Try.ntmps13
    go_wp2
    go_ret
    exact ⟨rfl, rfl⟩
  · have h3 : 2 ≤ d := by omega
    have h4 : ¬ d ≤ 128 := by omega
    go_enter Try.func13, Try.ntmps13
    go_wp2
    go_ret
    exact ⟨rfl, rfl⟩

theorem fit_yes (d : Int) (w : World) (h1 : 2 ≤ d) (h2 : d ≤ 128) : Calls Try.prog 10 #[.int .i64 d] w fun e w' => e = .returned (.bool true) ∧ w = w' := by
  have h0 : 0 < d := by omega
  go_enter Try.func10, Try.ntmps10
  go_wp2_with fail
  refine (fits_yes d _ h1 h2).mono ?_
  rintro e w' ⟨rfl, rfl⟩
  go_wp2_with fail
  go_ret
  exact ⟨rfl, rfl⟩

theorem fit_no (d : Int) (w : World) (h : d < 2 ∨ 128 < d) : Calls Try.prog 10 #[.int .i64 d] w fun e w' => e = .returned (.bool false) ∧ w = w' := by
  by_cases h0 : 0 < d
  · have hf := fun w => fits_no d w (by omega) h
    have HF := Lib.hid hf
    clear hf h
    go_enter Try.func10, Try.ntmps10
    go_wp2_with fail
    refine (HF.out _).mono ?_
    rintro e w' ⟨rfl, rfl⟩
    go_wp2_with fail
    go_ret
    exact ⟨rfl, rfl⟩
  · clear h
    go_enter Try.func10, Try.ntmps10
    go_wp2
    go_ret
    exact ⟨rfl, rfl⟩

theorem zzFits3_any (s : ByteArray) (n : Int) (w : World) :
    Calls Try.prog 21 #[.agg #[.string s, .int .i64 n]] w fun e w' => e = .returned (.bool (decide (s.size ≤ 2147483647))) ∧ Chg (fun _ _ => False) w w' := by
  by_cases hs : s.size ≤ 2147483647
  · have h1 : ¬ (2147483647 : Int) < (s.size : Int) := by omega
    rw [decide_eq_true hs]
    clear hs
    go_enter Try.func21, Try.ntmps21
    go_wp2
    go_ret
    exact ⟨rfl, (Chg.refl _ _).alloc _⟩
  · have h1 : (2147483647 : Int) < (s.size : Int) := by omega
    rw [decide_eq_false hs]
    clear hs
    go_enter Try.func21, Try.ntmps21
    go_wp2
    go_ret
    exact ⟨rfl, (Chg.refl _ _).alloc _⟩

set_option maxRecDepth 100000 in
theorem zzFits2_any (v : Value) (l : List (ByteArray × Int)) (w : World) (hl : SlE wordE w v l) :
    Calls Try.prog 6 #[v] w fun e w' => ∃ q, e = .returned (.bool q) ∧ (q = true → l.length ≤ 2147483647) ∧ Chg (fun _ _ => False) w w' := by
  obtain ⟨pp, cap, rfl⟩ := hl.form
  have HS := Lib.hid hl
  clear hl
  by_cases hlen : l.length ≤ 2147483647
  rotate_left
  · have hlen' : (2147483647 : Int) < (l.length : Int) := by omega
    clear hlen
    go_enter Try.func6, Try.ntmps6
    go_wp2
    go_ret
    exact ⟨false, rfl, fun h => (by cases h), Chg.refl _ _⟩
  have hlen' : ¬ (2147483647 : Int) < (l.length : Int) := by omega
  go_enter Try.func6, Try.ntmps6
  go_wp2
  go_loopw [10] (fun iv wr => ∃ (j : Nat), j ≤ l.length ∧ iv = .int .i64 j ∧ Chg (fun _ _ => False) w wr) (fun iv _ => l.length - (intOf iv).toNat)
  case atStart => exact ⟨0, Nat.zero_le _, rfl, Chg.refl _ _⟩
  case round =>
    obtain ⟨j, hj, rfl, hc⟩ := hrel
    by_cases hlt : j < l.length
    · obtain ⟨x, hx⟩ : ∃ x, l[j]? = some x := ⟨_, List.getElem?_eq_getElem hlt⟩
      obtain ⟨b, o, rfl, g0, g1⟩ := (HS.out.chg hc).word hx
      have j0 : (0 : Int) ≤ (j : Int) := by omega
      have j1 : (j : Int) < (l.length : Int) := by omega
      have hz := fun w1 => zzFits3_any x.1 x.2 w1
      obtain ⟨q, hq⟩ : ∃ q, decide (x.1.size ≤ 2147483647) = q := ⟨_, rfl⟩
      rw [hq] at hz
      have HZ := Lib.hid hz
      clear hx hz hq
      go_wp2_with fail
      refine (HZ.out _).mono ?_
      rintro e w3 ⟨rfl, hc3⟩
      have hc4 := (hc.alloc (.cells #[.string x.1, .int .i64 x.2] 35)).trans hc3
      cases q
      · go_wp2
        go_ret
        exact ⟨false, rfl, fun h => (by cases h), hc4⟩
      · go_wp2
        go_roundw
        case rel => exact ⟨j + 1, by omega, by go_num, hc4⟩
        case measure => simp [intOf]; omega
    · obtain rfl : j = l.length := by omega
      go_wp2
      go_ret
      exact ⟨true, rfl, fun _ => hlen, hc⟩

def exW : List (ByteArray × Int) := [(⟨#[98]⟩, 1), (⟨#[]⟩, 2), (⟨#[97, 98]⟩, 3), (⟨#[98]⟩, 4)]

theorem exWords_any (w : World) : Calls Try.prog 8 #[] w fun e w' => ∃ v, e = .returned v ∧ SlE wordE w' v exW ∧ Chg (fun _ _ => False) w w' := by
  have hown : SlE wordE (w.alloc (.cells #[.string ⟨#[98]⟩, .int .i64 1, .string ⟨#[]⟩, .int .i64 2, .string ⟨#[97, 98]⟩, .int .i64 3, .string ⟨#[98]⟩, .int .i64 4] 35)) (.slice (some ⟨w.heap.size, 0, none⟩) 4 4) exW := by
    refine ⟨_, _, rfl, Nat.le_refl _, .inr ⟨w.heap.size, 0, rfl, fun j u hj => ?_⟩⟩
    rw [cell_of_block (ha_at _ _ rfl)]
    have e : flat wordE.par exW = [.string ⟨#[98]⟩, .int .i64 1, .string ⟨#[]⟩, .int .i64 2, .string ⟨#[97, 98]⟩, .int .i64 3, .string ⟨#[98]⟩, .int .i64 4] := rfl
    rw [e] at hj
    rw [Nat.zero_add]
    simpa using hj
  have HO := Lib.hid hown
  clear hown
  go_enter Try.func8, Try.ntmps8
  go_wp2
  go_ret
  exact ⟨_, rfl, HO.out, (Chg.refl _ _).alloc _⟩

theorem exPlaces_any (w : World) : Calls Try.prog 9 #[] w fun e w' => ∃ v, e = .returned v ∧ SlE intE w' v [0, 2, 5, -1, 100] ∧ Chg (fun _ _ => False) w w' := by
  have hown : SlE intE (w.alloc (.cells #[.int .i64 0, .int .i64 2, .int .i64 5, .int .i64 (-1), .int .i64 100] 3)) (.slice (some ⟨w.heap.size, 0, none⟩) 5 5) [0, 2, 5, -1, 100] := by
    refine ⟨_, _, rfl, Nat.le_refl _, .inr ⟨w.heap.size, 0, rfl, fun j u hj => ?_⟩⟩
    rw [cell_of_block (ha_at _ _ rfl)]
    have e : flat intE.par [0, 2, 5, -1, 100] = [.int .i64 0, .int .i64 2, .int .i64 5, .int .i64 (-1), .int .i64 100] := rfl
    rw [e] at hj
    rw [Nat.zero_add]
    simpa using hj
  have HO := Lib.hid hown
  clear hown
  go_enter Try.func9, Try.ntmps9
  go_wp2
  go_ret
  exact ⟨_, rfl, HO.out, (Chg.refl _ _).alloc _⟩
end Go.Proofs.Ytbpnabhgnijbfaa
