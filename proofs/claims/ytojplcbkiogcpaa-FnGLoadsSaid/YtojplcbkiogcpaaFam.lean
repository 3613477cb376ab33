/- The nodes of trees in memory: node records with list-valued fields (H), and that they lie in a world (Fam). No program in sight. -/
import Derived.Test.YtojplcbkiogcpaaBase2
namespace Go.Proofs.Ytojplcbkiogcpaa
set_option linter.unusedSimpArgs false
set_option linter.unusedVariables false
open Go.RowKit

/-- How items are laid in cells, the types' numbers, and the isoid that all nodes bear. -/
structure Par (α : Type) where
  es : Nat
  enc : α → List Value
  TN : TypeId
  TI : TypeId
  TS : TypeId
  TP : TypeId
  k : Int
  epos : 0 < es
  elen : ∀ x, (enc x).length = es
  eone : ∀ x, ∀ v ∈ enc x, v.oneCell' = true

structure NodeR (α : Type) where
  cnt : Int
  items : List α
  kids : Option (List (Option Nat))

structure Lay where
  ib : Nat
  io : Nat
  ic : Nat
  cc : Nat
  cb : Nat
  co : Nat
  ck : Nat

def kidV (o : Option Nat) : Value := .pointer (o.map fun n => ⟨n, 0, none⟩)

variable {α : Type}

def flat (p : Par α) (xs : List α) : List Value := xs.flatMap p.enc

theorem flat_nil (p : Par α) : flat p [] = [] := rfl
theorem flat_cons (p : Par α) (x : α) (xs : List α) : flat p (x :: xs) = p.enc x ++ flat p xs := rfl
theorem flat_append (p : Par α) (xs ys : List α) : flat p (xs ++ ys) = flat p xs ++ flat p ys := by simp [flat]
theorem flat_single (p : Par α) (x : α) : flat p [x] = p.enc x := by simp [flat]

theorem flat_len (p : Par α) : ∀ xs : List α, (flat p xs).length = xs.length * p.es
  | [] => by simp [flat]
  | x :: xs => by rw [flat_cons, List.length_append, flat_len p xs, p.elen, List.length_cons, Nat.add_mul]; omega

theorem flat_drop (p : Par α) : ∀ (xs : List α) (i : Nat), (flat p xs).drop (i * p.es) = flat p (xs.drop i)
  | [], i => by simp [flat]
  | x :: xs, 0 => by simp
  | x :: xs, i + 1 => by
    rw [flat_cons, List.drop_succ_cons, ← flat_drop p xs i, Nat.add_mul, Nat.one_mul, Nat.add_comm, ← List.drop_drop]
    congr 1
    have h := p.elen x
    rw [List.drop_append, List.drop_of_length_le (by omega), h]; simp

theorem flat_take (p : Par α) : ∀ (xs : List α) (i : Nat), (flat p xs).take (i * p.es) = flat p (xs.take i)
  | [], i => by simp [flat]
  | x :: xs, 0 => by simp [flat]
  | x :: xs, i + 1 => by
    rw [flat_cons, List.take_succ_cons, flat_cons, ← flat_take p xs i, Nat.add_mul, Nat.one_mul]
    have h := p.elen x
    rw [List.take_append, List.take_of_length_le (by omega)]
    congr 2
    omega

theorem flat_get (p : Par α) {xs : List α} {j q : Nat} {x : α} {v : Value} (hj : xs[j]? = some x) (hq : (p.enc x)[q]? = some v) : (flat p xs)[j * p.es + q]? = some v := by
  have hd := flat_drop p xs j
  have hx : xs.drop j = x :: xs.drop (j + 1) := by
    obtain ⟨h1, h2⟩ := List.getElem?_eq_some_iff.1 hj
    rw [List.drop_eq_getElem_cons h1, h2]
  rw [hx, flat_cons] at hd
  have hlt := (List.getElem?_eq_some_iff.1 hq).1
  rw [← List.getElem?_drop, hd, List.getElem?_append_left hlt, hq]

/-- A place of the cells is a place of an item. -/
theorem flat_place (p : Par α) {xs : List α} {i : Nat} {v : Value} (h : (flat p xs)[i]? = some v) : ∃ x, xs[i / p.es]? = some x ∧ (p.enc x)[i % p.es]? = some v := by
  have hlt := (List.getElem?_eq_some_iff.1 h).1
  rw [flat_len] at hlt
  have hi : i / p.es < xs.length := Nat.div_lt_of_lt_mul (by rw [Nat.mul_comm]; exact hlt)
  refine ⟨xs[i / p.es], List.getElem?_eq_getElem hi, ?_⟩
  have hm : i % p.es < (p.enc xs[i / p.es]).length := by rw [p.elen]; exact Nat.mod_lt _ p.epos
  have := flat_get p (List.getElem?_eq_getElem hi) (List.getElem?_eq_getElem hm)
  rw [Nat.mul_comm, Nat.div_add_mod] at this
  rw [List.getElem?_eq_getElem hm, ← this, h]

theorem flat_one (p : Par α) (xs : List α) : ∀ v ∈ flat p xs, v.oneCell' = true := by
  intro v hv
  obtain ⟨x, _, h⟩ := List.mem_flatMap.1 hv
  exact p.eone x v h

/-- The cells of one item overwritten. -/
theorem flat_splice (p : Par α) (xs : List α) (j : Nat) (x : α) (hj : j < xs.length) :
    (flat p xs).take (j * p.es) ++ p.enc x ++ (flat p xs).drop (j * p.es + (p.enc x).length) = flat p (xs.set j x) := by
  rw [p.elen, show j * p.es + p.es = (j + 1) * p.es by rw [Nat.add_mul, Nat.one_mul], flat_take, flat_drop]
  rw [List.set_eq_take_append_cons_drop, if_pos hj, flat_append, flat_cons, List.append_assoc]

def hdCells (p : Par α) (r : NodeR α) (l : Lay) : Array Value :=
  #[.int .u64 p.k, .int .i64 r.cnt, .slice (some ⟨l.ib, l.io, none⟩) r.items.length l.ic, .pointer (r.kids.map fun _ => ⟨l.cc, 0, none⟩)]

/-- The node's record lies in the world. -/
structure NodeAt (p : Par α) (w : World) (n : Nat) (r : NodeR α) (l : Lay) : Prop where
  hd : w.heap[n]? = some (.cells (hdCells p r l) p.TN (0, 0))
  row : RowAt w p.TI l.ib l.io (l.ic * p.es) (flat p r.items)
  kid : ∀ ks, r.kids = some ks → w.heap[l.cc]? = some (.cells #[.slice (some ⟨l.cb, l.co, none⟩) ks.length l.ck] p.TS (0, 0)) ∧ RowAt w p.TP l.cb l.co l.ck (ks.map kidV)
  d1 : l.ib ≠ n
  d2 : r.kids ≠ none → l.cc ≠ n ∧ l.cb ≠ n ∧ l.cc ≠ l.ib ∧ l.cb ≠ l.ib ∧ l.cb ≠ l.cc

theorem NodeAt.len {p : Par α} {w : World} {n : Nat} {r : NodeR α} {l : Lay} (h : NodeAt p w n r l) : r.items.length ≤ l.ic := by
  have := h.row.1
  rw [flat_len] at this
  exact Nat.le_of_mul_le_mul_right this p.epos

theorem NodeAt.klen {p : Par α} {w : World} {n : Nat} {r : NodeR α} {l : Lay} (h : NodeAt p w n r l) {ks : List (Option Nat)} (hk : r.kids = some ks) : ks.length ≤ l.ck := by
  have := (h.kid ks hk).2.1
  simpa using this

/-- The cells that are the node's own. -/
def Ext (p : Par α) (n : Nat) (r : NodeR α) (l : Lay) (b o : Nat) : Prop :=
  b = n ∨ (b = l.ib ∧ l.io ≤ o ∧ o < l.io + l.ic * p.es) ∨ (r.kids ≠ none ∧ (b = l.cc ∨ (b = l.cb ∧ l.co ≤ o ∧ o < l.co + l.ck)))

/-- The blocks in which they lie. -/
def Blk (n : Nat) (r : NodeR α) (l : Lay) (b : Nat) : Prop := b = n ∨ b = l.ib ∨ (r.kids ≠ none ∧ (b = l.cc ∨ b = l.cb))

theorem Ext.blk {p : Par α} {n : Nat} {r : NodeR α} {l : Lay} {b o : Nat} (h : Ext p n r l b o) : Blk n r l b := by
  rcases h with h | ⟨h, _⟩ | ⟨h, h1 | ⟨h1, _⟩⟩
  · exact .inl h
  · exact .inr (.inl h)
  · exact .inr (.inr ⟨h, .inl h1⟩)
  · exact .inr (.inr ⟨h, .inr h1⟩)

theorem NodeAt.lt {p : Par α} {w : World} {n : Nat} {r : NodeR α} {l : Lay} (h : NodeAt p w n r l) {b : Nat} (hb : Blk n r l b) : b < w.heap.size := by
  rcases hb with rfl | rfl | ⟨h0, hb⟩
  · exact heap_lt h.hd
  · exact h.row.lt
  · cases hk : r.kids with
    | none => exact absurd hk h0
    | some ks =>
      rcases hb with rfl | rfl
      · exact heap_lt (h.kid ks hk).1
      · exact (h.kid ks hk).2.lt

/-- What changes none of the node's own cells leaves it as it is. -/
theorem NodeAt.chg {A : Nat → Nat → Prop} {p : Par α} {w w' : World} {n : Nat} {r : NodeR α} {l : Lay} (h : NodeAt p w n r l) (k : Chg A w w') (hA : ∀ b o, Ext p n r l b o → ¬ A b o) : NodeAt p w' n r l := by
  refine ⟨?_, ?_, ?_, h.d1, h.d2⟩
  · rw [k.block (heap_lt h.hd) (fun o => hA n o (.inl rfl))]; exact h.hd
  · refine h.row.chg k fun j hj => hA _ _ (.inr (.inl ⟨rfl, by omega, ?_⟩))
    have := h.row.1
    omega
  · intro ks hk
    have hne : r.kids ≠ none := by rw [hk]; simp
    obtain ⟨h1, h2⟩ := h.kid ks hk
    refine ⟨?_, ?_⟩
    · rw [k.block (heap_lt h1) (fun o => hA _ o (.inr (.inr ⟨hne, .inl rfl⟩)))]; exact h1
    · refine h2.chg k fun j hj => hA _ _ (.inr (.inr ⟨hne, .inr ⟨rfl, by omega, ?_⟩⟩))
      have := h2.1
      omega

/-- The family's blocks, grown by all that has come since w. -/
def grow (F : Nat → Prop) (w w' : World) (b : Nat) : Prop := F b ∨ (w.heap.size ≤ b ∧ b < w'.heap.size)

def upd (H : Nat → Option (NodeR α)) (n : Nat) (r : NodeR α) : Nat → Option (NodeR α) := fun m => if m = n then some r else H m
theorem upd_same (H : Nat → Option (NodeR α)) (n : Nat) (r : NodeR α) : upd H n r n = some r := by simp [upd]
theorem upd_ne (H : Nat → Option (NodeR α)) {n m : Nat} (r : NodeR α) (h : m ≠ n) : upd H n r m = H m := by simp [upd, h]

/-- THE NODES OF H LIE IN THE WORLD, apart from each other, in blocks of F. -/
def Fam (p : Par α) (w : World) (F : Nat → Prop) (H : Nat → Option (NodeR α)) : Prop :=
  ∃ L : Nat → Lay, (∀ n r, H n = some r → NodeAt p w n r (L n) ∧ ∀ b, Blk n r (L n) b → F b) ∧
    (∀ n m r s, n ≠ m → H n = some r → H m = some s → ∀ b o, Ext p n r (L n) b o → ¬ Ext p m s (L m) b o) ∧ (∀ b, F b → b < w.heap.size)

theorem Fam.empty (p : Par α) (w : World) : Fam p w (fun _ => False) (fun _ => none) := ⟨fun _ => ⟨0, 0, 0, 0, 0, 0, 0⟩, by simp, by simp, by simp⟩

theorem Fam.lt {p : Par α} {w : World} {F : Nat → Prop} {H : Nat → Option (NodeR α)} (h : Fam p w F H) {b : Nat} (hb : F b) : b < w.heap.size := by
  obtain ⟨L, _, _, h3⟩ := h; exact h3 b hb

theorem Fam.mem {p : Par α} {w : World} {F : Nat → Prop} {H : Nat → Option (NodeR α)} (h : Fam p w F H) {n : Nat} {r : NodeR α} (hn : H n = some r) : F n := by
  obtain ⟨L, h1, _, _⟩ := h; exact (h1 n r hn).2 n (.inl rfl)

theorem Fam.mono {p : Par α} {w : World} {F F' : Nat → Prop} {H : Nat → Option (NodeR α)} (h : Fam p w F H) (h1 : ∀ b, F b → F' b) (h2 : ∀ b, F' b → b < w.heap.size) : Fam p w F' H := by
  obtain ⟨L, a, b, c⟩ := h
  exact ⟨L, fun n r hn => ⟨(a n r hn).1, fun x hx => h1 x ((a n r hn).2 x hx)⟩, b, h2⟩

theorem Fam.sub {p : Par α} {w : World} {F : Nat → Prop} {H H' : Nat → Option (NodeR α)} (h : Fam p w F H) (h1 : ∀ n r, H' n = some r → H n = some r) : Fam p w F H' := by
  obtain ⟨L, a, b, c⟩ := h
  exact ⟨L, fun n r hn => a n r (h1 n r hn), fun n m r s hne hn hm => b n m r s hne (h1 n r hn) (h1 m s hm), c⟩

/-- What is changed outside the family leaves it as it is. -/
theorem Fam.chg {A : Nat → Nat → Prop} {p : Par α} {w w' : World} {F : Nat → Prop} {H : Nat → Option (NodeR α)} (h : Fam p w F H) (k : Chg A w w') (hA : ∀ b o, F b → ¬ A b o) : Fam p w' F H := by
  obtain ⟨L, a, b, c⟩ := h
  exact ⟨L, fun n r hn => ⟨(a n r hn).1.chg k fun x o hx => hA x o ((a n r hn).2 x hx.blk), (a n r hn).2⟩, b, fun x hx => Nat.lt_of_lt_of_le (c x hx) k.size⟩

/-- ONE NODE IS OPENED, CHANGED, AND SHUT AGAIN. -/
theorem Fam.open {p : Par α} {w : World} {F : Nat → Prop} {H : Nat → Option (NodeR α)} (h : Fam p w F H) {n : Nat} {r : NodeR α} (hn : H n = some r) :
    ∃ l, NodeAt p w n r l ∧ (∀ b, Blk n r l b → F b) ∧ (∀ c s, c ≠ n → H c = some s → (∃ l', NodeAt p w c s l') ∧ ∀ o, ¬ Ext p n r l c o) ∧ ∀ w' r' l', Chg (Ext p n r l) w w' → NodeAt p w' n r' l' → (∀ b o, Ext p n r' l' b o → Ext p n r l b o ∨ w.heap.size ≤ b) →
      (∀ b, Blk n r' l' b → Blk n r l b ∨ w.heap.size ≤ b) → Fam p w' (grow F w w') (upd H n r') := by
  obtain ⟨L, a, b, c⟩ := h
  refine ⟨L n, (a n r hn).1, (a n r hn).2, fun q s hq hs => ⟨⟨_, (a q s hs).1⟩, fun o h => b q n s r hq hs hn q o (.inl rfl) h⟩, fun w' r' l' hc hn' he hb => ?_⟩
  refine ⟨fun m => if m = n then l' else L m, ?_, ?_, ?_⟩
  · intro m s hm
    by_cases hmn : m = n
    · subst hmn
      rw [upd_same] at hm
      obtain rfl := Option.some.inj hm
      simp only [if_true]
      refine ⟨hn', fun x hx => ?_⟩
      rcases hb x hx with h1 | h1
      · exact .inl ((a m r hn).2 x h1)
      · exact .inr ⟨h1, hn'.lt hx⟩
    · rw [upd_ne _ _ hmn] at hm
      simp only [hmn, if_false]
      refine ⟨(a m s hm).1.chg hc fun x o hx hy => b m n s r hmn hm hn x o hx hy, fun x hx => .inl ((a m s hm).2 x hx)⟩
  · have key : ∀ m s, m ≠ n → H m = some s → ∀ x o, Ext p m s (L m) x o → ¬ Ext p n r' l' x o := by
      intro m s hmn hm x o hx hy
      rcases he x o hy with h1 | h1
      · exact b m n s r hmn hm hn x o hx h1
      · have := c x ((a m s hm).2 x hx.blk); omega
    intro m q s t hmq hm hq x o hx hy
    by_cases h1 : m = n
    · subst h1
      have hqn : q ≠ m := fun e => hmq e.symm
      rw [upd_same] at hm
      obtain rfl := Option.some.inj hm
      rw [upd_ne _ _ hqn] at hq
      simp only [if_true, hqn, if_false] at hx hy
      exact key q t hqn hq x o hy hx
    · rw [upd_ne _ _ h1] at hm
      simp only [h1, if_false] at hx
      by_cases h2 : q = n
      · subst h2
        rw [upd_same] at hq
        obtain rfl := Option.some.inj hq
        simp only [if_true] at hy
        exact key m s h1 hm x o hx hy
      · rw [upd_ne _ _ h2] at hq
        simp only [h2, if_false] at hy
        exact b m q s t hmq hm hq x o hx hy
  · intro x hx
    rcases hx with hx | hx
    · exact Nat.lt_of_lt_of_le (c x hx) hc.size
    · exact hx.2

/-- A NODE IN NEW BLOCKS JOINS. -/
theorem Fam.add {p : Par α} {w w' : World} {F : Nat → Prop} {H : Nat → Option (NodeR α)} (h : Fam p w F H) {A : Nat → Nat → Prop} (hc : Chg A w w') (hA : ∀ b o, F b → ¬ A b o) {m : Nat} {s : NodeR α} {l : Lay}
    (hm : NodeAt p w' m s l) (hb : ∀ b, Blk m s l b → w.heap.size ≤ b) : Fam p w' (grow F w w') (upd H m s) := by
  obtain ⟨L, a, b, c⟩ := h
  have hne : ∀ n r, H n = some r → n ≠ m := by
    rintro n r hn rfl
    have := c n ((a n r hn).2 n (.inl rfl))
    have := hb n (.inl rfl)
    omega
  have key : ∀ n r, H n = some r → ∀ x o, Ext p n r (L n) x o → ¬ Ext p m s l x o := by
    intro n r hn x o hx hy
    have := c x ((a n r hn).2 x hx.blk)
    have := hb x hy.blk
    omega
  refine ⟨fun q => if q = m then l else L q, ?_, ?_, ?_⟩
  · intro n r hn
    by_cases h1 : n = m
    · subst h1
      rw [upd_same] at hn
      obtain rfl := Option.some.inj hn
      simp only [if_true]
      exact ⟨hm, fun x hx => .inr ⟨hb x hx, hm.lt hx⟩⟩
    · rw [upd_ne _ _ h1] at hn
      simp only [h1, if_false]
      exact ⟨(a n r hn).1.chg hc fun x o hx => hA x o ((a n r hn).2 x hx.blk), fun x hx => .inl ((a n r hn).2 x hx)⟩
  · intro n q r t hnq hn hq x o hx hy
    by_cases h1 : n = m
    · subst h1
      have h2 : q ≠ n := fun e => hnq e.symm
      rw [upd_same] at hn
      obtain rfl := Option.some.inj hn
      rw [upd_ne _ _ h2] at hq
      simp only [if_true, h2, if_false] at hx hy
      exact key q t hq x o hy hx
    · rw [upd_ne _ _ h1] at hn
      simp only [h1, if_false] at hx
      by_cases h2 : q = m
      · subst h2
        rw [upd_same] at hq
        obtain rfl := Option.some.inj hq
        simp only [if_true] at hy
        exact key n r hn x o hx hy
      · rw [upd_ne _ _ h2] at hq
        simp only [h2, if_false] at hy
        exact b n q r t hnq hn hq x o hx hy
  · intro x hx
    rcases hx with hx | hx
    · exact Nat.lt_of_lt_of_le (c x hx) hc.size
    · exact hx.2

/-- ONE NODE IS PARTED INTO TWO, the second one (m) new. -/
theorem Fam.split {p : Par α} {w : World} {F : Nat → Prop} {H : Nat → Option (NodeR α)} (h : Fam p w F H) {n : Nat} {r : NodeR α} (hn : H n = some r) :
    ∃ l, NodeAt p w n r l ∧ (∀ b, Blk n r l b → F b) ∧ (∀ c s, c ≠ n → H c = some s → (∃ l', NodeAt p w c s l') ∧ ∀ o, ¬ Ext p n r l c o) ∧ ∀ w' r1 l1 m r2 l2, Chg (Ext p n r l) w w' → NodeAt p w' n r1 l1 → NodeAt p w' m r2 l2 → w.heap.size ≤ m →
      (∀ b o, Ext p n r1 l1 b o → Ext p n r l b o ∨ w.heap.size ≤ b) → (∀ b o, Ext p m r2 l2 b o → Ext p n r l b o ∨ w.heap.size ≤ b) → (∀ b o, Ext p n r1 l1 b o → ¬ Ext p m r2 l2 b o) →
      (∀ b, Blk n r1 l1 b → Blk n r l b ∨ w.heap.size ≤ b) → (∀ b, Blk m r2 l2 b → Blk n r l b ∨ w.heap.size ≤ b) → Fam p w' (grow F w w') (upd (upd H n r1) m r2) := by
  obtain ⟨L, a, b, c⟩ := h
  refine ⟨L n, (a n r hn).1, (a n r hn).2, fun q s hq hs => ⟨⟨_, (a q s hs).1⟩, fun o h => b q n s r hq hs hn q o (.inl rfl) h⟩, fun w' r1 l1 m r2 l2 hc h1 h2 hm e1 e2 e12 b1 b2 => ?_⟩
  have hnlt := c n ((a n r hn).2 n (.inl rfl))
  have hnm : n ≠ m := by omega
  have hne : ∀ q t, H q = some t → q ≠ m := by
    rintro q t hq rfl
    have := c q ((a q t hq).2 q (.inl rfl))
    omega
  have key : ∀ q t x o, q ≠ n → H q = some t → Ext p q t (L q) x o → Ext p n r (L n) x o ∨ w.heap.size ≤ x → False := by
    intro q t x o hqn hq hx hy
    rcases hy with hy | hy
    · exact b q n t r hqn hq hn x o hx hy
    · have := c x ((a q t hq).2 x hx.blk); omega
  refine ⟨fun q => if q = m then l2 else if q = n then l1 else L q, ?_, ?_, ?_⟩
  · intro q t hq
    by_cases q1 : q = m
    · subst q1
      rw [upd_same] at hq
      obtain rfl := Option.some.inj hq
      simp only [if_true]
      refine ⟨h2, fun x hx => ?_⟩
      rcases b2 x hx with h3 | h3
      · exact .inl ((a n r hn).2 x h3)
      · exact .inr ⟨h3, h2.lt hx⟩
    · rw [upd_ne _ _ q1] at hq
      by_cases q2 : q = n
      · subst q2
        rw [upd_same] at hq
        obtain rfl := Option.some.inj hq
        simp only [if_true, if_neg hnm]
        refine ⟨h1, fun x hx => ?_⟩
        rcases b1 x hx with h3 | h3
        · exact .inl ((a q r hn).2 x h3)
        · exact .inr ⟨h3, h1.lt hx⟩
      · rw [upd_ne _ _ q2] at hq
        simp only [q1, q2, if_false]
        exact ⟨(a q t hq).1.chg hc fun x o hx hy => b q n t r q2 hq hn x o hx hy, fun x hx => .inl ((a q t hq).2 x hx)⟩
  · intro q q' t t' hqq hq hq' x o hx hy
    by_cases q1 : q = m
    · subst q1
      rw [upd_same] at hq
      obtain rfl := Option.some.inj hq
      simp only [if_true] at hx
      have q2 : q' ≠ q := fun e => hqq e.symm
      rw [upd_ne _ _ q2] at hq'
      simp only [q2, if_false] at hy
      by_cases q3 : q' = n
      · subst q3
        rw [upd_same] at hq'
        obtain rfl := Option.some.inj hq'
        simp only [if_true] at hy
        exact e12 x o hy hx
      · rw [upd_ne _ _ q3] at hq'
        simp only [q3, if_false] at hy
        exact key q' t' x o q3 hq' hy (e2 x o hx)
    · rw [upd_ne _ _ q1] at hq
      simp only [q1, if_false] at hx
      by_cases q2 : q' = m
      · subst q2
        rw [upd_same] at hq'
        obtain rfl := Option.some.inj hq'
        simp only [if_true] at hy
        by_cases q3 : q = n
        · subst q3
          rw [upd_same] at hq
          obtain rfl := Option.some.inj hq
          simp only [if_true] at hx
          exact e12 x o hx hy
        · rw [upd_ne _ _ q3] at hq
          simp only [q3, if_false] at hx
          exact key q t x o q3 hq hx (e2 x o hy)
      · rw [upd_ne _ _ q2] at hq'
        simp only [q2, if_false] at hy
        by_cases q3 : q = n
        · subst q3
          rw [upd_same] at hq
          obtain rfl := Option.some.inj hq
          simp only [if_true] at hx
          have q4 : q' ≠ q := fun e => hqq e.symm
          rw [upd_ne _ _ q4] at hq'
          simp only [q4, if_false] at hy
          exact key q' t' x o q4 hq' hy (e1 x o hx)
        · rw [upd_ne _ _ q3] at hq
          simp only [q3, if_false] at hx
          by_cases q4 : q' = n
          · subst q4
            rw [upd_same] at hq'
            obtain rfl := Option.some.inj hq'
            simp only [if_true] at hy
            exact key q t x o q3 hq hx (e1 x o hy)
          · rw [upd_ne _ _ q4] at hq'
            simp only [q4, if_false] at hy
            exact b q q' t t' hqq hq hq' x o hx hy
  · intro x hx
    rcases hx with hx | hx
    · exact Nat.lt_of_lt_of_le (c x hx) hc.size
    · exact hx.2

theorem hs_same {w : World} {b o : Nat} {c : Array Value} {T : TypeId} {fr : Nat × Nat} (h : w.heap[b]? = some (.cells c T fr)) (v : Value) : (w.setCell ⟨b, o, none⟩ v).heap[b]? = some (.cells (c.setIfInBounds o v) T fr) := by
  simp [World.setCell, Array.getElem?_modify, h]
theorem hs_ne {w : World} {b o b' : Nat} (v : Value) (h : b' ≠ b) : (w.setCell ⟨b, o, none⟩ v).heap[b']? = w.heap[b']? := Below.heap_setCell w ⟨b, o, none⟩ v b' h
theorem hd_drew (w : World) (b : Nat) : w.drew.heap[b]? = w.heap[b]? := rfl
theorem hd_drewN (w : World) (m b : Nat) : (w.drewN m).heap[b]? = w.heap[b]? := rfl
theorem ha_at (w : World) (o : Obj) {b : Nat} (h : b = w.heap.size) : (w.alloc o).heap[b]? = some o := by subst h; exact heap_alloc_new w o
theorem ha_lt (w : World) (o : Obj) {b : Nat} (h : b < w.heap.size) : (w.alloc o).heap[b]? = w.heap[b]? := Below.heap_alloc w o b h

/-- A part of a node's items, where nothing of that part has changed. -/
theorem NodeAt.rowPart {α : Type} {p : Par α} {A : Nat → Nat → Prop} {w w' : World} {n : Nat} {r : NodeR α} {l : Lay} (h : NodeAt p w n r l) (k : Chg A w w') (i j c : Nat) (hij : i + j ≤ r.items.length) (hj : j ≤ c) (hc : i + c ≤ l.ic)
    (hA : ∀ o, l.io + i * p.es ≤ o → o < l.io + (i + j) * p.es → ¬ A l.ib o) : RowAt w' p.TI l.ib (l.io + i * p.es) (c * p.es) (flat p ((r.items.drop i).take j)) := by
  have m1 : (i + j) * p.es ≤ r.items.length * p.es := Nat.mul_le_mul_right _ hij
  have m2 : (i + c) * p.es ≤ l.ic * p.es := Nat.mul_le_mul_right _ hc
  have m3 : j * p.es ≤ c * p.es := Nat.mul_le_mul_right _ hj
  rw [Nat.add_mul] at m1 m2
  have h1 := h.row.part (i * p.es) (j * p.es) (c * p.es) (by rw [flat_len]; exact m1) m3 m2
  rw [flat_drop, flat_take] at h1
  refine h1.chg k fun q hq => hA _ (by omega) ?_
  rw [flat_len] at hq
  have : ((r.items.drop i).take j).length ≤ j := List.length_take_le _ _
  have := Nat.mul_le_mul_right p.es this
  rw [Nat.add_mul]
  omega

/-- A part of a node's children. -/
theorem NodeAt.kidPart {α : Type} {p : Par α} {A : Nat → Nat → Prop} {w w' : World} {n : Nat} {r : NodeR α} {l : Lay} (h : NodeAt p w n r l) {ks : List (Option Nat)} (hk : r.kids = some ks) (k : Chg A w w') (i j c : Nat) (hij : i + j ≤ ks.length) (hj : j ≤ c) (hc : i + c ≤ l.ck)
    (hA : ∀ o, l.co + i ≤ o → o < l.co + (i + j) → ¬ A l.cb o) : RowAt w' p.TP l.cb (l.co + i) c (((ks.drop i).take j).map kidV) := by
  have h1 := (h.kid ks hk).2.part i j c (by simpa using hij) hj hc
  rw [← List.map_drop, ← List.map_take] at h1
  refine h1.chg k fun q hq => hA _ (by omega) ?_
  have : ((ks.drop i).take j).length ≤ j := List.length_take_le _ _
  rw [List.length_map] at hq
  omega

end Go.Proofs.Ytojplcbkiogcpaa
