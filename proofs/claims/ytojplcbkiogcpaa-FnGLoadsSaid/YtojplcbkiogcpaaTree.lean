/- Plain laws: sorted lists under an order, trees of one height, and what they hold. No memory, no program in sight. -/
namespace Go.Proofs.Ytojplcbkiogcpaa
set_option linter.unusedSimpArgs false
set_option linter.unusedVariables false

variable {α : Type}

/-- A strict weak order. -/
structure Swo (lt : α → α → Bool) : Prop where
  asymm : ∀ a b, lt a b = true → lt b a = false
  ntrans : ∀ a b c, lt a b = false → lt b c = false → lt a c = false

theorem Swo.irrefl {lt : α → α → Bool} (s : Swo lt) (a : α) : lt a a = false := by
  cases h : lt a a with
  | false => rfl
  | true => exact (s.asymm a a h) ▸ h ▸ rfl

theorem Swo.trans {lt : α → α → Bool} (s : Swo lt) {a b c : α} (h1 : lt a b = true) (h2 : lt b c = true) : lt a c = true := by
  cases h : lt a c with
  | true => rfl
  | false =>
    have := s.ntrans a c b h (s.asymm b c h2)
    rw [h1] at this; cases this

/-- a before b, b not behind c: a before c. -/
theorem Swo.lt_of_lt_of_nlt {lt : α → α → Bool} (s : Swo lt) {a b c : α} (h1 : lt a b = true) (h2 : lt c b = false) : lt a c = true := by
  cases h : lt a c with
  | true => rfl
  | false =>
    have := s.ntrans a c b h h2
    rw [h1] at this; cases this

theorem Swo.lt_of_nlt_of_lt {lt : α → α → Bool} (s : Swo lt) {a b c : α} (h1 : lt b a = false) (h2 : lt b c = true) : lt a c = true := by
  cases h : lt a c with
  | true => rfl
  | false =>
    have := s.ntrans b a c h1 h
    rw [h2] at this; cases this

def Srt (lt : α → α → Bool) (l : List α) : Prop := l.Pairwise fun a b => lt a b = true

/-- x is put into the sorted list l (in place of an equal one). -/
def insL (lt : α → α → Bool) (x : α) : List α → List α
  | [] => [x]
  | y :: l => if lt y x then y :: insL lt x l else if lt x y then x :: y :: l else x :: l

/-- What equals x in the list. -/
def fndL (lt : α → α → Bool) (x : α) : List α → Option α
  | [] => none
  | y :: l => if lt y x then fndL lt x l else if lt x y then none else some y

theorem insL_pre {lt : α → α → Bool} {x : α} : ∀ {A B : List α}, (∀ a ∈ A, lt a x = true) → insL lt x (A ++ B) = A ++ insL lt x B
  | [], _, _ => rfl
  | a :: A, B, h => by
    rw [List.cons_append, insL, if_pos (h a List.mem_cons_self), insL_pre (fun b hb => h b (List.mem_cons_of_mem _ hb))]; rfl

theorem fndL_pre {lt : α → α → Bool} {x : α} : ∀ {A B : List α}, (∀ a ∈ A, lt a x = true) → fndL lt x (A ++ B) = fndL lt x B
  | [], _, _ => rfl
  | a :: A, B, h => by
    rw [List.cons_append, fndL, if_pos (h a List.mem_cons_self), fndL_pre (fun b hb => h b (List.mem_cons_of_mem _ hb))]

theorem insL_post {lt : α → α → Bool} (s : Swo lt) {x : α} : ∀ {B C : List α}, (∀ c ∈ C, lt x c = true) → insL lt x (B ++ C) = insL lt x B ++ C
  | [], [], _ => rfl
  | [], c :: C, h => by
    have := h c List.mem_cons_self
    simp [insL, this, s.asymm _ _ this]
  | b :: B, C, h => by
    rw [List.cons_append, insL, insL]
    split
    · rw [insL_post s h]; rfl
    · split <;> rfl

theorem fndL_post {lt : α → α → Bool} (s : Swo lt) {x : α} : ∀ {B C : List α}, (∀ c ∈ C, lt x c = true) → fndL lt x (B ++ C) = fndL lt x B
  | [], [], _ => rfl
  | [], c :: C, h => by
    have := h c List.mem_cons_self
    simp [fndL, this, s.asymm _ _ this]
  | b :: B, C, h => by
    rw [List.cons_append, fndL, fndL, fndL_post s h]

theorem insL_mid {lt : α → α → Bool} (s : Swo lt) {x : α} {A B C : List α} (hA : ∀ a ∈ A, lt a x = true) (hC : ∀ c ∈ C, lt x c = true) : insL lt x (A ++ B ++ C) = A ++ insL lt x B ++ C := by
  rw [List.append_assoc, insL_pre hA, insL_post s hC, List.append_assoc]

theorem fndL_mid {lt : α → α → Bool} (s : Swo lt) {x : α} {A B C : List α} (hA : ∀ a ∈ A, lt a x = true) (hC : ∀ c ∈ C, lt x c = true) : fndL lt x (A ++ B ++ C) = fndL lt x B := by
  rw [List.append_assoc, fndL_pre hA, fndL_post s hC]

theorem insL_hit {lt : α → α → Bool} {x y : α} {P S : List α} (hP : ∀ a ∈ P, lt a x = true) (h1 : lt y x = false) (h2 : lt x y = false) : insL lt x (P ++ y :: S) = P ++ x :: S := by
  rw [insL_pre hP]; simp [insL, h1, h2]

theorem fndL_hit {lt : α → α → Bool} {x y : α} {P S : List α} (hP : ∀ a ∈ P, lt a x = true) (h1 : lt y x = false) (h2 : lt x y = false) : fndL lt x (P ++ y :: S) = some y := by
  rw [fndL_pre hP]; simp [fndL, h1, h2]

theorem insL_gap {lt : α → α → Bool} (s : Swo lt) {x : α} {A C : List α} (hA : ∀ a ∈ A, lt a x = true) (hC : ∀ c ∈ C, lt x c = true) : insL lt x (A ++ C) = A ++ x :: C := by
  have := insL_mid s (B := []) hA hC
  simpa [insL] using this

theorem fndL_gap {lt : α → α → Bool} (s : Swo lt) {x : α} {A C : List α} (hA : ∀ a ∈ A, lt a x = true) (hC : ∀ c ∈ C, lt x c = true) : fndL lt x (A ++ C) = none := by
  have := fndL_mid s (B := []) hA hC
  simpa [fndL] using this

theorem fndL_some {lt : α → α → Bool} {x y : α} : ∀ {l : List α}, fndL lt x l = some y → y ∈ l ∧ lt y x = false ∧ lt x y = false
  | [], h => by simp [fndL] at h
  | z :: l, h => by
    rw [fndL] at h
    split at h
    · obtain ⟨h1, h2⟩ := fndL_some h; exact ⟨List.mem_cons_of_mem _ h1, h2⟩
    · split at h
      · cases h
      · rename_i a b
        obtain rfl := Option.some.inj h
        exact ⟨List.mem_cons_self, by simpa using a, by simpa using b⟩

theorem insL_mem {lt : α → α → Bool} {x y : α} : ∀ {l : List α}, y ∈ insL lt x l → y = x ∨ y ∈ l
  | [], h => by simp [insL] at h; exact .inl h
  | z :: l, h => by
    rw [insL] at h
    split at h
    · rcases List.mem_cons.1 h with h | h
      · exact .inr (h ▸ List.mem_cons_self)
      · rcases insL_mem h with h | h
        · exact .inl h
        · exact .inr (List.mem_cons_of_mem _ h)
    · split at h
      · rcases List.mem_cons.1 h with h | h
        · exact .inl h
        · exact .inr h
      · rcases List.mem_cons.1 h with h | h
        · exact .inl h
        · exact .inr (List.mem_cons_of_mem _ h)

theorem insL_srt {lt : α → α → Bool} (s : Swo lt) (x : α) : ∀ {l : List α}, Srt lt l → Srt lt (insL lt x l)
  | [], _ => by simp [insL, Srt]
  | z :: l, h => by
    obtain ⟨h1, h2⟩ := List.pairwise_cons.1 h
    rw [insL]
    split
    · rename_i a
      refine List.pairwise_cons.2 ⟨fun y hy => ?_, insL_srt s x h2⟩
      rcases insL_mem hy with rfl | hy
      · exact a
      · exact h1 y hy
    · rename_i a
      split
      · rename_i b
        refine List.pairwise_cons.2 ⟨fun y hy => ?_, h⟩
        rcases List.mem_cons.1 hy with rfl | hy
        · exact b
        · exact s.trans b (h1 y hy)
      · refine List.pairwise_cons.2 ⟨fun y hy => ?_, h2⟩
        rename_i b
        exact s.lt_of_nlt_of_lt (b := z) (by simpa using a) (h1 y hy)

theorem insL_len {lt : α → α → Bool} {x : α} : ∀ {l : List α}, (insL lt x l).length = l.length + (if (fndL lt x l).isSome then 0 else 1)
  | [] => by simp [insL, fndL]
  | z :: l => by
    rw [insL, fndL]
    split
    · simp only [List.length_cons, insL_len (l := l)]; omega
    · split <;> simp

/-! ### Trees of one height -/
def BT (α : Type) : Nat → Type
  | 0 => Nat × List α
  | h + 1 => Nat × List α × List (BT α h)

def rid : {h : Nat} → BT α h → Nat
  | 0, t => t.1
  | _ + 1, t => t.1
def its : {h : Nat} → BT α h → List α
  | 0, t => t.2
  | _ + 1, t => t.2.1
def kds {h : Nat} (t : BT α (h + 1)) : List (BT α h) := t.2.2

/-- Items between lists. -/
def inter : List α → List (List α) → List α
  | _, [] => []
  | [], t :: ts => t ++ inter [] ts
  | x :: xs, t :: ts => t ++ x :: inter xs ts

/-- The lists, each with its item behind it; the items, each with its list behind it. -/
def pre : List α → List (List α) → List α
  | x :: xs, t :: ts => t ++ x :: pre xs ts
  | _, _ => []
def post : List α → List (List α) → List α
  | x :: xs, t :: ts => x :: t ++ post xs ts
  | _, _ => []

theorem inter_last (t : List α) : inter [] [t] = t := by simp [inter]

theorem inter_eq : ∀ (xs : List α) (t : List α) (ts : List (List α)), ts.length = xs.length → inter xs (t :: ts) = t ++ post xs ts
  | [], t, [], _ => by simp [inter, post]
  | x :: xs, t, u :: ts, h => by
    rw [inter, inter_eq xs u ts (by simpa using h)]; simp [post]

theorem inter_split : ∀ (i : Nat) (xs : List α) (ts : List (List α)) (t : List α), ts.length = xs.length + 1 → ts[i]? = some t →
    inter xs ts = pre (xs.take i) (ts.take i) ++ t ++ post (xs.drop i) (ts.drop (i + 1))
  | 0, xs, u :: ts, t, h, hi => by
    obtain rfl : u = t := by simpa using hi
    simp [pre, inter_eq xs u ts (by simpa using h)]
  | i + 1, x :: xs, u :: ts, t, h, hi => by
    rw [inter, inter_split i xs ts t (by simpa using h) (by simpa using hi)]
    simp [pre]
  | i + 1, [], u :: ts, t, h, hi => by
    obtain rfl : ts = [] := by simpa using h
    simp at hi
  | i, xs, [], t, h, hi => by simp at hi

theorem pre_last : ∀ (i : Nat) (xs : List α) (ts : List (List α)) (x : α), xs[i]? = some x → i < ts.length → ∃ P, pre (xs.take (i + 1)) (ts.take (i + 1)) = P ++ [x]
  | 0, x :: xs, t :: ts, y, h, _ => by
    obtain rfl : x = y := by simpa using h
    exact ⟨t, by simp [pre]⟩
  | i + 1, x :: xs, t :: ts, y, h, h2 => by
    obtain ⟨P, hP⟩ := pre_last i xs ts y (by simpa using h) (by simpa using h2)
    exact ⟨t ++ x :: P, by simp [pre, hP]⟩
  | _, [], _, _, h, _ => by simp at h
  | _, _ :: _, [], _, _, h => by simp at h

theorem pre_app : ∀ (xs ys : List α) (ts us : List (List α)), xs.length = ts.length → pre (xs ++ ys) (ts ++ us) = pre xs ts ++ pre ys us
  | [], ys, [], us, _ => rfl
  | x :: xs, ys, t :: ts, us, h => by simp [pre, pre_app xs ys ts us (by simpa using h)]

theorem post_app : ∀ (xs ys : List α) (ts us : List (List α)), xs.length = ts.length → post (xs ++ ys) (ts ++ us) = post xs ts ++ post ys us
  | [], ys, [], us, _ => rfl
  | x :: xs, ys, t :: ts, us, h => by simp [post, post_app xs ys ts us (by simpa using h)]

theorem inter_app (xs ys : List α) (x : α) (ts us : List (List α)) (h : ts.length = xs.length + 1) : inter (xs ++ x :: ys) (ts ++ us) = inter xs ts ++ x :: inter ys us := by
  induction xs generalizing ts with
  | nil =>
    match ts, h with
    | [t], _ => simp [inter]
  | cons y xs ih =>
    match ts, h with
    | t :: ts, h => simp [inter, ih ts (by simpa using h)]

def toL : (h : Nat) → BT α h → List α
  | 0, t => t.2
  | h + 1, t => inter t.2.1 (t.2.2.map (toL h))

def ids : (h : Nat) → BT α h → List Nat
  | 0, t => [t.1]
  | h + 1, t => t.1 :: t.2.2.flatMap (ids h)

/-- The shape: no node has more than mx items, a branch has one child more than items, no child has fewer than mn items. -/
def Sh (mn mx : Nat) : (h : Nat) → BT α h → Prop
  | 0, t => t.2.length ≤ mx
  | h + 1, t => t.2.1.length ≤ mx ∧ t.2.2.length = t.2.1.length + 1 ∧ ∀ c ∈ t.2.2, mn ≤ (its c).length ∧ Sh mn mx h c

theorem Sh.len {mn mx : Nat} : {h : Nat} → {t : BT α h} → Sh mn mx h t → (its t).length ≤ mx
  | 0, _, h => h
  | _ + 1, _, h => h.1

theorem rid_mem : {h : Nat} → (t : BT α h) → rid t ∈ ids h t
  | 0, _ => List.mem_singleton.2 rfl
  | _ + 1, _ => List.mem_cons_self

theorem its_sub : {h : Nat} → {t : BT α h} → {mn mx : Nat} → Sh mn mx h t → (its t).Sublist (toL h t)
  | 0, t, _, _, _ => List.Sublist.refl _
  | h + 1, t, _, _, hs => by
    obtain ⟨_, h2, _⟩ := hs
    show t.2.1.Sublist (inter t.2.1 (t.2.2.map (toL h)))
    have : ∀ (xs : List α) (ts : List (List α)), ts.length = xs.length + 1 → xs.Sublist (inter xs ts) := by
      intro xs
      induction xs with
      | nil => intro ts _; exact List.nil_sublist _
      | cons x xs ih =>
        intro ts hts
        match ts, hts with
        | u :: ts, hts => exact (((ih ts (by simpa using hts)).cons_cons x).trans (List.sublist_append_right u _))
    exact this _ _ (by simpa using h2)

/-- A branch, seen from its i-th child. -/
theorem toL_at {h : Nat} {t : BT α (h + 1)} {mn mx i : Nat} {c : BT α h} (hs : Sh mn mx (h + 1) t) (hc : t.2.2[i]? = some c) :
    toL (h + 1) t = pre (t.2.1.take i) ((t.2.2.map (toL h)).take i) ++ toL h c ++ post (t.2.1.drop i) ((t.2.2.map (toL h)).drop (i + 1)) :=
  inter_split i _ _ _ (by simpa using hs.2.1) (by simp [hc])

/-- Position among sorted items. -/
structure PosAt (lt : α → α → Bool) (xs : List α) (x : α) (i : Nat) : Prop where
  le : i ≤ xs.length
  left : ∀ j y, j < i → xs[j]? = some y → lt y x = true
  right : ∀ j y, i ≤ j → xs[j]? = some y → lt x y = true

structure HitAt (lt : α → α → Bool) (xs : List α) (x : α) (i : Nat) (y : α) : Prop where
  at_ : xs[i]? = some y
  left : ∀ j z, j < i → xs[j]? = some z → lt z x = true
  n1 : lt y x = false
  n2 : lt x y = false

theorem mem_take_get {l : List α} {i : Nat} {a : α} (h : a ∈ l.take i) : ∃ j, j < i ∧ l[j]? = some a := by
  obtain ⟨j, hj, e⟩ := List.mem_iff_getElem.1 h
  have hj' : j < i ∧ j < l.length := by rw [List.length_take] at hj; omega
  exact ⟨j, hj'.1, by rw [List.getElem?_eq_getElem hj'.2]; rw [List.getElem_take] at e; rw [e]⟩
theorem mem_drop_get {l : List α} {i : Nat} {a : α} (h : a ∈ l.drop i) : ∃ j, i ≤ j ∧ l[j]? = some a := by
  obtain ⟨j, hj, e⟩ := List.mem_iff_getElem.1 h
  have hj' : j < l.length - i := by simpa using hj
  exact ⟨i + j, by omega, by rw [List.getElem?_eq_getElem (by omega)]; rw [List.getElem_drop] at e; rw [e]⟩

/-- All ahead of the child at the place are before x, all behind it are behind x. -/
theorem around {lt : α → α → Bool} (s : Swo lt) {h : Nat} {t : BT α (h + 1)} {mn mx i : Nat} {c : BT α h} {x : α} (hs : Sh mn mx (h + 1) t) (hc : t.2.2[i]? = some c) (hsrt : Srt lt (toL (h + 1) t)) (hp : PosAt lt t.2.1 x i) :
    (∀ a ∈ pre (t.2.1.take i) ((t.2.2.map (toL h)).take i), lt a x = true) ∧ (∀ a ∈ post (t.2.1.drop i) ((t.2.2.map (toL h)).drop (i + 1)), lt x a = true) := by
  rw [toL_at hs hc] at hsrt
  obtain ⟨h12, h3, _⟩ := List.pairwise_append.1 hsrt
  obtain ⟨h1, _, _⟩ := List.pairwise_append.1 h12
  constructor
  · intro a ha
    cases i with
    | zero => simp [pre] at ha
    | succ i =>
      have hlen : i < t.2.1.length := hp.le
      obtain ⟨P, hP⟩ := pre_last i t.2.1 (t.2.2.map (toL h)) _ (List.getElem?_eq_getElem hlen) (by have := hs.2.1; simp; omega)
      rw [hP] at ha h1
      have hl := hp.left i _ (by omega) (List.getElem?_eq_getElem hlen)
      rcases List.mem_append.1 ha with ha | ha
      · exact s.trans ((List.pairwise_append.1 h1).2.2 a ha _ (List.mem_singleton.2 rfl)) hl
      · rw [List.mem_singleton.1 ha]; exact hl
  · intro a ha
    cases hd : t.2.1.drop i with
    | nil => rw [hd] at ha; simp [post] at ha
    | cons y ys =>
      have hy : t.2.1[i]? = some y := by
        have := List.getElem?_drop (xs := t.2.1) (i := i) (j := 0)
        rw [hd] at this; simpa using this.symm
      have hl := hp.right i y (Nat.le_refl _) hy
      cases hd2 : (t.2.2.map (toL h)).drop (i + 1) with
      | nil => rw [hd, hd2] at ha; simp [post] at ha
      | cons u us =>
        rw [hd, hd2] at ha h3
        simp only [post, List.cons_append] at ha h3
        rcases List.mem_cons.1 ha with rfl | ha
        · exact hl
        · exact s.trans hl ((List.pairwise_cons.1 h3).1 a ha)

theorem sub_srt {lt : α → α → Bool} {h : Nat} {t : BT α (h + 1)} {mn mx i : Nat} {c : BT α h} (hs : Sh mn mx (h + 1) t) (hc : t.2.2[i]? = some c) (hsrt : Srt lt (toL (h + 1) t)) : Srt lt (toL h c) := by
  rw [toL_at hs hc] at hsrt
  exact (List.pairwise_append.1 (List.pairwise_append.1 hsrt).1).2.1

theorem its_srt {lt : α → α → Bool} {h : Nat} {t : BT α h} {mn mx : Nat} (hs : Sh mn mx h t) (hsrt : Srt lt (toL h t)) : Srt lt (its t) := hsrt.sublist (its_sub hs)

/-- A child replaced. -/
def setKid {h : Nat} (t : BT α (h + 1)) (i : Nat) (c : BT α h) : BT α (h + 1) := (t.1, t.2.1, t.2.2.set i c)

theorem toL_setKid {h : Nat} {t : BT α (h + 1)} {mn mx i : Nat} {c c' : BT α h} (hs : Sh mn mx (h + 1) t) (hc : t.2.2[i]? = some c) :
    toL (h + 1) (setKid t i c') = pre (t.2.1.take i) ((t.2.2.map (toL h)).take i) ++ toL h c' ++ post (t.2.1.drop i) ((t.2.2.map (toL h)).drop (i + 1)) := by
  have hi : i < t.2.2.length := (List.getElem?_eq_some_iff.1 hc).1
  show inter t.2.1 ((t.2.2.set i c').map (toL h)) = _
  rw [inter_split i _ _ (toL h c') (by simpa using hs.2.1) (by simp [hi])]
  congr 2
  · rw [List.map_set, List.take_set_of_le (Nat.le_refl _)]
  · rw [List.map_set, List.drop_set_of_lt (by omega)]

/-- An item replaced. -/
def setIt : {h : Nat} → BT α h → Nat → α → BT α h
  | 0, t, i, x => (t.1, t.2.set i x)
  | _ + 1, t, i, x => (t.1, t.2.1.set i x, t.2.2)

theorem toL_around {h : Nat} {t : BT α h} {mn mx i : Nat} {y : α} (hs : Sh mn mx h t) (hy : (its t)[i]? = some y) : ∃ P S, toL h t = P ++ y :: S ∧ ∀ x, toL h (setIt t i x) = P ++ x :: S := by
  match h, t with
  | 0, t =>
    have hi : i < t.2.length := (List.getElem?_eq_some_iff.1 hy).1
    have hg : t.2[i] = y := (List.getElem?_eq_some_iff.1 hy).2
    refine ⟨t.2.take i, t.2.drop (i + 1), ?_, fun x => ?_⟩
    · show t.2 = _
      rw [← hg, ← List.drop_eq_getElem_cons hi, List.take_append_drop]
    · show t.2.set i x = _
      rw [List.set_eq_take_append_cons_drop, if_pos hi]
  | h + 1, t =>
    have hi : i < t.2.1.length := (List.getElem?_eq_some_iff.1 hy).1
    have hg : t.2.1[i] = y := (List.getElem?_eq_some_iff.1 hy).2
    have hl : t.2.2.length = t.2.1.length + 1 := hs.2.1
    refine ⟨inter (t.2.1.take i) ((t.2.2.map (toL h)).take (i + 1)), inter (t.2.1.drop (i + 1)) ((t.2.2.map (toL h)).drop (i + 1)), ?_, fun x => ?_⟩
    · show inter t.2.1 (t.2.2.map (toL h)) = _
      rw [← inter_app _ _ _ _ _ (by simp; omega), List.take_append_drop, ← hg, ← List.drop_eq_getElem_cons hi, List.take_append_drop]
    · show inter (t.2.1.set i x) (t.2.2.map (toL h)) = _
      rw [← inter_app _ _ _ _ _ (by simp; omega), List.take_append_drop, List.set_eq_take_append_cons_drop, if_pos hi]

end Go.Proofs.Ytojplcbkiogcpaa
