/- One node in work: what a statement on its fields does to its record. No program in sight. -/
import Derived.Test.YtojplcbkiogcpaaFam
namespace Go.Proofs.Ytojplcbkiogcpaa
set_option linter.unusedSimpArgs false
set_option linter.unusedVariables false
open Go.RowKit
variable {α : Type}

/-- The node n, of the record r0 in w0, has the record r in w; else nothing that was there has changed. -/
structure Run (p : Par α) (w0 : World) (n : Nat) (r0 : NodeR α) (l0 : Lay) (w : World) (r : NodeR α) (l : Lay) : Prop where
  at_ : NodeAt p w n r l
  chg : Chg (Ext p n r0 l0) w0 w
  ext : ∀ b o, Ext p n r l b o → Ext p n r0 l0 b o ∨ w0.heap.size ≤ b
  blk : ∀ b, Blk n r l b → Blk n r0 l0 b ∨ w0.heap.size ≤ b

section
variable {p : Par α} {w0 w w' : World} {n : Nat} {r0 r : NodeR α} {l0 l : Lay}

theorem Run.start (h : NodeAt p w0 n r0 l0) : Run p w0 n r0 l0 w0 r0 l0 := ⟨h, Chg.refl _ _, fun _ _ h => .inl h, fun _ h => .inl h⟩

/-- Changes elsewhere, in new blocks alone. -/
theorem Run.aside {A : Nat → Nat → Prop} (h : Run p w0 n r0 l0 w r l) (c : Chg A w w') (hA : ∀ b o, A b o → w0.heap.size ≤ b ∧ ¬ Ext p n r l b o) : Run p w0 n r0 l0 w' r l :=
  ⟨h.at_.chg c fun b o hx hy => (hA b o hy).2 hx, h.chg.trans' c (fun _ _ _ x => x) (fun b o hb x => by have := (hA b o x).1; omega), h.ext, h.blk⟩

theorem Run.still (h : Run p w0 n r0 l0 w r l) (c : Chg (fun _ _ => False) w w') : Run p w0 n r0 l0 w' r l := h.aside c fun _ _ x => x.elim

theorem NodeAt.setCnt (h : NodeAt p w n r l) (c : Int) : NodeAt p (w.setCell ⟨n, 1, none⟩ (.int .i64 c)) n { r with cnt := c } l := by
  have hc : Chg (fun b _ => b = n) w (w.setCell ⟨n, 1, none⟩ (.int .i64 c)) := (Chg.refl _ _).setCell (.inl rfl) _
  refine ⟨by rw [hs_same h.hd]; rfl, h.row.chg hc fun _ _ => h.d1, fun ks hk => ?_, h.d1, h.d2⟩
  have hne : r.kids ≠ none := by rw [show r.kids = some ks from hk]; simp
  obtain ⟨k1, k2⟩ := h.kid ks hk
  obtain ⟨e1, e2, _⟩ := h.d2 hne
  exact ⟨by rw [hs_ne _ e1]; exact k1, k2.chg hc fun _ _ => e2⟩

theorem Run.setCnt (h : Run p w0 n r0 l0 w r l) (c : Int) : Run p w0 n r0 l0 (w.setCell ⟨n, 1, none⟩ (.int .i64 c)) { r with cnt := c } l :=
  ⟨h.at_.setCnt c, h.chg.setCell (.inl (.inl rfl)) _, h.ext, h.blk⟩

/-- The items' cells overwritten within the row. -/
theorem Run.putItems (h : Run p w0 n r0 l0 w r l) (i : Nat) (ys : List α) (hi : i + ys.length ≤ r.items.length) :
    Run p w0 n r0 l0 (putCells w l.ib (l.io + i * p.es) (flat p ys)) { r with items := r.items.take i ++ ys ++ r.items.drop (i + ys.length) } l := by
  have hlen := h.at_.len
  have m1 : (i + ys.length) * p.es ≤ r.items.length * p.es := Nat.mul_le_mul_right _ hi
  have m2 : r.items.length * p.es ≤ l.ic * p.es := Nat.mul_le_mul_right _ hlen
  have m3 : (i + ys.length) * p.es = i * p.es + ys.length * p.es := Nat.add_mul _ _ _
  obtain ⟨q0, c, q1, q2, q3⟩ := h.at_.row
  have hfl := flat_len p ys
  have hin : ∀ o, l.io + i * p.es ≤ o → o < l.io + i * p.es + (flat p ys).length → Ext p n r l l.ib o := fun o h1 h2 => .inr (.inl ⟨rfl, by omega, by omega⟩)
  have hc : Chg (fun b o => b = l.ib ∧ l.io + i * p.es ≤ o ∧ o < l.io + i * p.es + (flat p ys).length) w (putCells w l.ib (l.io + i * p.es) (flat p ys)) :=
    putCells_chg (Chg.refl _ _) q1 (by omega) (.inl fun o h1 h2 => ⟨rfl, h1, h2⟩)
  have hl' : (r.items.take i ++ ys ++ r.items.drop (i + ys.length)).length = r.items.length := by simp; omega
  refine ⟨⟨?_, ?_, ?_, h.at_.d1, h.at_.d2⟩, ?_, h.ext, h.blk⟩
  · rw [hc.block (heap_lt h.at_.hd) (fun o hx => h.at_.d1 hx.1.symm), h.at_.hd]
    simp only [hdCells, hl']
  · have := h.at_.row.putCells (i * p.es) (flat p ys) (by rw [flat_len]; omega) (by omega)
    rw [hfl, ← m3, flat_take, flat_drop, ← flat_append, ← flat_append] at this
    exact this
  · intro ks hk
    have hne : r.kids ≠ none := by rw [show r.kids = some ks from hk]; simp
    obtain ⟨k1, k2⟩ := h.at_.kid ks hk
    obtain ⟨_, _, e3, e4, _⟩ := h.at_.d2 hne
    exact ⟨by rw [hc.block (heap_lt k1) (fun o hx => e3 hx.1)]; exact k1, k2.chg hc fun _ _ hx => e4 hx.1⟩
  · refine putCells_chg h.chg q1 (by omega) ?_
    by_cases hb : w0.heap.size ≤ l.ib
    · exact .inr hb
    · refine .inl fun o h1 h2 => ?_
      rcases h.ext _ _ (hin o h1 h2) with hx | hx
      · exact hx
      · exact absurd hx hb

/-- append to the items, and the store of the slice. -/
theorem Run.append (h : Run p w0 n r0 l0 w r l) (ys : List α) {b' o' cap' : Nat} {w1 : World} (ha : Appd p.TI p.es w l.ib l.io r.items.length l.ic (flat p r.items) (flat p ys) ys.length b' o' cap' w1)
    {w2 : World} (hc2 : Chg (fun _ _ => False) w1 w2) :
    Run p w0 n r0 l0 (w2.setCell ⟨n, 2, none⟩ (.slice (some ⟨b', o', none⟩) ((r.items.length + ys.length : Nat)) cap')) { r with items := r.items ++ ys } { l with ib := b', io := o', ic := cap' } := by
  obtain ⟨a1, a2, a3, a4⟩ := ha
  have hs0 := h.chg.size
  have hext : ∀ b o, b = l.ib ∧ l.io + r.items.length * p.es ≤ o ∧ o < l.io + l.ic * p.es → Ext p n r l b o := fun b o hx => .inr (.inl ⟨hx.1, by omega, hx.2.2⟩)
  have hA : Chg (fun b o => (b = l.ib ∧ l.io + r.items.length * p.es ≤ o ∧ o < l.io + l.ic * p.es) ∨ b = n) w (w2.setCell ⟨n, 2, none⟩ (.slice (some ⟨b', o', none⟩) ((r.items.length + ys.length : Nat)) cap')) :=
    ((a2.mono fun _ _ _ x => .inl x).trans' hc2 (fun _ _ _ x => x) (fun _ _ _ x => x.elim)).setCell (.inl (.inr rfl)) _
  have hbn : b' ≠ n := by
    have := heap_lt h.at_.hd
    rcases a4 with ⟨e, _⟩ | ⟨e, _⟩
    · rw [e]; exact h.at_.d1
    · omega
  have hhd : w2.heap[n]? = some (.cells (hdCells p r l) p.TN (0, 0)) := by
    rw [hc2.block (Nat.lt_of_lt_of_le (heap_lt h.at_.hd) a2.size) (fun _ x => x), a2.block (heap_lt h.at_.hd) (fun o hx => h.at_.d1 hx.1.symm)]; exact h.at_.hd
  have hc2' : Chg (fun b _ => b = n) w2 (w2.setCell ⟨n, 2, none⟩ (.slice (some ⟨b', o', none⟩) ((r.items.length + ys.length : Nat)) cap')) := (Chg.refl _ _).setCell (.inl rfl) _
  have hdk : r.kids ≠ Option.none → b' ≠ l.cc ∧ b' ≠ l.cb := by
    intro hne
    obtain ⟨e1, e2, e3, e4, e5⟩ := h.at_.d2 hne
    have := h.at_.lt (b := l.cc) (.inr (.inr ⟨hne, .inl rfl⟩))
    have := h.at_.lt (b := l.cb) (.inr (.inr ⟨hne, .inr rfl⟩))
    rcases a4 with ⟨e, _⟩ | ⟨e, _⟩
    · rw [e]; exact ⟨Ne.symm e3, Ne.symm e4⟩
    · omega
  refine ⟨⟨?_, ?_, ?_, hbn, ?_⟩, ?_, ?_, ?_⟩
  · rw [hs_same hhd]; simp [hdCells]
  · show RowAt _ _ b' o' (cap' * p.es) (flat p (r.items ++ ys))
    rw [flat_append]
    exact (a1.chg hc2 fun _ _ x => x).chg hc2' fun _ _ => hbn
  · intro ks hk
    have hne : r.kids ≠ Option.none := by rw [show r.kids = some ks from hk]; simp
    obtain ⟨k1, k2⟩ := h.at_.kid ks hk
    obtain ⟨e1, e2, e3, e4, e5⟩ := h.at_.d2 hne
    exact ⟨by rw [hA.block (heap_lt k1) (fun o hx => by rcases hx with hx | hx; exact e3 hx.1; exact e1 hx)]; exact k1, k2.chg hA fun _ _ hx => by rcases hx with hx | hx; exact e4 hx.1; exact e2 hx⟩
  · intro hne
    obtain ⟨e1, e2, e3, e4, e5⟩ := h.at_.d2 hne
    obtain ⟨f1, f2⟩ := hdk hne
    exact ⟨e1, e2, Ne.symm f1, Ne.symm f2, e5⟩
  · refine h.chg.trans' hA (fun _ _ _ x => x) ?_
    rintro b o hb (hx | rfl)
    · rcases h.ext b o (hext b o hx) with hy | hy
      · exact hy
      · omega
    · exact .inl rfl
  · rintro b o (hx | ⟨e1, e2, e3⟩ | hx)
    · exact .inl (.inl hx)
    · have e1' : b = b' := e1
      have e2' : o' ≤ o := e2
      have e3' : o < o' + cap' * p.es := e3
      rcases a4 with ⟨g1, g2, g3⟩ | ⟨g1, _⟩
      · refine h.ext b o (.inr (.inl ⟨e1'.trans g1, by omega, ?_⟩))
        rw [g2, g3] at e3'; exact e3'
      · exact .inr (by omega)
    · exact h.ext b o (.inr (.inr hx))
  · rintro b (hx | hx | hx)
    · exact .inl (.inl hx)
    · have hx' : b = b' := hx
      rcases a4 with ⟨g1, _⟩ | ⟨g1, _⟩
      · exact h.blk b (.inr (.inl (hx'.trans g1)))
      · exact .inr (by omega)
    · exact h.blk b (.inr (.inr hx))

/-- The items cut: 'n.items = n.items[i:j]' of whatever capacity within. -/
theorem Run.cut (h : Run p w0 n r0 l0 w r l) (i j c : Nat) (hij : i + j ≤ r.items.length) (hjc : j ≤ c) (hic : i + c ≤ l.ic) :
    Run p w0 n r0 l0 (w.setCell ⟨n, 2, none⟩ (.slice (some ⟨l.ib, l.io + i * p.es, none⟩) j c)) { r with items := (r.items.drop i).take j } { l with io := l.io + i * p.es, ic := c } := by
  have hc : Chg (fun b _ => b = n) w (w.setCell ⟨n, 2, none⟩ (.slice (some ⟨l.ib, l.io + i * p.es, none⟩) j c)) := (Chg.refl _ _).setCell (.inl rfl) _
  have hm : (i + c) * p.es ≤ l.ic * p.es := Nat.mul_le_mul_right _ hic
  rw [Nat.add_mul] at hm
  refine ⟨⟨?_, ?_, ?_, h.at_.d1, h.at_.d2⟩, h.chg.setCell (.inl (.inl rfl)) _, ?_, fun b hb => h.blk b hb⟩
  · rw [hs_same h.at_.hd]
    have : min j (r.items.length - i) = j := by omega
    simp [hdCells, this]
  · exact h.at_.rowPart hc i j c hij hjc hic fun o _ _ e => h.at_.d1 e
  · intro ks hk
    have hne : r.kids ≠ Option.none := by rw [show r.kids = some ks from hk]; simp
    obtain ⟨k1, k2⟩ := h.at_.kid ks hk
    obtain ⟨e1, e2, _⟩ := h.at_.d2 hne
    exact ⟨by rw [hs_ne _ e1]; exact k1, k2.chg hc fun _ _ => e2⟩
  · rintro b o (hx | ⟨e1, e2, e3⟩ | hx)
    · exact .inl (.inl hx)
    · have e2' : l.io + i * p.es ≤ o := e2
      have e3' : o < l.io + i * p.es + c * p.es := e3
      exact h.ext b o (.inr (.inl ⟨e1, by omega, by omega⟩))
    · exact h.ext b o (.inr (.inr hx))

/-- The children's cells overwritten within the row. -/
theorem Run.putKids (h : Run p w0 n r0 l0 w r l) {ks : List (Option Nat)} (hk : r.kids = some ks) (i : Nat) (ys : List (Option Nat)) (hi : i + ys.length ≤ ks.length) :
    Run p w0 n r0 l0 (putCells w l.cb (l.co + i) (ys.map kidV)) { r with kids := some (ks.take i ++ ys ++ ks.drop (i + ys.length)) } l := by
  have hne : r.kids ≠ Option.none := by rw [hk]; simp
  have hklen := h.at_.klen hk
  obtain ⟨k1, k2⟩ := h.at_.kid ks hk
  obtain ⟨e1, e2, e3, e4, e5⟩ := h.at_.d2 hne
  obtain ⟨q0, c, q1, q2, q3⟩ := k2
  have hin : ∀ o, l.co + i ≤ o → o < l.co + i + (ys.map kidV).length → Ext p n r l l.cb o := fun o h1 h2 => .inr (.inr ⟨hne, .inr ⟨rfl, by omega, by simp at h2; omega⟩⟩)
  have hc : Chg (fun b o => b = l.cb ∧ l.co + i ≤ o ∧ o < l.co + i + (ys.map kidV).length) w (putCells w l.cb (l.co + i) (ys.map kidV)) :=
    putCells_chg (Chg.refl _ _) q1 (by simp; omega) (.inl fun o h1 h2 => ⟨rfl, h1, h2⟩)
  have hl' : (ks.take i ++ ys ++ ks.drop (i + ys.length)).length = ks.length := by simp; omega
  refine ⟨⟨?_, ?_, ?_, h.at_.d1, fun _ => h.at_.d2 hne⟩, ?_, ?_, ?_⟩
  · rw [hc.block (heap_lt h.at_.hd) (fun o hx => e2 hx.1.symm), h.at_.hd]
    simp [hdCells, hk]
  · exact h.at_.row.chg hc fun _ _ hx => e4 hx.1.symm
  · intro ks' hk'
    obtain rfl := Option.some.inj hk'
    refine ⟨?_, ?_⟩
    · rw [hc.block (heap_lt k1) (fun o hx => e5 hx.1.symm), k1, hl']
    · have := (h.at_.kid ks hk).2.putCells i (ys.map kidV) (by simp; omega) (by simp; omega)
      rw [List.length_map, ← List.map_take, ← List.map_drop, ← List.map_append, ← List.map_append] at this
      exact this
  · refine putCells_chg h.chg q1 (by simp; omega) ?_
    by_cases hb : w0.heap.size ≤ l.cb
    · exact .inr hb
    · refine .inl fun o h1 h2 => ?_
      rcases h.ext _ _ (hin o h1 h2) with hx | hx
      · exact hx
      · exact absurd hx hb
  · rintro b o (hx | hx | ⟨_, hx⟩)
    · exact .inl (.inl hx)
    · exact h.ext b o (.inr (.inl hx))
    · exact h.ext b o (.inr (.inr ⟨hne, hx⟩))
  · rintro b (hx | hx | ⟨_, hx⟩)
    · exact .inl (.inl hx)
    · exact h.blk b (.inr (.inl hx))
    · exact h.blk b (.inr (.inr ⟨hne, hx⟩))

/-- append to the children, and the store of the slice. -/
theorem Run.appendKids (h : Run p w0 n r0 l0 w r l) {ks : List (Option Nat)} (hk : r.kids = some ks) (ys : List (Option Nat)) {b' o' cap' : Nat} {w1 : World} (ha : Appd p.TP 1 w l.cb l.co ks.length l.ck (ks.map kidV) (ys.map kidV) ys.length b' o' cap' w1)
    {w2 : World} (hc2 : Chg (fun _ _ => False) w1 w2) :
    Run p w0 n r0 l0 (w2.setCell ⟨l.cc, 0, none⟩ (.slice (some ⟨b', o', none⟩) ((ks.length + ys.length : Nat)) cap')) { r with kids := some (ks ++ ys) } { l with cb := b', co := o', ck := cap' } := by
  obtain ⟨a1, a2, a3, a4⟩ := ha
  have hs0 := h.chg.size
  have hne : r.kids ≠ Option.none := by rw [hk]; simp
  obtain ⟨k1, k2⟩ := h.at_.kid ks hk
  obtain ⟨e1, e2, e3, e4, e5⟩ := h.at_.d2 hne
  have ltn := heap_lt h.at_.hd
  have lti := h.at_.row.lt
  have ltc := heap_lt k1
  have hext : ∀ b o, b = l.cb ∧ l.co + ks.length * 1 ≤ o ∧ o < l.co + l.ck * 1 → Ext p n r l b o := fun b o hx => .inr (.inr ⟨hne, .inr ⟨hx.1, by omega, by omega⟩⟩)
  have hA : Chg (fun b o => (b = l.cb ∧ l.co + ks.length * 1 ≤ o ∧ o < l.co + l.ck * 1) ∨ b = l.cc) w (w2.setCell ⟨l.cc, 0, none⟩ (.slice (some ⟨b', o', none⟩) ((ks.length + ys.length : Nat)) cap')) :=
    ((a2.mono fun _ _ _ x => .inl x).trans' hc2 (fun _ _ _ x => x) (fun _ _ _ x => x.elim)).setCell (.inl (.inr rfl)) _
  have hcc : w2.heap[l.cc]? = some (.cells #[.slice (some ⟨l.cb, l.co, none⟩) ks.length l.ck] p.TS (0, 0)) := by
    rw [hc2.block (Nat.lt_of_lt_of_le ltc a2.size) (fun _ x => x), a2.block ltc (fun o hx => e5 hx.1.symm)]; exact k1
  have hc2' : Chg (fun b _ => b = l.cc) w2 (w2.setCell ⟨l.cc, 0, none⟩ (.slice (some ⟨b', o', none⟩) ((ks.length + ys.length : Nat)) cap')) := (Chg.refl _ _).setCell (.inl rfl) _
  have hd : b' ≠ n ∧ b' ≠ l.ib ∧ b' ≠ l.cc := by
    rcases a4 with ⟨e, _⟩ | ⟨e, _⟩
    · rw [e]; exact ⟨e2, e4, e5⟩
    · omega
  refine ⟨⟨?_, ?_, ?_, h.at_.d1, fun _ => ⟨e1, hd.1, e3, hd.2.1, hd.2.2⟩⟩, ?_, ?_, ?_⟩
  · rw [hA.block ltn (fun o hx => by rcases hx with hx | hx; exact e2 hx.1.symm; exact e1 hx.symm), h.at_.hd]
    simp [hdCells, hk]
  · exact h.at_.row.chg hA fun _ _ hx => by rcases hx with hx | hx; exact e4 hx.1.symm; exact e3 hx.symm
  · intro ks' hk'
    obtain rfl := Option.some.inj hk'
    refine ⟨by rw [hs_same hcc]; simp, ?_⟩
    show RowAt _ _ b' o' cap' ((ks ++ ys).map kidV)
    rw [List.map_append]
    rw [Nat.mul_one] at a1
    exact (a1.chg hc2 fun _ _ x => x).chg hc2' fun _ _ => hd.2.2
  · refine h.chg.trans' hA (fun _ _ _ x => x) ?_
    rintro b o hb (hx | rfl)
    · rcases h.ext b o (hext b o hx) with hy | hy
      · exact hy
      · omega
    · rcases h.ext l.cc o (.inr (.inr ⟨hne, .inl rfl⟩)) with hy | hy
      · exact hy
      · omega
  · rintro b o (hx | hx | ⟨_, hx⟩)
    · exact .inl (.inl hx)
    · exact h.ext b o (.inr (.inl hx))
    · rcases hx with hx | ⟨f1, f2, f3⟩
      · exact h.ext b o (.inr (.inr ⟨hne, .inl hx⟩))
      · have f1' : b = b' := f1
        have f2' : o' ≤ o := f2
        have f3' : o < o' + cap' := f3
        rcases a4 with ⟨g1, g2, g3⟩ | ⟨g1, _⟩
        · exact h.ext b o (.inr (.inr ⟨hne, .inr ⟨f1'.trans g1, by omega, by omega⟩⟩))
        · exact .inr (by omega)
  · rintro b (hx | hx | ⟨_, hx⟩)
    · exact .inl (.inl hx)
    · exact h.blk b (.inr (.inl hx))
    · rcases hx with hx | hx
      · exact h.blk b (.inr (.inr ⟨hne, .inl hx⟩))
      · have hx' : b = b' := hx
        rcases a4 with ⟨g1, _⟩ | ⟨g1, _⟩
        · exact h.blk b (.inr (.inr ⟨hne, .inr (hx'.trans g1)⟩))
        · exact .inr (by omega)

/-- The children cut. -/
theorem Run.cutKids (h : Run p w0 n r0 l0 w r l) {ks : List (Option Nat)} (hk : r.kids = some ks) (i j c : Nat) (hij : i + j ≤ ks.length) (hjc : j ≤ c) (hic : i + c ≤ l.ck) :
    Run p w0 n r0 l0 (w.setCell ⟨l.cc, 0, none⟩ (.slice (some ⟨l.cb, l.co + i, none⟩) j c)) { r with kids := some ((ks.drop i).take j) } { l with co := l.co + i, ck := c } := by
  have hne : r.kids ≠ Option.none := by rw [hk]; simp
  obtain ⟨k1, k2⟩ := h.at_.kid ks hk
  obtain ⟨e1, e2, e3, e4, e5⟩ := h.at_.d2 hne
  have hc : Chg (fun b _ => b = l.cc) w (w.setCell ⟨l.cc, 0, none⟩ (.slice (some ⟨l.cb, l.co + i, none⟩) j c)) := (Chg.refl _ _).setCell (.inl rfl) _
  refine ⟨⟨?_, ?_, ?_, h.at_.d1, fun _ => h.at_.d2 hne⟩, ?_, ?_, ?_⟩
  · rw [hs_ne _ (Ne.symm e1), h.at_.hd]; simp [hdCells, hk]
  · exact h.at_.row.chg hc fun _ _ => Ne.symm e3
  · intro ks' hk'
    obtain rfl := Option.some.inj hk'
    refine ⟨?_, h.at_.kidPart hk hc i j c hij hjc hic fun o _ _ => e5⟩
    rw [hs_same k1]
    have : min j (ks.length - i) = j := by omega
    simp [this]
  · refine h.chg.setCell ?_ _
    rcases h.ext l.cc 0 (.inr (.inr ⟨hne, .inl rfl⟩)) with hy | hy
    · exact .inl hy
    · exact .inr hy
  · rintro b o (hx | hx | ⟨_, hx⟩)
    · exact .inl (.inl hx)
    · exact h.ext b o (.inr (.inl hx))
    · rcases hx with hx | ⟨f1, f2, f3⟩
      · exact h.ext b o (.inr (.inr ⟨hne, .inl hx⟩))
      · have f2' : l.co + i ≤ o := f2
        have f3' : o < l.co + i + c := f3
        exact h.ext b o (.inr (.inr ⟨hne, .inr ⟨f1, by omega, by omega⟩⟩))
  · rintro b (hx | hx | ⟨_, hx⟩)
    · exact .inl (.inl hx)
    · exact h.blk b (.inr (.inl hx))
    · exact h.blk b (.inr (.inr ⟨hne, hx⟩))

end

/-- OPEN A NODE, WORK, SHUT IT. -/
theorem Fam.work {p : Par α} {w : World} {F : Nat → Prop} {H : Nat → Option (NodeR α)} (h : Fam p w F H) {n : Nat} {r : NodeR α} (hn : H n = some r) :
    ∃ l, NodeAt p w n r l ∧ (∀ b, Blk n r l b → F b) ∧ (∀ c s, c ≠ n → H c = some s → (∃ l', NodeAt p w c s l') ∧ ∀ o, ¬ Ext p n r l c o) ∧
      ∀ w' r' l', Run p w n r l w' r' l' → Fam p w' (grow F w w') (upd H n r') ∧ Chg (fun b _ => F b) w w' := by
  obtain ⟨l, h1, h2, h3, h4⟩ := h.open hn
  exact ⟨l, h1, h2, h3, fun w' r' l' hr => ⟨h4 w' r' l' hr.chg hr.at_ hr.ext hr.blk, hr.chg.mono fun b o _ hb => h2 b hb.blk⟩⟩

/-- Two cells set one behind the other. -/
theorem set2 {β : Type} (l : List β) (a : Nat) (u v : β) (h : a + 1 < l.length) : (l.set a u).set (a + 1) v = l.take a ++ [u, v] ++ l.drop (a + 2) := by
  rw [List.set_eq_take_append_cons_drop, if_pos (by simpa using h), List.set_eq_take_append_cons_drop, if_pos (by omega)]
  have h1 : (l.take a).length = a := by simp; omega
  rw [List.take_append, List.drop_append, h1]
  simp [show a + 1 - a = 1 by omega, show a + 1 + 1 - a = 2 by omega, List.take_of_length_le, List.drop_eq_nil_of_le, h1]
  omega

theorem putCells_two {w : World} {b o : Nat} {c : Array Value} {T : TypeId} {fr : Nat × Nat} (h : w.heap[b]? = some (.cells c T fr)) (hlt : o + 1 < c.size) (u v : Value) :
    (w.setCell ⟨b, o, none⟩ u).setCell ⟨b, o + 1, none⟩ v = putCells w b o [u, v] := by
  have e : (c.setIfInBounds o u).setIfInBounds (o + 1) v = (c.toList.take o ++ [u, v] ++ c.toList.drop (o + [u, v].length)).toArray := by
    apply Array.ext'
    have := set2 c.toList o u v (by simpa using hlt)
    simpa using this
  simp only [putCells, h]
  unfold World.setCell World.setRow
  congr 1
  apply Array.ext_getElem?
  intro i
  simp only [Array.getElem?_modify]
  by_cases hi : b = i
  · subst hi
    simp [h]
    simpa using e
  · simp [hi]

theorem putCells_one {w : World} {b o : Nat} {c : Array Value} {T : TypeId} {fr : Nat × Nat} (h : w.heap[b]? = some (.cells c T fr)) (hlt : o < c.size) (u : Value) :
    w.setCell ⟨b, o, none⟩ u = putCells w b o [u] := by
  have e : c.setIfInBounds o u = (c.toList.take o ++ [u] ++ c.toList.drop (o + [u].length)).toArray := by
    apply Array.ext'
    have : c.toList.set o u = c.toList.take o ++ [u] ++ c.toList.drop (o + 1) := by
      rw [List.set_eq_take_append_cons_drop, if_pos (by simpa using hlt)]; simp
    simpa using this
  simp only [putCells, h]
  unfold World.setCell World.setRow
  congr 1
  apply Array.ext_getElem?
  intro i
  simp only [Array.getElem?_modify]
  by_cases hi : b = i
  · subst hi
    simp [h]
    simpa using e
  · simp [hi]

end Go.Proofs.Ytojplcbkiogcpaa
