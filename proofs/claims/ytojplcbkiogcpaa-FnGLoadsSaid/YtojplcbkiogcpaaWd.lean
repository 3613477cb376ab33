/- nodeSplit, said of the family of nodes. -/
import Derived.Test.YtojplcbkiogcpaaWc
namespace Go.Proofs.Ytojplcbkiogcpaa
set_option linter.unusedSimpArgs false
set_option linter.unusedVariables false
open Go.RowKit
variable {ord : List Int} {k : Kc ord}

def SplitFam (k : Kc ord) (w : World) (F : Nat → Prop) (H : Nat → Option (NodeR (It ord))) (n : Nat) (r : NodeR (It ord)) (i : Nat) (cf : Nat → Int) (kl : List Nat) (e : Ending) (w' : World) : Prop :=
  ∃ m x, e = .returned (.tuple #[.pointer (some ⟨m, 0, none⟩), .agg #[.int .i64 x.1, .int .i64 x.2]]) ∧ r.items[i]? = some x ∧ w.heap.size ≤ m ∧ Chg (fun b _ => F b) w w' ∧
    Fam (parM k) w' (grow F w w') (upd (upd H n ⟨i + ksum cf (kl.take (i + 1)), r.items.take i, r.kids.map (·.take (i + 1))⟩) m ⟨((r.items.length - (i + 1) : Nat) : Int) + ksum cf (kl.drop (i + 1)), r.items.drop (i + 1), r.kids.map (·.drop (i + 1))⟩)

theorem split_close {k : Kc ord} {w : World} {F : Nat → Prop} {H : Nat → Option (NodeR (It ord))} {n : Nat} {r : NodeR (It ord)} {i : Nat} {cf : Nat → Int} {kl : List Nat} {l : Lay} (hil : i + 1 ≤ r.items.length)
    (hil2 : ∀ ks, r.kids = some ks → i + 1 ≤ ks.length) (hn : NodeAt (parM k) w n r l) (hF : ∀ b, Blk n r l b → F b)
    (cl : ∀ w' r1 l1 m r2 l2, Chg (Ext (parM k) n r l) w w' → NodeAt (parM k) w' n r1 l1 → NodeAt (parM k) w' m r2 l2 → w.heap.size ≤ m →
      (∀ b o, Ext (parM k) n r1 l1 b o → Ext (parM k) n r l b o ∨ w.heap.size ≤ b) → (∀ b o, Ext (parM k) m r2 l2 b o → Ext (parM k) n r l b o ∨ w.heap.size ≤ b) → (∀ b o, Ext (parM k) n r1 l1 b o → ¬ Ext (parM k) m r2 l2 b o) →
      (∀ b, Blk n r1 l1 b → Blk n r l b ∨ w.heap.size ≤ b) → (∀ b, Blk m r2 l2 b → Blk n r l b ∨ w.heap.size ≤ b) → Fam (parM k) w' (grow F w w') (upd (upd H n r1) m r2))
    {e : Ending} {w' : World} (h : SplitPost k w n r l i cf kl e w') : SplitFam k w F H n r i cf kl e w' := by
  obtain ⟨m, x, l1, l2, he, hx, hm, hc, h1, h2, a1, a2, a3, b1, b2, b3, hk⟩ := h
  have hcap := hn.len
  have hnlt := hn.lt (.inl rfl)
  have hilt : l.ib < w.heap.size := hn.lt (.inr (.inl rfl))
  have kn : ∀ f : List (Option Nat) → List (Option Nat), r.kids.map f ≠ none → r.kids ≠ none := by intro f h e; rw [e] at h; exact h rfl
  have es : (parM k).es = 2 := rfl
  refine ⟨m, x, he, hx, hm, hc.mono fun b o _ hb => hF b hb.blk, ?_⟩
  have q1 : i * 2 ≤ l.ic * 2 := by omega
  refine cl w' _ l1 m _ l2 hc h1 h2 hm ?_ ?_ ?_ ?_ ?_
  · rintro b o (h | ⟨e1, e2, e3⟩ | ⟨e0, e1⟩)
    · exact .inl (.inl h)
    · rw [a2] at e2; rw [a2, a3, es] at e3; rw [a1] at e1
      exact .inl (.inr (.inl ⟨e1, e2, by rw [es]; omega⟩))
    · obtain ⟨c1, c2, c3, c4, c5⟩ := hk (kn _ e0)
      refine .inl (.inr (.inr ⟨kn _ e0, ?_⟩))
      rcases e1 with e1 | ⟨e1, e2, e3⟩
      · exact .inl (e1.trans c1)
      · rw [c3] at e2; rw [c3, c4] at e3
        refine .inr ⟨e1.trans c2, e2, ?_⟩
        cases hks : r.kids with
        | none => exact absurd hks (kn _ e0)
        | some ks => have := hn.klen hks; have := hil2 ks hks; omega
  · rintro b o (h | ⟨e1, e2, e3⟩ | ⟨e0, e1⟩)
    · exact .inr (by omega)
    · rw [b2] at e2; rw [b2, b3, es] at e3; rw [b1] at e1
      exact .inl (.inr (.inl ⟨e1, by omega, by rw [es]; omega⟩))
    · obtain ⟨c1, c2, c3, c4, c5, c6, c7, c8⟩ := hk (kn _ e0)
      rcases e1 with e1 | ⟨e1, e2, e3⟩
      · exact .inr (by omega)
      · rw [c7] at e2; rw [c7, c8] at e3
        refine .inl (.inr (.inr ⟨kn _ e0, .inr ⟨e1.trans c6, by omega, ?_⟩⟩))
        omega
  · have dd := fun h => hn.d2 h
    have d1 := hn.d1
    rintro b o (h | ⟨e1, e2, e3⟩ | ⟨e0, e1⟩) (g | ⟨g1, g2, g3⟩ | ⟨g0, g1⟩)
    · omega
    · rw [b1] at g1; exact d1 (g1.symm.trans h)
    · obtain ⟨c1, c2, c3, c4, c5, c6, c7, c8⟩ := hk (kn _ g0)
      obtain ⟨d2, d3, _⟩ := dd (kn _ g0)
      rcases g1 with g1 | ⟨g1, _, _⟩
      · omega
      · rw [c6] at g1; exact d3 (g1.symm.trans h)
    · rw [a1] at e1; omega
    · rw [a2, a3, es] at e3; rw [b2] at g2; omega
    · obtain ⟨c1, c2, c3, c4, c5, c6, c7, c8⟩ := hk (kn _ g0)
      obtain ⟨d2, d3, d4, d5, d6⟩ := dd (kn _ g0)
      rw [a1] at e1
      rcases g1 with g1 | ⟨g1, _, _⟩
      · omega
      · rw [c6] at g1; exact d5 (g1.symm.trans e1)
    · obtain ⟨c1, c2, c3, c4, c5, c6, c7, c8⟩ := hk (kn _ e0)
      have := hn.lt (b := l.cc) (.inr (.inr ⟨kn _ e0, .inl rfl⟩))
      have := hn.lt (b := l.cb) (.inr (.inr ⟨kn _ e0, .inr rfl⟩))
      rcases e1 with e1 | ⟨e1, _, _⟩
      · rw [c1] at e1; omega
      · rw [c2] at e1; omega
    · obtain ⟨c1, c2, c3, c4, c5, c6, c7, c8⟩ := hk (kn _ e0)
      obtain ⟨d2, d3, d4, d5, d6⟩ := dd (kn _ e0)
      rw [b1] at g1
      rcases e1 with e1 | ⟨e1, _, _⟩
      · rw [c1] at e1; exact d4 (e1.symm.trans g1)
      · rw [c2] at e1; exact d5 (e1.symm.trans g1)
    · obtain ⟨c1, c2, c3, c4, c5, c6, c7, c8⟩ := hk (kn _ e0)
      obtain ⟨d2, d3, d4, d5, d6⟩ := dd (kn _ e0)
      have := hn.lt (b := l.cc) (.inr (.inr ⟨kn _ e0, .inl rfl⟩))
      have := hn.lt (b := l.cb) (.inr (.inr ⟨kn _ e0, .inr rfl⟩))
      rcases e1 with e1 | ⟨e1, e2, e3⟩ <;> rcases g1 with g1 | ⟨g1, g2, g3⟩
      · rw [c1] at e1; omega
      · rw [c1] at e1; rw [c6] at g1; exact d6 (g1.symm.trans e1)
      · rw [c2] at e1; omega
      · rw [c3, c4] at e3; rw [c7] at g2; omega
  · rintro b (h | h | ⟨e0, e1⟩)
    · exact .inl (.inl h)
    · exact .inl (.inr (.inl (h.trans a1)))
    · obtain ⟨c1, c2, c3, c4, c5⟩ := hk (kn _ e0)
      rcases e1 with e1 | e1
      · exact .inl (.inr (.inr ⟨kn _ e0, .inl (e1.trans c1)⟩))
      · exact .inl (.inr (.inr ⟨kn _ e0, .inr (e1.trans c2)⟩))
  · rintro b (h | h | ⟨e0, e1⟩)
    · exact .inr (by omega)
    · exact .inl (.inr (.inl (h.trans b1)))
    · obtain ⟨c1, c2, c3, c4, c5, c6, c7, c8⟩ := hk (kn _ e0)
      rcases e1 with e1 | e1
      · exact .inr (by omega)
      · exact .inl (.inr (.inr ⟨kn _ e0, .inr (e1.trans c6)⟩))

/-- nodeSplit of a full node. kl: its children (none at a leaf); cf: their counts. -/
theorem nodeSplit_any (k : Kc ord) (mn mx t n : Nat) (r : NodeR (It ord)) (w : World) (F : Nat → Prop) (H : Nat → Option (NodeR (It ord))) (hF : Fam (parM k) w F H) (ht : MapAt k mn mx w t) (hn : H n = some r) (kl : List Nat)
    (hk : (r.kids = none ∧ kl = []) ∨ (r.kids = some (kl.map some) ∧ kl.length = mx + 1)) (hlen : r.items.length = mx) (hmx : mx ≤ 1000) (hm3 : 3 ≤ mx) (cf : Nat → Int)
    (hkid : ∀ c ∈ kl, c ≠ n ∧ ∃ s, H c = some s ∧ s.cnt = cf c ∧ 0 ≤ cf c) (hsum : ksum cf kl ≤ 100000000000000) :
    Calls Try.prog 117 #[.pointer (some ⟨t, 0, none⟩), .pointer (some ⟨n, 0, none⟩)] w (SplitFam k w F H n r (mx / 2) cf kl) := by
  obtain ⟨l, hna, hb, ho, cl⟩ := hF.split hn
  rcases hk with ⟨hk, rfl⟩ | ⟨hk, hkl⟩
  · exact (nodeSplit_leaf k mn mx t n r l w ht hna hk hlen hmx hm3 cf).mono fun e w' h => split_close (by omega) (by rw [hk]; simp) hna hb cl h
  · refine (nodeSplit_branch k mn mx t n r l w ht hna kl hk hlen hmx hm3 hkl cf ?_ hsum).mono fun e w' h => split_close (by omega) (by rw [hk]; intro ks h; obtain rfl := Option.some.inj h; simp; omega) hna hb cl h
    intro c hc
    obtain ⟨h1, s, h2, h3, h4⟩ := hkid c hc
    obtain ⟨⟨l', h5⟩, h6⟩ := ho c s h1 h2
    exact ⟨by rw [h5.c1, h3], h4, h6⟩
end Go.Proofs.Ytojplcbkiogcpaa
