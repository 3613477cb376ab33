/- A full root parted under a new root: the tree is of the next height. -/
import Derived.Test.YtojplcbkiogcpaaWn
namespace Go.Proofs.Ytojplcbkiogcpaa
set_option linter.unusedSimpArgs false
set_option linter.unusedVariables false
open Go.RowKit
variable {ord : List Int} {k : Kc ord}

theorem full_tree {k : Kc ord} {mn mx : Nat} {w w3 wa : World} {F F3 : Nat → Prop} {H : Nat → Option (NodeR (It ord))} {t h m nb : Nat} {T : BT (It ord) h} {x x2 : It ord} {l : Lay} (hI : TreeIn k mn mx w F H t h T) (hlenT : (its T).length = mx)
    (hF3 : Fam (parM k) w3 F3 (upd (upd H (rid T) (recOf h (cutL T (mx / 2)))) m (recOf h (cutR T m (mx / 2))))) (hx2 : (its T)[mx / 2]? = some x2) (hm : w.heap.size ≤ m) (hw : w.heap.size ≤ w3.heap.size) (htF3 : ∀ b, MOwn k t b → ¬ F3 b) (tlt : t < w.heap.size)
    (hc : Chg (fun b _ => b = t ∨ w3.heap.size ≤ b) w3 wa) (hB : MapBlk k mn mx wa t (some nb) (toL h T).length) (hnb : w3.heap.size ≤ nb)
    (hn : NodeAt (parM k) wa nb ⟨(toL h T).length, [x2], some [some (rid T), some m]⟩ l) (hl : ∀ b, Blk nb (⟨(toL h T).length, [x2], some [some (rid T), some m]⟩ : NodeR (It ord)) l b → w3.heap.size ≤ b) :
    ∃ H5, ∃ T2 : BT (It ord) (h + 1), TreeIn k mn mx wa (grow F3 w3 wa) H5 t (h + 1) T2 ∧ MapBlk k mn mx wa t (some (rid T2)) (toL (h + 1) T2).length ∧ toL (h + 1) T2 = toL h T ∧ Avail mx (h + 1) T2 x ∧ 1 ≤ (its T2).length := by
  have hm3 := hI.m3
  have hlt : ∀ a ∈ ids h T, a < w.heap.size := fun a ha => hI.isT.lt hI.fam ha
  have hrT := hlt _ (rid_mem T)
  have hml : m < w3.heap.size := hF3.lt (hF3.mem (n := m) (if_pos rfl))
  obtain ⟨g1, g2, g3⟩ := ids_cut (t := T) (m := m) (i := mx / 2) hI.nd hlt hm
  obtain ⟨s1, s2⟩ := sh_cut (i := mx / 2) m hI.sh (by omega)
  have l1 : (its (cutL T (mx / 2))).length = mx / 2 := by rw [its_cutL, List.length_take]; omega
  have l2 : (its (cutR T m (mx / 2))).length = mx - (mx / 2 + 1) := by rw [its_cutR, List.length_drop]; omega
  have htoL : toL (h + 1) ((nb, [x2], [cutL T (mx / 2), cutR T m (mx / 2)]) : BT (It ord) (h + 1)) = toL h T := by
    rw [toL_cut m hI.sh hx2]
    show inter [x2] [toL h (cutL T (mx / 2)), toL h (cutR T m (mx / 2))] = _
    simp [inter]
  have hfam := hF3.add hc (fun b o hb h => by
    rcases h with rfl | h
    · exact htF3 _ MOwn.self hb
    · have := hF3.lt hb; omega) hn hl
  have tout : ∀ b, MOwn k t b → ¬ grow F3 w3 wa b := by
    intro b hm
    rintro (h | h)
    · exact htF3 b hm h
    · have := h.1; have := hI.map.lt hm; omega
  obtain ⟨H5, hH5⟩ : ∃ H5, H5 = upd (upd (upd H (rid T) (recOf h (cutL T (mx / 2)))) m (recOf h (cutR T m (mx / 2)))) nb (⟨(toL h T).length, [x2], some [some (rid T), some m]⟩ : NodeR (It ord)) := ⟨_, rfl⟩
  rw [← hH5] at hfam
  obtain ⟨tc1, tc2⟩ := isT_cut (H5 := H5) (m := m) (i := mx / 2) hI.isT hI.nd
    (by rw [hH5, updNe (by omega), updNe (by omega)]; exact if_pos rfl) (by rw [hH5, updNe (by omega)]; exact if_pos rfl)
    (fun a ha hne => by have := hlt a ha; rw [hH5, updNe (by omega), updNe (by omega), updNe hne])
  refine ⟨H5, (nb, [x2], [cutL T (mx / 2), cutR T m (mx / 2)]), ⟨hfam, hB.at_, tout, ⟨?_, ?_⟩, ?_, ⟨?_, rfl, ?_⟩, by rw [htoL]; exact hI.srt, by rw [htoL]; exact hI.big, hm3, hI.m1000, hI.mh, hI.mh2⟩, by rw [htoL]; exact hB, htoL, .room (by show 1 < mx; omega), Nat.le_refl _⟩
  · show H5 nb = some (⟨((toL (h + 1) ((nb, [x2], [cutL T (mx / 2), cutR T m (mx / 2)]) : BT (It ord) (h + 1))).length : Nat), [x2], some [some (rid (cutL T (mx / 2))), some (rid (cutR T m (mx / 2)))]⟩ : NodeR (It ord))
    rw [htoL, rid_cutL, rid_cutR, hH5]
    exact if_pos rfl
  · intro c hc2
    change c ∈ [cutL T (mx / 2), cutR T m (mx / 2)] at hc2
    simp only [List.mem_cons, List.not_mem_nil, or_false] at hc2
    rcases hc2 with rfl | rfl
    · exact tc1
    · exact tc2
  · show (nb :: [cutL T (mx / 2), cutR T m (mx / 2)].flatMap (ids h)).Nodup
    simp only [List.flatMap_cons, List.flatMap_nil, List.append_nil]
    refine List.nodup_cons.2 ⟨fun hmem => ?_, g1⟩
    rcases List.mem_append.1 hmem with h1 | h1
    · have := hlt _ (g2 _ h1); omega
    · rcases g3 _ h1 with h2 | h2
      · have := hlt _ h2; omega
      · omega
  · show 1 ≤ mx
    omega
  · intro c hc2
    change c ∈ [cutL T (mx / 2), cutR T m (mx / 2)] at hc2
    simp only [List.mem_cons, List.not_mem_nil, or_false] at hc2
    rcases hc2 with rfl | rfl
    · exact ⟨by rw [l1]; exact hI.mh, s1⟩
    · exact ⟨by rw [l2]; exact hI.mh2, s2⟩
end Go.Proofs.Ytojplcbkiogcpaa
