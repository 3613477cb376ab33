/- Set of the map: its root takes the item. -/
import Derived.Test.YtojplcbkiogcpaaWl
import Derived.Test.YtojplcbkiogcpaaBg
import Derived.Test.YtojplcbkiogcpaaRegg
namespace Go.Proofs.Ytojplcbkiogcpaa
set_option linter.unusedSimpArgs false
set_option linter.unusedVariables false
open Go.RowKit
variable {ord : List Int} {k : Kc ord}

/-- What Set returns. -/
def SetRet (l : List (It ord)) (x : It ord) (e : Ending) : Prop :=
  (∃ y, fndL ltM x l = some y ∧ e = .returned (.tuple #[.agg #[.int .i64 y.1, .int .i64 y.2], .bool true])) ∨ (fndL ltM x l = none ∧ e = .returned (.tuple #[.agg #[.int .i64 0, .int .i64 0], .bool false]))

def SetTop (k : Kc ord) (mn mx : Nat) (w : World) (F : Nat → Prop) (t : Nat) (l : List (It ord)) (x : It ord) (e : Ending) (w' : World) : Prop :=
  SetRet l x e ∧ ∃ F' H' h T', TreeIn k mn mx w' F' H' t h T' ∧ MapBlk k mn mx w' t (some (rid T')) (toL h T').length ∧ toL h T' = insL ltM x l ∧ 1 ≤ (its T').length ∧ Chg (fun b _ => F b ∨ b = t) w w' ∧ (∀ b, F' b → F b ∨ w.heap.size ≤ b)

set_option maxRecDepth 100000 in
set_option maxHeartbeats 4000000 in
theorem set_avail {k : Kc ord} {mn mx : Nat} {w : World} {F : Nat → Prop} {H : Nat → Option (NodeR (It ord))} {t h : Nat} {T : BT (It ord) h} (hI : TreeIn k mn mx w F H t h T) (hB : MapBlk k mn mx w t (some (rid T)) (toL h T).length)
    (x : It ord) (ha : Avail mx h T x) (h1 : 1 ≤ (its T).length) (hbig : (toL h T).length < 100000000000000) :
    Calls Try.prog 95 #[.pointer (some ⟨t, 0, none⟩), aggM x, .pointer none] w (SetTop k mn mx w F t (toL h T) x) := by
  have c2 : w.cell? ⟨t, 2, none⟩ = some (.pointer (some ⟨rid T, 0, none⟩)) := hB.c2
  have tlt := hB.lt
  have tlt1 : t < w.heap.size + 1 := by omega
  unfold aggM
  go_enter Try.func95, Try.ntmps95
  go_wp2_with fail
  refine name_world (fun w1 => Chg (fun _ _ => False) w w1 ∧ w1.heap[w.heap.size]? = some (.cells #[.int .i64 x.1, .int .i64 x.2] 26 (0, 0)) ∧ w1.heap[w.heap.size + 1]? = some (.cells #[.int .i64 0, .int .i64 0] 26 (0, 0))) ⟨?_, ?_, ?_⟩ ?_
  · repeat (first | exact Chg.refl _ _ | refine Chg.alloc ?_ _)
  · rw [ha_lt _ _ (by simp)]; exact ha_at _ _ rfl
  · exact ha_at _ _ (by simp)
  rintro w1 ⟨hc1, hb1, hbp⟩
  have q0 := cell_of_block hb1 0
  have q1 := cell_of_block hb1 1
  simp only [List.getElem?_toArray, List.getElem?_cons_zero, List.getElem?_cons_succ] at q0 q1
  have hlt1 := heap_lt hbp
  have inI : ∀ w2, Chg (fun _ _ => False) w w2 → TreeIn k mn mx w2 F H t h T := fun w2 hc => ⟨hI.fam.chg hc (fun _ _ _ h => h), hI.map.chg hc (fun _ _ _ h => h), hI.out, hI.isT, hI.nd, hI.sh, hI.srt, hI.big, hI.m3, hI.m1000, hI.mh, hI.mh2⟩
  have nF : ∀ b, w.heap.size ≤ b → ¬ F b := fun b hb hf => Nat.lt_irrefl _ (Nat.lt_of_lt_of_le (hI.fam.lt hf) hb)
  have hout := hI.out
  have hbigI := hI.big
  have hsrtI := hI.srt
  have hs4 := (show _ ∧ _ ∧ _ ∧ _ from ⟨hI.m3, hI.m1000, hI.mh, hI.mh2⟩)
  refine wp_region_scr (fun w' => w'.cell? ⟨w.heap.size, 0, none⟩ = some (.int .i64 x.1) ∧ w'.cell? ⟨w.heap.size, 1, none⟩ = some (.int .i64 x.2)) (.soft 0 (.soft 1 (.soft 2 (.soft 3 (.soft 4 (.soft 5 (.hard 6 (.soft 7 (.soft 8 (.soft 9 (.soft 10 (.hard 11 (.soft 12 (.soft 13 .nil)))))))))))))) (by kernel_rfl) (by kernel_rfl) (fun _ _ _ _ _ h => h) ⟨q0, q1⟩ ?_
  repeat
    first
    | (refine scr_soft (by rfl) ?_ ?_ ?_ ?_
       rotate_left
       · simp [Region.wanted, yielded]; done
       · intro w' hS
         try obtain ⟨a1, a2⟩ := hS
         go_simp
         try with_reducible rfl
       simp only [Act.put, List.setIfInBounds_toArray, List.set_cons_zero, List.set_cons_succ])
    | (refine scr_skip (by rfl) ?_ ?_
       · simp [Region.wanted, yielded]; done
       simp only [Act.put, List.setIfInBounds_toArray, List.set_cons_zero, List.set_cons_succ])
  refine scr_hard (by rfl) (by simp [Region.wanted, yielded]) (fun K hK => ?_)
  go_simp
  go_at_call 116
  refine (setSpec h k mn mx t ⟨t, 2, none⟩ 0 x w1.drew F H T (inI _ hc1.drew) (hB.chg hc1.drew (fun _ _ _ h => h)).c2).mono ?_
  rintro e w2 ⟨H', pr, rp, sp, rfl, hF2, hc2, hz⟩
  rcases hz with ⟨_, _, hno⟩ | ⟨rfl, _, T', hi⟩
  · exact absurd ha hno
  have hbp2 : w2.heap[w.heap.size + 1]? = some (.cells #[.int .i64 0, .int .i64 0] 26 (0, 0)) := by rw [hc2.block (heap_lt hbp) (fun _ h => nF _ (Nat.le_add_right _ _) h)]; exact hbp
  have p0 := cell_of_block hbp2 0
  have p1 := cell_of_block hbp2 1
  have pf0 := frozen_of_block hbp2 0
  have pf1 := frozen_of_block hbp2 1
  simp only [List.getElem?_toArray, List.getElem?_cons_zero, List.getElem?_cons_succ] at p0 p1
  have r0 := hc2.cell (nF _ (Nat.le_refl _)) q0
  have r1 := hc2.cell (nF _ (Nat.le_refl _)) q1
  refine hK _ _ ⟨r0, r1⟩ ?_
  clear hK K
  repeat
    first
    | (refine scr_soft (by rfl) ?_ ?_ ?_ ?_
       rotate_left
       · simp [Region.wanted, yielded]; done
       · intro w' hS
         try obtain ⟨a1, a2⟩ := hS
         go_simp
         try with_reducible rfl
       simp only [Act.put, List.setIfInBounds_toArray, List.set_cons_zero, List.set_cons_succ])
    | (refine scr_skip (by rfl) ?_ ?_
       · simp [Region.wanted, yielded]; done
       simp only [Act.put, List.setIfInBounds_toArray, List.set_cons_zero, List.set_cons_succ])
  refine scr_hard (by rfl) (by simp [Region.wanted, yielded]) (fun K hK => ?_)
  go_simp
  have hst : Chg (fun b _ => b = w.heap.size + 1) w2 ((w2.setCell ⟨w.heap.size + 1, 0, none⟩ (.int .i64 pr.1)).setCell ⟨w.heap.size + 1, 1, none⟩ (.int .i64 pr.2)) := ((Chg.refl _ _).setCell (.inl rfl) _).setCell (.inl rfl) _
  refine hK _ _ ⟨hst.cell (fun h => by simp at h) r0, hst.cell (fun h => by simp at h) r1⟩ ?_
  clear hK K
  repeat
    first
    | (refine scr_soft (by rfl) ?_ ?_ ?_ ?_
       rotate_left
       · simp [Region.wanted, yielded]; done
       · intro w' hS
         try obtain ⟨a1, a2⟩ := hS
         go_simp
         try with_reducible rfl
       simp only [Act.put, List.setIfInBounds_toArray, List.set_cons_zero, List.set_cons_succ])
    | (refine scr_skip (by rfl) ?_ ?_
       · simp [Region.wanted, yielded]; done
       simp only [Act.put, List.setIfInBounds_toArray, List.set_cons_zero, List.set_cons_succ])
  refine scr_nil ?_
  have hc12 : Chg (fun b _ => F b) w w2 := (hc1.drew.mono (fun _ _ _ h => h.elim)).trans hc2
  have hcc : Chg (fun b _ => F b) w ((w2.setCell ⟨w.heap.size + 1, 0, none⟩ (.int .i64 pr.1)).setCell ⟨w.heap.size + 1, 1, none⟩ (.int .i64 pr.2)) := hc12.trans' (B := fun b _ => F b) hst (fun _ _ _ h => h) (fun b o hb e => by omega)
  have hszw := hc1.size
  have hszx := hc2.size
  have hfs := hF2.chg hst (fun b o hb e => by
    have e2 : b = w.heap.size + 1 := e
    subst e2
    rcases hb with hb | hb
    · exact nF _ (Nat.le_add_right _ _) hb
    · have h2 := hb.1; simp at h2; omega)
  have hpv : ((w2.setCell ⟨w.heap.size + 1, 0, none⟩ (.int .i64 pr.1)).setCell ⟨w.heap.size + 1, 1, none⟩ (.int .i64 pr.2)).heap[w.heap.size + 1]? = some (.cells #[.int .i64 pr.1, .int .i64 pr.2] 26 (0, 0)) := by rw [hs_same (hs_same hbp2 _)]; rfl
  clear p0 p1 pf0 pf1 r0 r1 q0 q1 c2 hbp2 hbp hb1
  refine name_prop (fun w3 => ∃ G, Fam (parM k) w3 G H' ∧ MapBlk k mn mx w3 t (some (rid T)) (toL h T).length ∧ Chg (fun b _ => F b ∨ b = t) w w3 ∧ (∀ b, G b → F b ∨ w.heap.size ≤ b) ∧ (∀ b, MOwn k t b → ¬ G b) ∧ ¬ G (w.heap.size + 1) ∧ w3.heap[w.heap.size + 1]? = some (.cells #[.int .i64 pr.1, .int .i64 pr.2] 26 (0, 0))) ⟨(grow F w1.drew w2), hfs, hB.chg hcc (fun b _ hm h => hout b hm h), hcc.mono (fun _ _ _ h => .inl h), ?_, ?_, ?_, hpv⟩ ?_
  · rintro b (h | h)
    · exact .inl h
    · exact .inr (by have h2 := h.1; simp at h2; omega)
  · intro b hm
    rintro (h | h)
    · exact hout b hm h
    · have h2 := h.1; have := hI.map.lt hm; simp at h2; omega
  · rintro (h | h)
    · exact nF _ (Nat.le_add_right _ _) h
    · have h2 := h.1; simp at h2; omega
  rintro w3 ⟨G, hF3, hB3, hw03, hnew, tout, hnp, hp3⟩
  have e3 := hB3.c3
  have e4 := hB3.at_.c4
  have e5 := hB3.at_.c5
  have z3 := hB3.fz 3
  have p0 := cell_of_block hp3 0
  have p1 := cell_of_block hp3 1
  have pf0 := frozen_of_block hp3 0
  have pf1 := frozen_of_block hp3 1
  simp only [List.getElem?_toArray, List.getElem?_cons_zero, List.getElem?_cons_succ] at p0 p1
  have hpl := heap_lt hp3
  have u1 : ¬ w.heap.size + 1 = t := by omega
  have u1' : ¬ t = w.heap.size + 1 := by omega
  have hlen := insL_len (lt := ltM) (x := x) (l := toL h T)
  have s1 : IntKind.i64.wrap (((toL h T).length : Nat) + 1) = ((toL h T).length : Nat) + 1 := IntWalk.i64_in _ (by omega)
  have hsrt' : Srt ltM (toL h T') := by rw [hi.list]; exact insL_srt swoM x hsrtI
  have mlt : ∀ b, MOwn k t b → b < w.heap.size := fun b hm => hI.map.lt hm
  clear hp3
  rcases hi.found with ⟨_, f1, rfl, rfl⟩ | ⟨f1, rfl⟩
  · rw [f1] at hlen
    simp only [Option.isSome_some, if_true, Nat.add_zero] at hlen
    go_wp2_with fail
    refine bodyPost_ret (v := .tuple #[.agg #[.int .i64 pr.1, .int .i64 pr.2], .bool true]) (by simp [results, Try.results95, go_sem, p0, p1]) rfl ?_
    have fin : ∀ w', Chg (fun b _ => b = w.heap.size + 1) w3 w' → SetTop k mn mx w F t (toL h T) x (.returned (.tuple #[.agg #[.int .i64 pr.1, .int .i64 pr.2], .bool true])) w' := by
      intro w' c
      have hB4 := hB3.chg c (fun b _ hm e => by have := mlt b hm; omega)
      refine ⟨.inl ⟨pr, f1, rfl⟩, _, H', h, T', ⟨hF3.chg c (fun b o hb e => hnp (e ▸ hb)), hB4.at_, tout, hi.isT, hi.nd, hi.sh, hsrt', by rw [hi.list, hlen]; exact hbigI, hs4.1, hs4.2.1, hs4.2.2.1, hs4.2.2.2⟩, ?_, hi.list, Nat.le_trans h1 hi.len, hw03.trans' c (fun _ _ _ h => h) (fun b o hb e => by omega), hnew⟩
      rw [hi.rid', hi.list, hlen]; exact hB4
    refine fin _ ?_
    repeat (first | refine Chg.drew ?_ | refine Chg.drewN ?_ _ | refine Chg.setCell ?_ (.inl rfl) _ | exact Chg.refl _ _)
  · rw [f1] at hlen
    simp only [Option.isSome_none, if_false, Bool.false_eq_true] at hlen
    have hc3 : Chg (fun b _ => b = t) w3 (w3.setCell ⟨t, 3, none⟩ (.int .i64 (((toL h T).length : Nat) + 1))) := (Chg.refl _ _).setCell (.inl rfl) _
    have hB4 := hB3.setCnt (((toL h T).length : Nat) + 1)
    have e4' := hB4.at_.c4
    have e5' := hB4.at_.c5
    go_wp2_with fail
    refine bodyPost_ret (v := .tuple #[.agg #[.int .i64 0, .int .i64 0], .bool false]) (by simp [results, Try.results95, go_sem, p0, p1, u1, u1']) rfl ?_
    have fin : ∀ w', Chg (fun b _ => b = w.heap.size + 1) (w3.setCell ⟨t, 3, none⟩ (.int .i64 (((toL h T).length : Nat) + 1))) w' → SetTop k mn mx w F t (toL h T) x (.returned (.tuple #[.agg #[.int .i64 0, .int .i64 0], .bool false])) w' := by
      intro w' c
      have hB5 := hB4.chg c (fun b _ hm e => by have := mlt b hm; omega)
      refine ⟨.inr ⟨f1, rfl⟩, G, H', h, T', ⟨(hF3.chg hc3 (fun b o hb e => tout t MOwn.self (e ▸ hb))).chg c (fun b o hb e => hnp (e ▸ hb)), hB5.at_, tout, hi.isT, hi.nd, hi.sh, hsrt', by rw [hi.list, hlen]; omega, hs4.1, hs4.2.1, hs4.2.2.1, hs4.2.2.2⟩, ?_, hi.list, Nat.le_trans h1 hi.len, (hw03.trans (hc3.mono (fun _ _ _ h => .inr h))).trans' c (fun _ _ _ h => h) (fun b o hb e => by omega), hnew⟩
      rw [hi.rid', hi.list, hlen]; exact hB5
    refine fin _ ?_
    repeat (first | refine Chg.drew ?_ | refine Chg.drewN ?_ _ | refine Chg.setCell ?_ (.inl rfl) _ | exact Chg.refl _ _)
end Go.Proofs.Ytojplcbkiogcpaa
