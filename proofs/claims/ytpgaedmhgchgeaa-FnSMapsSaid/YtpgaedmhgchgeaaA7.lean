/- A full root parted under a new root: the tree is of the next height. -/
import Derived.Stop.Asserts
import Derived.Test.YtpgaedmhgchgeaaA2
import Derived.Test.YtpgaedmhgchgeaaA6
namespace Go.Proofs.Ytpgaedmhgchgeaa
set_option linter.unusedSimpArgs false
set_option linter.unusedVariables false
open Go.RowKit

/-- What Set returns. -/
def SetRet (l : List (Int × Int)) (x : Int × Int) (e : Ending) : Prop :=
  (∃ y, fndL ltM x l = some y ∧ e = .returned (.tuple #[.agg #[], .bool true])) ∨ (fndL ltM x l = none ∧ e = .returned (.tuple #[.agg #[], .bool false]))

def SetTop (k : Int) (mn mx : Nat) (w : World) (F : Nat → Prop) (t : Nat) (l : List (Int × Int)) (x : Int × Int) (e : Ending) (w' : World) : Prop :=
  SetRet l x e ∧ ∃ F' H' h T', TreeIn k mn mx w' F' H' t h T' ∧ MapBlk k mn mx w' t (some (rid T')) (toL h T').length ∧ toL h T' = insL ltM x l ∧ 1 ≤ (its T').length ∧ Chg (fun b _ => F b ∨ b = t) w w' ∧ (∀ b, F' b → F b ∨ w.heap.size ≤ b)

set_option maxRecDepth 100000 in
set_option maxHeartbeats 4000000 in
theorem set_avail {k : Int} {mn mx : Nat} {w : World} {F : Nat → Prop} {H : Nat → Option (NodeR (Int × Int))} {t h : Nat} {T : BT (Int × Int) h} (hI : TreeIn k mn mx w F H t h T) (hB : MapBlk k mn mx w t (some (rid T)) (toL h T).length)
    (x : Int × Int) (ha : Avail mx h T x) (h1 : 1 ≤ (its T).length) (hbig : (toL h T).length < 100000000000000) :
    Calls Try.prog 39 #[.pointer (some ⟨t, 0, none⟩), .int .i64 x.1, .agg #[]] w (SetTop k mn mx w F t (toL h T) x) := by
  have c2 : w.cell? ⟨t, 2, none⟩ = some (.pointer (some ⟨rid T, 0, none⟩)) := hB.c2
  have tlt := hB.lt
  have tlt1 : t < w.heap.size + 1 := by omega
  have tlt2 : t < w.heap.size + 1 + 1 := by omega
  have hfold : Array.foldl (fun (cs : Array Value) (x : Value × Nat) => cs.setIfInBounds x.snd x.fst) #[.int .i64 x.1] (#[] : Array Value).zipIdx 0 0 = #[.int .i64 x.1] := by rfl
  go_enter Try.func39, Try.ntmps39
  go_wp2_with fail
  refine name_world (fun w1 => Chg (fun _ _ => False) w w1 ∧ w1.heap[w.heap.size + 2]? = some (.cells #[.int .i64 x.1] 53 (0, 0))) ⟨?_, ?_⟩ ?_
  · repeat (first | exact Chg.refl _ _ | refine Chg.alloc ?_ _)
  · exact ha_at _ _ (by simp)
  rintro w1 ⟨hc1, hb1⟩
  have q0 := cell_of_block hb1 0
  simp only [List.getElem?_toArray, List.getElem?_cons_zero, List.getElem?_cons_succ] at q0
  have hlt1 := heap_lt hb1
  have inI : ∀ w2, Chg (fun _ _ => False) w w2 → TreeIn k mn mx w2 F H t h T := fun w2 hc => ⟨hI.fam.chg hc (fun _ _ _ h => h), hI.map.chg hc (fun _ _ _ h => h), hI.out, hI.isT, hI.nd, hI.sh, hI.srt, hI.big, hI.m3, hI.m1000, hI.mh, hI.mh2⟩
  have nF : ∀ b, w.heap.size ≤ b → ¬ F b := fun b hb hf => Nat.lt_irrefl _ (Nat.lt_of_lt_of_le (hI.fam.lt hf) hb)
  have hout := hI.out
  have hbigI := hI.big
  have hsrtI := hI.srt
  have hs4 := (show _ ∧ _ ∧ _ ∧ _ from ⟨hI.m3, hI.m1000, hI.mh, hI.mh2⟩)
  refine wp_region_scr (fun w' => w'.cell? ⟨w.heap.size + 2, 0, none⟩ = some (.int .i64 x.1)) (.soft 0 (.soft 1 (.soft 2 (.soft 3 (.soft 4 (.fork 5 10 (.soft 6 (.soft 7 (.soft 8 (.soft 9 (.hard 10 (.hard 11 (.soft 12 (.soft 13 .nil)))))))) (.hard 5 (.soft 6 (.soft 7 (.soft 8 (.soft 9 (.hard 11 (.soft 12 (.soft 13 .nil))))))))))))))
    (by kernel_rfl) (by kernel_rfl) (fun _ _ _ _ _ h => h) q0 ?_
  refine scr_soft (by rfl) ?_ (by simp [Region.wanted, yielded]) ?_ ?_
  rotate_left
  · intro w' hS
    try obtain ⟨s0⟩ := hS
    go_simp
    try with_reducible rfl
  simp only [Act.put, List.setIfInBounds_toArray, List.set_cons_zero, List.set_cons_succ]
  refine scr_soft (by rfl) ?_ (by simp [Region.wanted, yielded]) ?_ ?_
  rotate_left
  · intro w' hS
    try obtain ⟨s0⟩ := hS
    go_simp
    try with_reducible rfl
  simp only [Act.put, List.setIfInBounds_toArray, List.set_cons_zero, List.set_cons_succ]
  refine scr_soft (by rfl) ?_ (by simp [Region.wanted, yielded]) ?_ ?_
  rotate_left
  · intro w' hS
    try obtain ⟨s0⟩ := hS
    go_simp
    try with_reducible rfl
  simp only [Act.put, List.setIfInBounds_toArray, List.set_cons_zero, List.set_cons_succ]
  refine scr_soft (by rfl) ?_ (by simp [Region.wanted, yielded]) ?_ ?_
  rotate_left
  · intro w' hS
    try obtain ⟨s0⟩ := hS
    go_simp
    try with_reducible rfl
  simp only [Act.put, List.setIfInBounds_toArray, List.set_cons_zero, List.set_cons_succ]
  refine scr_soft (by rfl) ?_ (by simp [Region.wanted, yielded]) ?_ ?_
  rotate_left
  · intro w' hS
    try obtain ⟨s0⟩ := hS
    go_simp
    try with_reducible rfl
  simp only [Act.put, List.setIfInBounds_toArray, List.set_cons_zero, List.set_cons_succ]
  refine scr_fork (by rfl) (by rfl) rfl rfl (fun K hK => ?_) (fun K hK => ?_)
  · go_simp
    go_at_call 55
    refine (setSpec h k mn mx t ⟨t, 2, none⟩ x w1.drew F H T (inI _ hc1.drew) (hB.chg hc1.drew (fun _ _ _ h => h)).c2).mono ?_
    rintro e w2 ⟨H', pr, rp, sp, rfl, hF2, hc2, hz⟩
    rcases hz with ⟨_, _, hno⟩ | ⟨rfl, _, T', hi⟩
    · exact absurd ha hno
    refine hK _ _ (hc2.cell (nF _ (Nat.le_add_right _ _)) (by simpa using q0)) ?_
    clear hK K
    refine scr_soft (by rfl) ?_ (by simp [Region.wanted, yielded]) ?_ ?_
    rotate_left
    · intro w' hS
      try obtain ⟨s0⟩ := hS
      go_simp
      try with_reducible rfl
    simp only [Act.put, List.setIfInBounds_toArray, List.set_cons_zero, List.set_cons_succ]
    refine scr_soft (by rfl) ?_ (by simp [Region.wanted, yielded]) ?_ ?_
    rotate_left
    · intro w' hS
      try obtain ⟨s0⟩ := hS
      go_simp
      try with_reducible rfl
    simp only [Act.put, List.setIfInBounds_toArray, List.set_cons_zero, List.set_cons_succ]
    refine scr_soft (by rfl) ?_ (by simp [Region.wanted, yielded]) ?_ ?_
    rotate_left
    · intro w' hS
      try obtain ⟨s0⟩ := hS
      go_simp
      try with_reducible rfl
    simp only [Act.put, List.setIfInBounds_toArray, List.set_cons_zero, List.set_cons_succ]
    refine scr_soft (by rfl) ?_ (by simp [Region.wanted, yielded]) ?_ ?_
    rotate_left
    · intro w' hS
      try obtain ⟨s0⟩ := hS
      go_simp
      try with_reducible rfl
    simp only [Act.put, List.setIfInBounds_toArray, List.set_cons_zero, List.set_cons_succ]
    refine scr_hard (by rfl) (by simp [Region.wanted, yielded]) (fun K hK => ?_)
    go_simp
    refine hK _ _ ?_ ?_
    · rw [World.cell?_alloc_lt _ _ _ (by have := hc2.size; simp at this ⊢; omega)]
      exact hc2.cell (nF _ (Nat.le_add_right _ _)) (by simpa using q0)
    clear hK K
    refine scr_hard (by rfl) (by simp [Region.wanted, yielded]) (fun K hK => ?_)
    go_simp
    refine hK _ _ ?_ ?_
    · rw [World.cell?_alloc_lt _ _ _ (by have := hc2.size; simp at this ⊢; omega)]
      exact hc2.cell (nF _ (Nat.le_add_right _ _)) (by simpa using q0)
    clear hK K
    refine scr_soft (by rfl) ?_ (by simp [Region.wanted, yielded]) ?_ ?_
    rotate_left
    · intro w' hS
      try obtain ⟨s0⟩ := hS
      go_simp
      try with_reducible rfl
    simp only [Act.put, List.setIfInBounds_toArray, List.set_cons_zero, List.set_cons_succ]
    refine scr_soft (by rfl) ?_ (by simp [Region.wanted, yielded]) ?_ ?_
    rotate_left
    · intro w' hS
      try obtain ⟨s0⟩ := hS
      go_simp
      try with_reducible rfl
    simp only [Act.put, List.setIfInBounds_toArray, List.set_cons_zero, List.set_cons_succ]
    refine scr_nil ?_
    have hcc : Chg (fun b _ => F b) w (w2.alloc (.cells #[] 51)) := ((hc1.drew.mono (fun _ _ _ h => h.elim)).trans hc2).alloc _
    have hszw := hc1.size
    refine name_prop (fun w3 => ∃ G, Fam (parM k) w3 G H' ∧ MapBlk k mn mx w3 t (some (rid T)) (toL h T).length ∧ Chg (fun b _ => F b ∨ b = t) w w3 ∧ (∀ b, G b → F b ∨ w.heap.size ≤ b) ∧ ∀ b, MOwn k t b → ¬ G b) ⟨(grow F w1.drew w2), (hF2.chg ((Chg.refl (fun _ _ => False) w2).alloc _) (fun _ _ _ h => h)), hB.chg hcc (fun b _ hm h => hout b hm h), hcc.mono (fun _ _ _ h => .inl h), ?_, ?_⟩ ?_
    · rintro b (h | h)
      · exact .inl h
      · exact .inr (by have h2 := h.1; simp at h2; omega)
    · intro b hm
      rintro (h | h)
      · exact hout b hm h
      · have h2 := h.1; have := hI.map.lt hm; simp at h2; omega
    rintro w3 ⟨G, hF3, hB3, hw03, hnew, tout⟩
    have e3 := hB3.c3
    have e4 := hB3.at_.c4
    have z3 := hB3.fz 3
    have hlen := insL_len (lt := ltM) (x := x) (l := toL h T)
    have s1 : IntKind.i64.wrap (((toL h T).length : Nat) + 1) = ((toL h T).length : Nat) + 1 := IntWalk.i64_in _ (by omega)
    have hsrt' : Srt ltM (toL h T') := by rw [hi.list]; exact insL_srt swoM x hsrtI
    rcases hi.found with ⟨y, f1, rfl, rfl⟩ | ⟨f1, rfl⟩
    · rw [f1] at hlen
      simp only [Option.isSome_some, if_true, Nat.add_zero] at hlen
      go_wp2_with fail
      refine bodyPost_ret (v := .tuple #[.agg #[], .bool true]) (by simp [results, Try.results39, go_sem]) rfl ?_
      refine ⟨.inl ⟨y, f1, rfl⟩, _, H', h, T', ⟨hF3, hB3.at_, tout, hi.isT, hi.nd, hi.sh, hsrt', by rw [hi.list, hlen]; exact hbigI, hs4.1, hs4.2.1, hs4.2.2.1, hs4.2.2.2⟩, ?_, hi.list, Nat.le_trans h1 hi.len, hw03, hnew⟩
      rw [hi.rid', hi.list, hlen]; exact hB3
    · rw [f1] at hlen
      simp only [Option.isSome_none, if_false, Bool.false_eq_true] at hlen
      have hc3 : Chg (fun b _ => b = t) w3 (w3.setCell ⟨t, 3, none⟩ (.int .i64 (((toL h T).length : Nat) + 1))) := (Chg.refl _ _).setCell (.inl rfl) _
      have hB4 := hB3.setCnt (((toL h T).length : Nat) + 1)
      have pz := hB4.at_.pz
      go_wp2_with fail
      refine bodyPost_ret (v := .tuple #[.agg #[], .bool false]) (by simp [results, Try.results39, go_sem]) rfl ?_
      refine ⟨.inr ⟨f1, rfl⟩, G, H', h, T', ⟨hF3.chg hc3 (fun b o hb e => tout t MOwn.self (e ▸ hb)), hB4.at_, tout, hi.isT, hi.nd, hi.sh, hsrt', by rw [hi.list, hlen]; omega, hs4.1, hs4.2.1, hs4.2.2.1, hs4.2.2.2⟩, ?_, hi.list, Nat.le_trans h1 hi.len, hw03.trans (hc3.mono (fun _ _ _ h => .inr h)), hnew⟩
      rw [hi.rid', hi.list, hlen]; exact hB4
  · go_simp
    refine hK _ _ ?_ ?_
    · rw [World.cell?_drew, World.cell?_alloc_lt _ _ _ hlt1]
      exact q0
    clear hK K
    refine scr_hard (by rfl) (by simp [Region.wanted, yielded]) (fun K hK => ?_)
    go_simp
    go_at_call 55
    have hcd : Chg (fun _ _ => False) w ((w1.alloc (.cells #[] 51)).drew) := (hc1.alloc _).drew
    refine (setSpec h k mn mx t ⟨t, 2, none⟩ x ((w1.alloc (.cells #[] 51)).drew) F H T (inI _ hcd) (hB.chg hcd (fun _ _ _ h => h)).c2).mono ?_
    rintro e w2 ⟨H', pr, rp, sp, rfl, hF2, hc2, hz⟩
    rcases hz with ⟨_, _, hno⟩ | ⟨rfl, _, T', hi⟩
    · exact absurd ha hno
    refine hK _ _ (hc2.cell (nF _ (Nat.le_add_right _ _)) (by rw [World.cell?_drew, World.cell?_alloc_lt _ _ _ hlt1]; exact q0)) ?_
    clear hK K
    refine scr_soft (by rfl) ?_ (by simp [Region.wanted, yielded]) ?_ ?_
    rotate_left
    · intro w' hS
      try obtain ⟨s0⟩ := hS
      go_simp
      try with_reducible rfl
    simp only [Act.put, List.setIfInBounds_toArray, List.set_cons_zero, List.set_cons_succ]
    refine scr_soft (by rfl) ?_ (by simp [Region.wanted, yielded]) ?_ ?_
    rotate_left
    · intro w' hS
      try obtain ⟨s0⟩ := hS
      go_simp
      try with_reducible rfl
    simp only [Act.put, List.setIfInBounds_toArray, List.set_cons_zero, List.set_cons_succ]
    refine scr_soft (by rfl) ?_ (by simp [Region.wanted, yielded]) ?_ ?_
    rotate_left
    · intro w' hS
      try obtain ⟨s0⟩ := hS
      go_simp
      try with_reducible rfl
    simp only [Act.put, List.setIfInBounds_toArray, List.set_cons_zero, List.set_cons_succ]
    refine scr_soft (by rfl) ?_ (by simp [Region.wanted, yielded]) ?_ ?_
    rotate_left
    · intro w' hS
      try obtain ⟨s0⟩ := hS
      go_simp
      try with_reducible rfl
    simp only [Act.put, List.setIfInBounds_toArray, List.set_cons_zero, List.set_cons_succ]
    refine scr_hard (by rfl) (by simp [Region.wanted, yielded]) (fun K hK => ?_)
    go_simp
    refine hK _ _ (hc2.cell (nF _ (Nat.le_add_right _ _)) (by rw [World.cell?_drew, World.cell?_alloc_lt _ _ _ hlt1]; exact q0)) ?_
    clear hK K
    refine scr_soft (by rfl) ?_ (by simp [Region.wanted, yielded]) ?_ ?_
    rotate_left
    · intro w' hS
      try obtain ⟨s0⟩ := hS
      go_simp
      try with_reducible rfl
    simp only [Act.put, List.setIfInBounds_toArray, List.set_cons_zero, List.set_cons_succ]
    refine scr_soft (by rfl) ?_ (by simp [Region.wanted, yielded]) ?_ ?_
    rotate_left
    · intro w' hS
      try obtain ⟨s0⟩ := hS
      go_simp
      try with_reducible rfl
    simp only [Act.put, List.setIfInBounds_toArray, List.set_cons_zero, List.set_cons_succ]
    refine scr_nil ?_
    have hcc : Chg (fun b _ => F b) w w2 := (hcd.mono (fun _ _ _ h => h.elim)).trans hc2
    have hszw := hc1.size
    refine name_prop (fun w3 => ∃ G, Fam (parM k) w3 G H' ∧ MapBlk k mn mx w3 t (some (rid T)) (toL h T).length ∧ Chg (fun b _ => F b ∨ b = t) w w3 ∧ (∀ b, G b → F b ∨ w.heap.size ≤ b) ∧ ∀ b, MOwn k t b → ¬ G b) ⟨(grow F ((w1.alloc (.cells #[] 51)).drew) w2), hF2, hB.chg hcc (fun b _ hm h => hout b hm h), hcc.mono (fun _ _ _ h => .inl h), ?_, ?_⟩ ?_
    · rintro b (h | h)
      · exact .inl h
      · exact .inr (by have h2 := h.1; simp at h2; omega)
    · intro b hm
      rintro (h | h)
      · exact hout b hm h
      · have h2 := h.1; have := hI.map.lt hm; simp at h2; omega
    rintro w3 ⟨G, hF3, hB3, hw03, hnew, tout⟩
    have e3 := hB3.c3
    have e4 := hB3.at_.c4
    have z3 := hB3.fz 3
    have hlen := insL_len (lt := ltM) (x := x) (l := toL h T)
    have s1 : IntKind.i64.wrap (((toL h T).length : Nat) + 1) = ((toL h T).length : Nat) + 1 := IntWalk.i64_in _ (by omega)
    have hsrt' : Srt ltM (toL h T') := by rw [hi.list]; exact insL_srt swoM x hsrtI
    rcases hi.found with ⟨y, f1, rfl, rfl⟩ | ⟨f1, rfl⟩
    · rw [f1] at hlen
      simp only [Option.isSome_some, if_true, Nat.add_zero] at hlen
      go_wp2_with fail
      refine bodyPost_ret (v := .tuple #[.agg #[], .bool true]) (by simp [results, Try.results39, go_sem]) rfl ?_
      refine ⟨.inl ⟨y, f1, rfl⟩, _, H', h, T', ⟨hF3, hB3.at_, tout, hi.isT, hi.nd, hi.sh, hsrt', by rw [hi.list, hlen]; exact hbigI, hs4.1, hs4.2.1, hs4.2.2.1, hs4.2.2.2⟩, ?_, hi.list, Nat.le_trans h1 hi.len, hw03, hnew⟩
      rw [hi.rid', hi.list, hlen]; exact hB3
    · rw [f1] at hlen
      simp only [Option.isSome_none, if_false, Bool.false_eq_true] at hlen
      have hc3 : Chg (fun b _ => b = t) w3 (w3.setCell ⟨t, 3, none⟩ (.int .i64 (((toL h T).length : Nat) + 1))) := (Chg.refl _ _).setCell (.inl rfl) _
      have hB4 := hB3.setCnt (((toL h T).length : Nat) + 1)
      have pz := hB4.at_.pz
      go_wp2_with fail
      refine bodyPost_ret (v := .tuple #[.agg #[], .bool false]) (by simp [results, Try.results39, go_sem]) rfl ?_
      refine ⟨.inr ⟨f1, rfl⟩, G, H', h, T', ⟨hF3.chg hc3 (fun b o hb e => tout t MOwn.self (e ▸ hb)), hB4.at_, tout, hi.isT, hi.nd, hi.sh, hsrt', by rw [hi.list, hlen]; omega, hs4.1, hs4.2.1, hs4.2.2.1, hs4.2.2.2⟩, ?_, hi.list, Nat.le_trans h1 hi.len, hw03.trans (hc3.mono (fun _ _ _ h => .inr h)), hnew⟩
      rw [hi.rid', hi.list, hlen]; exact hB4
end Go.Proofs.Ytpgaedmhgchgeaa

namespace Go.Proofs.Ytpgaedmhgchgeaa
set_option linter.unusedSimpArgs false
set_option linter.unusedVariables false
open Go.RowKit

theorem noCopier (v : Value) (xT : TypeId) (w : World) : (Instr.typeAssert (.iface 51 v) xT 113 true).run Try.prog w = .ok (.tuple #[.nilIface, .bool false]) w := run_typeAssert_lacksB Try.underlying113 (by kernel_rfl) (by kernel_rfl) v xT w
theorem noIsoCopier (v : Value) (xT : TypeId) (w : World) : (Instr.typeAssert (.iface 51 v) xT 116 true).run Try.prog w = .ok (.tuple #[.nilIface, .bool false]) w := run_typeAssert_lacksB Try.underlying116 (by kernel_rfl) (by kernel_rfl) v xT w

theorem degree_zero (w : World) :
    Calls Try.prog 59 #[.int .i64 0] w fun e w' => e = .returned (.tuple #[.int .i64 31, .int .i64 63]) ∧ w' = w := by
  go_enter Try.func59, Try.ntmps59
  go_wp2
  go_ret2
  exact ⟨rfl, rfl⟩

set_option maxRecDepth 100000 in
theorem init_zero (t : Nat) (w : World) (hb : MapBlk 0 0 0 w t none 0) :
    Calls Try.prog 53 #[.pointer (some ⟨t, 0, none⟩), .int .i64 0] w fun e w' => e = .returned (.tuple #[]) ∧ Chg (fun b _ => b = t) w w' ∧ MapBlk 0 31 63 w' t none 0 ∧ w'.heap.size = w.heap.size := by
  unfold MapBlk at hb
  have c4 := cell_of_block hb 4
  have c6 := cell_of_block hb 5
  have c7 := cell_of_block hb 6
  have c8 := cell_of_block hb 7
  have c9 := cell_of_block hb 8
  have z6 := frozen_of_block hb 5
  have z7 := frozen_of_block hb 6
  have z8 := frozen_of_block hb 7
  have z9 := frozen_of_block hb 8
  simp only [List.getElem?_toArray, List.getElem?_cons_zero, List.getElem?_cons_succ] at c4 c6 c7 c8 c9
  have HB := Lib.hid hb
  have f1 := noCopier
  have f2 := noIsoCopier
  have pz := fun (u v : Value) => map_pz (hs_same (o := 6) (hs_same (o := 5) hb u) v)
  have pz3 := fun (u v z : Value) => map_pz (hs_same (o := 7) (hs_same (o := 6) (hs_same (o := 5) hb u) v) z)
  clear hb
  go_enter Try.func53, Try.ntmps53
  go_wp2_with (go_at_call 59; refine (degree_zero _).mono ?_; rintro e w' ⟨rfl, rfl⟩)
  go_end0
  refine ⟨rfl, ?_, ?_, ?_⟩
  · repeat (first | refine Chg.drew ?_ | refine Chg.drewN ?_ _ | refine Chg.alloc ?_ _ | refine Chg.setCell ?_ (.inl rfl) _ | exact Chg.refl _ _)
  · unfold MapBlk
    rw [hs_same (hs_same (hs_same (hs_same HB.out _) _) _)]
    rfl
  · simp
end Go.Proofs.Ytpgaedmhgchgeaa

namespace Go.Proofs.Ytpgaedmhgchgeaa
set_option linter.unusedSimpArgs false
set_option linter.unusedVariables false
open Go.RowKit

set_option maxRecDepth 100000 in
set_option maxHeartbeats 4000000 in
theorem set_empty {w : World} {t : Nat} (hB0 : MapBlk 0 0 0 w t none 0) (x : Int × Int) :
    Calls Try.prog 39 #[.pointer (some ⟨t, 0, none⟩), .int .i64 x.1, .agg #[]] w (SetTop 0 31 63 w (fun _ => False) t [] x) := by
  have hmx : 3 ≤ 63 := by omega
  have hmx2 : 63 ≤ 1000 := by omega
  have hmh : 31 ≤ 63 / 2 := by omega
  have hmh2 : 31 ≤ 63 - (63 / 2 + 1) := by omega
  have c2 : w.cell? ⟨t, 2, none⟩ = some (.pointer none) := hB0.c2
  have tlt := hB0.lt
  have hB := hB0
  have tlt1 : t < w.heap.size + 1 := by omega
  have tlt2 : t < w.heap.size + 1 + 1 := by omega
  have hfold : Array.foldl (fun (cs : Array Value) (x : Value × Nat) => cs.setIfInBounds x.snd x.fst) #[.int .i64 x.1] (#[] : Array Value).zipIdx 0 0 = #[.int .i64 x.1] := by rfl
  go_enter Try.func39, Try.ntmps39
  go_wp2_with fail
  refine name_calls (fun w1 => Chg (fun _ _ => False) w w1 ∧ w1.heap[w.heap.size + 2]? = some (.cells #[.int .i64 x.1] 53 (0, 0)) ∧ w1.heap.size ≤ w.heap.size + 3) ⟨?_, ?_, ?_⟩ ?_
  · repeat (first | exact Chg.refl _ _ | refine Chg.alloc ?_ _)
  · exact ha_at _ _ (by simp)
  · simp
  rintro wa ⟨hca, hba, hza⟩
  refine (init_zero t wa (hB0.chg hca (fun _ _ _ h => h))).mono ?_
  rintro e wb ⟨rfl, hcb, hBb, hzb⟩
  have hla := heap_lt hba
  have hzw : wb.heap.size = w.heap.size + 3 := by omega
  have HZW := Lib.hid hzw
  have hbb : wb.heap[w.heap.size + 2]? = some (.cells #[.int .i64 x.1] 53 (0, 0)) := by rw [hcb.block hla (fun _ h => by omega)]; exact hba
  replace c2 : wb.cell? ⟨t, 2, none⟩ = some (.pointer none) := hBb.c2
  have c2a : ∀ o, (wb.alloc o).cell? ⟨t, 2, none⟩ = some (.pointer none) := fun o => by rw [World.cell?_alloc_past _ _ _ hBb.lt]; exact hBb.c2
  have z2a : ∀ o, (wb.alloc o).frozen? ⟨t, 2, none⟩ = false := fun o => by rw [World.frozen?_alloc_past _ _ _ hBb.lt]; exact hBb.fz 2
  have c0 := hBb.at_.c0
  have z2 := hBb.fz 2
  have tltb := hBb.lt
  have HBB := Lib.hid hbb
  clear hba hbb hzw hzb hza
  go_wp2_with (go_at_call 54; refine (newNode_leaf _ 0 _ ?_).mono ?_; (focus go_simp); rintro e w' ⟨rfl, rfl⟩)
  have hzw := HZW.out
  rw [hzw]
  refine name_world (fun w1 => Chg (fun b _ => b = t) w w1 ∧ MapBlk 0 31 63 w1 t (some (w.heap.size + 3)) 0 ∧ w1.heap[w.heap.size + 2]? = some (.cells #[.int .i64 x.1] 53 (0, 0)) ∧
    w1.heap[w.heap.size + 3]? = some (.cells #[.int .u64 0, .int .i64 0, .slice none 0 0, .pointer none] 93 (0, 0))) ⟨?_, ?_, ?_, ?_⟩ ?_
  · refine (hca.trans' hcb (fun _ _ _ h => h.elim) (fun _ _ _ h => h)).trans ?_
    repeat (first | refine Chg.drew ?_ | refine Chg.drewN ?_ _ | refine Chg.alloc ?_ _ | refine Chg.setCell ?_ (.inl rfl) _ | exact Chg.refl _ _)
  · exact (MapBlk.setRoot (root := none) hBb (some (w.heap.size + 3))).chg ((Chg.refl (fun _ _ => False) _).alloc _) (fun _ _ _ h => h)
  · rw [ha_lt _ _ (by simp; omega), hs_ne _ (by omega)]; exact HBB.out
  · exact ha_at _ _ (by simp; omega)
  rintro w1 ⟨hc1, hB1, hb1, hb2⟩
  have q0 := cell_of_block hb1 0
  have q1 := cell_of_block hb1 0
  have z22 := frozen_of_block hb2 2
  have z21 := frozen_of_block hb2 1
  have q22 := cell_of_block hb2 2
  simp only [List.getElem?_toArray, List.getElem?_cons_zero, List.getElem?_cons_succ] at q0 q1 q22
  have d2 : w1.cell? ⟨t, 2, none⟩ = some (.pointer (some ⟨w.heap.size + 3, 0, none⟩)) := hB1.c2
  have hsz1 : w.heap.size + 3 < w1.heap.size := heap_lt hb2
  obtain ⟨i0, hi0, hz0, hz1, hz2⟩ := info_parts infoPair
  clear c2 c0 z2 HBB c2a z2a
  refine wp_region_two (fun w' => w'.cell? ⟨t, 2, none⟩ = some (.pointer (some ⟨w.heap.size + 3, 0, none⟩)) ∧ w'.cell? ⟨w.heap.size + 2, 0, none⟩ = some (.int .i64 x.1) ∧ w'.cell? ⟨w.heap.size + 2, 0, none⟩ = some (.int .i64 x.1))
    8 [0, 1, 2, 3, 5] 4 6 [6, 7] [4, 7] _ _ (by kernel_rfl) (by kernel_rfl) (fun _ _ _ _ _ h => h) rfl rfl rfl rfl rfl ⟨d2, q0, q1⟩ ?_
  simp only [pickOps, List.filterMap_cons, List.filterMap_nil, List.getElem?_cons_zero, List.getElem?_cons_succ]
  iterate 5
    refine wpSoft_step ?_ rfl ?_ ?_
    rotate_left
    · intro w' hS
      obtain ⟨s1, s2, s3⟩ := hS
      go_simp
      try with_reducible rfl
    simp only [Act.put, List.setIfInBounds_toArray, List.set_cons_zero, List.set_cons_succ]
  refine wpSoft_nil ?_
  refine ⟨?_, ?_⟩
  · skip
    refine wpHards_step (fun K hK => ?_)
    go_simp
    refine hK _ _ ⟨?_, ?_, ?_⟩ ?_
    iterate 3 go_keep
    clear hK K
    refine wpHards_step (fun K hK => ?_)
    go_simp
    refine hK _ _ ⟨?_, ?_, ?_⟩ ?_
    iterate 3 go_keep
    clear hK K
    refine wpHards_step (fun K hK => ?_)
    refine wp_append_row _ _ _ (by rfl) 53 i0 _ 1 8 Try.underlying90 hi0 hz0 hz1 hz2 rfl w1.heap.size 0 0 0 (by rfl) [] (RowAt.of_block (c := #[]) (by rw [hd_drew, ha_lt _ _ (by simp)]; exact ha_at _ _ rfl) _ _ (by simp) (by simp) (by simp)) (by rfl) ⟨w1.heap.size + 1, 0, none⟩ 1 _ (by rfl) [.int .i64 x.1] (by rfl) (World.news_of_block (cs := #[.int .i64 x.1]) (t := 53) (fr := (0, 0)) (ha_at _ _ (by simp))) (by simp [Value.oneCell']) (by unfold maxLen; omega) (by omega) ?_
    intro b' o1 cap' w4 happ
    refine hK _ _ ⟨((((Chg.refl (fun _ _ => False) w1).alloc _).alloc _).drew.trans (happ.chg.mono (fun _ o _ h => by have := h.2; omega))).cell (fun h => h) d2, ((((Chg.refl (fun _ _ => False) w1).alloc _).alloc _).drew.trans (happ.chg.mono (fun _ o _ h => by have := h.2; omega))).cell (fun h => h) q0, ((((Chg.refl (fun _ _ => False) w1).alloc _).alloc _).drew.trans (happ.chg.mono (fun _ o _ h => by have := h.2; omega))).cell (fun h => h) q1⟩ ?_
    clear hK K
    have hc4 : Chg (fun _ _ => False) w1 w4 := (((Chg.refl (fun _ _ => False) w1).alloc _).alloc _).drew.trans (happ.chg.mono (fun _ o _ h => by have := h.2; omega))
    have hrow := happ.row
    have hroom := happ.room
    have hpl : w1.heap.size ≤ b' := by
      rcases happ.place with h | h
      · have := h.1; omega
      · have h2 := h.1
        simp at h2
        omega
    simp only [wpHards, List.drop_succ_cons, List.drop_zero, Act.put, List.setIfInBounds_toArray, List.set_cons_zero, List.set_cons_succ]
    have hB4 := hB1.chg hc4 (fun _ _ _ h => h)
    have hb4 : w4.heap[w.heap.size + 3]? = some (.cells #[.int .u64 0, .int .i64 0, .slice none 0 0, .pointer none] 93 (0, 0)) := by rw [hc4.block hsz1 (fun _ h => h)]; exact hb2
    clear d2 q0 q1 z22 z21 q22
    have d2 : w4.cell? ⟨t, 2, none⟩ = some (.pointer (some ⟨w.heap.size + 3, 0, none⟩)) := hB4.c2
    have d3 := hB4.c3
    have d4 := hB4.at_.c4
    have y3 := hB4.fz 3
    have z22 := frozen_of_block hb4 2
    have z21 := frozen_of_block hb4 1
    have q22 := cell_of_block hb4 2
    have q21 := cell_of_block hb4 1
    simp only [List.getElem?_toArray, List.getElem?_cons_zero, List.getElem?_cons_succ] at q22 q21
    have hb4' := Lib.hid hb4
    clear happ hb4
    have pz := fun (u v : Value) => (((hB4.chg ((Chg.refl (fun b _ => b = w.heap.size + 3) w4).setCell (a := ⟨w.heap.size + 3, 2, none⟩) (.inl rfl) u) (fun b _ hm h => by have := hB.at_.lt hm; omega)).chg ((Chg.refl (fun b _ => b = w.heap.size + 3) _).setCell (a := ⟨w.heap.size + 3, 1, none⟩) (.inl rfl) v) (fun b _ hm h => by have := hB.at_.lt hm; omega)).setCnt 1).at_.pz
    go_wp2_with fail
    refine bodyPost_ret (v := .tuple #[.agg #[], .bool false]) (by simp [results, Try.results39, go_sem]) rfl ?_
    clear pz
    generalize hwf : World.setCell _ _ _ = wf
    have hB5 : MapBlk 0 31 63 wf t (some (w.heap.size + 3)) 1 := by
      rw [← hwf]
      exact ((hB4.chg ((Chg.refl (fun b _ => b = w.heap.size + 3) w4).setCell (.inl rfl) _) (fun b _ hm h => by have := hB.at_.lt hm; omega)).chg ((Chg.refl (fun b _ => b = w.heap.size + 3) _).setCell (.inl rfl) _) (fun b _ hm h => by have := hB.at_.lt hm; omega)).setCnt 1
    have hc5 : Chg (fun b _ => b = w.heap.size + 3 ∨ b = t) w4 wf := by
      rw [← hwf]
      repeat (first | refine Chg.drew ?_ | refine Chg.setCell ?_ (.inl (by simp)) _ | exact Chg.refl _ _)
    have hd5 : wf.heap[w.heap.size + 3]? = some (.cells #[.int .u64 0, .int .i64 1, .slice (some ⟨b', o1, none⟩) 1 cap', .pointer none] 93 (0, 0)) := by
      rw [← hwf, hs_ne _ (by omega), hs_same (by rw [hs_same hb4'.out])]
      rfl
    have hrow5 : RowAt wf 53 b' o1 (cap' * 1) [.int .i64 x.1] := hrow.chg hc5 (fun j _ h => by omega)
    clear hwf
    have hc05 : Chg (fun b _ => b = t) w wf := (hc1.trans' hc4 (fun _ _ _ h => h) (fun _ _ _ h => h.elim)).trans' hc5 (fun _ _ _ h => h) (fun b o hb h => by omega)
    have hfam := (Fam.empty (parM 0) w).add hc05 (fun _ _ h => h.elim) (m := w.heap.size + 3) (s := ⟨1, [x], none⟩) (l := ⟨b', o1, cap', 0, 0, 0, 0⟩) ⟨hd5, hrow5, fun _ h => (by cases h), (by show b' ≠ w.heap.size + 3; omega), fun h => absurd rfl h⟩ (fun b hb => by
      rcases hb with h | h | ⟨h, _⟩
      · omega
      · have h2 : b = b' := h
        omega
      · exact absurd rfl h)
    refine ⟨.inr ⟨rfl, rfl⟩, _, _, 0, ((w.heap.size + 3, [x]) : BT (Int × Int) 0), ⟨hfam, hB5.at_, ?_, if_pos rfl, by simp [ids], ?_, by simp [toL, Srt], by simp [toL], hmx, hmx2, hmh, hmh2⟩, hB5, rfl, by simp [its], hc05.mono (fun _ _ _ h => .inr h), ?_⟩
    · intro b hm
      rintro (h | h)
      · exact h
      · have := h.1; have := hB.at_.lt hm; omega
    · show [x].length ≤ 63
      simp
    · rintro b (h | h)
      · exact .inl h
      · exact .inr h.1
  · skip
    refine wpHards_step (fun K hK => ?_)
    go_simp
    refine hK _ _ ⟨?_, ?_, ?_⟩ ?_
    iterate 3 go_keep
    clear hK K
    refine wpHards_step (fun K hK => ?_)
    go_simp
    refine hK _ _ ⟨?_, ?_, ?_⟩ ?_
    iterate 3 go_keep
    clear hK K
    refine wpHards_step (fun K hK => ?_)
    refine wp_append_row _ _ _ (by rfl) 53 i0 _ 1 8 Try.underlying90 hi0 hz0 hz1 hz2 rfl (w1.heap.size + 1) 0 0 0 (by rfl) [] (RowAt.of_block (c := #[]) (by rw [hd_drew]; exact ha_at _ _ (by simp)) _ _ (by simp) (by simp) (by simp)) (by rfl) ⟨w1.heap.size, 0, none⟩ 1 _ (by rfl) [.int .i64 x.1] (by rfl) (World.news_of_block (cs := #[.int .i64 x.1]) (t := 53) (fr := (0, 0)) (by rw [hd_drew, ha_lt _ _ (by simp)]; exact ha_at _ _ rfl)) (by simp [Value.oneCell']) (by unfold maxLen; omega) (by omega) ?_
    intro b' o1 cap' w4 happ
    refine hK _ _ ⟨((((Chg.refl (fun _ _ => False) w1).alloc _).alloc _).drew.trans (happ.chg.mono (fun _ o _ h => by have := h.2; omega))).cell (fun h => h) d2, ((((Chg.refl (fun _ _ => False) w1).alloc _).alloc _).drew.trans (happ.chg.mono (fun _ o _ h => by have := h.2; omega))).cell (fun h => h) q0, ((((Chg.refl (fun _ _ => False) w1).alloc _).alloc _).drew.trans (happ.chg.mono (fun _ o _ h => by have := h.2; omega))).cell (fun h => h) q1⟩ ?_
    clear hK K
    have hc4 : Chg (fun _ _ => False) w1 w4 := (((Chg.refl (fun _ _ => False) w1).alloc _).alloc _).drew.trans (happ.chg.mono (fun _ o _ h => by have := h.2; omega))
    have hrow := happ.row
    have hroom := happ.room
    have hpl : w1.heap.size ≤ b' := by
      rcases happ.place with h | h
      · have := h.1; omega
      · have h2 := h.1
        simp at h2
        omega
    simp only [wpHards, List.drop_succ_cons, List.drop_zero, Act.put, List.setIfInBounds_toArray, List.set_cons_zero, List.set_cons_succ]
    have hB4 := hB1.chg hc4 (fun _ _ _ h => h)
    have hb4 : w4.heap[w.heap.size + 3]? = some (.cells #[.int .u64 0, .int .i64 0, .slice none 0 0, .pointer none] 93 (0, 0)) := by rw [hc4.block hsz1 (fun _ h => h)]; exact hb2
    clear d2 q0 q1 z22 z21 q22
    have d2 : w4.cell? ⟨t, 2, none⟩ = some (.pointer (some ⟨w.heap.size + 3, 0, none⟩)) := hB4.c2
    have d3 := hB4.c3
    have d4 := hB4.at_.c4
    have y3 := hB4.fz 3
    have z22 := frozen_of_block hb4 2
    have z21 := frozen_of_block hb4 1
    have q22 := cell_of_block hb4 2
    have q21 := cell_of_block hb4 1
    simp only [List.getElem?_toArray, List.getElem?_cons_zero, List.getElem?_cons_succ] at q22 q21
    have hb4' := Lib.hid hb4
    clear happ hb4
    have pz := fun (u v : Value) => (((hB4.chg ((Chg.refl (fun b _ => b = w.heap.size + 3) w4).setCell (a := ⟨w.heap.size + 3, 2, none⟩) (.inl rfl) u) (fun b _ hm h => by have := hB.at_.lt hm; omega)).chg ((Chg.refl (fun b _ => b = w.heap.size + 3) _).setCell (a := ⟨w.heap.size + 3, 1, none⟩) (.inl rfl) v) (fun b _ hm h => by have := hB.at_.lt hm; omega)).setCnt 1).at_.pz
    go_wp2_with fail
    refine bodyPost_ret (v := .tuple #[.agg #[], .bool false]) (by simp [results, Try.results39, go_sem]) rfl ?_
    clear pz
    generalize hwf : World.setCell _ _ _ = wf
    have hB5 : MapBlk 0 31 63 wf t (some (w.heap.size + 3)) 1 := by
      rw [← hwf]
      exact ((hB4.chg ((Chg.refl (fun b _ => b = w.heap.size + 3) w4).setCell (.inl rfl) _) (fun b _ hm h => by have := hB.at_.lt hm; omega)).chg ((Chg.refl (fun b _ => b = w.heap.size + 3) _).setCell (.inl rfl) _) (fun b _ hm h => by have := hB.at_.lt hm; omega)).setCnt 1
    have hc5 : Chg (fun b _ => b = w.heap.size + 3 ∨ b = t) w4 wf := by
      rw [← hwf]
      repeat (first | refine Chg.drew ?_ | refine Chg.setCell ?_ (.inl (by simp)) _ | exact Chg.refl _ _)
    have hd5 : wf.heap[w.heap.size + 3]? = some (.cells #[.int .u64 0, .int .i64 1, .slice (some ⟨b', o1, none⟩) 1 cap', .pointer none] 93 (0, 0)) := by
      rw [← hwf, hs_ne _ (by omega), hs_same (by rw [hs_same hb4'.out])]
      rfl
    have hrow5 : RowAt wf 53 b' o1 (cap' * 1) [.int .i64 x.1] := hrow.chg hc5 (fun j _ h => by omega)
    clear hwf
    have hc05 : Chg (fun b _ => b = t) w wf := (hc1.trans' hc4 (fun _ _ _ h => h) (fun _ _ _ h => h.elim)).trans' hc5 (fun _ _ _ h => h) (fun b o hb h => by omega)
    have hfam := (Fam.empty (parM 0) w).add hc05 (fun _ _ h => h.elim) (m := w.heap.size + 3) (s := ⟨1, [x], none⟩) (l := ⟨b', o1, cap', 0, 0, 0, 0⟩) ⟨hd5, hrow5, fun _ h => (by cases h), (by show b' ≠ w.heap.size + 3; omega), fun h => absurd rfl h⟩ (fun b hb => by
      rcases hb with h | h | ⟨h, _⟩
      · omega
      · have h2 : b = b' := h
        omega
      · exact absurd rfl h)
    refine ⟨.inr ⟨rfl, rfl⟩, _, _, 0, ((w.heap.size + 3, [x]) : BT (Int × Int) 0), ⟨hfam, hB5.at_, ?_, if_pos rfl, by simp [ids], ?_, by simp [toL, Srt], by simp [toL], hmx, hmx2, hmh, hmh2⟩, hB5, rfl, by simp [its], hc05.mono (fun _ _ _ h => .inr h), ?_⟩
    · intro b hm
      rintro (h | h)
      · exact h
      · have := h.1; have := hB.at_.lt hm; omega
    · show [x].length ≤ 63
      simp
    · rintro b (h | h)
      · exact .inl h
      · exact .inr h.1
end Go.Proofs.Ytpgaedmhgchgeaa

namespace Go.Proofs.Ytpgaedmhgchgeaa
set_option linter.unusedSimpArgs false
set_option linter.unusedVariables false
open Go.RowKit

theorem full_tree {k : Int} {mn mx : Nat} {w w3 wa : World} {F F3 : Nat → Prop} {H : Nat → Option (NodeR (Int × Int))} {t h m nb : Nat} {T : BT (Int × Int) h} {x x2 : Int × Int} {l : Lay} (hI : TreeIn k mn mx w F H t h T) (hlenT : (its T).length = mx)
    (hF3 : Fam (parM k) w3 F3 (upd (upd H (rid T) (recOf h (cutL T (mx / 2)))) m (recOf h (cutR T m (mx / 2))))) (hx2 : (its T)[mx / 2]? = some x2) (hm : w.heap.size ≤ m) (hw : w.heap.size ≤ w3.heap.size) (htF3 : ∀ b, MOwn k t b → ¬ F3 b) (tlt : t < w.heap.size)
    (hc : Chg (fun b _ => b = t ∨ w3.heap.size ≤ b) w3 wa) (hB : MapBlk k mn mx wa t (some nb) (toL h T).length) (hnb : w3.heap.size ≤ nb)
    (hn : NodeAt (parM k) wa nb ⟨(toL h T).length, [x2], some [some (rid T), some m]⟩ l) (hl : ∀ b, Blk nb (⟨(toL h T).length, [x2], some [some (rid T), some m]⟩ : NodeR (Int × Int)) l b → w3.heap.size ≤ b) :
    ∃ H5, ∃ T2 : BT (Int × Int) (h + 1), TreeIn k mn mx wa (grow F3 w3 wa) H5 t (h + 1) T2 ∧ MapBlk k mn mx wa t (some (rid T2)) (toL (h + 1) T2).length ∧ toL (h + 1) T2 = toL h T ∧ Avail mx (h + 1) T2 x ∧ 1 ≤ (its T2).length := by
  have hm3 := hI.m3
  have hlt : ∀ a ∈ ids h T, a < w.heap.size := fun a ha => hI.isT.lt hI.fam ha
  have hrT := hlt _ (rid_mem T)
  have hml : m < w3.heap.size := hF3.lt (hF3.mem (n := m) (if_pos rfl))
  obtain ⟨g1, g2, g3⟩ := ids_cut (t := T) (m := m) (i := mx / 2) hI.nd hlt hm
  obtain ⟨s1, s2⟩ := sh_cut (i := mx / 2) m hI.sh (by omega)
  have l1 : (its (cutL T (mx / 2))).length = mx / 2 := by rw [its_cutL, List.length_take]; omega
  have l2 : (its (cutR T m (mx / 2))).length = mx - (mx / 2 + 1) := by rw [its_cutR, List.length_drop]; omega
  have htoL : toL (h + 1) ((nb, [x2], [cutL T (mx / 2), cutR T m (mx / 2)]) : BT (Int × Int) (h + 1)) = toL h T := by
    rw [toL_cut m hI.sh hx2]
    show inter [x2] [toL h (cutL T (mx / 2)), toL h (cutR T m (mx / 2))] = _
    simp [inter]
  have hfam := hF3.add hc (fun b o hb h => by
    rcases h with rfl | h
    · exact htF3 _ MOwn.self hb
    · have := hF3.lt hb; omega) hn hl
  have tout : ∀ b, MOwn k t b → ¬ grow F3 w3 wa b := by
    intro b hm
    rintro (h | h)
    · exact htF3 b hm h
    · have := h.1; have := hI.map.lt hm; omega
  obtain ⟨H5, hH5⟩ : ∃ H5, H5 = upd (upd (upd H (rid T) (recOf h (cutL T (mx / 2)))) m (recOf h (cutR T m (mx / 2)))) nb (⟨(toL h T).length, [x2], some [some (rid T), some m]⟩ : NodeR (Int × Int)) := ⟨_, rfl⟩
  rw [← hH5] at hfam
  obtain ⟨tc1, tc2⟩ := isT_cut (H5 := H5) (m := m) (i := mx / 2) hI.isT hI.nd
    (by rw [hH5, updNe (by omega), updNe (by omega)]; exact if_pos rfl) (by rw [hH5, updNe (by omega)]; exact if_pos rfl)
    (fun a ha hne => by have := hlt a ha; rw [hH5, updNe (by omega), updNe (by omega), updNe hne])
  refine ⟨H5, (nb, [x2], [cutL T (mx / 2), cutR T m (mx / 2)]), ⟨hfam, hB.at_, tout, ⟨?_, ?_⟩, ?_, ⟨?_, rfl, ?_⟩, by rw [htoL]; exact hI.srt, by rw [htoL]; exact hI.big, hm3, hI.m1000, hI.mh, hI.mh2⟩, by rw [htoL]; exact hB, htoL, .room (by show 1 < mx; omega), Nat.le_refl _⟩
  · show H5 nb = some (⟨((toL (h + 1) ((nb, [x2], [cutL T (mx / 2), cutR T m (mx / 2)]) : BT (Int × Int) (h + 1))).length : Nat), [x2], some [some (rid (cutL T (mx / 2))), some (rid (cutR T m (mx / 2)))]⟩ : NodeR (Int × Int))
    rw [htoL, rid_cutL, rid_cutR, hH5]
    exact if_pos rfl
  · intro c hc2
    change c ∈ [cutL T (mx / 2), cutR T m (mx / 2)] at hc2
    simp only [List.mem_cons, List.not_mem_nil, or_false] at hc2
    rcases hc2 with rfl | rfl
    · exact tc1
    · exact tc2
  · show (nb :: [cutL T (mx / 2), cutR T m (mx / 2)].flatMap (ids h)).Nodup
    simp only [List.flatMap_cons, List.flatMap_nil, List.append_nil]
    refine List.nodup_cons.2 ⟨fun hmem => ?_, g1⟩
    rcases List.mem_append.1 hmem with h1 | h1
    · have := hlt _ (g2 _ h1); omega
    · rcases g3 _ h1 with h2 | h2
      · have := hlt _ h2; omega
      · omega
  · show 1 ≤ mx
    omega
  · intro c hc2
    change c ∈ [cutL T (mx / 2), cutR T m (mx / 2)] at hc2
    simp only [List.mem_cons, List.not_mem_nil, or_false] at hc2
    rcases hc2 with rfl | rfl
    · exact ⟨by rw [l1]; exact hI.mh, s1⟩
    · exact ⟨by rw [l2]; exact hI.mh2, s2⟩
end Go.Proofs.Ytpgaedmhgchgeaa
