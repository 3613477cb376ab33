/- Set of a tree; the order copied, the function less made of it; grow. -/
import Derived.Test.YtojplcbkiogcpaaWp
import Derived.Test.YtojplcbkiogcpaaSb
import Derived.Test.YtojplcbkiogcpaaSc
import Derived.Laws.EntriesVeiled
namespace Go.Proofs.Ytojplcbkiogcpaa
set_option linter.unusedSimpArgs false
set_option linter.unusedVariables false
open Go.RowKit
variable {ord : List Int} {k : Kc ord}

theorem blk2 {w : World} {b : Nat} {T : TypeId} {fr : Nat × Nat} {u0 u1 : Value} (h : w.heap[b]? = some (.cells #[u0, u1] T fr)) (v0 v1 : Value) : ((w.setCell ⟨b, 0, none⟩ v0).setCell ⟨b, 1, none⟩ v1).heap[b]? = some (.cells #[v0, v1] T fr) := by
  rw [hs_same (hs_same h _)]; rfl

set_option maxHeartbeats 1000000 in
theorem SetHint_any {mn mx : Nat} {w : World} {F : Nat → Prop} {t : Nat} {l : List (It ord)} (h : MapIn k mn mx w F t l) (x : It ord) (hl : l.length < 100000000000000) (hmn : 1 ≤ mn) (hmx : 3 ≤ mx) (hmx2 : mx ≤ 1000) (hmh : mn ≤ mx / 2) (hmh2 : mn ≤ mx - (mx / 2 + 1)) :
    Calls Try.prog 98 #[.pointer (some ⟨t, 0, none⟩), aggM x, .pointer none] w (SetPost k mn mx w F t l x) := by
  have hmlt := fun b (hb : MOwn k t b) => h.own hb
  have hflt := fun b (hb : F b) => h.famLt hb
  have hcall := fun w1 (c : Chg (fun _ _ => False) w w1) => set_any (h.chg c) x hl hmn hmx hmx2 hmh hmh2
  have HC := Lib.hid hcall
  clear hcall
  unfold aggM at HC ⊢
  go_enter Try.func98, Try.ntmps98
  go_wp2_with fail
  refine name_calls (fun w1 => Chg (fun _ _ => False) w w1 ∧ w1.heap[w.heap.size + 1]? = some (.cells #[.int .i64 0, .int .i64 0] 26 (0, 0))) ⟨((Chg.refl _ _).alloc _).alloc _, ha_at _ _ (by simp)⟩ ?_
  rintro w1 ⟨hc1, hbp⟩
  have hlp := heap_lt hbp
  refine (HC.out w1 hc1).mono ?_
  rintro e w2 ⟨hret, F', hM2, hc2, hF2⟩
  have htl := hmlt t MOwn.self
  have hbp2 : w2.heap[w.heap.size + 1]? = some (.cells #[.int .i64 0, .int .i64 0] 26 (0, 0)) := by
    rw [hc2.block hlp (fun _ h => by
      rcases h with h | h
      · have := hflt _ h; omega
      · omega)]
    exact hbp
  have p0 := cell_of_block hbp2 0
  have p1 := cell_of_block hbp2 1
  have pf0 := frozen_of_block hbp2 0
  have pf1 := frozen_of_block hbp2 1
  simp only [List.getElem?_toArray, List.getElem?_cons_zero, List.getElem?_cons_succ] at p0 p1
  have hsz1 := hc1.size
  have hres : ∀ wl, Chg (fun b _ => b = w.heap.size + 1) w2 wl → SetPost k mn mx w F t l x e wl := by
    intro wl hcl
    refine ⟨hret, F', hM2.chgA hcl (fun b _ hb e => ?_) (fun b _ hb e => by have := hmlt b hb; omega), ?_, fun b hb => ?_⟩
    · rcases hF2 b hb with h | h
      · have := hflt _ h; omega
      · omega
    · refine (hc1.trans' hc2 (B := fun b _ => F b ∨ b = t) (fun _ _ _ h => h.elim) (fun _ _ _ h => h)).trans' hcl (fun _ _ _ h => h) (fun b o hb e => by omega)
    · rcases hF2 b hb with h | h
      · exact .inl h
      · exact .inr (by omega)
  have HRES := Lib.hid hres
  have HBP2 := Lib.hid hbp2
  clear hres hbp hbp2 HC
  have hret2 := hret
  rcases hret2 with ⟨y, _, rfl⟩ | ⟨_, rfl⟩
  · go_wp2_with fail
    refine name_prop (fun wl => Chg (fun b _ => b = w.heap.size + 1) w2 wl ∧ wl.heap[w.heap.size + 1]? = some (.cells #[.int .i64 y.1, .int .i64 y.2] 26 (0, 0))) ⟨?_, ?_⟩ ?_
    · repeat (first | refine Chg.drew ?_ | refine Chg.drewN ?_ _ | refine Chg.setCell ?_ (.inl rfl) _ | exact Chg.refl _ _)
    · exact blk2 (blk2 HBP2.out _ _) _ _
    clear p0 p1 pf0 pf1
    rintro wl ⟨hcl, hbl⟩
    have p0 := cell_of_block hbl 0
    have p1 := cell_of_block hbl 1
    simp only [List.getElem?_toArray, List.getElem?_cons_zero, List.getElem?_cons_succ] at p0 p1
    refine bodyPost_ret (v := .tuple #[.agg #[.int .i64 y.1, .int .i64 y.2], .bool true]) (by simp [results, Try.results98, go_sem, p0, p1]) rfl ?_
    exact HRES.out _ hcl
  · go_wp2_with fail
    refine name_prop (fun wl => Chg (fun b _ => b = w.heap.size + 1) w2 wl ∧ wl.heap[w.heap.size + 1]? = some (.cells #[.int .i64 0, .int .i64 0] 26 (0, 0))) ⟨?_, ?_⟩ ?_
    · repeat (first | refine Chg.drew ?_ | refine Chg.drewN ?_ _ | refine Chg.setCell ?_ (.inl rfl) _ | exact Chg.refl _ _)
    · exact blk2 (blk2 HBP2.out _ _) _ _
    clear p0 p1 pf0 pf1
    rintro wl ⟨hcl, hbl⟩
    have p0 := cell_of_block hbl 0
    have p1 := cell_of_block hbl 1
    simp only [List.getElem?_toArray, List.getElem?_cons_zero, List.getElem?_cons_succ] at p0 p1
    refine bodyPost_ret (v := .tuple #[.agg #[.int .i64 0, .int .i64 0], .bool false]) (by simp [results, Try.results98, go_sem, p0, p1]) rfl ?_
    exact HRES.out _ hcl
set_option maxHeartbeats 1000000 in
theorem Set_any {mn mx : Nat} {w : World} {F : Nat → Prop} {t : Nat} {l : List (It ord)} (h : MapIn k mn mx w F t l) (x : It ord) (hl : l.length < 100000000000000) (hmn : 1 ≤ mn) (hmx : 3 ≤ mx) (hmx2 : mx ≤ 1000) (hmh : mn ≤ mx / 2) (hmh2 : mn ≤ mx - (mx / 2 + 1)) :
    Calls Try.prog 64 #[.pointer (some ⟨t, 0, none⟩), aggM x] w (SetPost k mn mx w F t l x) := by
  have hmlt := fun b (hb : MOwn k t b) => h.own hb
  have hflt := fun b (hb : F b) => h.famLt hb
  have hcall := fun w1 (c : Chg (fun _ _ => False) w w1) => SetHint_any (h.chg c) x hl hmn hmx hmx2 hmh hmh2
  have HC := Lib.hid hcall
  clear hcall
  unfold aggM at HC ⊢
  go_enter Try.func64, Try.ntmps64
  go_wp2_with fail
  refine name_calls (fun w1 => Chg (fun _ _ => False) w w1 ∧ w1.heap[w.heap.size + 1]? = some (.cells #[.int .i64 0, .int .i64 0] 26 (0, 0))) ⟨((Chg.refl _ _).alloc _).alloc _, ha_at _ _ (by simp)⟩ ?_
  rintro w1 ⟨hc1, hbp⟩
  have hlp := heap_lt hbp
  refine (HC.out w1 hc1).mono ?_
  rintro e w2 ⟨hret, F', hM2, hc2, hF2⟩
  have htl := hmlt t MOwn.self
  have hbp2 : w2.heap[w.heap.size + 1]? = some (.cells #[.int .i64 0, .int .i64 0] 26 (0, 0)) := by
    rw [hc2.block hlp (fun _ h => by
      rcases h with h | h
      · have := hflt _ h; omega
      · omega)]
    exact hbp
  have p0 := cell_of_block hbp2 0
  have p1 := cell_of_block hbp2 1
  have pf0 := frozen_of_block hbp2 0
  have pf1 := frozen_of_block hbp2 1
  simp only [List.getElem?_toArray, List.getElem?_cons_zero, List.getElem?_cons_succ] at p0 p1
  have hsz1 := hc1.size
  have hres : ∀ wl, Chg (fun b _ => b = w.heap.size + 1) w2 wl → SetPost k mn mx w F t l x e wl := by
    intro wl hcl
    refine ⟨hret, F', hM2.chgA hcl (fun b _ hb e => ?_) (fun b _ hb e => by have := hmlt b hb; omega), ?_, fun b hb => ?_⟩
    · rcases hF2 b hb with h | h
      · have := hflt _ h; omega
      · omega
    · refine (hc1.trans' hc2 (B := fun b _ => F b ∨ b = t) (fun _ _ _ h => h.elim) (fun _ _ _ h => h)).trans' hcl (fun _ _ _ h => h) (fun b o hb e => by omega)
    · rcases hF2 b hb with h | h
      · exact .inl h
      · exact .inr (by omega)
  have HRES := Lib.hid hres
  have HBP2 := Lib.hid hbp2
  clear hres hbp hbp2 HC
  have hret2 := hret
  rcases hret2 with ⟨y, _, rfl⟩ | ⟨_, rfl⟩
  · go_wp2_with fail
    refine name_prop (fun wl => Chg (fun b _ => b = w.heap.size + 1) w2 wl ∧ wl.heap[w.heap.size + 1]? = some (.cells #[.int .i64 y.1, .int .i64 y.2] 26 (0, 0))) ⟨?_, ?_⟩ ?_
    · repeat (first | refine Chg.drew ?_ | refine Chg.drewN ?_ _ | refine Chg.setCell ?_ (.inl rfl) _ | exact Chg.refl _ _)
    · exact blk2 HBP2.out _ _
    clear p0 p1 pf0 pf1
    rintro wl ⟨hcl, hbl⟩
    have p0 := cell_of_block hbl 0
    have p1 := cell_of_block hbl 1
    simp only [List.getElem?_toArray, List.getElem?_cons_zero, List.getElem?_cons_succ] at p0 p1
    refine bodyPost_ret (v := .tuple #[.agg #[.int .i64 y.1, .int .i64 y.2], .bool true]) (by simp [results, Try.results64, go_sem, p0, p1]) rfl ?_
    exact HRES.out _ hcl
  · go_wp2_with fail
    refine name_prop (fun wl => Chg (fun b _ => b = w.heap.size + 1) w2 wl ∧ wl.heap[w.heap.size + 1]? = some (.cells #[.int .i64 0, .int .i64 0] 26 (0, 0))) ⟨?_, ?_⟩ ?_
    · repeat (first | refine Chg.drew ?_ | refine Chg.drewN ?_ _ | refine Chg.setCell ?_ (.inl rfl) _ | exact Chg.refl _ _)
    · exact blk2 HBP2.out _ _
    clear p0 p1 pf0 pf1
    rintro wl ⟨hcl, hbl⟩
    have p0 := cell_of_block hbl 0
    have p1 := cell_of_block hbl 1
    simp only [List.getElem?_toArray, List.getElem?_cons_zero, List.getElem?_cons_succ] at p0 p1
    refine bodyPost_ret (v := .tuple #[.agg #[.int .i64 0, .int .i64 0], .bool false]) (by simp [results, Try.results64, go_sem, p0, p1]) rfl ?_
    exact HRES.out _ hcl
end Go.Proofs.Ytojplcbkiogcpaa
