/- Set of the map: its root takes the item. -/
import Derived.Test.YtkgcjgedpefhjaaWl
namespace Go.Proofs.Ytkgcjgedpefhjaa
open Go.RowKit

/-- The map's own block. -/
def MapBlk (k : Int) (mn mx : Nat) (w : World) (t : Nat) (root : Option Nat) (cnt : Int) : Prop :=
  w.heap[t]? = some (.cells #[.int .u64 k, .pointer none, kidV root, .int .i64 cnt, .int .i64 0, .int .i64 0, .int .i64 mn, .int .i64 mx, .bool false, .bool false] 96 (0, 0))

theorem MapBlk.at_ {k : Int} {mn mx t : Nat} {w : World} {root : Option Nat} {cnt : Int} (h : MapBlk k mn mx w t root cnt) : MapAt k mn mx w t :=
  ⟨by rw [cell_of_block h]; rfl, by rw [cell_of_block h]; rfl, by rw [cell_of_block h]; rfl, by rw [cell_of_block h]; rfl, by rw [cell_of_block h]; rfl⟩
theorem MapBlk.c2 {k : Int} {mn mx t : Nat} {w : World} {root : Option Nat} {cnt : Int} (h : MapBlk k mn mx w t root cnt) : w.cell? ⟨t, 2, none⟩ = some (kidV root) := by rw [cell_of_block h]; rfl
theorem MapBlk.c3 {k : Int} {mn mx t : Nat} {w : World} {root : Option Nat} {cnt : Int} (h : MapBlk k mn mx w t root cnt) : w.cell? ⟨t, 3, none⟩ = some (.int .i64 cnt) := by rw [cell_of_block h]; rfl
theorem MapBlk.fz {k : Int} {mn mx t : Nat} {w : World} {root : Option Nat} {cnt : Int} (h : MapBlk k mn mx w t root cnt) (o : Nat) : w.frozen? ⟨t, o, none⟩ = false := frozen_of_block h o
theorem MapBlk.chg {A : Nat → Nat → Prop} {k : Int} {mn mx t : Nat} {w w' : World} {root : Option Nat} {cnt : Int} (h : MapBlk k mn mx w t root cnt) (c : Chg A w w') (hA : ∀ o, ¬ A t o) : MapBlk k mn mx w' t root cnt := by
  unfold MapBlk; rw [c.block (heap_lt h) hA]; exact h
theorem MapBlk.lt {k : Int} {mn mx t : Nat} {w : World} {root : Option Nat} {cnt : Int} (h : MapBlk k mn mx w t root cnt) : t < w.heap.size := heap_lt h

theorem MapBlk.setCnt {k : Int} {mn mx t : Nat} {w : World} {root : Option Nat} {cnt : Int} (h : MapBlk k mn mx w t root cnt) (c : Int) : MapBlk k mn mx (w.setCell ⟨t, 3, none⟩ (.int .i64 c)) t root c := by
  unfold MapBlk; rw [hs_same h]; rfl
theorem MapBlk.setRoot {k : Int} {mn mx t : Nat} {w : World} {root : Option Nat} {cnt : Int} (h : MapBlk k mn mx w t root cnt) (n : Option Nat) : MapBlk k mn mx (w.setCell ⟨t, 2, none⟩ (kidV n)) t n cnt := by
  unfold MapBlk; rw [hs_same h]; rfl

/-- What Set returns. -/
def SetRet (l : List (Int × Int)) (x : Int × Int) (e : Ending) : Prop :=
  (∃ y, fndL ltM x l = some y ∧ e = .returned (.tuple #[.int .i64 y.2, .bool true])) ∨ (fndL ltM x l = none ∧ e = .returned (.tuple #[.int .i64 0, .bool false]))

def SetTop (k : Int) (mn mx : Nat) (w : World) (F : Nat → Prop) (t : Nat) (l : List (Int × Int)) (x : Int × Int) (e : Ending) (w' : World) : Prop :=
  SetRet l x e ∧ ∃ F' H' h T', TreeIn k mn mx w' F' H' t h T' ∧ MapBlk k mn mx w' t (some (rid T')) (toL h T').length ∧ toL h T' = insL ltM x l ∧ 1 ≤ (its T').length ∧ Chg (fun b _ => F b ∨ b = t) w w' ∧ (∀ b, F' b → F b ∨ w.heap.size ≤ b)

set_option maxRecDepth 100000 in
set_option maxHeartbeats 4000000 in
theorem set_avail {k : Int} {mn mx : Nat} {w : World} {F : Nat → Prop} {H : Nat → Option (NodeR (Int × Int))} {t h : Nat} {T : BT (Int × Int) h} (hI : TreeIn k mn mx w F H t h T) (hB : MapBlk k mn mx w t (some (rid T)) (toL h T).length)
    (x : Int × Int) (ha : Avail mx h T x) (h1 : 1 ≤ (its T).length) (hbig : (toL h T).length < 100000000000000) :
    Calls Try.prog 69 #[.pointer (some ⟨t, 0, none⟩), .int .i64 x.1, .int .i64 x.2] w (SetTop k mn mx w F t (toL h T) x) := by
  have c2 : w.cell? ⟨t, 2, none⟩ = some (.pointer (some ⟨rid T, 0, none⟩)) := hB.c2
  have tlt := hB.lt
  go_enter Try.func69, Try.ntmps69
  go_wp2_with fail
  refine name_world (fun w1 => Chg (fun _ _ => False) w w1 ∧ w1.heap[w.heap.size]? = some (.cells #[.int .i64 x.2, .int .i64 x.1] 94 (0, 0))) ⟨(Chg.refl _ _).alloc _, ha_at _ _ rfl⟩ ?_
  rintro w1 ⟨hc1, hb1⟩
  have q0 := cell_of_block hb1 0
  have q1 := cell_of_block hb1 1
  simp only [List.getElem?_toArray, List.getElem?_cons_zero, List.getElem?_cons_succ] at q0 q1
  have hI1 : TreeIn k mn mx w1 F H t h T := ⟨hI.fam.chg hc1 (fun _ _ _ h => h), hI.map.chg hc1 (fun _ h => h), hI.out, hI.isT, hI.nd, hI.sh, hI.srt, hI.big, hI.m3, hI.m1000, hI.mh, hI.mh2⟩
  have hB1 := hB.chg hc1 (fun _ h => h)
  refine wp_region_call (fun w' => w'.cell? ⟨w.heap.size, 0, none⟩ = some (.int .i64 x.2) ∧ w'.cell? ⟨w.heap.size, 1, none⟩ = some (.int .i64 x.1))
    5 [0, 1, 2, 3, 4] _ [6, 7, 8, 9, 10, 11, 12] (by kernel_rfl) (by kernel_rfl) (fun _ _ _ _ _ h => h) rfl rfl rfl ⟨q0, q1⟩ ?_
  simp only [pickOps, List.filterMap_cons, List.filterMap_nil, List.getElem?_cons_zero, List.getElem?_cons_succ]
  iterate 5
    refine wpSoft_step ?_ rfl ?_ ?_
    rotate_left
    · intro w' hS
      obtain ⟨s0, s1⟩ := hS
      go_simp
      try with_reducible rfl
    simp only [Act.put, List.setIfInBounds_toArray, List.set_cons_zero, List.set_cons_succ]
  refine wpSoft_nil ?_
  refine wp_hide (fun K hK => ?_)
  go_simp
  go_at_call 95
  have hI2 : TreeIn k mn mx w1.drew F H t h T := ⟨hI1.fam.chg (Chg.refl (fun _ _ => False) _).drew (fun _ _ _ h => h), hI1.map.chg (Chg.refl (fun _ _ => False) _).drew (fun _ h => h), hI.out, hI.isT, hI.nd, hI.sh, hI.srt, hI.big, hI.m3, hI.m1000, hI.mh, hI.mh2⟩
  refine (setSpec h k mn mx t ⟨t, 2, none⟩ x w1.drew F H T hI2 hB1.c2).mono ?_
  rintro e w2 ⟨H', pr, rp, sp, rfl, hF2, hc2, hz⟩
  rcases hz with ⟨_, _, hno⟩ | ⟨rfl, _, T', hi⟩
  · exact absurd ha hno
  refine hK _ _ ?_
  clear hK K
  iterate 7
    refine wpSoft_step ?_ rfl ?_ ?_
    rotate_left
    · intro w' _
      go_simp
      try with_reducible rfl
    simp only [Act.put, List.setIfInBounds_toArray, List.set_cons_zero, List.set_cons_succ]
  refine wpSoft_nil ?_
  replace hc2 : Chg (fun b _ => F b) w1 w2 := ((Chg.refl _ _).drew).trans hc2
  have hB2 := hB1.chg hc2 (fun _ h => hI.out h)
  have e3 := hB2.c3
  have e4 := hB2.at_.c4
  have z3 := hB2.fz 3
  have hsz1 := hc1.size
  have hsz2 := hc2.size
  have hw02 : Chg (fun b _ => F b ∨ b = t) w w2 := (hc1.mono (fun _ _ _ h => h.elim)).trans (hc2.mono (fun _ _ _ h => .inl h))
  have hnew : ∀ b, grow F w1.drew w2 b → F b ∨ w.heap.size ≤ b := by
    rintro b (h | h)
    · exact .inl h
    · have := h.1; have : w1.drew.heap.size = w1.heap.size := rfl; exact .inr (by omega)
  have tout : ¬ grow F w1.drew w2 t := by
    rintro (h | h)
    · exact hI.out h
    · have := h.1; have : w1.drew.heap.size = w1.heap.size := rfl; omega
  have hlen := insL_len (lt := ltM) (x := x) (l := toL h T)
  have s1 : IntKind.i64.wrap (((toL h T).length : Nat) + 1) = ((toL h T).length : Nat) + 1 := IntWalk.i64_in _ (by omega)
  have hsrt' : Srt ltM (toL h T') := by rw [hi.list]; exact insL_srt swoM x hI.srt
  rcases hi.found with ⟨y, f1, rfl, rfl⟩ | ⟨f1, rfl⟩
  · rw [f1] at hlen
    simp only [Option.isSome_some, if_true, Nat.add_zero] at hlen
    go_wp2_with fail
    go_ret2
    refine ⟨.inl ⟨y, f1, rfl⟩, _, H', h, T', ⟨hF2, hB2.at_, tout, hi.isT, hi.nd, hi.sh, hsrt', by rw [hi.list, hlen]; exact hI.big, hI.m3, hI.m1000, hI.mh, hI.mh2⟩, ?_, hi.list, Nat.le_trans h1 hi.len, hw02, hnew⟩
    rw [hi.rid', hi.list, hlen]; exact hB2
  · rw [f1] at hlen
    simp only [Option.isSome_none, if_false, Bool.false_eq_true] at hlen
    go_wp2_with fail
    go_ret2
    have hc3 : Chg (fun b _ => b = t) w2 (w2.setCell ⟨t, 3, none⟩ (.int .i64 (((toL h T).length : Nat) + 1))) := (Chg.refl _ _).setCell (.inl rfl) _
    have hB3 := hB2.setCnt (((toL h T).length : Nat) + 1)
    refine ⟨.inr ⟨f1, rfl⟩, grow F w1.drew w2, H', h, T', ⟨hF2.chg hc3 (fun b o hb e => tout (e ▸ hb)), hB3.at_, tout, hi.isT, hi.nd, hi.sh, hsrt', by rw [hi.list, hlen]; omega, hI.m3, hI.m1000, hI.mh, hI.mh2⟩, ?_, hi.list, Nat.le_trans h1 hi.len, hw02.trans (hc3.mono (fun _ _ _ h => .inr h)), hnew⟩
    rw [hi.rid', hi.list, hlen]; exact hB3
end Go.Proofs.Ytkgcjgedpefhjaa
