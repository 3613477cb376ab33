/- The tree's own block. -/
import Derived.BigQuiet
import Derived.Test.YtcabnhpnkaielaaA1
import Derived.Test.YtcabnhpnkaielaaA2
namespace Go.Proofs.Ytcabnhpnkaielaa
set_option linter.unusedSimpArgs false
set_option linter.unusedVariables false
open Go.RowKit
variable {ord : List Int} {k : Kc ord}

/-- The world gets a name; of it only R is known. -/
theorem name_world {P : Program} {c : Code} {Q : Exit → Act → World → Prop} {a : Act} {w : World} (R : World → Prop) (hR : R w) (h : ∀ w1, R w1 → c.wp P Q a w1) : c.wp P Q a w := h w hR

theorem name_prop {Q : World → Prop} {w : World} (R : World → Prop) (hR : R w) (h : ∀ w1, R w1 → Q w1) : Q w := h w hR

theorem name_calls {P : Program} {f : FuncId} {args : Array Value} {Q : Ending → World → Prop} {w : World} (R : World → Prop) (hR : R w) (h : ∀ w1, R w1 → Calls P f args w1 Q) : Calls P f args w Q := h w hR

def encM (x : It ord) : List Value := [.iface 26 (.agg #[.int .i64 x.1, .int .i64 x.2])]

def aggM (x : It ord) : Value := .iface 26 (.agg #[.int .i64 x.1, .int .i64 x.2])

def parM (k : Kc ord) : Par (It ord) where
  es := 1
  enc := encM
  TN := 117
  TI := 20
  TS := 113
  TP := 110
  k := k.iso
  epos := by omega
  elen := fun _ => rfl
  eone := by intro x v hv; simp [encM] at hv; subst hv; rfl

section
variable {α : Type} {p : Par α} {w : World} {n : Nat} {r : NodeR α} {l : Lay}

theorem cell_of_block {b : Nat} {c : Array Value} {T : TypeId} {fr : Nat × Nat} (h : w.heap[b]? = some (.cells c T fr)) (o : Nat) : w.cell? ⟨b, o, none⟩ = c[o]? := by
  simp [World.cell?, h]
theorem frozen_of_block {b : Nat} {c : Array Value} {T : TypeId} (h : w.heap[b]? = some (.cells c T (0, 0))) (o : Nat) : w.frozen? ⟨b, o, none⟩ = false := by
  simp [World.frozen?, h]

theorem NodeAt.c0 (h : NodeAt p w n r l) : w.cell? ⟨n, 0, none⟩ = some (.int .u64 p.k) := by rw [cell_of_block h.hd]; rfl
theorem NodeAt.c1 (h : NodeAt p w n r l) : w.cell? ⟨n, 1, none⟩ = some (.int .i64 r.cnt) := by rw [cell_of_block h.hd]; rfl
theorem NodeAt.c2 (h : NodeAt p w n r l) : w.cell? ⟨n, 2, none⟩ = some (.slice (some ⟨l.ib, l.io, none⟩) r.items.length l.ic) := by rw [cell_of_block h.hd]; rfl
theorem NodeAt.c3 (h : NodeAt p w n r l) : w.cell? ⟨n, 3, none⟩ = some (.pointer (r.kids.map fun _ => ⟨l.cc, 0, none⟩)) := by rw [cell_of_block h.hd]; rfl
theorem NodeAt.c3n (h : NodeAt p w n r l) (hk : r.kids = none) : w.cell? ⟨n, 3, none⟩ = some (.pointer none) := by rw [h.c3, hk]; rfl
theorem NodeAt.c3s (h : NodeAt p w n r l) {ks : List (Option Nat)} (hk : r.kids = some ks) : w.cell? ⟨n, 3, none⟩ = some (.pointer (some ⟨l.cc, 0, none⟩)) := by rw [h.c3, hk]; rfl
theorem NodeAt.fz (h : NodeAt p w n r l) (o : Nat) : w.frozen? ⟨n, o, none⟩ = false := frozen_of_block h.hd o
theorem NodeAt.ifz (h : NodeAt p w n r l) (o : Nat) : w.frozen? ⟨l.ib, o, none⟩ = false := h.row.frozen o
theorem NodeAt.item (h : NodeAt p w n r l) {j : Nat} {x : α} (hj : r.items[j]? = some x) (q : Nat) {v : Value} (hq : (p.enc x)[q]? = some v) : w.cell? ⟨l.ib, l.io + (j * p.es + q), none⟩ = some v :=
  h.row.cell (flat_get p hj hq)
theorem NodeAt.cc (h : NodeAt p w n r l) {ks : List (Option Nat)} (hk : r.kids = some ks) : w.cell? ⟨l.cc, 0, none⟩ = some (.slice (some ⟨l.cb, l.co, none⟩) ks.length l.ck) := by rw [cell_of_block (h.kid ks hk).1]; rfl
theorem NodeAt.ccz (h : NodeAt p w n r l) {ks : List (Option Nat)} (hk : r.kids = some ks) (o : Nat) : w.frozen? ⟨l.cc, o, none⟩ = false := frozen_of_block (h.kid ks hk).1 o
theorem NodeAt.kidc (h : NodeAt p w n r l) {ks : List (Option Nat)} (hk : r.kids = some ks) {j : Nat} {o : Option Nat} (hj : ks[j]? = some o) : w.cell? ⟨l.cb, l.co + j, none⟩ = some (kidV o) :=
  (h.kid ks hk).2.cell (by simp [hj])
theorem NodeAt.kidz (h : NodeAt p w n r l) {ks : List (Option Nat)} (hk : r.kids = some ks) (o : Nat) : w.frozen? ⟨l.cb, o, none⟩ = false := (h.kid ks hk).2.frozen o
end

theorem NodeAt.mval {k : Kc ord} {w : World} {n : Nat} {r : NodeR (It ord)} {l : Lay} (h : NodeAt (parM k) w n r l) {j : Nat} {x : It ord} (hj : r.items[j]? = some x) : w.cell? ⟨l.ib, l.io + j, none⟩ = some (.iface 26 (.agg #[.int .i64 x.1, .int .i64 x.2])) :=
  by have := h.item hj 0 rfl; simpa [parM] using this
theorem NodeAt.mkey {k : Kc ord} {w : World} {n : Nat} {r : NodeR (It ord)} {l : Lay} (h : NodeAt (parM k) w n r l) {j : Nat} {x : It ord} (hj : r.items[j]? = some x) : w.cell? ⟨l.ib, l.io + j, none⟩ = some (.iface 26 (.agg #[.int .i64 x.1, .int .i64 x.2])) :=
  by have := h.item hj 0 rfl; simpa [parM] using this

end Go.Proofs.Ytcabnhpnkaielaa

namespace Go.Proofs.Ytcabnhpnkaielaa
set_option linter.unusedSimpArgs false
set_option linter.unusedVariables false
open Go.RowKit
variable {ord : List Int} {k : Kc ord}

def ltM (a b : It ord) : Bool := decide (rkL ord a.1 < rkL ord b.1)

theorem swoM : Swo (ltM (ord := ord)) where
  asymm := by intro a b h; simp [ltM] at h ⊢; omega
  ntrans := by intro a b c h1 h2; simp [ltM] at h1 h2 ⊢; omega

/-- The inner function. -/
def fnV (k : Kc ord) : Value := .func (.func 111) #[] #[.pointer (some ⟨k.ob, 0, none⟩)]

/-- The function that a tree compares by. -/
def lessV (k : Kc ord) : Value := .func (.func 90) #[] #[.pointer (some ⟨k.lb, 0, none⟩)]

/-- The numbers of the order, as the function less reads them. -/
def OrdAt (k : Kc ord) (w : World) : Prop :=
  w.heap[k.lb]? = some (.cells #[fnV k] 104 (0, 0)) ∧ k.rb < w.heap.size ∧ ord.length ≤ 2147483647 ∧ ∃ v, w.heap[k.ob]? = some (.cells #[v] 22 (0, 0)) ∧
    ((ord = [] ∧ v = .slice none 0 0) ∨ ∃ o cap, v = .slice (some ⟨k.rb, o, none⟩) ord.length cap ∧ ∀ j x, ord[j]? = some x → w.cell? ⟨k.rb, o + j, none⟩ = some (.int .i64 x))

theorem OrdAt.chg {A : Nat → Nat → Prop} {w w' : World} (h : OrdAt k w) (c : Chg A w w') (h1 : ∀ o, ¬ A k.ob o) (h2 : ∀ o, ¬ A k.rb o) (h3 : ∀ o, ¬ A k.lb o := by intro _ h; exact h) : OrdAt k w' := by
  obtain ⟨g0, g1, g2, v, g3, g4⟩ := h
  refine ⟨by rw [c.block (heap_lt g0) h3]; exact g0, Nat.lt_of_lt_of_le g1 c.size, g2, v, by rw [c.block (heap_lt g3) h1]; exact g3, g4.imp id ?_⟩
  rintro ⟨o, cap, e, g⟩
  exact ⟨o, cap, e, fun j x hx => c.cell (h2 _) (g j x hx)⟩

theorem OrdAt.lt {w : World} (h : OrdAt k w) : k.ob < w.heap.size ∧ k.rb < w.heap.size ∧ k.lb < w.heap.size := by
  obtain ⟨g0, g1, _, v, g3, _⟩ := h
  exact ⟨heap_lt g3, g1, heap_lt g0⟩

theorem remainder_any (n m : Int) (w : World) (h0 : 0 < m) (h1 : m ≤ 2147483647) :
    Calls Try.prog 124 #[.int .i64 n, .int .i64 m] w fun e w' => e = .returned (.int .i64 (n % m)) ∧ w = w' := by
  have hr := rem_twice h0 n
  have t1 := Int.tmod_lt_of_pos n h0
  have t2 := Int.lt_tmod_of_pos n h0
  have g1 := Int.emod_nonneg n (by omega : m ≠ 0)
  have g2 := Int.emod_lt_of_pos n h0
  have nz : ¬ m = 0 := by omega
  obtain ⟨q, hq⟩ : ∃ q : Int, n % m = q := ⟨_, rfl⟩
  rw [hq] at hr g1 g2 ⊢
  have he : (n.tmod m + m) % m = q := by rw [Int.add_emod_right]; exact hr
  have HE := Lib.hid he
  clear hq hr he
  go_enter Try.func124, Try.ntmps124
  go_wp2
  go_ret
  refine ⟨?_, rfl⟩
  show Ending.returned (Value.int .i64 ((n.tmod m + m) % m)) = _
  rw [HE.out]

set_option maxRecDepth 100000 in
theorem rank_any (v : Value) (key : Int) (w : World) (hlen : ord.length ≤ 2147483647)
    (hv : (ord = [] ∧ v = .slice none 0 0) ∨ ∃ b o cap, v = .slice (some ⟨b, o, none⟩) ord.length cap ∧ ∀ j x, ord[j]? = some x → w.cell? ⟨b, o + j, none⟩ = some (.int .i64 x)) :
    Calls Try.prog 112 #[v, .int .i64 key] w fun e w' => e = .returned (.int .i64 (rkL ord key)) ∧ w = w' := by
  by_cases h0 : ord.length = 0
  · have e1 : rkL ord key = key := by simp [rkL, h0]
    rw [e1]
    have hv2 : ∃ a cap, v = .slice a 0 cap := by
      rcases hv with ⟨_, rfl⟩ | ⟨b, o, cap, rfl, _⟩
      · exact ⟨_, _, rfl⟩
      · exact ⟨_, _, by rw [h0]⟩
    obtain ⟨a, cap, rfl⟩ := hv2
    clear hv
    go_enter Try.func112, Try.ntmps112
    go_wp2
    go_ret
    exact ⟨rfl, rfl⟩
  · rcases hv with ⟨h, _⟩ | ⟨b, o, cap, rfl, hcell⟩
    · rw [h] at h0; exact absurd rfl h0
    obtain ⟨n, hn⟩ : ∃ n, ord.length = n := ⟨_, rfl⟩
    rw [hn] at h0 hlen ⊢
    have hn0 : (0 : Int) < (n : Int) := by omega
    have hrem := fun w => remainder_any key n w hn0 (by omega)
    have g1 := Int.emod_nonneg key (by omega : (n : Int) ≠ 0)
    have g2 := Int.emod_lt_of_pos key hn0
    obtain ⟨q, hq⟩ : ∃ q : Nat, key % (n : Int) = (q : Int) := ⟨(key % (n : Int)).toNat, by omega⟩
    have hql : q < ord.length := by omega
    have hx : ord[q]? = some ord[q] := List.getElem?_eq_getElem hql
    have e1 : rkL ord key = ord[q] := by
      have : ¬ n = 0 := by omega
      simp [rkL, hn, hq, this, hx]
    have hc := hcell q _ hx
    rw [e1]
    obtain ⟨y, hy⟩ : ∃ y, ord[q] = y := ⟨_, rfl⟩
    rw [hy] at hc ⊢
    rw [hq] at hrem
    have HR := Lib.hid hrem
    have n1 : (n : Int) ≤ 2147483647 := by omega
    have q0 : (0 : Int) ≤ (q : Int) := by omega
    have q1 : (q : Int) < (n : Int) := by omega
    have nz : ((n : Int) == 0) = false := by simp; omega
    clear hq hx e1 hy g1 g2 hn hcell hrem h0 hql
    go_enter Try.func112, Try.ntmps112
    go_wp2_with fail
    refine (HR.out _).mono ?_
    rintro e w' ⟨rfl, rfl⟩
    go_wp2_with fail
    go_ret
    exact ⟨rfl, rfl⟩

set_option maxRecDepth 100000 in
theorem inner_any (a b : It ord) (w : World) (h : OrdAt k w) :
    Calls Try.prog 111 #[.agg #[.int .i64 a.1, .int .i64 a.2], .agg #[.int .i64 b.1, .int .i64 b.2], .pointer (some ⟨k.ob, 0, none⟩)] w fun e w' => e = .returned (.bool (ltM a b)) ∧ Chg (fun _ _ => False) w w' := by
  have H := Lib.hid h
  clear h
  go_enter Try.func111, Try.ntmps111
  go_wp2_with fail
  refine name_world (fun w1 => Chg (fun _ _ => False) w w1 ∧ w1.cell? ⟨w.heap.size, 0, none⟩ = some (.int .i64 a.1) ∧ w1.cell? ⟨w.heap.size + 1, 0, none⟩ = some (.int .i64 b.1)) ⟨((Chg.refl _ _).alloc _).alloc _, ?_, ?_⟩ ?_
  · rw [World.cell?_alloc_lt _ _ _ (by simp)]; exact cell_of_block (ha_at _ _ rfl) 0
  · exact cell_of_block (ha_at _ _ (by simp)) 0
  rintro w1 ⟨hc, c0, c1⟩
  have H1 := H.out.chg hc (fun _ h => h) (fun _ h => h)
  obtain ⟨_, _, hl, v, g3, g4⟩ := H1
  have o0 := cell_of_block g3 0
  simp only [List.getElem?_toArray, List.getElem?_cons_zero] at o0
  have hr := fun key m => rank_any v key (w1.drewN m) hl (by
    rcases g4 with g | ⟨o, cap, e, g⟩
    · exact .inl g
    · exact .inr ⟨_, o, cap, e, g⟩)
  have HR := Lib.hid hr
  clear hr g3 g4
  go_quiet (first | (go_at_call 112; refine Calls.quiet_of_same ((HR.out _ _).mono (by rintro e w' ⟨h1, h2⟩; exact ⟨h1, h2.symm⟩))))
  go_wp2
  go_ret
  exact ⟨rfl, hc.drewN _⟩

theorem asItem (v : Value) (w : World) : (Instr.typeAssert (.iface 26 v) 20 26 false).run Try.prog w = .ok v w := by kernel_rfl

set_option maxRecDepth 100000 in
theorem less_any (a b : It ord) (w : World) (h : OrdAt k w) :
    Calls Try.prog 90 #[.iface 26 (.agg #[.int .i64 a.1, .int .i64 a.2]), .iface 26 (.agg #[.int .i64 b.1, .int .i64 b.2]), .pointer (some ⟨k.lb, 0, none⟩)] w fun e w' => e = .returned (.bool (ltM a b)) ∧ Chg (fun _ _ => False) w w' := by
  have HI := Lib.hid (fun w1 (c : Chg (fun _ _ => False) w w1) => inner_any a b w1 (h.chg c (fun _ h => h) (fun _ h => h)))
  have c0 := cell_of_block h.1 0
  unfold fnV at c0
  simp only [List.getElem?_toArray, List.getElem?_cons_zero] at c0
  have f1 := asItem
  clear h
  go_enter Try.func90, Try.ntmps90
  go_wp2_with fail
  refine wp_region_scr (fun w' => w'.cell? ⟨k.lb, 0, none⟩ = some (.func (.func 111) #[] #[.pointer (some ⟨k.ob, 0, none⟩)])) (.soft 0 (.soft 1 (.soft 2 (.soft 3 (.soft 4 (.hard 5 (.soft 6 .nil))))))) (by kernel_rfl) (by kernel_rfl) (fun _ _ _ _ _ h => h) c0 ?_
  repeat
    first
    | (refine scr_soft (by rfl) ?_ ?_ ?_ ?_
       rotate_left
       · simp [Region.wanted, yielded]; done
       · intro w' hS
         try obtain ⟨a1⟩ := hS
         go_simp
         try with_reducible rfl
       simp only [Act.put, List.setIfInBounds_toArray, List.set_cons_zero, List.set_cons_succ])
    | (refine scr_skip (by rfl) ?_ ?_
       · simp [Region.wanted, yielded]; done
       simp only [Act.put, List.setIfInBounds_toArray, List.set_cons_zero, List.set_cons_succ])
  refine scr_hard (by rfl) (by simp [Region.wanted, yielded]) (fun K hK => ?_)
  go_simp
  refine (HI.out _ ((Chg.refl _ _).drew)).mono ?_
  rintro e w2 ⟨rfl, hc2⟩
  refine hK _ _ (hc2.cell (fun h => h) c0) ?_
  clear hK K
  repeat
    first
    | (refine scr_soft (by rfl) ?_ ?_ ?_ ?_
       rotate_left
       · simp [Region.wanted, yielded]; done
       · intro w' hS
         try obtain ⟨a1⟩ := hS
         go_simp
         try with_reducible rfl
       simp only [Act.put, List.setIfInBounds_toArray, List.set_cons_zero, List.set_cons_succ])
    | (refine scr_skip (by rfl) ?_ ?_
       · simp [Region.wanted, yielded]; done
       simp only [Act.put, List.setIfInBounds_toArray, List.set_cons_zero, List.set_cons_succ])
  refine scr_nil ?_
  go_wp2_with fail
  go_ret
  exact ⟨rfl, (Chg.refl _ _).drew.trans hc2⟩
end Go.Proofs.Ytcabnhpnkaielaa

namespace Go.Proofs.Ytcabnhpnkaielaa
set_option linter.unusedSimpArgs false
set_option linter.unusedVariables false
open Go.RowKit
variable {ord : List Int} {k : Kc ord}

/-- What a walk knows of the map's own struct: the isoid, the limits, the zero pair; nothing there is frozen. -/
structure MapAt (k : Kc ord) (mn mx : Nat) (w : World) (t : Nat) : Prop where
  c0 : w.cell? ⟨t, 0, none⟩ = some (.int .u64 k.iso)
  c4 : w.cell? ⟨t, 7, none⟩ = some (.nilIface)
  c5 : w.cell? ⟨t, 7, none⟩ = some (.nilIface)
  c6 : w.cell? ⟨t, 9, none⟩ = some (.int .i64 mn)
  c7 : w.cell? ⟨t, 8, none⟩ = some (.int .i64 mx)
  c6l : w.cell? ⟨t, 6, none⟩ = some (lessV k)
  ord : OrdAt k w

/-- The blocks that are the map's own. -/
def MOwn (k : Kc ord) (t b : Nat) : Prop := b = t ∨ b = k.ob ∨ b = k.rb ∨ b = k.lb

theorem MOwn.self {k : Kc ord} {t : Nat} : MOwn k t t := .inl rfl

theorem MapAt.lt {k : Kc ord} {mn mx t b : Nat} {w : World} (h : MapAt k mn mx w t) (hb : MOwn k t b) : b < w.heap.size := by
  rcases hb with rfl | rfl | rfl | rfl
  · exact World.block_lt_of_cell? w _ h.c0
  · exact h.ord.lt.1
  · exact h.ord.lt.2.1
  · exact h.ord.lt.2.2

theorem MapAt.chg {A : Nat → Nat → Prop} {k : Kc ord} {mn mx t : Nat} {w w' : World} (h : MapAt k mn mx w t) (c : Chg A w w') (hA : ∀ b o, MOwn k t b → ¬ A b o) : MapAt k mn mx w' t :=
  ⟨c.cell (hA t 0 MOwn.self) h.c0, c.cell (hA t 7 MOwn.self) h.c4, c.cell (hA t 7 MOwn.self) h.c5, c.cell (hA t 9 MOwn.self) h.c6, c.cell (hA t 8 MOwn.self) h.c7, c.cell (hA t 6 MOwn.self) h.c6l, h.ord.chg c (fun o => hA _ o (.inr (.inl rfl))) (fun o => hA _ o (.inr (.inr (.inl rfl)))) (fun o => hA _ o (.inr (.inr (.inr rfl))))⟩

end Go.Proofs.Ytcabnhpnkaielaa

namespace Go.Proofs.Ytcabnhpnkaielaa
set_option linter.unusedSimpArgs false
set_option linter.unusedVariables false
open Go.RowKit
variable {ord : List Int} {k : Kc ord}

/-- The tree's own block, and the order that it captures. -/
structure MapBlk (k : Kc ord) (mn mx : Nat) (w : World) (t : Nat) (root : Option Nat) (cnt : Int) : Prop where
  blk : w.heap[t]? = some (.cells #[.int .u64 k.iso, .pointer (some ⟨k.ctr, 0, none⟩), kidV root, .int .i64 cnt, .bool false, .bool false, lessV k, .nilIface, .int .i64 mx, .int .i64 mn] 112 (0, 0))
  ord : OrdAt k w
  ne1 : t ≠ k.ob
  ne2 : t ≠ k.rb
  ne3 : t ≠ k.lb

theorem MapBlk.at_ {k : Kc ord} {mn mx t : Nat} {w : World} {root : Option Nat} {cnt : Int} (h : MapBlk k mn mx w t root cnt) : MapAt k mn mx w t :=
  ⟨by rw [cell_of_block h.blk]; rfl, by rw [cell_of_block h.blk]; rfl, by rw [cell_of_block h.blk]; rfl, by rw [cell_of_block h.blk]; rfl, by rw [cell_of_block h.blk]; rfl, by rw [cell_of_block h.blk]; rfl, h.ord⟩
theorem MapBlk.c2 {k : Kc ord} {mn mx t : Nat} {w : World} {root : Option Nat} {cnt : Int} (h : MapBlk k mn mx w t root cnt) : w.cell? ⟨t, 2, none⟩ = some (kidV root) := by rw [cell_of_block h.blk]; rfl
theorem MapBlk.c3 {k : Kc ord} {mn mx t : Nat} {w : World} {root : Option Nat} {cnt : Int} (h : MapBlk k mn mx w t root cnt) : w.cell? ⟨t, 3, none⟩ = some (.int .i64 cnt) := by rw [cell_of_block h.blk]; rfl
theorem MapBlk.fz {k : Kc ord} {mn mx t : Nat} {w : World} {root : Option Nat} {cnt : Int} (h : MapBlk k mn mx w t root cnt) (o : Nat) : w.frozen? ⟨t, o, none⟩ = false := frozen_of_block h.blk o
theorem MapBlk.chg {A : Nat → Nat → Prop} {k : Kc ord} {mn mx t : Nat} {w w' : World} {root : Option Nat} {cnt : Int} (h : MapBlk k mn mx w t root cnt) (c : Chg A w w') (hA : ∀ b o, MOwn k t b → ¬ A b o) : MapBlk k mn mx w' t root cnt :=
  ⟨by rw [c.block (heap_lt h.blk) (fun o => hA t o MOwn.self)]; exact h.blk, h.ord.chg c (fun o => hA _ o (.inr (.inl rfl))) (fun o => hA _ o (.inr (.inr (.inl rfl)))) (fun o => hA _ o (.inr (.inr (.inr rfl)))), h.ne1, h.ne2, h.ne3⟩
theorem MapBlk.lt {k : Kc ord} {mn mx t : Nat} {w : World} {root : Option Nat} {cnt : Int} (h : MapBlk k mn mx w t root cnt) : t < w.heap.size := heap_lt h.blk
theorem MapBlk.ordSet {k : Kc ord} {mn mx t : Nat} {w : World} {root : Option Nat} {cnt : Int} (h : MapBlk k mn mx w t root cnt) (o : Nat) (v : Value) : OrdAt k (w.setCell ⟨t, o, none⟩ v) :=
  h.ord.chg ((Chg.refl (fun b _ => b = t) w).setCell (.inl rfl) v) (fun _ e => h.ne1 e.symm) (fun _ e => h.ne2 e.symm) (fun _ e => h.ne3 e.symm)

theorem MapBlk.setCnt {k : Kc ord} {mn mx t : Nat} {w : World} {root : Option Nat} {cnt : Int} (h : MapBlk k mn mx w t root cnt) (c : Int) : MapBlk k mn mx (w.setCell ⟨t, 3, none⟩ (.int .i64 c)) t root c :=
  ⟨by rw [hs_same h.blk]; rfl, h.ordSet 3 _, h.ne1, h.ne2, h.ne3⟩
theorem MapBlk.setRoot {k : Kc ord} {mn mx t : Nat} {w : World} {root : Option Nat} {cnt : Int} (h : MapBlk k mn mx w t root cnt) (n : Option Nat) : MapBlk k mn mx (w.setCell ⟨t, 2, none⟩ (kidV n)) t n cnt :=
  ⟨by rw [hs_same h.blk]; rfl, h.ordSet 2 _, h.ne1, h.ne2, h.ne3⟩
end Go.Proofs.Ytcabnhpnkaielaa
