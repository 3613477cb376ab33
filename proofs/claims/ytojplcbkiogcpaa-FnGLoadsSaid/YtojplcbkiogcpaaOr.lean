/- The order of a tree: the function less, and what it captures. -/
import Derived.Test.YtojplcbkiogcpaaPm
import Derived.Test.YtojplcbkiogcpaaRl
import Derived.Test.YtojplcbkiogcpaaRegg
import Derived.Test.YtojplcbkiogcpaaTree
import Derived.BigQuiet
namespace Go.Proofs.Ytojplcbkiogcpaa
set_option linter.unusedSimpArgs false
set_option linter.unusedVariables false
open Go.RowKit
variable {ord : List Int} {k : Kc ord}

def ltM (a b : It ord) : Bool := decide (rkL ord a.1 < rkL ord b.1)

theorem swoM : Swo (ltM (ord := ord)) where
  asymm := by intro a b h; simp [ltM] at h ⊢; omega
  ntrans := by intro a b c h1 h2; simp [ltM] at h1 h2 ⊢; omega

/-- The function that a tree compares by. -/
def lessV (k : Kc ord) : Value := .func (.func 110) #[] #[.pointer (some ⟨k.ob, 0, none⟩)]

/-- The numbers of the order, as the function less reads them. -/
def OrdAt (k : Kc ord) (w : World) : Prop :=
  k.rb < w.heap.size ∧ ord.length ≤ 2147483647 ∧ ∃ v, w.heap[k.ob]? = some (.cells #[v] 22 (0, 0)) ∧
    ((ord = [] ∧ v = .slice none 0 0) ∨ ∃ o cap, v = .slice (some ⟨k.rb, o, none⟩) ord.length cap ∧ ∀ j x, ord[j]? = some x → w.cell? ⟨k.rb, o + j, none⟩ = some (.int .i64 x))

theorem OrdAt.chg {A : Nat → Nat → Prop} {w w' : World} (h : OrdAt k w) (c : Chg A w w') (h1 : ∀ o, ¬ A k.ob o) (h2 : ∀ o, ¬ A k.rb o) : OrdAt k w' := by
  obtain ⟨g1, g2, v, g3, g4⟩ := h
  refine ⟨Nat.lt_of_lt_of_le g1 c.size, g2, v, by rw [c.block (heap_lt g3) h1]; exact g3, g4.imp id ?_⟩
  rintro ⟨o, cap, e, g⟩
  exact ⟨o, cap, e, fun j x hx => c.cell (h2 _) (g j x hx)⟩

theorem OrdAt.lt {w : World} (h : OrdAt k w) : k.ob < w.heap.size ∧ k.rb < w.heap.size := by
  obtain ⟨g1, _, v, g3, _⟩ := h
  exact ⟨heap_lt g3, g1⟩

theorem remainder_any (n m : Int) (w : World) (h0 : 0 < m) (h1 : m ≤ 2147483647) :
    Calls Try.prog 125 #[.int .i64 n, .int .i64 m] w fun e w' => e = .returned (.int .i64 (n % m)) ∧ w = w' := by
  have hr := rem_twice h0 n
  have t1 := Int.tmod_lt_of_pos n h0
  have t2 := Int.lt_tmod_of_pos n h0
  have g1 := Int.emod_nonneg n (by omega : m ≠ 0)
  have g2 := Int.emod_lt_of_pos n h0
  have nz : ¬ m = 0 := by omega
  obtain ⟨q, hq⟩ : ∃ q : Int, n % m = q := ⟨_, rfl⟩
  rw [hq] at hr g1 g2 ⊢
  have he : (n.tmod m + m) % m = q := by rw [Int.add_emod_right]; exact hr
  have HE := Lib.hid he
  clear hq hr he
  go_enter Try.func125, Try.ntmps125
  go_wp2
  go_ret
  refine ⟨?_, rfl⟩
  show Ending.returned (Value.int .i64 ((n.tmod m + m) % m)) = _
  rw [HE.out]

set_option maxRecDepth 100000 in
theorem rank_any (v : Value) (key : Int) (w : World) (hlen : ord.length ≤ 2147483647)
    (hv : (ord = [] ∧ v = .slice none 0 0) ∨ ∃ b o cap, v = .slice (some ⟨b, o, none⟩) ord.length cap ∧ ∀ j x, ord[j]? = some x → w.cell? ⟨b, o + j, none⟩ = some (.int .i64 x)) :
    Calls Try.prog 111 #[v, .int .i64 key] w fun e w' => e = .returned (.int .i64 (rkL ord key)) ∧ w = w' := by
  by_cases h0 : ord.length = 0
  · have e1 : rkL ord key = key := by simp [rkL, h0]
    rw [e1]
    have hv2 : ∃ a cap, v = .slice a 0 cap := by
      rcases hv with ⟨_, rfl⟩ | ⟨b, o, cap, rfl, _⟩
      · exact ⟨_, _, rfl⟩
      · exact ⟨_, _, by rw [h0]⟩
    obtain ⟨a, cap, rfl⟩ := hv2
    clear hv
    go_enter Try.func111, Try.ntmps111
    go_wp2
    go_ret
    exact ⟨rfl, rfl⟩
  · rcases hv with ⟨h, _⟩ | ⟨b, o, cap, rfl, hcell⟩
    · rw [h] at h0; exact absurd rfl h0
    obtain ⟨n, hn⟩ : ∃ n, ord.length = n := ⟨_, rfl⟩
    rw [hn] at h0 hlen ⊢
    have hn0 : (0 : Int) < (n : Int) := by omega
    have hrem := fun w => remainder_any key n w hn0 (by omega)
    have g1 := Int.emod_nonneg key (by omega : (n : Int) ≠ 0)
    have g2 := Int.emod_lt_of_pos key hn0
    obtain ⟨q, hq⟩ : ∃ q : Nat, key % (n : Int) = (q : Int) := ⟨(key % (n : Int)).toNat, by omega⟩
    have hql : q < ord.length := by omega
    have hx : ord[q]? = some ord[q] := List.getElem?_eq_getElem hql
    have e1 : rkL ord key = ord[q] := by
      have : ¬ n = 0 := by omega
      simp [rkL, hn, hq, this, hx]
    have hc := hcell q _ hx
    rw [e1]
    obtain ⟨y, hy⟩ : ∃ y, ord[q] = y := ⟨_, rfl⟩
    rw [hy] at hc ⊢
    rw [hq] at hrem
    have HR := Lib.hid hrem
    have n1 : (n : Int) ≤ 2147483647 := by omega
    have q0 : (0 : Int) ≤ (q : Int) := by omega
    have q1 : (q : Int) < (n : Int) := by omega
    have nz : ((n : Int) == 0) = false := by simp; omega
    clear hq hx e1 hy g1 g2 hn hcell hrem h0 hql
    go_enter Try.func111, Try.ntmps111
    go_wp2_with fail
    refine (HR.out _).mono ?_
    rintro e w' ⟨rfl, rfl⟩
    go_wp2_with fail
    go_ret
    exact ⟨rfl, rfl⟩

set_option maxRecDepth 100000 in
theorem less_any (a b : It ord) (w : World) (h : OrdAt k w) :
    Calls Try.prog 110 #[.agg #[.int .i64 a.1, .int .i64 a.2], .agg #[.int .i64 b.1, .int .i64 b.2], .pointer (some ⟨k.ob, 0, none⟩)] w fun e w' => e = .returned (.bool (ltM a b)) ∧ Chg (fun _ _ => False) w w' := by
  have H := Lib.hid h
  clear h
  go_enter Try.func110, Try.ntmps110
  go_wp2_with fail
  refine name_world (fun w1 => Chg (fun _ _ => False) w w1 ∧ w1.cell? ⟨w.heap.size, 0, none⟩ = some (.int .i64 a.1) ∧ w1.cell? ⟨w.heap.size + 1, 0, none⟩ = some (.int .i64 b.1)) ⟨((Chg.refl _ _).alloc _).alloc _, ?_, ?_⟩ ?_
  · rw [World.cell?_alloc_lt _ _ _ (by simp)]; exact cell_of_block (ha_at _ _ rfl) 0
  · exact cell_of_block (ha_at _ _ (by simp)) 0
  rintro w1 ⟨hc, c0, c1⟩
  have H1 := H.out.chg hc (fun _ h => h) (fun _ h => h)
  obtain ⟨_, hl, v, g3, g4⟩ := H1
  have o0 := cell_of_block g3 0
  simp only [List.getElem?_toArray, List.getElem?_cons_zero] at o0
  have hr := fun key m => rank_any v key (w1.drewN m) hl (by
    rcases g4 with g | ⟨o, cap, e, g⟩
    · exact .inl g
    · exact .inr ⟨_, o, cap, e, g⟩)
  have HR := Lib.hid hr
  clear hr g3 g4
  go_quiet (first | (go_at_call 111; refine Calls.quiet_of_same ((HR.out _ _).mono (by rintro e w' ⟨h1, h2⟩; exact ⟨h1, h2.symm⟩))))
  go_wp2
  go_ret
  exact ⟨rfl, hc.drewN _⟩
end Go.Proofs.Ytojplcbkiogcpaa
