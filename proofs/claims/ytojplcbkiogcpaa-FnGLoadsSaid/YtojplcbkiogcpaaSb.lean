/- spec: Place. -/
import Derived.Test.YtojplcbkiogcpaaSa
import Derived.Test.YtojplcbkiogcpaaTree
namespace Go.Proofs.Ytojplcbkiogcpaa
set_option linter.unusedSimpArgs false
set_option linter.unusedVariables false
open Go.RowKit

/-- A slice of items. -/
def ItemsAt (w : World) (p : Option Addr) (l : List (Int × Int)) : Prop :=
  l = [] ∨ ∃ b o, p = some ⟨b, o, none⟩ ∧ ∀ i x, l[i]? = some x → w.cell? ⟨b, o + i * 2, none⟩ = some (.int .i64 x.1) ∧ w.cell? ⟨b, o + i * 2 + 1, none⟩ = some (.int .i64 x.2)

theorem ItemsAt.chg {w w' : World} {p : Option Addr} {l : List (Int × Int)} (h : ItemsAt w p l) (c : Chg (fun _ _ => False) w w') : ItemsAt w' p l := by
  rcases h with h | ⟨b, o, h1, h2⟩
  · exact .inl h
  · exact .inr ⟨b, o, h1, fun i x hx => ⟨c.cell (fun h => h) (h2 i x hx).1, c.cell (fun h => h) (h2 i x hx).2⟩⟩

/-- Where x belongs: how many stand before it, and whether its equal is there. -/
def PlaceIs (lt : Int × Int → Int × Int → Bool) (l : List (Int × Int)) (x : Int × Int) (i : Nat) (b : Bool) : Prop :=
  i ≤ l.length ∧ (∀ j y, j < i → l[j]? = some y → lt y x = true) ∧ (∀ y, l[i]? = some y → lt y x = false) ∧ ((∃ y, l[i]? = some y ∧ lt x y = false ∧ b = true) ∨ ((∀ y, l[i]? = some y → lt x y = true) ∧ b = false))

set_option maxRecDepth 100000 in
set_option maxHeartbeats 1000000 in
theorem place_any (ordv : Value) (rk : Int → Int) (p : Option Addr) (cap : Nat) (l : List (Int × Int)) (x : Int × Int) (w : World) (hR : RankOk ordv rk w) (hl : ItemsAt w p l) (hlen : l.length ≤ 2147483648) :
    Calls Try.prog 87 #[ordv, .slice p l.length cap, itemV x] w fun e w' => (∃ (i : Nat) (b : Bool), e = .returned (.tuple #[.int .i64 i, .bool b]) ∧ PlaceIs (ltR rk) l x i b) ∧ Chg (fun _ _ => False) w w' := by
  have HR := Lib.hid hR
  have HL := Lib.hid hl
  clear hR hl
  unfold itemV
  go_enter Try.func87, Try.ntmps87
  go_wp2_with fail
  refine name_world (fun w1 => Chg (fun _ _ => False) w w1 ∧ w1.heap[w.heap.size]? = some (.cells #[.int .i64 x.1, .int .i64 x.2] 26 (0, 0))) ⟨(Chg.refl _ _).alloc _, ha_at _ _ rfl⟩ ?_
  rintro w1 ⟨hc1, hb1⟩
  have HB1 := Lib.hid hb1
  clear hb1
  go_loopw [8] (fun i wr => ∃ (j : Nat), j ≤ l.length ∧ i = .int .i64 j ∧ Chg (fun _ _ => False) w1 wr ∧ (∀ q y, q < j → l[q]? = some y → ltR rk y x = true)) (fun i _ => l.length - (intOf i).toNat)
  case atStart => exact ⟨0, Nat.zero_le _, rfl, Chg.refl _ _, fun q y h => by omega⟩
  case round =>
    obtain ⟨j, hj, rfl, hc, hq⟩ := hrel
    have HQ := Lib.hid hq
    clear hq
    have hbr : wr.heap[w.heap.size]? = some (.cells #[.int .i64 x.1, .int .i64 x.2] 26 (0, 0)) := by rw [hc.block (heap_lt HB1.out) (fun _ h => h)]; exact HB1.out
    have q0 := cell_of_block hbr 0
    have q1 := cell_of_block hbr 1
    simp only [List.getElem?_toArray, List.getElem?_cons_zero, List.getElem?_cons_succ] at q0 q1
    have HBR := Lib.hid hbr
    clear hbr
    by_cases hlt : j < l.length
    · obtain ⟨y, hy⟩ : ∃ y, l[j]? = some y := ⟨_, List.getElem?_eq_getElem hlt⟩
      rcases HL.out with hl0 | ⟨b, o, rfl, hcell⟩
      · subst hl0; simp at hlt
      have g0 := (hc1.trans hc).cell (fun h => h) (hcell j y hy).1
      have g1 := (hc1.trans hc).cell (fun h => h) (hcell j y hy).2
      clear hcell
      have HY := Lib.hid hy
      clear hy
      have i0 : (0 : Int) ≤ (j : Int) := by omega
      have i1 : (j : Int) < (l.length : Int) := by omega
      go_wp2_with fail
      refine wp_region_callg (fun w' => w'.cell? ⟨w.heap.size, 0, none⟩ = some (.int .i64 x.1) ∧ w'.cell? ⟨w.heap.size, 1, none⟩ = some (.int .i64 x.2) ∧ w'.cell? ⟨b, o + j * 2, none⟩ = some (.int .i64 y.1) ∧ w'.cell? ⟨b, o + j * 2 + 1, none⟩ = some (.int .i64 y.2))
        11 [0, 1, 2, 3, 4, 5, 6, 7, 8, 9, 10] _ [12] (by kernel_rfl) (by kernel_rfl) (fun _ _ _ _ _ h => h) rfl rfl rfl ⟨q0, q1, g0, g1⟩ ?_
      simp only [pickOps, List.filterMap_cons, List.filterMap_nil, List.getElem?_cons_zero, List.getElem?_cons_succ]
      refine wpSoft_step ?_ rfl ?_ ?_
      rotate_left
      · intro w' hS
        try obtain ⟨s0, s1, s2, s3⟩ := hS
        go_simp
        try with_reducible rfl
      simp only [Act.put, List.setIfInBounds_toArray, List.set_cons_zero, List.set_cons_succ]
      refine wpSoft_step ?_ rfl ?_ ?_
      rotate_left
      · intro w' hS
        try obtain ⟨s0, s1, s2, s3⟩ := hS
        go_simp
        try with_reducible rfl
      simp only [Act.put, List.setIfInBounds_toArray, List.set_cons_zero, List.set_cons_succ]
      refine wpSoft_step ?_ rfl ?_ ?_
      rotate_left
      · intro w' hS
        try obtain ⟨s0, s1, s2, s3⟩ := hS
        go_simp
        try with_reducible rfl
      simp only [Act.put, List.setIfInBounds_toArray, List.set_cons_zero, List.set_cons_succ]
      refine wpSoft_step ?_ rfl ?_ ?_
      rotate_left
      · intro w' hS
        try obtain ⟨s0, s1, s2, s3⟩ := hS
        go_simp
        try with_reducible rfl
      simp only [Act.put, List.setIfInBounds_toArray, List.set_cons_zero, List.set_cons_succ]
      refine wpSoft_step ?_ rfl ?_ ?_
      rotate_left
      · intro w' hS
        try obtain ⟨s0, s1, s2, s3⟩ := hS
        go_simp
        try with_reducible rfl
      simp only [Act.put, List.setIfInBounds_toArray, List.set_cons_zero, List.set_cons_succ]
      refine wpSoft_guard ?_ (by simp [Region.wanted, yielded]) ?_ ?_
      rotate_left
      · intro w' hS
        obtain ⟨s0, s1, s2, s3⟩ := hS
        go_simp
        try with_reducible rfl
      simp only [Act.put, List.setIfInBounds_toArray, List.set_cons_zero, List.set_cons_succ]
      refine wpSoft_guard ?_ (by simp [Region.wanted, yielded]) ?_ ?_
      rotate_left
      · intro w' hS
        obtain ⟨s0, s1, s2, s3⟩ := hS
        go_simp
        try with_reducible rfl
      simp only [Act.put, List.setIfInBounds_toArray, List.set_cons_zero, List.set_cons_succ]
      refine wpSoft_guard ?_ (by simp [Region.wanted, yielded]) ?_ ?_
      rotate_left
      · intro w' hS
        obtain ⟨s0, s1, s2, s3⟩ := hS
        go_simp
        try with_reducible rfl
      simp only [Act.put, List.setIfInBounds_toArray, List.set_cons_zero, List.set_cons_succ]
      refine wpSoft_guard ?_ (by simp [Region.wanted, yielded]) ?_ ?_
      rotate_left
      · intro w' hS
        obtain ⟨s0, s1, s2, s3⟩ := hS
        go_simp
        try with_reducible rfl
      simp only [Act.put, List.setIfInBounds_toArray, List.set_cons_zero, List.set_cons_succ]
      refine wpSoft_guard ?_ (by simp [Region.wanted, yielded]) ?_ ?_
      rotate_left
      · intro w' hS
        obtain ⟨s0, s1, s2, s3⟩ := hS
        go_simp
        try with_reducible rfl
      simp only [Act.put, List.setIfInBounds_toArray, List.set_cons_zero, List.set_cons_succ]
      refine wpSoft_guard ?_ (by simp [Region.wanted, yielded]) ?_ ?_
      rotate_left
      · intro w' hS
        obtain ⟨s0, s1, s2, s3⟩ := hS
        go_simp
        try with_reducible rfl
      simp only [Act.put, List.setIfInBounds_toArray, List.set_cons_zero, List.set_cons_succ]
      refine wpSoft_nil (.inl ⟨by simp [Region.wanted, yielded], ?_⟩)
      refine wp_hide (fun K hK => ?_)
      go_simp
      have hcw := (hc1.trans hc).drew
      refine (before_any ordv rk y x _ (HR.out.chg hcw)).mono ?_
      rintro e w2 ⟨rfl, hc2⟩
      refine hK _ _ ?_
      clear hK K
      refine wpSoft_step ?_ rfl ?_ ?_
      rotate_left
      · intro w' hS
        try obtain ⟨s0, s1, s2, s3⟩ := hS
        go_simp
        try with_reducible rfl
      simp only [Act.put, List.setIfInBounds_toArray, List.set_cons_zero, List.set_cons_succ]
      refine wpSoft_nil ?_
      replace hc2 : Chg (fun _ _ => False) wr w2 := (Chg.refl _ _).drew.trans hc2
      cases hb : ltR rk y x
      · go_wp2_with fail
        replace q0 := hc2.cell (fun h => h) q0
        replace q1 := hc2.cell (fun h => h) q1
        replace g0 := hc2.cell (fun h => h) g0
        replace g1 := hc2.cell (fun h => h) g1
        refine wp_region_keepg (fun w' => w'.cell? ⟨w.heap.size, 0, none⟩ = some (.int .i64 x.1) ∧ w'.cell? ⟨w.heap.size, 1, none⟩ = some (.int .i64 x.2) ∧ w'.cell? ⟨b, o + j * 2, none⟩ = some (.int .i64 y.1) ∧ w'.cell? ⟨b, o + j * 2 + 1, none⟩ = some (.int .i64 y.2))
          12 [0, 1, 2, 3, 4, 5, 6, 7, 8, 9, 10, 11] _ [13, 14, 15, 16] (by kernel_rfl) (by kernel_rfl) (fun _ _ _ _ _ h => h) rfl rfl rfl ⟨q0, q1, g0, g1⟩ ?_
        simp only [pickOps, List.filterMap_cons, List.filterMap_nil, List.getElem?_cons_zero, List.getElem?_cons_succ]
        refine wpSoft_step ?_ rfl ?_ ?_
        rotate_left
        · intro w' hS
          try obtain ⟨s0, s1, s2, s3⟩ := hS
          go_simp
          try with_reducible rfl
        simp only [Act.put, List.setIfInBounds_toArray, List.set_cons_zero, List.set_cons_succ]
        refine wpSoft_step ?_ rfl ?_ ?_
        rotate_left
        · intro w' hS
          try obtain ⟨s0, s1, s2, s3⟩ := hS
          go_simp
          try with_reducible rfl
        simp only [Act.put, List.setIfInBounds_toArray, List.set_cons_zero, List.set_cons_succ]
        refine wpSoft_step ?_ rfl ?_ ?_
        rotate_left
        · intro w' hS
          try obtain ⟨s0, s1, s2, s3⟩ := hS
          go_simp
          try with_reducible rfl
        simp only [Act.put, List.setIfInBounds_toArray, List.set_cons_zero, List.set_cons_succ]
        refine wpSoft_step ?_ rfl ?_ ?_
        rotate_left
        · intro w' hS
          try obtain ⟨s0, s1, s2, s3⟩ := hS
          go_simp
          try with_reducible rfl
        simp only [Act.put, List.setIfInBounds_toArray, List.set_cons_zero, List.set_cons_succ]
        refine wpSoft_step ?_ rfl ?_ ?_
        rotate_left
        · intro w' hS
          try obtain ⟨s0, s1, s2, s3⟩ := hS
          go_simp
          try with_reducible rfl
        simp only [Act.put, List.setIfInBounds_toArray, List.set_cons_zero, List.set_cons_succ]
        refine wpSoft_step ?_ rfl ?_ ?_
        rotate_left
        · intro w' hS
          try obtain ⟨s0, s1, s2, s3⟩ := hS
          go_simp
          try with_reducible rfl
        simp only [Act.put, List.setIfInBounds_toArray, List.set_cons_zero, List.set_cons_succ]
        refine wpSoft_guard ?_ (by simp [Region.wanted, yielded]) ?_ ?_
        rotate_left
        · intro w' hS
          obtain ⟨s0, s1, s2, s3⟩ := hS
          go_simp
          try with_reducible rfl
        simp only [Act.put, List.setIfInBounds_toArray, List.set_cons_zero, List.set_cons_succ]
        refine wpSoft_guard ?_ (by simp [Region.wanted, yielded]) ?_ ?_
        rotate_left
        · intro w' hS
          obtain ⟨s0, s1, s2, s3⟩ := hS
          go_simp
          try with_reducible rfl
        simp only [Act.put, List.setIfInBounds_toArray, List.set_cons_zero, List.set_cons_succ]
        refine wpSoft_guard ?_ (by simp [Region.wanted, yielded]) ?_ ?_
        rotate_left
        · intro w' hS
          obtain ⟨s0, s1, s2, s3⟩ := hS
          go_simp
          try with_reducible rfl
        simp only [Act.put, List.setIfInBounds_toArray, List.set_cons_zero, List.set_cons_succ]
        refine wpSoft_guard ?_ (by simp [Region.wanted, yielded]) ?_ ?_
        rotate_left
        · intro w' hS
          obtain ⟨s0, s1, s2, s3⟩ := hS
          go_simp
          try with_reducible rfl
        simp only [Act.put, List.setIfInBounds_toArray, List.set_cons_zero, List.set_cons_succ]
        refine wpSoft_guard ?_ (by simp [Region.wanted, yielded]) ?_ ?_
        rotate_left
        · intro w' hS
          obtain ⟨s0, s1, s2, s3⟩ := hS
          go_simp
          try with_reducible rfl
        simp only [Act.put, List.setIfInBounds_toArray, List.set_cons_zero, List.set_cons_succ]
        refine wpSoft_guard ?_ (by simp [Region.wanted, yielded]) ?_ ?_
        rotate_left
        · intro w' hS
          obtain ⟨s0, s1, s2, s3⟩ := hS
          go_simp
          try with_reducible rfl
        simp only [Act.put, List.setIfInBounds_toArray, List.set_cons_zero, List.set_cons_succ]
        refine wpSoft_nil (.inl ⟨by simp [Region.wanted, yielded], ?_⟩)
        refine wp_hide (fun K hK => ?_)
        go_simp
        refine (before_any ordv rk x y _ (HR.out.chg ((hc1.trans hc).trans hc2).drew)).mono ?_
        rintro e w3 ⟨rfl, hc3⟩
        refine hK _ _ ⟨⟨hc3.cell (fun h => h) q0, hc3.cell (fun h => h) q1, hc3.cell (fun h => h) g0, hc3.cell (fun h => h) g1⟩, ?_⟩
        clear hK K
        refine wpSoft_guard ?_ (by simp [Region.wanted, yielded]) ?_ ?_
        rotate_left
        · intro w' hS
          go_simp
          try with_reducible rfl
        simp only [Act.put, List.setIfInBounds_toArray, List.set_cons_zero, List.set_cons_succ]
        refine wpSoft_step ?_ rfl ?_ ?_
        rotate_left
        · intro w' hS
          try obtain ⟨s0, s1, s2, s3⟩ := hS
          go_simp
          try with_reducible rfl
        simp only [Act.put, List.setIfInBounds_toArray, List.set_cons_zero, List.set_cons_succ]
        refine wpSoft_step ?_ rfl ?_ ?_
        rotate_left
        · intro w' hS
          try obtain ⟨s0, s1, s2, s3⟩ := hS
          go_simp
          try with_reducible rfl
        simp only [Act.put, List.setIfInBounds_toArray, List.set_cons_zero, List.set_cons_succ]
        refine wpSoft_step ?_ rfl ?_ ?_
        rotate_left
        · intro w' hS
          try obtain ⟨s0, s1, s2, s3⟩ := hS
          go_simp
          try with_reducible rfl
        simp only [Act.put, List.setIfInBounds_toArray, List.set_cons_zero, List.set_cons_succ]
        refine wpSoft_nil ?_
        go_wp2_with fail
        go_ret2
        refine ⟨⟨j, !ltR rk x y, rfl, hj, HQ.out, fun z hz => ?_, ?_⟩, ?_⟩
        · rw [HY.out] at hz; obtain rfl := Option.some.inj hz; exact hb
        · cases h : ltR rk x y
          · exact .inl ⟨y, HY.out, h, rfl⟩
          · exact .inr ⟨fun z hz => by rw [HY.out] at hz; obtain rfl := Option.some.inj hz; exact h, rfl⟩
        · exact ((hc1.trans hc).trans hc2).drew.trans hc3
      · go_wp2_with fail
        go_roundw
        case rel =>
          refine ⟨j + 1, by omega, by go_num, hc.trans hc2, fun q z h1 h2 => ?_⟩
          rcases Nat.lt_or_ge q j with h | h
          · exact HQ.out q z h h2
          · obtain rfl : q = j := by omega
            rw [HY.out] at h2
            obtain rfl := Option.some.inj h2
            exact hb
        case measure => simp [intOf]; omega
    · obtain rfl : j = l.length := by omega
      have i1 : ¬ ((l.length : Nat) : Int) < (l.length : Int) := by omega
      go_wp2_with fail
      refine wp_region_keepg (fun _ => True) 11 [0, 1, 2, 3, 4, 5, 6, 7, 8, 9, 10] _ [12] (by kernel_rfl) (by kernel_rfl) (fun _ _ _ _ _ h => h) rfl rfl rfl trivial ?_
      simp only [pickOps, List.filterMap_cons, List.filterMap_nil, List.getElem?_cons_zero, List.getElem?_cons_succ]
      refine wpSoft_step ?_ rfl ?_ ?_
      rotate_left
      · intro w' hS
        try obtain ⟨s0⟩ := hS
        go_simp
        try with_reducible rfl
      simp only [Act.put, List.setIfInBounds_toArray, List.set_cons_zero, List.set_cons_succ]
      refine wpSoft_step ?_ rfl ?_ ?_
      rotate_left
      · intro w' hS
        try obtain ⟨s0⟩ := hS
        go_simp
        try with_reducible rfl
      simp only [Act.put, List.setIfInBounds_toArray, List.set_cons_zero, List.set_cons_succ]
      refine wpSoft_step ?_ rfl ?_ ?_
      rotate_left
      · intro w' hS
        try obtain ⟨s0⟩ := hS
        go_simp
        try with_reducible rfl
      simp only [Act.put, List.setIfInBounds_toArray, List.set_cons_zero, List.set_cons_succ]
      refine wpSoft_step ?_ rfl ?_ ?_
      rotate_left
      · intro w' hS
        try obtain ⟨s0⟩ := hS
        go_simp
        try with_reducible rfl
      simp only [Act.put, List.setIfInBounds_toArray, List.set_cons_zero, List.set_cons_succ]
      refine wpSoft_step ?_ rfl ?_ ?_
      rotate_left
      · intro w' hS
        try obtain ⟨s0⟩ := hS
        go_simp
        try with_reducible rfl
      simp only [Act.put, List.setIfInBounds_toArray, List.set_cons_zero, List.set_cons_succ]
      refine wpSoft_skip (by simp [Region.wanted, yielded]) ?_
      simp only [Act.put, List.setIfInBounds_toArray, List.set_cons_zero, List.set_cons_succ]
      refine wpSoft_skip (by simp [Region.wanted, yielded]) ?_
      simp only [Act.put, List.setIfInBounds_toArray, List.set_cons_zero, List.set_cons_succ]
      refine wpSoft_skip (by simp [Region.wanted, yielded]) ?_
      simp only [Act.put, List.setIfInBounds_toArray, List.set_cons_zero, List.set_cons_succ]
      refine wpSoft_skip (by simp [Region.wanted, yielded]) ?_
      simp only [Act.put, List.setIfInBounds_toArray, List.set_cons_zero, List.set_cons_succ]
      refine wpSoft_skip (by simp [Region.wanted, yielded]) ?_
      simp only [Act.put, List.setIfInBounds_toArray, List.set_cons_zero, List.set_cons_succ]
      refine wpSoft_skip (by simp [Region.wanted, yielded]) ?_
      simp only [Act.put, List.setIfInBounds_toArray, List.set_cons_zero, List.set_cons_succ]
      refine wpSoft_nil (.inr ⟨by simp [Region.wanted, yielded], ?_⟩)
      simp only [Act.put, List.setIfInBounds_toArray, List.set_cons_zero, List.set_cons_succ]
      refine wpSoft_step ?_ rfl ?_ ?_
      rotate_left
      · intro w' hS
        try obtain ⟨s0⟩ := hS
        go_simp
        try with_reducible rfl
      simp only [Act.put, List.setIfInBounds_toArray, List.set_cons_zero, List.set_cons_succ]
      refine wpSoft_nil ?_
      go_wp2_with fail
      refine wp_region_keepg (fun _ => True) 12 [0, 1, 2, 3, 4, 5, 6, 7, 8, 9, 10, 11] _ [13, 14, 15, 16] (by kernel_rfl) (by kernel_rfl) (fun _ _ _ _ _ h => h) rfl rfl rfl trivial ?_
      simp only [pickOps, List.filterMap_cons, List.filterMap_nil, List.getElem?_cons_zero, List.getElem?_cons_succ]
      refine wpSoft_step ?_ rfl ?_ ?_
      rotate_left
      · intro w' hS
        try obtain ⟨s0⟩ := hS
        go_simp
        try with_reducible rfl
      simp only [Act.put, List.setIfInBounds_toArray, List.set_cons_zero, List.set_cons_succ]
      refine wpSoft_step ?_ rfl ?_ ?_
      rotate_left
      · intro w' hS
        try obtain ⟨s0⟩ := hS
        go_simp
        try with_reducible rfl
      simp only [Act.put, List.setIfInBounds_toArray, List.set_cons_zero, List.set_cons_succ]
      refine wpSoft_step ?_ rfl ?_ ?_
      rotate_left
      · intro w' hS
        try obtain ⟨s0⟩ := hS
        go_simp
        try with_reducible rfl
      simp only [Act.put, List.setIfInBounds_toArray, List.set_cons_zero, List.set_cons_succ]
      refine wpSoft_step ?_ rfl ?_ ?_
      rotate_left
      · intro w' hS
        try obtain ⟨s0⟩ := hS
        go_simp
        try with_reducible rfl
      simp only [Act.put, List.setIfInBounds_toArray, List.set_cons_zero, List.set_cons_succ]
      refine wpSoft_step ?_ rfl ?_ ?_
      rotate_left
      · intro w' hS
        try obtain ⟨s0⟩ := hS
        go_simp
        try with_reducible rfl
      simp only [Act.put, List.setIfInBounds_toArray, List.set_cons_zero, List.set_cons_succ]
      refine wpSoft_step ?_ rfl ?_ ?_
      rotate_left
      · intro w' hS
        try obtain ⟨s0⟩ := hS
        go_simp
        try with_reducible rfl
      simp only [Act.put, List.setIfInBounds_toArray, List.set_cons_zero, List.set_cons_succ]
      refine wpSoft_skip (by simp [Region.wanted, yielded]) ?_
      simp only [Act.put, List.setIfInBounds_toArray, List.set_cons_zero, List.set_cons_succ]
      refine wpSoft_skip (by simp [Region.wanted, yielded]) ?_
      simp only [Act.put, List.setIfInBounds_toArray, List.set_cons_zero, List.set_cons_succ]
      refine wpSoft_skip (by simp [Region.wanted, yielded]) ?_
      simp only [Act.put, List.setIfInBounds_toArray, List.set_cons_zero, List.set_cons_succ]
      refine wpSoft_skip (by simp [Region.wanted, yielded]) ?_
      simp only [Act.put, List.setIfInBounds_toArray, List.set_cons_zero, List.set_cons_succ]
      refine wpSoft_skip (by simp [Region.wanted, yielded]) ?_
      simp only [Act.put, List.setIfInBounds_toArray, List.set_cons_zero, List.set_cons_succ]
      refine wpSoft_skip (by simp [Region.wanted, yielded]) ?_
      simp only [Act.put, List.setIfInBounds_toArray, List.set_cons_zero, List.set_cons_succ]
      refine wpSoft_nil (.inr ⟨by simp [Region.wanted, yielded], ?_⟩)
      simp only [Act.put, List.setIfInBounds_toArray, List.set_cons_zero, List.set_cons_succ]
      refine wpSoft_skip (by simp [Region.wanted, yielded]) ?_
      simp only [Act.put, List.setIfInBounds_toArray, List.set_cons_zero, List.set_cons_succ]
      refine wpSoft_step ?_ rfl ?_ ?_
      rotate_left
      · intro w' hS
        try obtain ⟨s0⟩ := hS
        go_simp
        try with_reducible rfl
      simp only [Act.put, List.setIfInBounds_toArray, List.set_cons_zero, List.set_cons_succ]
      refine wpSoft_step ?_ rfl ?_ ?_
      rotate_left
      · intro w' hS
        try obtain ⟨s0⟩ := hS
        go_simp
        try with_reducible rfl
      simp only [Act.put, List.setIfInBounds_toArray, List.set_cons_zero, List.set_cons_succ]
      refine wpSoft_step ?_ rfl ?_ ?_
      rotate_left
      · intro w' hS
        try obtain ⟨s0⟩ := hS
        go_simp
        try with_reducible rfl
      simp only [Act.put, List.setIfInBounds_toArray, List.set_cons_zero, List.set_cons_succ]
      refine wpSoft_nil ?_
      go_wp2_with fail
      go_ret2
      refine ⟨⟨l.length, false, rfl, Nat.le_refl _, HQ.out, fun z hz => by simp at hz, .inr ⟨fun z hz => by simp at hz, rfl⟩⟩, (hc1.trans hc).drew.drew⟩
end Go.Proofs.Ytojplcbkiogcpaa
