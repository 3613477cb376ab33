/- For every order, every degree and every list of items, every pivot and every number the law FnExactGDescendHintMut returns true and leaves its arguments as they were. -/
import Derived.Carry
import Derived.Test.YtojplcbkiogcpaaRows
import Derived.Test.YtojplcbkiogcpaaOg
import Derived.Test.YtojplcbkiogcpaaYasc
namespace Go.Proofs.Ytojplcbkiogcpaa
set_option linter.unusedSimpArgs false
set_option linter.unusedVariables false
open Go.RowKit

/-! spec -/
theorem dwn_take {ord : List Int} {lt : It ord → It ord → Bool} {x : It ord} {l : List (It ord)} {j : Nat} (h1 : ∀ q y, q < j → l[q]? = some y → lt x y = false) (h2 : ∀ y, l[j]? = some y → lt x y = true) : dwn lt x l = l.take j := by
  have e : l = l.take j ++ l.drop j := (List.take_append_drop j l).symm
  conv => lhs; rw [e]
  rw [dwn_pre (fun a ha => by obtain ⟨q, g1, g2⟩ := mem_take_get ha; exact h1 q a g1 g2)]
  have : dwn lt x (l.drop j) = [] := by
    cases hd : l.drop j with
    | nil => rfl
    | cons y ys =>
      have hy : l[j]? = some y := by
        have := List.getElem?_drop (xs := l) (i := j) (j := 0)
        rw [hd] at this; simpa using this.symm
      unfold dwn
      rw [List.takeWhile_cons, h2 y hy]; simp
  rw [this, List.append_nil]

set_option maxRecDepth 100000 in
set_option maxHeartbeats 1000000 in
theorem Down_any {ord : List Int} (ordv : Value) (rk : Int → Int) (v : Value) (l : List (It ord)) (x : It ord) (w : World) (hR : RankOk ordv rk w) (hl : SlE itemE w v l) (hlen : l.length ≤ 2147483648) :
    Calls Try.prog 92 #[ordv, v, itemV x] w (OwnPostI (dwn (ltR rk) x l).reverse w) := by
  obtain ⟨a, cap, rfl⟩ := hl.form
  have hcap : l.length ≤ cap := by
    obtain ⟨a', cap', e, h2, _⟩ := id hl
    injection e with e1 e2 e3
    omega
  have HR := Lib.hid hR
  have HL := Lib.hid hl
  clear hR hl
  unfold itemV
  go_enter Try.func92, Try.ntmps92
  go_wp2_with fail
  refine name_world (fun w1 => Chg (fun _ _ => False) w w1 ∧ w1.heap[w.heap.size]? = some (.cells #[.int .i64 x.1, .int .i64 x.2] 26 (0, 0))) ⟨(Chg.refl _ _).alloc _, ha_at _ _ rfl⟩ ?_
  rintro w1 ⟨hc1, hb1⟩
  have HB1 := Lib.hid hb1
  clear hb1
  go_loopw [7] (fun i wr => ∃ (j : Nat), j ≤ l.length ∧ i = .int .i64 j ∧ Chg (fun _ _ => False) w1 wr ∧ (∀ q y, q < j → l[q]? = some y → ltR rk x y = false)) (fun i _ => l.length - (intOf i).toNat)
  case atStart => exact ⟨0, Nat.zero_le _, rfl, Chg.refl _ _, fun q y h => by omega⟩
  case round =>
    obtain ⟨j, hj, rfl, hc, hq⟩ := hrel
    have HQ := Lib.hid hq
    clear hq
    have hbr : wr.heap[w.heap.size]? = some (.cells #[.int .i64 x.1, .int .i64 x.2] 26 (0, 0)) := by rw [hc.block (heap_lt HB1.out) (fun _ h => h)]; exact HB1.out
    have q0 := cell_of_block hbr 0
    have q1 := cell_of_block hbr 1
    simp only [List.getElem?_toArray, List.getElem?_cons_zero, List.getElem?_cons_succ] at q0 q1
    clear hbr
    have j0 : (0 : Int) ≤ (j : Int) := by omega
    have j1 : (j : Int) ≤ (cap : Int) := by omega
    have j2 : j ≤ cap := by omega
    by_cases hlt : j < l.length
    · obtain ⟨y, hy⟩ : ∃ y, l[j]? = some y := ⟨_, List.getElem?_eq_getElem hlt⟩
      obtain ⟨b, o, rfl, g0, g1⟩ := (HL.out.chg (hc1.trans hc)).item hy
      have HY := Lib.hid hy
      clear hy
      have i1 : (j : Int) < (l.length : Int) := by omega
      go_wp2_with fail
      refine wp_region_keepg (fun w' => w'.cell? ⟨w.heap.size, 0, none⟩ = some (.int .i64 x.1) ∧ w'.cell? ⟨w.heap.size, 1, none⟩ = some (.int .i64 x.2) ∧ w'.cell? ⟨b, o + j * 2, none⟩ = some (.int .i64 y.1) ∧ w'.cell? ⟨b, o + j * 2 + 1, none⟩ = some (.int .i64 y.2))
        11 [0, 1, 2, 3, 4, 5, 6, 7, 8, 9, 10] _ [12, 13] (by kernel_rfl) (by kernel_rfl) (fun _ _ _ _ _ h => h) rfl rfl rfl ⟨q0, q1, g0, g1⟩ ?_
      simp only [pickOps, List.filterMap_cons, List.filterMap_nil, List.getElem?_cons_zero, List.getElem?_cons_succ]
      refine wpSoft_step ?_ rfl ?_ ?_
      rotate_left
      · intro w' hS
        try obtain ⟨s0, s1, s2, s3⟩ := hS
        go_simp
        try with_reducible rfl
      simp only [Act.put, List.setIfInBounds_toArray, List.set_cons_zero, List.set_cons_succ]
      refine wpSoft_step ?_ rfl ?_ ?_
      rotate_left
      · intro w' hS
        try obtain ⟨s0, s1, s2, s3⟩ := hS
        go_simp
        try with_reducible rfl
      simp only [Act.put, List.setIfInBounds_toArray, List.set_cons_zero, List.set_cons_succ]
      refine wpSoft_step ?_ rfl ?_ ?_
      rotate_left
      · intro w' hS
        try obtain ⟨s0, s1, s2, s3⟩ := hS
        go_simp
        try with_reducible rfl
      simp only [Act.put, List.setIfInBounds_toArray, List.set_cons_zero, List.set_cons_succ]
      refine wpSoft_step ?_ rfl ?_ ?_
      rotate_left
      · intro w' hS
        try obtain ⟨s0, s1, s2, s3⟩ := hS
        go_simp
        try with_reducible rfl
      simp only [Act.put, List.setIfInBounds_toArray, List.set_cons_zero, List.set_cons_succ]
      refine wpSoft_step ?_ rfl ?_ ?_
      rotate_left
      · intro w' hS
        try obtain ⟨s0, s1, s2, s3⟩ := hS
        go_simp
        try with_reducible rfl
      simp only [Act.put, List.setIfInBounds_toArray, List.set_cons_zero, List.set_cons_succ]
      refine wpSoft_guard ?_ (by simp [Region.wanted, yielded]) ?_ ?_
      rotate_left
      · intro w' hS
        obtain ⟨s0, s1, s2, s3⟩ := hS
        go_simp
        try with_reducible rfl
      simp only [Act.put, List.setIfInBounds_toArray, List.set_cons_zero, List.set_cons_succ]
      refine wpSoft_guard ?_ (by simp [Region.wanted, yielded]) ?_ ?_
      rotate_left
      · intro w' hS
        obtain ⟨s0, s1, s2, s3⟩ := hS
        go_simp
        try with_reducible rfl
      simp only [Act.put, List.setIfInBounds_toArray, List.set_cons_zero, List.set_cons_succ]
      refine wpSoft_guard ?_ (by simp [Region.wanted, yielded]) ?_ ?_
      rotate_left
      · intro w' hS
        obtain ⟨s0, s1, s2, s3⟩ := hS
        go_simp
        try with_reducible rfl
      simp only [Act.put, List.setIfInBounds_toArray, List.set_cons_zero, List.set_cons_succ]
      refine wpSoft_guard ?_ (by simp [Region.wanted, yielded]) ?_ ?_
      rotate_left
      · intro w' hS
        obtain ⟨s0, s1, s2, s3⟩ := hS
        go_simp
        try with_reducible rfl
      simp only [Act.put, List.setIfInBounds_toArray, List.set_cons_zero, List.set_cons_succ]
      refine wpSoft_guard ?_ (by simp [Region.wanted, yielded]) ?_ ?_
      rotate_left
      · intro w' hS
        obtain ⟨s0, s1, s2, s3⟩ := hS
        go_simp
        try with_reducible rfl
      simp only [Act.put, List.setIfInBounds_toArray, List.set_cons_zero, List.set_cons_succ]
      refine wpSoft_guard ?_ (by simp [Region.wanted, yielded]) ?_ ?_
      rotate_left
      · intro w' hS
        obtain ⟨s0, s1, s2, s3⟩ := hS
        go_simp
        try with_reducible rfl
      simp only [Act.put, List.setIfInBounds_toArray, List.set_cons_zero, List.set_cons_succ]
      refine wpSoft_nil (.inl ⟨by simp [Region.wanted, yielded], ?_⟩)
      refine wp_hide (fun K hK => ?_)
      go_simp
      have hcw := (hc1.trans hc).drew
      refine (before_any ordv rk x y _ (HR.out.chg hcw)).mono ?_
      rintro e w2 ⟨rfl, hc2⟩
      refine hK _ _ ⟨⟨hc2.cell (fun h => h) q0, hc2.cell (fun h => h) q1, hc2.cell (fun h => h) g0, hc2.cell (fun h => h) g1⟩, ?_⟩
      clear hK K
      refine wpSoft_guard ?_ (by simp [Region.wanted, yielded]) ?_ ?_
      rotate_left
      · intro w' hS
        go_simp
        try with_reducible rfl
      simp only [Act.put, List.setIfInBounds_toArray, List.set_cons_zero, List.set_cons_succ]
      refine wpSoft_step ?_ rfl ?_ ?_
      rotate_left
      · intro w' hS
        try obtain ⟨s0, s1, s2, s3⟩ := hS
        go_simp
        try with_reducible rfl
      simp only [Act.put, List.setIfInBounds_toArray, List.set_cons_zero, List.set_cons_succ]
      refine wpSoft_nil ?_
      have hc02 : Chg (fun _ _ => False) wr w2 := (Chg.refl _ _).drew.trans hc2
      have hcx := (hc1.trans hc).trans hc02
      cases hb : ltR rk x y
      · go_wp2_with fail
        go_roundw
        case rel =>
          refine ⟨j + 1, by omega, by go_num, hc.trans hc02, fun q z h1 h2 => ?_⟩
          rcases Nat.lt_or_ge q j with h | h
          · exact HQ.out q z h h2
          · obtain rfl : q = j := by omega
            rw [HY.out] at h2
            obtain rfl := Option.some.inj h2
            exact hb
        case measure => simp [intOf]; omega
      ·
        have hdw : dwn (ltR rk) x l = l.take j := dwn_take HQ.out (fun z hz => by rw [HY.out] at hz; obtain rfl := Option.some.inj hz; exact hb)
        have hst := (HL.out.chg hcx).take j hj
        have htu := Turned_any _ _ _ hst (by simp; omega)
        rw [← hdw] at htu
        have HTU := Lib.hid htu
        clear hdw hst htu
        go_wp2_with fail
        refine HTU.out.mono ?_
        rintro e w4 ⟨v4, rfl, how4, hc4⟩
        go_wp2_with fail
        go_ret
        exact ⟨v4, rfl, how4.mono (hcx).size, (hcx).trans hc4⟩
    · obtain rfl : j = l.length := by omega
      have i1 : ¬ ((l.length : Nat) : Int) < (l.length : Int) := by omega
      have hcx := ((hc1.trans hc).drew)
      go_wp2_with fail
      refine wp_region_keepg (fun _ => True) 11 [0, 1, 2, 3, 4, 5, 6, 7, 8, 9, 10] _ [12, 13] (by kernel_rfl) (by kernel_rfl) (fun _ _ _ _ _ h => h) rfl rfl rfl trivial ?_
      simp only [pickOps, List.filterMap_cons, List.filterMap_nil, List.getElem?_cons_zero, List.getElem?_cons_succ]
      refine wpSoft_step ?_ rfl ?_ ?_
      rotate_left
      · intro w' hS
        try obtain ⟨s0⟩ := hS
        go_simp
        try with_reducible rfl
      simp only [Act.put, List.setIfInBounds_toArray, List.set_cons_zero, List.set_cons_succ]
      refine wpSoft_step ?_ rfl ?_ ?_
      rotate_left
      · intro w' hS
        try obtain ⟨s0⟩ := hS
        go_simp
        try with_reducible rfl
      simp only [Act.put, List.setIfInBounds_toArray, List.set_cons_zero, List.set_cons_succ]
      refine wpSoft_step ?_ rfl ?_ ?_
      rotate_left
      · intro w' hS
        try obtain ⟨s0⟩ := hS
        go_simp
        try with_reducible rfl
      simp only [Act.put, List.setIfInBounds_toArray, List.set_cons_zero, List.set_cons_succ]
      refine wpSoft_step ?_ rfl ?_ ?_
      rotate_left
      · intro w' hS
        try obtain ⟨s0⟩ := hS
        go_simp
        try with_reducible rfl
      simp only [Act.put, List.setIfInBounds_toArray, List.set_cons_zero, List.set_cons_succ]
      refine wpSoft_step ?_ rfl ?_ ?_
      rotate_left
      · intro w' hS
        try obtain ⟨s0⟩ := hS
        go_simp
        try with_reducible rfl
      simp only [Act.put, List.setIfInBounds_toArray, List.set_cons_zero, List.set_cons_succ]
      refine wpSoft_skip (by simp [Region.wanted, yielded]) ?_
      simp only [Act.put, List.setIfInBounds_toArray, List.set_cons_zero, List.set_cons_succ]
      refine wpSoft_skip (by simp [Region.wanted, yielded]) ?_
      simp only [Act.put, List.setIfInBounds_toArray, List.set_cons_zero, List.set_cons_succ]
      refine wpSoft_skip (by simp [Region.wanted, yielded]) ?_
      simp only [Act.put, List.setIfInBounds_toArray, List.set_cons_zero, List.set_cons_succ]
      refine wpSoft_skip (by simp [Region.wanted, yielded]) ?_
      simp only [Act.put, List.setIfInBounds_toArray, List.set_cons_zero, List.set_cons_succ]
      refine wpSoft_skip (by simp [Region.wanted, yielded]) ?_
      simp only [Act.put, List.setIfInBounds_toArray, List.set_cons_zero, List.set_cons_succ]
      refine wpSoft_skip (by simp [Region.wanted, yielded]) ?_
      simp only [Act.put, List.setIfInBounds_toArray, List.set_cons_zero, List.set_cons_succ]
      refine wpSoft_nil (.inr ⟨by simp [Region.wanted, yielded], ?_⟩)
      simp only [Act.put, List.setIfInBounds_toArray, List.set_cons_zero, List.set_cons_succ]
      refine wpSoft_skip (by simp [Region.wanted, yielded]) ?_
      simp only [Act.put, List.setIfInBounds_toArray, List.set_cons_zero, List.set_cons_succ]
      refine wpSoft_step ?_ rfl ?_ ?_
      rotate_left
      · intro w' hS
        try obtain ⟨s0⟩ := hS
        go_simp
        try with_reducible rfl
      simp only [Act.put, List.setIfInBounds_toArray, List.set_cons_zero, List.set_cons_succ]
      refine wpSoft_nil ?_
      have hdw : dwn (ltR rk) x l = l.take l.length := dwn_take HQ.out (fun z hz => by simp at hz)
      have hst := (HL.out.chg hcx).take l.length hj
      have htu := Turned_any _ _ _ hst (by simp; omega)
      rw [← hdw] at htu
      have HTU := Lib.hid htu
      clear hdw hst htu
      go_wp2_with fail
      refine HTU.out.mono ?_
      rintro e w4 ⟨v4, rfl, how4, hc4⟩
      go_wp2_with fail
      go_ret
      exact ⟨v4, rfl, how4.mono (hcx).size, (hcx).trans hc4⟩

set_option maxRecDepth 100000 in
set_option maxHeartbeats 1000000 in
theorem specGDescend_any {ord : List Int} (sv : Value) (d : Int) (nl : Bool) (p : Option Addr) (cap : Nat) (l : List (It ord)) (x : It ord) (n : Int) (w : World) (hs : SlE intE w sv ord) (hol : ord.length ≤ 2147483647) (hl : ItemsAt w p l) (hlen : l.length ≤ 2147483647) :
    Calls Try.prog 61 #[.agg #[sv, .int .i64 d, .bool nl], .slice p l.length cap, itemV x, .int .i64 n] w fun e w' => ∃ v', e = .returned v' ∧ SlE itemE w' v' (firstN n (dwn (ltR (rkL ord)) x (treeL (ltR (rkL ord)) l)).reverse) ∧ Chg (fun _ _ => False) w w' := by
  have HT := Lib.hid (fun w1 (c : Chg (fun _ _ => False) w w1) => tree_any sv (rkL ord) p cap l w1 (rank_list sv ord w1 (hs.chg c) hol) (hl.chg c) hlen)
  have hlen2 := treeL_len (ltR (rkL ord)) l
  have hdl := dwn_len (ltR (rkL ord)) x (treeL (ltR (rkL ord)) l)
  have HR := Lib.hid (fun w1 (c : Chg (fun _ _ => False) w w1) => rank_list sv ord w1 (hs.chg c) hol)
  obtain ⟨sa, sc, rfl⟩ : ∃ a c, sv = .slice a ord.length c := hs.form
  clear hl hs
  unfold itemV
  go_enter Try.func61, Try.ntmps61
  go_wp2_with fail
  refine name_world (fun w1 => Chg (fun _ _ => False) w w1 ∧ w1.heap[w.heap.size]? = some (.cells #[.slice sa ord.length sc, .int .i64 d, .bool nl] 24 (0, 0)) ∧ w1.heap[w.heap.size + 1]? = some (.cells #[.int .i64 x.1, .int .i64 x.2] 26 (0, 0))) ⟨((Chg.refl _ _).alloc _).alloc _, ?_, ?_⟩ ?_
  · rw [ha_lt _ _ (by simp)]; exact ha_at _ _ rfl
  · exact ha_at _ _ (by simp)
  rintro w1 ⟨hc1, hb1, hb2⟩
  have q0 := cell_of_block hb1 0
  have q1 := cell_of_block hb2 0
  have q2 := cell_of_block hb2 1
  simp only [List.getElem?_toArray, List.getElem?_cons_zero, List.getElem?_cons_succ] at q0 q1 q2
  clear hb1 hb2
  refine wp_region_script (fun w' => w'.cell? ⟨w.heap.size, 0, none⟩ = some (.slice sa ord.length sc) ∧ w'.cell? ⟨w.heap.size + 1, 0, none⟩ = some (.int .i64 x.1) ∧ w'.cell? ⟨w.heap.size + 1, 1, none⟩ = some (.int .i64 x.2)) 11
    [(0, true), (1, true), (2, true), (3, true), (4, true), (6, true), (8, true), (5, false), (7, false), (9, false), (10, true)] (by kernel_rfl) (by kernel_rfl) (fun _ _ _ _ _ h => h) ⟨q0, q1, q2⟩ ?_
  refine script_soft (by rfl) ?_ (by simp [Region.wanted, yielded]) ?_ ?_
  rotate_left
  · intro w' hS
    try obtain ⟨a1, a2, a3⟩ := hS
    go_simp
    try with_reducible rfl
  simp only [Act.put, List.setIfInBounds_toArray, List.set_cons_zero, List.set_cons_succ]
  refine script_soft (by rfl) ?_ (by simp [Region.wanted, yielded]) ?_ ?_
  rotate_left
  · intro w' hS
    try obtain ⟨a1, a2, a3⟩ := hS
    go_simp
    try with_reducible rfl
  simp only [Act.put, List.setIfInBounds_toArray, List.set_cons_zero, List.set_cons_succ]
  refine script_soft (by rfl) ?_ (by simp [Region.wanted, yielded]) ?_ ?_
  rotate_left
  · intro w' hS
    try obtain ⟨a1, a2, a3⟩ := hS
    go_simp
    try with_reducible rfl
  simp only [Act.put, List.setIfInBounds_toArray, List.set_cons_zero, List.set_cons_succ]
  refine script_soft (by rfl) ?_ (by simp [Region.wanted, yielded]) ?_ ?_
  rotate_left
  · intro w' hS
    try obtain ⟨a1, a2, a3⟩ := hS
    go_simp
    try with_reducible rfl
  simp only [Act.put, List.setIfInBounds_toArray, List.set_cons_zero, List.set_cons_succ]
  refine script_soft (by rfl) ?_ (by simp [Region.wanted, yielded]) ?_ ?_
  rotate_left
  · intro w' hS
    try obtain ⟨a1, a2, a3⟩ := hS
    go_simp
    try with_reducible rfl
  simp only [Act.put, List.setIfInBounds_toArray, List.set_cons_zero, List.set_cons_succ]
  refine script_soft (by rfl) ?_ (by simp [Region.wanted, yielded]) ?_ ?_
  rotate_left
  · intro w' hS
    try obtain ⟨a1, a2, a3⟩ := hS
    go_simp
    try with_reducible rfl
  simp only [Act.put, List.setIfInBounds_toArray, List.set_cons_zero, List.set_cons_succ]
  refine script_soft (by rfl) ?_ (by simp [Region.wanted, yielded]) ?_ ?_
  rotate_left
  · intro w' hS
    try obtain ⟨a1, a2, a3⟩ := hS
    go_simp
    try with_reducible rfl
  simp only [Act.put, List.setIfInBounds_toArray, List.set_cons_zero, List.set_cons_succ]
  refine script_hard (by rfl) (by simp [Region.wanted, yielded]) (fun K hK => ?_)
  go_simp
  refine (HT.out _ hc1.drew).mono ?_
  rintro e w2 ⟨v2, rfl, hv2, hc2⟩
  refine hK _ _ (fun _ => ⟨hc2.cell (fun h => h) q0, hc2.cell (fun h => h) q1, hc2.cell (fun h => h) q2⟩) ?_
  clear hK K
  obtain ⟨q, cap2, rfl, hi, hcap⟩ := hv2.items
  have hc12 : Chg (fun _ _ => False) w1 w2 := (Chg.refl _ _).drew.trans hc2
  have hdn := Down_any (ord := ord) (.slice sa ord.length sc) (rkL ord) _ _ x w2 (HR.out _ (hc1.trans hc12)) (hi.sl hcap) (by omega)
  unfold itemV at hdn
  have HDN := Lib.hid hdn
  clear hdn
  refine script_hard (by rfl) (by simp [Region.wanted, yielded]) (fun K hK => ?_)
  go_simp
  refine HDN.out.mono ?_
  rintro e w3 ⟨v3, rfl, how3, hc3⟩
  have hc13 := hc12.trans hc3
  refine hK _ _ (fun _ => ⟨hc13.cell (fun h => h) q0, hc13.cell (fun h => h) q1, hc13.cell (fun h => h) q2⟩) ?_
  clear hK K
  have hfi := First_any _ _ n _ how3.sl (by simp; omega)
  have HFI := Lib.hid hfi
  clear hfi
  refine script_hard (by rfl) (by simp [Region.wanted, yielded]) (fun K hK => ?_)
  go_simp
  refine HFI.out.mono ?_
  rintro e w4 ⟨v4, rfl, hs4, hc4⟩
  have hc14 := hc13.trans hc4
  refine hK _ _ (fun _ => ⟨hc14.cell (fun h => h) q0, hc14.cell (fun h => h) q1, hc14.cell (fun h => h) q2⟩) ?_
  clear hK K
  refine script_soft (by rfl) ?_ (by simp [Region.wanted, yielded]) ?_ ?_
  rotate_left
  · intro w' hS
    try obtain ⟨a1, a2, a3⟩ := hS
    go_simp
    try with_reducible rfl
  simp only [Act.put, List.setIfInBounds_toArray, List.set_cons_zero, List.set_cons_succ]
  refine script_nil ?_
  go_wp2
  go_ret
  exact ⟨v4, rfl, hs4, hc1.trans hc14⟩

set_option maxRecDepth 100000 in
theorem gDescendHintMut_any {ord : List Int} (sv : Value) (d : Int) (nl : Bool) (p : Option Addr) (cap : Nat) (l : List (It ord)) (x : It ord) (n : Int) (w : World) (hs : SlE intE w sv ord) (hol : ord.length ≤ 2147483647) (hd : FitD d) (hl : ItemsAt w p l) (hlen : l.length ≤ 2147483647) :
    Calls Try.prog 32 #[.agg #[sv, .int .i64 d, .bool nl], .slice p l.length cap, .agg #[.int .i64 x.1, .int .i64 x.2], .int .i64 n] w fun e w' => e = .returned (.bool true) ∧ Chg (fun _ _ => False) w w' := by
  have HM := Lib.hid (fun w1 (c : Chg (fun _ _ => False) w w1) => GDescendHintMut_any sv d nl p cap l x n w1 (hs.chg c) hol hd (hl.chg c) hlen)
  have hG := fun w1 (c : Chg (fun _ _ => False) w w1) => specGDescend_any sv d nl p cap l x n w1 (hs.chg c) hol (hl.chg c) hlen
  unfold itemV at hG
  have HG := Lib.hid hG
  have e1 : dwn (ltM (ord := ord)) x (growL l) = dwn (ltR (rkL ord)) x (treeL (ltR (rkL ord)) l) := rfl
  rw [e1] at HM
  have hfl := firstN_len n (dwn (ltR (rkL ord)) x (treeL (ltR (rkL ord)) l)).reverse
  have hlen2 := treeL_len (ltR (rkL ord)) l
  have hdl := dwn_len (ord := ord) (ltR (rkL ord)) x (treeL (ltR (rkL ord)) l)
  rw [List.length_reverse] at hfl
  unfold OwnPostI at HM
  generalize firstN n (dwn (ltR (rkL ord)) x (treeL (ltR (rkL ord)) l)).reverse = L at HM HG hfl
  obtain ⟨sa, sc, rfl⟩ : ∃ a c, sv = .slice a ord.length c := hs.form
  clear hs hl e1 hG
  go_enter Try.func32, Try.ntmps32
  go_wp2_with fail
  refine name_calls (fun w1 => Chg (fun _ _ => False) w w1 ∧ w1.heap[w.heap.size]? = some (.cells #[.slice sa ord.length sc, .int .i64 d, .bool nl] 24 (0, 0)) ∧ w1.heap[w.heap.size + 1]? = some (.cells #[.int .i64 x.1, .int .i64 x.2] 26 (0, 0))) ⟨((Chg.refl _ _).alloc _).alloc _, ?_, ?_⟩ ?_
  · rw [ha_lt _ _ (by simp; try omega)]; exact ha_at _ _ rfl
  · exact ha_at _ _ (by simp)
  rintro w1 ⟨hc1, hb0, hb1⟩
  have m0 := cell_of_block hb0 0
  have m1 := cell_of_block hb0 1
  have m2 := cell_of_block hb0 2
  have q0 := cell_of_block hb1 0
  have q1 := cell_of_block hb1 1
  simp only [List.getElem?_toArray, List.getElem?_cons_zero, List.getElem?_cons_succ] at m0 m1 m2 q0 q1
  clear hb0 hb1
  refine (HM.out _ hc1).mono ?_
  rintro e w2 ⟨v1, rfl, how1, hc2⟩
  replace m0 := hc2.cell (fun h => h) m0
  replace m1 := hc2.cell (fun h => h) m1
  replace m2 := hc2.cell (fun h => h) m2
  replace q0 := hc2.cell (fun h => h) q0
  replace q1 := hc2.cell (fun h => h) q1
  go_wp2_with fail
  refine (HG.out _ (hc1.trans hc2)).mono ?_
  rintro e w3 ⟨v3, rfl, hs3, hc3⟩
  go_wp2_with fail
  refine (equal_item _ _ _ _ (how1.sl.chg hc3) hs3 (by omega)).mono ?_
  rintro e w4 ⟨rfl, hc4⟩
  go_wp2_with fail
  go_ret
  exact ⟨rfl, ((hc1.trans hc2).trans hc3).trans hc4⟩

set_option maxRecDepth 100000 in
theorem law_ExactGDescendHintMut (sv : Value) (os : List Int) (d : Int) (nl : Bool) (p : Option Addr) (cap : Nat) (l : List (Int × Int)) (x : Int × Int) (n : Int) (w : World) (hs : SlE intE w sv os) (hl : ItemsAt w p l) :
    Calls Try.prog 10 #[.agg #[sv, .int .i64 d, .bool nl], .slice p l.length cap, .agg #[.int .i64 x.1, .int .i64 x.2], .int .i64 n] w fun e w' => e = .returned (.bool true) ∧ Chg (fun _ _ => False) w w' := by
  obtain ⟨sa, sc, rfl⟩ : ∃ a c, sv = .slice a os.length c := hs.form
  have hz := fun w1 => zzFits1_any sa os.length sc d nl w1
  by_cases hol : os.length ≤ 2147483647
  rotate_left
  · rw [decide_eq_false hol] at hz
    go_enter Try.func10, Try.ntmps10
    go_wp2_with fail
    refine name_calls (fun w1 => Chg (fun _ _ => False) w w1) ((((Chg.refl _ _).alloc _).alloc _)) ?_
    intro w1 hc1
    refine (hz w1).mono ?_
    rintro e w2 ⟨rfl, hc2⟩
    go_wp2_with fail
    go_ret
    exact ⟨rfl, hc1.trans hc2⟩
  rw [decide_eq_true hol] at hz
  by_cases hlen : l.length ≤ 2147483647
  rotate_left
  · have hlen' : 2147483647 < l.length := by omega
    go_enter Try.func10, Try.ntmps10
    go_wp2_with fail
    refine name_calls (fun w1 => Chg (fun _ _ => False) w w1) ((((Chg.refl _ _).alloc _).alloc _)) ?_
    intro w1 hc1
    refine (hz w1).mono ?_
    rintro e w2 ⟨rfl, hc2⟩
    go_wp2_with fail
    go_ret
    exact ⟨rfl, hc1.trans hc2⟩
  have hn : ¬ 2147483647 < l.length := by omega
  have HEX := Lib.hid (fun q w1 (hq : ItemsAt w1 q exL) => gDescendHintMut_any (ord := []) (.slice none 0 0) 2 false q 7 exL ((4, 0) : Int × Int) 2 w1 ⟨none, 0, rfl, Nat.le_refl _, .inl rfl⟩ (by simp) (.inr ⟨by omega, by omega⟩) hq (by decide))
  have HG := Lib.hid (fun hd w1 (c : Chg (fun _ _ => False) w w1) => gDescendHintMut_any (ord := os) (.slice sa os.length sc) d nl p cap l x n w1 (hs.chg c) hol hd (hl.chg c) hlen)
  clear hs hl
  have q1 : exL.length = 7 := rfl
  go_enter Try.func10, Try.ntmps10
  go_wp2_with fail
  refine name_calls (fun w1 => Chg (fun _ _ => False) w w1 ∧ w1.heap[w.heap.size]? = some (.cells #[.slice sa os.length sc, .int .i64 d, .bool nl] 24 (0, 0)) ∧ w1.heap[w.heap.size + 1]? = some (.cells #[.int .i64 x.1, .int .i64 x.2] 26 (0, 0))) ⟨(((Chg.refl _ _).alloc _).alloc _), ?_, ?_⟩ ?_
  · rw [ha_lt _ _ (by simp; try omega)]; exact ha_at _ _ rfl
  · exact ha_at _ _ (by simp)
  rintro w1 ⟨hc1, hb0, hb1⟩
  have k0 := cell_of_block hb1 0
  have k1 := cell_of_block hb1 1
  have m0 := cell_of_block hb0 0
  have m1 := cell_of_block hb0 1
  have m2 := cell_of_block hb0 2
  simp only [List.getElem?_toArray, List.getElem?_cons_zero, List.getElem?_cons_succ] at m0 m1 m2 k0 k1
  clear hb0 hb1
  refine (hz w1).mono ?_
  rintro e w2 ⟨rfl, hc2⟩
  replace m0 := hc2.cell (fun h => h) m0
  replace m1 := hc2.cell (fun h => h) m1
  replace m2 := hc2.cell (fun h => h) m2
  replace k0 := hc2.cell (fun h => h) k0
  replace k1 := hc2.cell (fun h => h) k1
  go_wp2_with fail
  refine (exMake_any _).mono ?_
  rintro e w3 ⟨rfl, hc3⟩
  replace m0 := hc3.cell (fun h => h) m0
  replace m1 := hc3.cell (fun h => h) m1
  replace m2 := hc3.cell (fun h => h) m2
  replace k0 := hc3.cell (fun h => h) k0
  replace k1 := hc3.cell (fun h => h) k1
  go_wp2_with fail
  refine (exItems_any _).mono ?_
  rintro e w4 ⟨q, rfl, hq, hc4⟩
  replace m0 := hc4.cell (fun h => h) m0
  replace m1 := hc4.cell (fun h => h) m1
  replace m2 := hc4.cell (fun h => h) m2
  replace k0 := hc4.cell (fun h => h) k0
  replace k1 := hc4.cell (fun h => h) k1
  go_wp2_with fail
  refine (HEX.out q _ hq).mono ?_
  rintro e w5 ⟨rfl, hc5⟩
  replace m0 := hc5.cell (fun h => h) m0
  replace m1 := hc5.cell (fun h => h) m1
  replace m2 := hc5.cell (fun h => h) m2
  replace k0 := hc5.cell (fun h => h) k0
  replace k1 := hc5.cell (fun h => h) k1
  have hc04 := (((hc1.trans hc2).trans hc3).trans hc4).trans hc5
  by_cases hd : FitD d
  · go_wp2_with fail
    refine (fits_fit d _ hd).mono ?_
    rintro e w' ⟨rfl, rfl⟩
    go_wp2_with fail
    refine (HG.out hd _ hc04).mono ?_
    rintro e w5 ⟨rfl, hc5⟩
    go_wp2_with fail
    go_ret
    exact ⟨rfl, hc04.trans hc5⟩
  · go_wp2_with fail
    refine (fits_not d _ hd).mono ?_
    rintro e w' ⟨rfl, rfl⟩
    go_wp2_with fail
    go_ret
    exact ⟨rfl, hc04⟩
end Go.Proofs.Ytojplcbkiogcpaa

namespace Go.Proofs.Ytojplcbkiogcpaa
set_option linter.unusedSimpArgs false
set_option linter.unusedVariables false
open Go.ChangeShapes Go.WideShapes Go.ChangeAt Go.RowKit

namespace fnExactGDescendHintMut
theorem own : ownKnob Try.prog.godebug = none := by kernel_rfl
theorem laid : laidOutB Try.prog = true := by kernel_rfl

set_option maxRecDepth 100000 in
theorem lifted (os : Os) (started : os.Started) (H : Type) (enc : TypeId × Value → H) :
    ReturnsInHanded {} Try.checked os 10 .any (Rows.fnExactGDescendHintMutSpec.pre6 enc Try.prog Try.f10 Rows.fnExactGDescendHintMutRow.domain false) (Rows.fnExactGDescendHintMutSpec.post enc Try.prog Try.f10 false true false false) := by
  refine returnsInHanded_of_change (C := Try.checked) own started (by kernel_rfl) Try.func10
    (ChangeSpec.witness6 (enc := enc) (C := Try.checked) false ⟨#[], #[.agg #[.slice none 0 0, .int .i64 0, .bool false], .slice none 0 0, .agg #[.int .i64 0, .int .i64 0], .int .i64 0], []⟩ 8 (by kernel_rfl) (by kernel_rfl) (by kernel_rfl) (by kernel_rfl)) ?_
  intro W base args ds gs before hval0 hW hcnd _
  have hval : ∀ (j : Nat) t v, Try.f10.params[j]? = some t → args[j]? = some v → Value.okWide Try.prog W .any base t v := hval0
  have hW' := hW
  obtain ⟨p, q, hA0, hV, rfl, hfz, hnd⟩ := hW
  have hA : DataW.TrodAll enc Try.prog W 0 (fun _ => true) true Try.f10.params.toList args.toList ds p := hA0
  rw [Try.params10] at hA hval
  obtain ⟨v0, v1, v2, v3, d0, d1, d2, d3, p0, p1, p2, p3, rfl, rfl, rfl, h0, h1, h2, h3⟩ := trodAll_four hA
  obtain ⟨rfl, rfl⟩ := trodVars_none hV
  obtain ⟨sv, ord, dg, nl, rfl, hs⟩ := open_make (hval 0 24 v0 rfl rfl) h0
  obtain ⟨a, l, cap, rfl, hl, _⟩ := open_items Try.underlying31 Try.underlying26 (by kernel_rfl) rfl rfl rfl rfl (by kernel_rfl) Try.underlying3 (hval 1 31 v1 rfl rfl) h1
  obtain ⟨xx, rfl⟩ := open_item (hval 2 26 v2 rfl rfl) h2
  obtain ⟨nn, rfl, rfl, rfl, _⟩ := open_int Try.underlying3 (hval 3 3 v3 rfl rfl) h3
  refine (law_ExactGDescendHintMut sv ord dg nl a cap l xx nn W hs hl).mono fun e W' ⟨he, hc⟩ => ?_
  subst he
  exact ⟨_, rfl, law_post laid (by kernel_rfl) rfl Try.underlying4 hW' rfl rfl (hc.below (Nat.le_refl _) (fun _ _ _ h => h))⟩

theorem proved : Rows.FnExactGDescendHintMutSaid :=
  OpenClaim.holds_of_wide 10 Try.f10 rfl rfl rfl rfl rfl rfl rfl ⟨rfl, rfl, rfl, rfl, rfl⟩ rfl rfl rfl rfl rfl (by kernel_rfl) Try.func10 (by kernel_rfl)
    (of_decide_eq_true (by kernel_rfl)) (by unfold Func.isWrapper; first | (rw [if_pos (by decide +kernel)]; kernel_rfl) | (rw [if_neg (by decide +kernel)]; exact ⟨rfl, rfl⟩))
    (fun os started H enc _ => lifted os started H enc)
end fnExactGDescendHintMut
end Go.Proofs.Ytojplcbkiogcpaa
