/- descend, DescendMut, MDescendMut; spec: Down, GDescend; FnExactMDescendMut's two sides agree. -/
import Derived.Test.YtkgcjgedpefhjaaDn
namespace Go.Proofs.Ytkgcjgedpefhjaa
open Go.RowKit

theorem descend_any {mn mx : Nat} {w : World} {F : Nat → Prop} {t : Nat} {l : List (Int × Int)} (key : Int) (mt : Bool) {n : Int} {ob b2 b3 cb rb : Nat} {acc : List (Int × Int)} (hM : MapIn mn mx w F t l) (hK : Kept n ob b2 b3 cb rb w acc) (hFb : ∀ b, F b → ¬ TakeB ob rb b) (htb : ¬ TakeB ob rb t) (hlen : acc.length + l.length ≤ 1000000000000) :
    Calls Try.prog 103 #[.pointer (some ⟨t, 0, none⟩), .int .i64 key, fnP cb, .bool mt] w (RunEnd n ob b2 b3 cb rb acc (dwn ltM (key, 0) l).reverse w) := by
  rcases hM with ⟨rfl, _, hB⟩ | ⟨H, h, T, hI, hB, rfl, h1⟩
  · have c2 : w.cell? ⟨t, 2, none⟩ = some (.pointer none) := hB.c2
    have HK := Lib.hid hK
    clear hK
    unfold fnP
    go_enter Try.func103, Try.ntmps103
    go_wp2
    go_end0
    exact ⟨rfl, HK.out, Chg.refl _ _⟩
  · have c2 : w.cell? ⟨t, 2, none⟩ = some (.pointer (some ⟨rid T, 0, none⟩)) := hB.c2
    have hr := desc_all h mn mx w F H T t ⟨t, 2, none⟩ key mt n ob b2 b3 cb rb acc hI.fam hI.isT hI.sh hI.srt hI.m1000 c2 hB.at_.c0 hK hFb htb hlen
    unfold fnP at hr ⊢
    have HR := Lib.hid hr
    clear hr hK
    go_enter Try.func103, Try.ntmps103
    go_wp2_with fail
    refine HR.out.mono ?_
    rintro e w1 ⟨rfl, h1, h2⟩
    go_wp2_with fail
    go_end0
    exact ⟨rfl, h1, h2⟩

theorem DescendMut_any {mn mx : Nat} {w : World} {F : Nat → Prop} {t : Nat} {l : List (Int × Int)} (key : Int) {n : Int} {ob b2 b3 cb rb : Nat} {acc : List (Int × Int)} (hM : MapIn mn mx w F t l) (hK : Kept n ob b2 b3 cb rb w acc) (hFb : ∀ b, F b → ¬ TakeB ob rb b) (htb : ¬ TakeB ob rb t) (hlen : acc.length + l.length ≤ 1000000000000) :
    Calls Try.prog 79 #[.pointer (some ⟨t, 0, none⟩), .int .i64 key, fnP cb] w (RunEnd n ob b2 b3 cb rb acc (dwn ltM (key, 0) l).reverse w) := by
  have hr := descend_any key true hM hK hFb htb hlen
  unfold fnP at hr ⊢
  have HR := Lib.hid hr
  clear hr hK
  go_enter Try.func79, Try.ntmps79
  go_wp2_with fail
  refine HR.out.mono ?_
  rintro e w1 ⟨rfl, h1, h2⟩
  go_wp2_with fail
  go_end0
  exact ⟨rfl, h1, h2⟩

set_option maxRecDepth 100000 in
theorem MDescendMut_any (d : Int) (p : Option Addr) (cap : Nat) (l : List (Int × Int)) (key : Int)(n : Int) (w : World) (h1 : 2 ≤ d) (h2 : d ≤ 128) (hl : ItemsAt w p l) (hlen : l.length ≤ 2147483647) :
    Calls Try.prog 56 #[.int .i64 d, .slice p l.length cap, .int .i64 key,.int .i64 n] w (OwnPost itemE (firstN n ((dwn ltM (key, 0) (growL l)).reverse)) w) := by
  have hgl := growL_take_len l l.length
  rw [List.take_length] at hgl
  have HGL := Lib.hid hgl
  have HL := Lib.hid hl
  clear hgl hl
  go_enter Try.func56, Try.ntmps56
  go_wp2_with fail
  refine name_calls (fun w1 => Chg (fun _ _ => False) w w1 ∧ w1.heap[w.heap.size]? = some (.cells #[.slice none 0 0] 22 (0, 0))) ⟨(Chg.refl _ _).alloc _, ha_at _ _ rfl⟩ ?_
  rintro w1 ⟨hc1, hb1⟩
  refine (growMap_any d p cap l _ h1 h2 (HL.out.chg hc1) hlen).mono ?_
  rintro e w2 ⟨t, F, rfl, ht, hM, hc2, hF2⟩
  have hb2 : w2.heap[w.heap.size]? = some (.cells #[.slice none 0 0] 22 (0, 0)) := by rw [hc2.block (heap_lt hb1) (fun _ h => h)]; exact hb1
  have hlt1 := heap_lt hb1
  have hp := pairs_any w.heap.size n w2 hb2
  have HP := Lib.hid hp
  clear hp hb1 hb2
  go_wp2_with fail
  refine HP.out.mono ?_
  rintro e w3 ⟨b2, b3, cb, rfl, hk, hc3⟩
  have hsz3 := hc3.size
  have hM3 := hM.chg hc3
  have hTb : ∀ b, F b → ¬ TakeB w.heap.size w3.heap.size b := by
    rintro b hb (h | h)
    · have := hF2 b hb; omega
    · have := hM3.flt' b hb; omega
  have htb : ¬ TakeB w.heap.size w3.heap.size t := by
    rintro (h | h)
    · omega
    · obtain ⟨root, hB⟩ := hM3.blk'
      have := hB.lt; omega
  have hr := DescendMut_any key hM3 hk hTb htb (by have := HGL.out; simp; omega)
  unfold fnP at hr
  have HR := Lib.hid hr
  clear hr hk
  go_wp2_with fail
  refine HR.out.mono ?_
  rintro e w4 ⟨rfl, hk4, hc4⟩
  rw [runL_first] at hk4
  obtain ⟨⟨v, g1, g2⟩, _⟩ := hk4
  have k0 := cell_of_block g1 0
  simp only [List.getElem?_toArray, List.getElem?_cons_zero] at k0
  clear g1
  go_wp2_with fail
  go_ret
  have hc03 := (hc1.trans hc2).trans hc3
  exact ⟨v, rfl, g2.mono hc03.size, hc03.trans' hc4 (fun _ _ _ h => h) (fun b o hb h => by rcases h with h | h <;> omega)⟩

/-! spec -/
theorem dwn_take {lt : Int × Int → Int × Int → Bool} {x : Int × Int} {l : List (Int × Int)} {j : Nat} (h1 : ∀ q y, q < j → l[q]? = some y → lt x y = false) (h2 : ∀ y, l[j]? = some y → lt x y = true) : dwn lt x l = l.take j := by
  have e : l = l.take j ++ l.drop j := (List.take_append_drop j l).symm
  conv => lhs; rw [e]
  rw [dwn_pre (fun a ha => by obtain ⟨q, g1, g2⟩ := mem_take_get ha; exact h1 q a g1 g2)]
  have : dwn lt x (l.drop j) = [] := by
    cases hd : l.drop j with
    | nil => rfl
    | cons y ys =>
      have hy : l[j]? = some y := by
        have := List.getElem?_drop (xs := l) (i := j) (j := 0)
        rw [hd] at this; simpa using this.symm
      unfold dwn
      rw [List.takeWhile_cons, h2 y hy]; simp
  rw [this, List.append_nil]

set_option maxRecDepth 100000 in
set_option maxHeartbeats 1000000 in
theorem Down_any (ordv : Value) (rk : Int → Int) (v : Value) (l : List (Int × Int)) (x : Int × Int) (w : World) (hR : RankOk ordv rk w) (hl : SlE itemE w v l) (hlen : l.length ≤ 2147483648) :
    Calls Try.prog 80 #[ordv, v, itemV x] w (OwnPost itemE (dwn (ltR rk) x l).reverse w) := by
  obtain ⟨a, cap, rfl⟩ := hl.form
  have hcap : l.length ≤ cap := by
    obtain ⟨a', cap', e, h2, _⟩ := id hl
    injection e with e1 e2 e3
    omega
  have HR := Lib.hid hR
  have HL := Lib.hid hl
  clear hR hl
  unfold itemV
  go_enter Try.func80, Try.ntmps80
  go_wp2_with fail
  refine name_world (fun w1 => Chg (fun _ _ => False) w w1 ∧ w1.heap[w.heap.size]? = some (.cells #[.int .i64 x.1, .int .i64 x.2] 39 (0, 0))) ⟨(Chg.refl _ _).alloc _, ha_at _ _ rfl⟩ ?_
  rintro w1 ⟨hc1, hb1⟩
  have HB1 := Lib.hid hb1
  clear hb1
  go_loopw [7] (fun i wr => ∃ (j : Nat), j ≤ l.length ∧ i = .int .i64 j ∧ Chg (fun _ _ => False) w1 wr ∧ (∀ q y, q < j → l[q]? = some y → ltR rk x y = false)) (fun i _ => l.length - (intOf i).toNat)
  case atStart => exact ⟨0, Nat.zero_le _, rfl, Chg.refl _ _, fun q y h => by omega⟩
  case round =>
    obtain ⟨j, hj, rfl, hc, hq⟩ := hrel
    have HQ := Lib.hid hq
    clear hq
    have hbr : wr.heap[w.heap.size]? = some (.cells #[.int .i64 x.1, .int .i64 x.2] 39 (0, 0)) := by rw [hc.block (heap_lt HB1.out) (fun _ h => h)]; exact HB1.out
    have q0 := cell_of_block hbr 0
    have q1 := cell_of_block hbr 1
    simp only [List.getElem?_toArray, List.getElem?_cons_zero, List.getElem?_cons_succ] at q0 q1
    clear hbr
    have j0 : (0 : Int) ≤ (j : Int) := by omega
    have j1 : (j : Int) ≤ (cap : Int) := by omega
    have j2 : j ≤ cap := by omega
    by_cases hlt : j < l.length
    · obtain ⟨y, hy⟩ : ∃ y, l[j]? = some y := ⟨_, List.getElem?_eq_getElem hlt⟩
      obtain ⟨b, o, rfl, g0, g1⟩ := (HL.out.chg (hc1.trans hc)).item hy
      have HY := Lib.hid hy
      clear hy
      have i1 : (j : Int) < (l.length : Int) := by omega
      go_wp2_with fail
      refine wp_region_keepg (fun w' => w'.cell? ⟨w.heap.size, 0, none⟩ = some (.int .i64 x.1) ∧ w'.cell? ⟨w.heap.size, 1, none⟩ = some (.int .i64 x.2) ∧ w'.cell? ⟨b, o + j * 2, none⟩ = some (.int .i64 y.1) ∧ w'.cell? ⟨b, o + j * 2 + 1, none⟩ = some (.int .i64 y.2))
        11 [0, 1, 2, 3, 4, 5, 6, 7, 8, 9, 10] _ [12, 13] (by kernel_rfl) (by kernel_rfl) (fun _ _ _ _ _ h => h) rfl rfl rfl ⟨q0, q1, g0, g1⟩ ?_
      simp only [pickOps, List.filterMap_cons, List.filterMap_nil, List.getElem?_cons_zero, List.getElem?_cons_succ]
      refine wpSoft_step ?_ rfl ?_ ?_
      rotate_left
      · intro w' hS
        try obtain ⟨s0, s1, s2, s3⟩ := hS
        go_simp
        try with_reducible rfl
      simp only [Act.put, List.setIfInBounds_toArray, List.set_cons_zero, List.set_cons_succ]
      refine wpSoft_step ?_ rfl ?_ ?_
      rotate_left
      · intro w' hS
        try obtain ⟨s0, s1, s2, s3⟩ := hS
        go_simp
        try with_reducible rfl
      simp only [Act.put, List.setIfInBounds_toArray, List.set_cons_zero, List.set_cons_succ]
      refine wpSoft_step ?_ rfl ?_ ?_
      rotate_left
      · intro w' hS
        try obtain ⟨s0, s1, s2, s3⟩ := hS
        go_simp
        try with_reducible rfl
      simp only [Act.put, List.setIfInBounds_toArray, List.set_cons_zero, List.set_cons_succ]
      refine wpSoft_step ?_ rfl ?_ ?_
      rotate_left
      · intro w' hS
        try obtain ⟨s0, s1, s2, s3⟩ := hS
        go_simp
        try with_reducible rfl
      simp only [Act.put, List.setIfInBounds_toArray, List.set_cons_zero, List.set_cons_succ]
      refine wpSoft_step ?_ rfl ?_ ?_
      rotate_left
      · intro w' hS
        try obtain ⟨s0, s1, s2, s3⟩ := hS
        go_simp
        try with_reducible rfl
      simp only [Act.put, List.setIfInBounds_toArray, List.set_cons_zero, List.set_cons_succ]
      refine wpSoft_guard ?_ (by simp [Region.wanted, yielded]) ?_ ?_
      rotate_left
      · intro w' hS
        obtain ⟨s0, s1, s2, s3⟩ := hS
        go_simp
        try with_reducible rfl
      simp only [Act.put, List.setIfInBounds_toArray, List.set_cons_zero, List.set_cons_succ]
      refine wpSoft_guard ?_ (by simp [Region.wanted, yielded]) ?_ ?_
      rotate_left
      · intro w' hS
        obtain ⟨s0, s1, s2, s3⟩ := hS
        go_simp
        try with_reducible rfl
      simp only [Act.put, List.setIfInBounds_toArray, List.set_cons_zero, List.set_cons_succ]
      refine wpSoft_guard ?_ (by simp [Region.wanted, yielded]) ?_ ?_
      rotate_left
      · intro w' hS
        obtain ⟨s0, s1, s2, s3⟩ := hS
        go_simp
        try with_reducible rfl
      simp only [Act.put, List.setIfInBounds_toArray, List.set_cons_zero, List.set_cons_succ]
      refine wpSoft_guard ?_ (by simp [Region.wanted, yielded]) ?_ ?_
      rotate_left
      · intro w' hS
        obtain ⟨s0, s1, s2, s3⟩ := hS
        go_simp
        try with_reducible rfl
      simp only [Act.put, List.setIfInBounds_toArray, List.set_cons_zero, List.set_cons_succ]
      refine wpSoft_guard ?_ (by simp [Region.wanted, yielded]) ?_ ?_
      rotate_left
      · intro w' hS
        obtain ⟨s0, s1, s2, s3⟩ := hS
        go_simp
        try with_reducible rfl
      simp only [Act.put, List.setIfInBounds_toArray, List.set_cons_zero, List.set_cons_succ]
      refine wpSoft_guard ?_ (by simp [Region.wanted, yielded]) ?_ ?_
      rotate_left
      · intro w' hS
        obtain ⟨s0, s1, s2, s3⟩ := hS
        go_simp
        try with_reducible rfl
      simp only [Act.put, List.setIfInBounds_toArray, List.set_cons_zero, List.set_cons_succ]
      refine wpSoft_nil (.inl ⟨by simp [Region.wanted, yielded], ?_⟩)
      refine wp_hide (fun K hK => ?_)
      go_simp
      have hcw := (hc1.trans hc).drew
      refine (before_any ordv rk x y _ (HR.out.chg hcw)).mono ?_
      rintro e w2 ⟨rfl, hc2⟩
      refine hK _ _ ⟨⟨hc2.cell (fun h => h) q0, hc2.cell (fun h => h) q1, hc2.cell (fun h => h) g0, hc2.cell (fun h => h) g1⟩, ?_⟩
      clear hK K
      refine wpSoft_guard ?_ (by simp [Region.wanted, yielded]) ?_ ?_
      rotate_left
      · intro w' hS
        go_simp
        try with_reducible rfl
      simp only [Act.put, List.setIfInBounds_toArray, List.set_cons_zero, List.set_cons_succ]
      refine wpSoft_step ?_ rfl ?_ ?_
      rotate_left
      · intro w' hS
        try obtain ⟨s0, s1, s2, s3⟩ := hS
        go_simp
        try with_reducible rfl
      simp only [Act.put, List.setIfInBounds_toArray, List.set_cons_zero, List.set_cons_succ]
      refine wpSoft_nil ?_
      have hc02 : Chg (fun _ _ => False) wr w2 := (Chg.refl _ _).drew.trans hc2
      have hcx := (hc1.trans hc).trans hc02
      cases hb : ltR rk x y
      · go_wp2_with fail
        go_roundw
        case rel =>
          refine ⟨j + 1, by omega, by go_num, hc.trans hc02, fun q z h1 h2 => ?_⟩
          rcases Nat.lt_or_ge q j with h | h
          · exact HQ.out q z h h2
          · obtain rfl : q = j := by omega
            rw [HY.out] at h2
            obtain rfl := Option.some.inj h2
            exact hb
        case measure => simp [intOf]; omega
      ·
        have hdw : dwn (ltR rk) x l = l.take j := dwn_take HQ.out (fun z hz => by rw [HY.out] at hz; obtain rfl := Option.some.inj hz; exact hb)
        have hst := (HL.out.chg hcx).take j hj
        have htu := Turned_any _ _ _ hst (by simp; omega)
        rw [← hdw] at htu
        have HTU := Lib.hid htu
        clear hdw hst htu
        go_wp2_with fail
        refine HTU.out.mono ?_
        rintro e w4 ⟨v4, rfl, how4, hc4⟩
        go_wp2_with fail
        go_ret
        exact ⟨v4, rfl, how4.mono (hcx).size, (hcx).trans hc4⟩
    · obtain rfl : j = l.length := by omega
      have i1 : ¬ ((l.length : Nat) : Int) < (l.length : Int) := by omega
      have hcx := ((hc1.trans hc).drew)
      go_wp2_with fail
      refine wp_region_keepg (fun _ => True) 11 [0, 1, 2, 3, 4, 5, 6, 7, 8, 9, 10] _ [12, 13] (by kernel_rfl) (by kernel_rfl) (fun _ _ _ _ _ h => h) rfl rfl rfl trivial ?_
      simp only [pickOps, List.filterMap_cons, List.filterMap_nil, List.getElem?_cons_zero, List.getElem?_cons_succ]
      refine wpSoft_step ?_ rfl ?_ ?_
      rotate_left
      · intro w' hS
        try obtain ⟨s0⟩ := hS
        go_simp
        try with_reducible rfl
      simp only [Act.put, List.setIfInBounds_toArray, List.set_cons_zero, List.set_cons_succ]
      refine wpSoft_step ?_ rfl ?_ ?_
      rotate_left
      · intro w' hS
        try obtain ⟨s0⟩ := hS
        go_simp
        try with_reducible rfl
      simp only [Act.put, List.setIfInBounds_toArray, List.set_cons_zero, List.set_cons_succ]
      refine wpSoft_step ?_ rfl ?_ ?_
      rotate_left
      · intro w' hS
        try obtain ⟨s0⟩ := hS
        go_simp
        try with_reducible rfl
      simp only [Act.put, List.setIfInBounds_toArray, List.set_cons_zero, List.set_cons_succ]
      refine wpSoft_step ?_ rfl ?_ ?_
      rotate_left
      · intro w' hS
        try obtain ⟨s0⟩ := hS
        go_simp
        try with_reducible rfl
      simp only [Act.put, List.setIfInBounds_toArray, List.set_cons_zero, List.set_cons_succ]
      refine wpSoft_step ?_ rfl ?_ ?_
      rotate_left
      · intro w' hS
        try obtain ⟨s0⟩ := hS
        go_simp
        try with_reducible rfl
      simp only [Act.put, List.setIfInBounds_toArray, List.set_cons_zero, List.set_cons_succ]
      refine wpSoft_skip (by simp [Region.wanted, yielded]) ?_
      simp only [Act.put, List.setIfInBounds_toArray, List.set_cons_zero, List.set_cons_succ]
      refine wpSoft_skip (by simp [Region.wanted, yielded]) ?_
      simp only [Act.put, List.setIfInBounds_toArray, List.set_cons_zero, List.set_cons_succ]
      refine wpSoft_skip (by simp [Region.wanted, yielded]) ?_
      simp only [Act.put, List.setIfInBounds_toArray, List.set_cons_zero, List.set_cons_succ]
      refine wpSoft_skip (by simp [Region.wanted, yielded]) ?_
      simp only [Act.put, List.setIfInBounds_toArray, List.set_cons_zero, List.set_cons_succ]
      refine wpSoft_skip (by simp [Region.wanted, yielded]) ?_
      simp only [Act.put, List.setIfInBounds_toArray, List.set_cons_zero, List.set_cons_succ]
      refine wpSoft_skip (by simp [Region.wanted, yielded]) ?_
      simp only [Act.put, List.setIfInBounds_toArray, List.set_cons_zero, List.set_cons_succ]
      refine wpSoft_nil (.inr ⟨by simp [Region.wanted, yielded], ?_⟩)
      simp only [Act.put, List.setIfInBounds_toArray, List.set_cons_zero, List.set_cons_succ]
      refine wpSoft_skip (by simp [Region.wanted, yielded]) ?_
      simp only [Act.put, List.setIfInBounds_toArray, List.set_cons_zero, List.set_cons_succ]
      refine wpSoft_step ?_ rfl ?_ ?_
      rotate_left
      · intro w' hS
        try obtain ⟨s0⟩ := hS
        go_simp
        try with_reducible rfl
      simp only [Act.put, List.setIfInBounds_toArray, List.set_cons_zero, List.set_cons_succ]
      refine wpSoft_nil ?_
      have hdw : dwn (ltR rk) x l = l.take l.length := dwn_take HQ.out (fun z hz => by simp at hz)
      have hst := (HL.out.chg hcx).take l.length hj
      have htu := Turned_any _ _ _ hst (by simp; omega)
      rw [← hdw] at htu
      have HTU := Lib.hid htu
      clear hdw hst htu
      go_wp2_with fail
      refine HTU.out.mono ?_
      rintro e w4 ⟨v4, rfl, how4, hc4⟩
      go_wp2_with fail
      go_ret
      exact ⟨v4, rfl, how4.mono (hcx).size, (hcx).trans hc4⟩

set_option maxRecDepth 100000 in
set_option maxHeartbeats 1000000 in
theorem GDescend_nil (p : Option Addr) (cap : Nat) (l : List (Int × Int)) (x : Int × Int) (n : Int) (w : World) (hl : ItemsAt w p l) (hlen : l.length ≤ 2147483647) :
    Calls Try.prog 57 #[makeV (.slice none 0 0) 0 false, .slice p l.length cap, itemV x, .int .i64 n] w fun e w' => ∃ v', e = .returned v' ∧ SlE itemE w' v' (firstN n (dwn (ltR id) x (treeL (ltR id) l)).reverse) ∧ Chg (fun _ _ => False) w w' := by
  have HT := Lib.hid (fun w1 (c : Chg (fun _ _ => False) w w1) => tree_any (.slice none 0 0) id p cap l w1 (rank_nil w1) (hl.chg c) hlen)
  have hlen2 := treeL_len (ltR id) l
  have hdl := dwn_len (ltR id) x (treeL (ltR id) l)
  clear hl
  unfold makeV itemV
  go_enter Try.func57, Try.ntmps57
  go_wp2_with fail
  refine name_world (fun w1 => Chg (fun _ _ => False) w w1 ∧ w1.heap[w.heap.size]? = some (.cells #[.slice none 0 0, .int .i64 0, .bool false] 55 (0, 0)) ∧ w1.heap[w.heap.size + 1]? = some (.cells #[.int .i64 x.1, .int .i64 x.2] 39 (0, 0))) ⟨((Chg.refl _ _).alloc _).alloc _, ?_, ?_⟩ ?_
  · rw [ha_lt _ _ (by simp)]; exact ha_at _ _ rfl
  · exact ha_at _ _ (by simp)
  rintro w1 ⟨hc1, hb1, hb2⟩
  have q0 := cell_of_block hb1 0
  have q1 := cell_of_block hb2 0
  have q2 := cell_of_block hb2 1
  simp only [List.getElem?_toArray, List.getElem?_cons_zero, List.getElem?_cons_succ] at q0 q1 q2
  clear hb1 hb2
  refine wp_region_script (fun w' => w'.cell? ⟨w.heap.size, 0, none⟩ = some (.slice none 0 0) ∧ w'.cell? ⟨w.heap.size + 1, 0, none⟩ = some (.int .i64 x.1) ∧ w'.cell? ⟨w.heap.size + 1, 1, none⟩ = some (.int .i64 x.2)) 11
    [(0, true), (1, true), (2, true), (3, true), (4, true), (6, true), (8, true), (5, false), (7, false), (9, false), (10, true)] (by kernel_rfl) (by kernel_rfl) (fun _ _ _ _ _ h => h) ⟨q0, q1, q2⟩ ?_
  refine script_soft (by rfl) ?_ (by simp [Region.wanted, yielded]) ?_ ?_
  rotate_left
  · intro w' hS
    try obtain ⟨a1, a2, a3⟩ := hS
    go_simp
    try with_reducible rfl
  simp only [Act.put, List.setIfInBounds_toArray, List.set_cons_zero, List.set_cons_succ]
  refine script_soft (by rfl) ?_ (by simp [Region.wanted, yielded]) ?_ ?_
  rotate_left
  · intro w' hS
    try obtain ⟨a1, a2, a3⟩ := hS
    go_simp
    try with_reducible rfl
  simp only [Act.put, List.setIfInBounds_toArray, List.set_cons_zero, List.set_cons_succ]
  refine script_soft (by rfl) ?_ (by simp [Region.wanted, yielded]) ?_ ?_
  rotate_left
  · intro w' hS
    try obtain ⟨a1, a2, a3⟩ := hS
    go_simp
    try with_reducible rfl
  simp only [Act.put, List.setIfInBounds_toArray, List.set_cons_zero, List.set_cons_succ]
  refine script_soft (by rfl) ?_ (by simp [Region.wanted, yielded]) ?_ ?_
  rotate_left
  · intro w' hS
    try obtain ⟨a1, a2, a3⟩ := hS
    go_simp
    try with_reducible rfl
  simp only [Act.put, List.setIfInBounds_toArray, List.set_cons_zero, List.set_cons_succ]
  refine script_soft (by rfl) ?_ (by simp [Region.wanted, yielded]) ?_ ?_
  rotate_left
  · intro w' hS
    try obtain ⟨a1, a2, a3⟩ := hS
    go_simp
    try with_reducible rfl
  simp only [Act.put, List.setIfInBounds_toArray, List.set_cons_zero, List.set_cons_succ]
  refine script_soft (by rfl) ?_ (by simp [Region.wanted, yielded]) ?_ ?_
  rotate_left
  · intro w' hS
    try obtain ⟨a1, a2, a3⟩ := hS
    go_simp
    try with_reducible rfl
  simp only [Act.put, List.setIfInBounds_toArray, List.set_cons_zero, List.set_cons_succ]
  refine script_soft (by rfl) ?_ (by simp [Region.wanted, yielded]) ?_ ?_
  rotate_left
  · intro w' hS
    try obtain ⟨a1, a2, a3⟩ := hS
    go_simp
    try with_reducible rfl
  simp only [Act.put, List.setIfInBounds_toArray, List.set_cons_zero, List.set_cons_succ]
  refine script_hard (by rfl) (by simp [Region.wanted, yielded]) (fun K hK => ?_)
  go_simp
  refine (HT.out _ hc1.drew).mono ?_
  rintro e w2 ⟨v2, rfl, hv2, hc2⟩
  refine hK _ _ (fun _ => ⟨hc2.cell (fun h => h) q0, hc2.cell (fun h => h) q1, hc2.cell (fun h => h) q2⟩) ?_
  clear hK K
  obtain ⟨q, cap2, rfl, hi, hcap⟩ := hv2.items
  have hc12 : Chg (fun _ _ => False) w1 w2 := (Chg.refl _ _).drew.trans hc2
  have hdn := Down_any (.slice none 0 0) id _ _ x w2 (rank_nil _) (hi.sl hcap) (by omega)
  unfold itemV at hdn
  have HDN := Lib.hid hdn
  clear hdn
  refine script_hard (by rfl) (by simp [Region.wanted, yielded]) (fun K hK => ?_)
  go_simp
  refine HDN.out.mono ?_
  rintro e w3 ⟨v3, rfl, how3, hc3⟩
  have hc13 := hc12.trans hc3
  refine hK _ _ (fun _ => ⟨hc13.cell (fun h => h) q0, hc13.cell (fun h => h) q1, hc13.cell (fun h => h) q2⟩) ?_
  clear hK K
  have hfi := First_any _ _ n _ how3.sl (by simp; omega)
  have HFI := Lib.hid hfi
  clear hfi
  refine script_hard (by rfl) (by simp [Region.wanted, yielded]) (fun K hK => ?_)
  go_simp
  refine HFI.out.mono ?_
  rintro e w4 ⟨v4, rfl, hs4, hc4⟩
  have hc14 := hc13.trans hc4
  refine hK _ _ (fun _ => ⟨hc14.cell (fun h => h) q0, hc14.cell (fun h => h) q1, hc14.cell (fun h => h) q2⟩) ?_
  clear hK K
  refine script_soft (by rfl) ?_ (by simp [Region.wanted, yielded]) ?_ ?_
  rotate_left
  · intro w' hS
    try obtain ⟨a1, a2, a3⟩ := hS
    go_simp
    try with_reducible rfl
  simp only [Act.put, List.setIfInBounds_toArray, List.set_cons_zero, List.set_cons_succ]
  refine script_nil ?_
  go_wp2
  go_ret
  exact ⟨v4, rfl, hs4, hc1.trans hc14⟩

set_option maxRecDepth 100000 in
theorem mDescendMut_any (d : Int) (p : Option Addr) (cap : Nat) (l : List (Int × Int)) (key n : Int) (w : World) (h1 : 2 ≤ d) (h2 : d ≤ 128) (hl : ItemsAt w p l) (hlen : l.length ≤ 2147483647) :
    Calls Try.prog 31 #[.int .i64 d, .slice p l.length cap, .int .i64 key, .int .i64 n] w fun e w' => e = .returned (.bool true) ∧ Chg (fun _ _ => False) w w' := by
  have hM := MDescendMut_any d p cap l key n w h1 h2 hl hlen
  have hG := fun w1 (c : Chg (fun _ _ => False) w w1) => GDescend_nil p cap l (key, 0) n w1 (hl.chg c) hlen
  have e1 : dwn ltM (key, 0) (growL l) = dwn (ltR id) (key, 0) (treeL (ltR id) l) := rfl
  rw [e1] at hM
  have hfl := firstN_len n (dwn (ltR id) (key, 0) (treeL (ltR id) l)).reverse
  have hlen2 := treeL_len (ltR id) l
  have hdl := dwn_len (ltR id) (key, 0) (treeL (ltR id) l)
  rw [List.length_reverse] at hfl
  unfold makeV itemV at hG
  have HM := Lib.hid hM
  have HG := Lib.hid hG
  clear hM hG hl e1
  go_enter Try.func31, Try.ntmps31
  go_wp2_with fail
  refine HM.out.mono ?_
  rintro e w1 ⟨v1, rfl, how1, hc1⟩
  go_wp2_with fail
  refine (HG.out _ hc1).mono ?_
  rintro e w3 ⟨v3, rfl, hs3, hc3⟩
  go_wp2_with fail
  refine (equal_item _ _ _ _ (how1.sl.chg hc3) hs3 (by omega)).mono ?_
  rintro e w4 ⟨rfl, hc4⟩
  go_wp2_with fail
  go_ret
  exact ⟨rfl, (hc1.trans hc3).trans hc4⟩
end Go.Proofs.Ytkgcjgedpefhjaa
