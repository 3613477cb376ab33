/- BAscend and BAscendHint over whatever input. -/
import Derived.Test.YtcabnhpnkaielaaCo
namespace Go.Proofs.Ytcabnhpnkaielaa
set_option linter.unusedSimpArgs false
set_option linter.unusedVariables false
open Go.RowKit

theorem xh_lt {w : World} {b : Nat} {o o2 : Obj} (h : w.heap[b]? = some o) : (w.alloc o2).heap[b]? = some o := by rw [ha_lt _ _ (heap_lt h)]; exact h

set_option maxRecDepth 100000 in
set_option maxHeartbeats 8000000 in
theorem BAscend_any {ord : List Int} (sv : Value) (d : Int) (nl : Bool) (p : Option Addr) (cap : Nat) (l : List (It ord)) (all : Bool) (x : It ord) (n : Int) (w : World) (hs : SlE intE w sv ord) (hol : ord.length ≤ 2147483647) (hd : FitD d) (hl : ItemsAt w p l) (hlen : l.length ≤ 2147483647) :
    Calls Try.prog 39 #[.agg #[sv, .int .i64 d, .bool nl], .slice p l.length cap, .bool all, .agg #[.int .i64 x.1, .int .i64 x.2], .int .i64 n] w (OwnPostI (firstN n (partL all x (growL l))) w) := by
  have HGR := Lib.hid (fun w1 (c : Chg (fun _ _ => False) w w1) => grow_any (ord := ord) sv d nl p cap l w1 hd (hs.chg c) hol (hl.chg c) hlen)
  unfold GrowPost at HGR
  have hgl := growL_take_len l l.length
  rw [List.take_length] at hgl
  have HGL := Lib.hid hgl
  have hdim := hd.dims.1
  obtain ⟨pv, hpv⟩ := pivV_plain all x
  have HPV := Lib.hid hpv
  have HFR := Lib.hid (show ∀ w1, Calls Try.prog 62 #[.bool all, .agg #[.int .i64 x.1, .int .i64 x.2]] w1 fun e w' => e = .returned pv ∧ Chg (fun _ _ => False) w1 w' from fun w1 => by rw [← hpv]; exact from_any all x w1)
  obtain ⟨sa, sc, rfl⟩ : ∃ a c, sv = .slice a ord.length c := hs.form
  clear hgl hl hs hpv
  go_enter Try.func39, Try.ntmps39
  go_wp2_with fail
  refine name_world (fun w1 => Chg (fun _ _ => False) w w1 ∧ w1.heap[w.heap.size]? = some (.cells #[.slice sa ord.length sc, .int .i64 d, .bool nl] 24 (0, 0)) ∧ w1.heap[w.heap.size + 1]? = some (.cells #[.int .i64 x.1, .int .i64 x.2] 26 (0, 0)) ∧ w1.heap[w.heap.size + 2]? = some (.cells #[.slice none 0 0] 31 (0, 0))) ⟨(((Chg.refl _ _).alloc _).alloc _).alloc _, ?_, ?_, ?_⟩ ?_
  · rw [ha_lt _ _ (by simp; try omega), ha_lt _ _ (by simp; try omega)]; exact ha_at _ _ rfl
  · rw [ha_lt _ _ (by simp; try omega)]; exact ha_at _ _ (by simp)
  · exact ha_at _ _ (by simp)
  rintro w1 ⟨hc1, hb0, hb1, hbo⟩
  have m0 := cell_of_block hb0 0
  have m1 := cell_of_block hb0 1
  have m2 := cell_of_block hb0 2
  have q0 := cell_of_block hb1 0
  have q1 := cell_of_block hb1 1
  simp only [List.getElem?_toArray, List.getElem?_cons_zero, List.getElem?_cons_succ] at m0 m1 m2 q0 q1
  have HBO := Lib.hid hbo
  have hlt1 := heap_lt hbo
  have hsz1 := hc1.size
  clear hb0 hb1 hbo
  refine wp_region_scr (fun w' => w'.cell? ⟨w.heap.size, 0, none⟩ = some (.slice sa ord.length sc) ∧ w'.cell? ⟨w.heap.size, 1, none⟩ = some (.int .i64 d) ∧ w'.cell? ⟨w.heap.size, 2, none⟩ = some (.bool nl) ∧ w'.cell? ⟨w.heap.size + 1, 0, none⟩ = some (.int .i64 x.1) ∧ w'.cell? ⟨w.heap.size + 1, 1, none⟩ = some (.int .i64 x.2)) (.soft 0 (.soft 1 (.soft 3 (.soft 4 (.soft 6 (.hard 2 (.hard 5 (.hard 7 (.hard 8 .nil))))))))) (by kernel_rfl) (by kernel_rfl) (fun _ _ _ _ _ h => h) ⟨m0, m1, m2, q0, q1⟩ ?_
  repeat
    first
    | (refine scr_soft (by rfl) ?_ ?_ ?_ ?_
       rotate_left
       · simp [Region.wanted, yielded]; done
       · intro w' hS
         try obtain ⟨a1, a2, a3, a4, a5⟩ := hS
         go_simp
         try with_reducible rfl
       simp only [Act.put, List.setIfInBounds_toArray, List.set_cons_zero, List.set_cons_succ])
    | (refine scr_skip (by rfl) ?_ ?_
       · simp [Region.wanted, yielded]; done
       simp only [Act.put, List.setIfInBounds_toArray, List.set_cons_zero, List.set_cons_succ])
  refine scr_hard (by rfl) (by simp [Region.wanted, yielded]) (fun K hK => ?_)
  go_simp
  refine (HGR.out _ hc1.drew).mono ?_
  rintro e w2 ⟨k0, hp, t, F, rfl, hH, hM, hc2', hF2', ho2', hhp2, _, _⟩
  have hszle : w1.heap.size + 0 ≤ (w1.drew).heap.size := Nat.le_refl _
  have hF2 : ∀ b, F b → w1.heap.size + 0 ≤ b := fun b hb => Nat.le_trans hszle (hF2' b hb)
  have ho2 : ∀ b, MOwn k0 t b → w1.heap.size + 0 ≤ b := fun b hb => Nat.le_trans hszle (ho2' b hb)
  clear hF2' ho2'
  have c2 : Chg (fun _ _ => False) w1 w2 := (Chg.refl _ _).drew.trans hc2'
  have hsg := hc2'.size
  have hs12 := c2.size
  refine hK _ _ ⟨c2.cell (fun h => h) m0, c2.cell (fun h => h) m1, c2.cell (fun h => h) m2, c2.cell (fun h => h) q0, c2.cell (fun h => h) q1⟩ ?_
  clear hK K
  repeat
    first
    | (refine scr_soft (by rfl) ?_ ?_ ?_ ?_
       rotate_left
       · simp [Region.wanted, yielded]; done
       · intro w' hS
         try obtain ⟨a1, a2, a3, a4, a5⟩ := hS
         go_simp
         try with_reducible rfl
       simp only [Act.put, List.setIfInBounds_toArray, List.set_cons_zero, List.set_cons_succ])
    | (refine scr_skip (by rfl) ?_ ?_
       · simp [Region.wanted, yielded]; done
       simp only [Act.put, List.setIfInBounds_toArray, List.set_cons_zero, List.set_cons_succ])
  refine scr_hard (by rfl) (by simp [Region.wanted, yielded]) (fun K hK => ?_)
  go_simp
  refine (HFR.out (w2)).mono ?_
  rintro e w3 ⟨rfl, hcr⟩
  have cw3 : Chg (fun _ _ => False) w1 w3 := c2.trans hcr
  have gw3 : Chg (fun _ _ => False) w2 w3 := (Chg.refl (fun _ _ => False) w2).trans hcr
  have hsr := hcr.size
  refine hK _ _ ⟨cw3.cell (fun h => h) m0, cw3.cell (fun h => h) m1, cw3.cell (fun h => h) m2, cw3.cell (fun h => h) q0, cw3.cell (fun h => h) q1⟩ ?_
  clear hK K
  repeat
    first
    | (refine scr_soft (by rfl) ?_ ?_ ?_ ?_
       rotate_left
       · simp [Region.wanted, yielded]; done
       · intro w' hS
         try obtain ⟨a1, a2, a3, a4, a5⟩ := hS
         go_simp
         try with_reducible rfl
       simp only [Act.put, List.setIfInBounds_toArray, List.set_cons_zero, List.set_cons_succ])
    | (refine scr_skip (by rfl) ?_ ?_
       · simp [Region.wanted, yielded]; done
       simp only [Act.put, List.setIfInBounds_toArray, List.set_cons_zero, List.set_cons_succ])
  refine scr_hard (by rfl) (by simp [Region.wanted, yielded]) (fun K hK => ?_)
  go_simp
  refine (takerAny_any (w.heap.size + 2) n (w3) (by rw [(cw3).block hlt1 (fun _ h => h)]; exact HBO.out)).mono ?_
  rintro e w4 ⟨rfl, hkt, hct⟩
  have cw4 : Chg (fun _ _ => False) w1 w4 := (cw3).trans hct
  have gw4 : Chg (fun _ _ => False) w2 w4 := (gw3).trans hct
  have hst := hct.size
  have hkl := hkt.i.l3
  have hkl2 := hkt.l
  have hkw := hkt.i.rw_
  have hk : Kept n (w.heap.size + 2) _ _ w4.heap.size w4 [] := hkt
  have hHf := HeapAt.chg hH gw4
  have hMf := hM.chg gw4
  have hsgf := (gw4).size
  have hTb : ∀ b, F b → ¬ HT none (w.heap.size + 2) (w4).heap.size b := by
    rintro b hb ((h | h) | h)
    · have := hF2 b hb; omega
    · have := hMf.famLt hb; omega
    · cases h
  have htb : ∀ b, MOwn k0 t b → ¬ HT none (w.heap.size + 2) (w4).heap.size b := by
    rintro b hb ((h | h) | h)
    · have := ho2 b hb; omega
    · have := hMf.own hb; omega
    · cases h
  have hr := HAscendAll_any all x hHf hMf hdim hk hTb htb (by have := HGL.out; omega)
  rw [HPV.out] at hr
  unfold fnG at hr
  try unfold hintV at hr
  try simp only [Option.map_some] at hr
  skip
  have HR := Lib.hid hr
  clear hr hHf hMf hTb htb
  refine hK _ _ ⟨cw4.cell (fun h => h) m0, cw4.cell (fun h => h) m1, cw4.cell (fun h => h) m2, cw4.cell (fun h => h) q0, cw4.cell (fun h => h) q1⟩ ?_
  clear hK K
  repeat
    first
    | (refine scr_soft (by rfl) ?_ ?_ ?_ ?_
       rotate_left
       · simp [Region.wanted, yielded]; done
       · intro w' hS
         try obtain ⟨a1, a2, a3, a4, a5⟩ := hS
         go_simp
         try with_reducible rfl
       simp only [Act.put, List.setIfInBounds_toArray, List.set_cons_zero, List.set_cons_succ])
    | (refine scr_skip (by rfl) ?_ ?_
       · simp [Region.wanted, yielded]; done
       simp only [Act.put, List.setIfInBounds_toArray, List.set_cons_zero, List.set_cons_succ])
  refine scr_hard (by rfl) (by simp [Region.wanted, yielded]) (fun K hK => ?_)
  go_simp
  refine HR.out.mono ?_
  rintro e w9 ⟨rfl, hk9, _, hc9⟩
  rw [runL_first] at hk9
  obtain ⟨v, g1, g2⟩ := hk9.i.o
  have kk0 := cell_of_block g1 0
  simp only [List.getElem?_toArray, List.getElem?_cons_zero] at kk0
  clear g1 hk9
  have hsf := (cw4).size
  have hold : ∀ b, b < w1.heap.size → b ≠ w.heap.size + 2 → ¬ HT none (w.heap.size + 2) (w4).heap.size b := by
    rintro b hb hb2 ((h | h) | h)
    · exact hb2 h
    · omega
    · cases h
  have hn0 : ¬ HT none (w.heap.size + 2) (w4).heap.size w.heap.size := hold _ (by omega) (by omega)
  have hn1 : ¬ HT none (w.heap.size + 2) (w4).heap.size (w.heap.size + 1) := hold _ (by omega) (by omega)
  refine hK _ _ ⟨hc9.cell hn0 ((cw4).cell (fun h => h) m0), hc9.cell hn0 ((cw4).cell (fun h => h) m1), hc9.cell hn0 ((cw4).cell (fun h => h) m2), hc9.cell hn1 ((cw4).cell (fun h => h) q0), hc9.cell hn1 ((cw4).cell (fun h => h) q1)⟩ ?_
  clear hK K
  repeat
    first
    | (refine scr_soft (by rfl) ?_ ?_ ?_ ?_
       rotate_left
       · simp [Region.wanted, yielded]; done
       · intro w' hS
         try obtain ⟨a1, a2, a3, a4, a5⟩ := hS
         go_simp
         try with_reducible rfl
       simp only [Act.put, List.setIfInBounds_toArray, List.set_cons_zero, List.set_cons_succ])
    | (refine scr_skip (by rfl) ?_ ?_
       · simp [Region.wanted, yielded]; done
       simp only [Act.put, List.setIfInBounds_toArray, List.set_cons_zero, List.set_cons_succ])
  refine scr_nil ?_
  go_wp2_with fail
  go_ret
  exact ⟨v, rfl, g2.mono (hc1.trans (cw4)).size, (hc1.trans (cw4)).trans' hc9 (fun _ _ _ h => h) (fun b o hb h => hold b (by omega) (by omega) h)⟩

set_option maxRecDepth 100000 in
set_option maxHeartbeats 8000000 in
theorem BAscendHint_any {ord : List Int} (sv : Value) (d : Int) (nl : Bool) (p : Option Addr) (cap : Nat) (l : List (It ord)) (all : Bool) (x : It ord) (n : Int) (w : World) (hs : SlE intE w sv ord) (hol : ord.length ≤ 2147483647) (hd : FitD d) (hl : ItemsAt w p l) (hlen : l.length ≤ 2147483647) :
    Calls Try.prog 43 #[.agg #[sv, .int .i64 d, .bool nl], .slice p l.length cap, .bool all, .agg #[.int .i64 x.1, .int .i64 x.2], .int .i64 n] w (OwnPostI (firstN n (partL all x (growL l))) w) := by
  have HGR := Lib.hid (fun w1 (c : Chg (fun _ _ => False) w w1) => grow_any (ord := ord) sv d nl p cap l w1 hd (hs.chg c) hol (hl.chg c) hlen)
  unfold GrowPost at HGR
  have hgl := growL_take_len l l.length
  rw [List.take_length] at hgl
  have HGL := Lib.hid hgl
  have hdim := hd.dims.1
  obtain ⟨pv, hpv⟩ := pivV_plain all x
  have HPV := Lib.hid hpv
  have HFR := Lib.hid (show ∀ w1, Calls Try.prog 62 #[.bool all, .agg #[.int .i64 x.1, .int .i64 x.2]] w1 fun e w' => e = .returned pv ∧ Chg (fun _ _ => False) w1 w' from fun w1 => by rw [← hpv]; exact from_any all x w1)
  obtain ⟨sa, sc, rfl⟩ : ∃ a c, sv = .slice a ord.length c := hs.form
  clear hgl hl hs hpv
  go_enter Try.func43, Try.ntmps43
  go_wp2_with fail
  refine name_world (fun w1 => Chg (fun _ _ => False) w w1 ∧ w1.heap[w.heap.size]? = some (.cells #[.slice sa ord.length sc, .int .i64 d, .bool nl] 24 (0, 0)) ∧ w1.heap[w.heap.size + 1]? = some (.cells #[.int .i64 x.1, .int .i64 x.2] 26 (0, 0)) ∧ w1.heap[w.heap.size + 2]? = some (.cells #[.slice none 0 0] 31 (0, 0))) ⟨(((Chg.refl _ _).alloc _).alloc _).alloc _, ?_, ?_, ?_⟩ ?_
  · rw [ha_lt _ _ (by simp; try omega), ha_lt _ _ (by simp; try omega)]; exact ha_at _ _ rfl
  · rw [ha_lt _ _ (by simp; try omega)]; exact ha_at _ _ (by simp)
  · exact ha_at _ _ (by simp)
  rintro w1 ⟨hc1, hb0, hb1, hbo⟩
  have m0 := cell_of_block hb0 0
  have m1 := cell_of_block hb0 1
  have m2 := cell_of_block hb0 2
  have q0 := cell_of_block hb1 0
  have q1 := cell_of_block hb1 1
  simp only [List.getElem?_toArray, List.getElem?_cons_zero, List.getElem?_cons_succ] at m0 m1 m2 q0 q1
  have HBO := Lib.hid hbo
  have hlt1 := heap_lt hbo
  have hsz1 := hc1.size
  clear hb0 hb1 hbo
  refine wp_region_scr (fun w' => w'.cell? ⟨w.heap.size, 0, none⟩ = some (.slice sa ord.length sc) ∧ w'.cell? ⟨w.heap.size, 1, none⟩ = some (.int .i64 d) ∧ w'.cell? ⟨w.heap.size, 2, none⟩ = some (.bool nl) ∧ w'.cell? ⟨w.heap.size + 1, 0, none⟩ = some (.int .i64 x.1) ∧ w'.cell? ⟨w.heap.size + 1, 1, none⟩ = some (.int .i64 x.2)) (.soft 0 (.soft 1 (.soft 3 (.soft 4 (.soft 6 (.fork 2 8 (.fork 5 8 (.fork 7 8 (.hard 8 (.hard 9 .nil)) (.hard 7 (.hard 9 .nil))) (.hard 5 (.hard 7 (.hard 9 .nil)))) (.hard 2 (.hard 5 (.hard 7 (.hard 9 .nil)))))))))) (by kernel_rfl) (by kernel_rfl) (fun _ _ _ _ _ h => h) ⟨m0, m1, m2, q0, q1⟩ ?_
  repeat
    first
    | (refine scr_soft (by rfl) ?_ ?_ ?_ ?_
       rotate_left
       · simp [Region.wanted, yielded]; done
       · intro w' hS
         try obtain ⟨a1, a2, a3, a4, a5⟩ := hS
         go_simp
         try with_reducible rfl
       simp only [Act.put, List.setIfInBounds_toArray, List.set_cons_zero, List.set_cons_succ])
    | (refine scr_skip (by rfl) ?_ ?_
       · simp [Region.wanted, yielded]; done
       simp only [Act.put, List.setIfInBounds_toArray, List.set_cons_zero, List.set_cons_succ])
  refine scr_fork (by rfl) (by rfl) rfl rfl (fun K hK => ?_) (fun K hK => ?_)
  · go_simp
    refine (HGR.out _ hc1.drew).mono ?_
    rintro e w2 ⟨k0, hp, t, F, rfl, hH, hM, hc2', hF2', ho2', hhp2, _, _⟩
    have hszle : w1.heap.size + 0 ≤ (w1.drew).heap.size := Nat.le_refl _
    have hF2 : ∀ b, F b → w1.heap.size + 0 ≤ b := fun b hb => Nat.le_trans hszle (hF2' b hb)
    have ho2 : ∀ b, MOwn k0 t b → w1.heap.size + 0 ≤ b := fun b hb => Nat.le_trans hszle (ho2' b hb)
    clear hF2' ho2'
    have c2 : Chg (fun _ _ => False) w1 w2 := (Chg.refl _ _).drew.trans hc2'
    have hsg := hc2'.size
    have hs12 := c2.size
    refine hK _ _ ⟨c2.cell (fun h => h) m0, c2.cell (fun h => h) m1, c2.cell (fun h => h) m2, c2.cell (fun h => h) q0, c2.cell (fun h => h) q1⟩ ?_
    clear hK K
    repeat
      first
      | (refine scr_soft (by rfl) ?_ ?_ ?_ ?_
         rotate_left
         · simp [Region.wanted, yielded]; done
         · intro w' hS
           try obtain ⟨a1, a2, a3, a4, a5⟩ := hS
           go_simp
           try with_reducible rfl
         simp only [Act.put, List.setIfInBounds_toArray, List.set_cons_zero, List.set_cons_succ])
      | (refine scr_skip (by rfl) ?_ ?_
         · simp [Region.wanted, yielded]; done
         simp only [Act.put, List.setIfInBounds_toArray, List.set_cons_zero, List.set_cons_succ])
    refine scr_fork (by rfl) (by rfl) rfl rfl (fun K hK => ?_) (fun K hK => ?_)
    · go_simp
      refine (HFR.out (w2)).mono ?_
      rintro e w3 ⟨rfl, hcr⟩
      have cw3 : Chg (fun _ _ => False) w1 w3 := c2.trans hcr
      have gw3 : Chg (fun _ _ => False) w2 w3 := (Chg.refl (fun _ _ => False) w2).trans hcr
      have hsr := hcr.size
      refine hK _ _ ⟨cw3.cell (fun h => h) m0, cw3.cell (fun h => h) m1, cw3.cell (fun h => h) m2, cw3.cell (fun h => h) q0, cw3.cell (fun h => h) q1⟩ ?_
      clear hK K
      repeat
        first
        | (refine scr_soft (by rfl) ?_ ?_ ?_ ?_
           rotate_left
           · simp [Region.wanted, yielded]; done
           · intro w' hS
             try obtain ⟨a1, a2, a3, a4, a5⟩ := hS
             go_simp
             try with_reducible rfl
           simp only [Act.put, List.setIfInBounds_toArray, List.set_cons_zero, List.set_cons_succ])
        | (refine scr_skip (by rfl) ?_ ?_
           · simp [Region.wanted, yielded]; done
           simp only [Act.put, List.setIfInBounds_toArray, List.set_cons_zero, List.set_cons_succ])
      refine scr_fork (by rfl) (by rfl) rfl rfl (fun K hK => ?_) (fun K hK => ?_)
      · go_simp
        refine (takerAny_any (w.heap.size + 2) n (w3) (by rw [(cw3).block hlt1 (fun _ h => h)]; exact HBO.out)).mono ?_
        rintro e w4 ⟨rfl, hkt, hct⟩
        have cw4 : Chg (fun _ _ => False) w1 w4 := (cw3).trans hct
        have gw4 : Chg (fun _ _ => False) w2 w4 := (gw3).trans hct
        have hst := hct.size
        have hkl := hkt.i.l3
        have hkl2 := hkt.l
        have hkw := hkt.i.rw_
        have ca : Chg (fun _ _ => False) w4 (w4.alloc hintO0) := (Chg.refl _ _).alloc hintO0
        have cf := cw4.trans ca
        have gf := gw4.trans ca
        have hsf : w4.heap.size + 1 ≤ (w4.alloc hintO0).heap.size := by simp
        have hhb : (w4.alloc hintO0).heap[w4.heap.size]? = some hintO0 := ha_at _ _ rfl
        have hk : Kept n (w.heap.size + 2) _ _ (w4.alloc hintO0).heap.size (w4.alloc hintO0) [] := hkt.nilAt ca (by rw [cf.block hlt1 (fun _ h => h)]; exact HBO.out) (by omega) (Nat.le_refl _)
        have hHf := HeapAt.chg hH gf
        have hMf := hM.chg gf
        have hsgf := (gf).size
        have hTb : ∀ b, F b → ¬ HT (some w4.heap.size) (w.heap.size + 2) (w4.alloc hintO0).heap.size b := by
          rintro b hb ((h | h) | h)
          · have := hF2 b hb; omega
          · have := hMf.famLt hb; omega
          · have h4 := Option.some.inj h; have := hM.famLt hb; have := gw4.size; omega
        have htb : ∀ b, MOwn k0 t b → ¬ HT (some w4.heap.size) (w.heap.size + 2) (w4.alloc hintO0).heap.size b := by
          rintro b hb ((h | h) | h)
          · have := ho2 b hb; omega
          · have := hMf.own hb; omega
          · have h4 := Option.some.inj h; have := hM.own hb; have := gw4.size; omega
        have hr := HAscendHintAll_any all x (some w4.heap.size) hHf hMf hdim hk (fun b e => by obtain rfl := Option.some.inj e; exact ⟨_, hhb, hintC0⟩) (fun b e => by obtain rfl := Option.some.inj e; refine ⟨by omega, by omega, by omega, by omega, by omega⟩) hTb htb (by have := HGL.out; omega)
        rw [HPV.out] at hr
        unfold fnG at hr
        try unfold hintV at hr
        try simp only [Option.map_some] at hr
        skip
        have HR := Lib.hid hr
        clear hr hHf hMf hTb htb
        refine hK _ _ ⟨cw4.cell (fun h => h) m0, cw4.cell (fun h => h) m1, cw4.cell (fun h => h) m2, cw4.cell (fun h => h) q0, cw4.cell (fun h => h) q1⟩ ?_
        clear hK K
        repeat
          first
          | (refine scr_soft (by rfl) ?_ ?_ ?_ ?_
             rotate_left
             · simp [Region.wanted, yielded]; done
             · intro w' hS
               try obtain ⟨a1, a2, a3, a4, a5⟩ := hS
               go_simp
               try with_reducible rfl
             simp only [Act.put, List.setIfInBounds_toArray, List.set_cons_zero, List.set_cons_succ])
          | (refine scr_skip (by rfl) ?_ ?_
             · simp [Region.wanted, yielded]; done
             simp only [Act.put, List.setIfInBounds_toArray, List.set_cons_zero, List.set_cons_succ])
        refine scr_hard (by rfl) (by simp [Region.wanted, yielded]) (fun K hK => ?_)
        go_simp
        refine hK _ _ ⟨cf.cell (fun h => h) m0, cf.cell (fun h => h) m1, cf.cell (fun h => h) m2, cf.cell (fun h => h) q0, cf.cell (fun h => h) q1⟩ ?_
        clear hK K
        repeat
          first
          | (refine scr_soft (by rfl) ?_ ?_ ?_ ?_
             rotate_left
             · simp [Region.wanted, yielded]; done
             · intro w' hS
               try obtain ⟨a1, a2, a3, a4, a5⟩ := hS
               go_simp
               try with_reducible rfl
             simp only [Act.put, List.setIfInBounds_toArray, List.set_cons_zero, List.set_cons_succ])
          | (refine scr_skip (by rfl) ?_ ?_
             · simp [Region.wanted, yielded]; done
             simp only [Act.put, List.setIfInBounds_toArray, List.set_cons_zero, List.set_cons_succ])
        refine scr_hard (by rfl) (by simp [Region.wanted, yielded]) (fun K hK => ?_)
        go_simp
        refine HR.out.mono ?_
        rintro e w9 ⟨rfl, hk9, _, hc9⟩
        rw [runL_first] at hk9
        obtain ⟨v, g1, g2⟩ := hk9.i.o
        have kk0 := cell_of_block g1 0
        simp only [List.getElem?_toArray, List.getElem?_cons_zero] at kk0
        clear g1 hk9
        have hsf := (cf).size
        have hold : ∀ b, b < w1.heap.size → b ≠ w.heap.size + 2 → ¬ HT (some w4.heap.size) (w.heap.size + 2) (w4.alloc hintO0).heap.size b := by
          rintro b hb hb2 ((h | h) | h)
          · exact hb2 h
          · omega
          · have h4 := Option.some.inj h; have := cw4.size; omega
        have hn0 : ¬ HT (some w4.heap.size) (w.heap.size + 2) (w4.alloc hintO0).heap.size w.heap.size := hold _ (by omega) (by omega)
        have hn1 : ¬ HT (some w4.heap.size) (w.heap.size + 2) (w4.alloc hintO0).heap.size (w.heap.size + 1) := hold _ (by omega) (by omega)
        refine hK _ _ ⟨hc9.cell hn0 ((cf).cell (fun h => h) m0), hc9.cell hn0 ((cf).cell (fun h => h) m1), hc9.cell hn0 ((cf).cell (fun h => h) m2), hc9.cell hn1 ((cf).cell (fun h => h) q0), hc9.cell hn1 ((cf).cell (fun h => h) q1)⟩ ?_
        clear hK K
        repeat
          first
          | (refine scr_soft (by rfl) ?_ ?_ ?_ ?_
             rotate_left
             · simp [Region.wanted, yielded]; done
             · intro w' hS
               try obtain ⟨a1, a2, a3, a4, a5⟩ := hS
               go_simp
               try with_reducible rfl
             simp only [Act.put, List.setIfInBounds_toArray, List.set_cons_zero, List.set_cons_succ])
          | (refine scr_skip (by rfl) ?_ ?_
             · simp [Region.wanted, yielded]; done
             simp only [Act.put, List.setIfInBounds_toArray, List.set_cons_zero, List.set_cons_succ])
        refine scr_nil ?_
        go_wp2_with fail
        go_ret
        exact ⟨v, rfl, g2.mono (hc1.trans (cf)).size, (hc1.trans (cf)).trans' hc9 (fun _ _ _ h => h) (fun b o hb h => hold b (by omega) (by omega) h)⟩
      · go_simp
        have ca : Chg (fun _ _ => False) w3 (w3.alloc hintO0) := (Chg.refl _ _).alloc hintO0
        have cA := cw3.trans ca
        have gA := gw3.trans ca
        have hsa : w3.heap.size + 1 ≤ (w3.alloc hintO0).heap.size := by simp
        refine hK _ _ ⟨cA.cell (fun h => h) m0, cA.cell (fun h => h) m1, cA.cell (fun h => h) m2, cA.cell (fun h => h) q0, cA.cell (fun h => h) q1⟩ ?_
        clear hK K
        repeat
          first
          | (refine scr_soft (by rfl) ?_ ?_ ?_ ?_
             rotate_left
             · simp [Region.wanted, yielded]; done
             · intro w' hS
               try obtain ⟨a1, a2, a3, a4, a5⟩ := hS
               go_simp
               try with_reducible rfl
             simp only [Act.put, List.setIfInBounds_toArray, List.set_cons_zero, List.set_cons_succ])
          | (refine scr_skip (by rfl) ?_ ?_
             · simp [Region.wanted, yielded]; done
             simp only [Act.put, List.setIfInBounds_toArray, List.set_cons_zero, List.set_cons_succ])
        refine scr_hard (by rfl) (by simp [Region.wanted, yielded]) (fun K hK => ?_)
        go_simp
        refine (takerAny_any (w.heap.size + 2) n (w3.alloc hintO0) (by rw [(cA).block hlt1 (fun _ h => h)]; exact HBO.out)).mono ?_
        rintro e w4 ⟨rfl, hkt, hct⟩
        have cw4 : Chg (fun _ _ => False) w1 w4 := (cA).trans hct
        have gw4 : Chg (fun _ _ => False) w2 w4 := (gA).trans hct
        have hst := hct.size
        have hkl := hkt.i.l3
        have hkl2 := hkt.l
        have hkw := hkt.i.rw_
        have hhb : w4.heap[w3.heap.size]? = some hintO0 := by rw [hct.block (by simp) (fun _ h => h)]; exact ha_at _ _ rfl
        have hk : Kept n (w.heap.size + 2) _ _ w4.heap.size w4 [] := hkt
        have hs3 := cw3.size
        have hHf := HeapAt.chg hH gw4
        have hMf := hM.chg gw4
        have hsgf := (gw4).size
        have hTb : ∀ b, F b → ¬ HT (some w3.heap.size) (w.heap.size + 2) (w4).heap.size b := by
          rintro b hb ((h | h) | h)
          · have := hF2 b hb; omega
          · have := hMf.famLt hb; omega
          · have h4 := Option.some.inj h; have := hM.famLt hb; have := gw3.size; omega
        have htb : ∀ b, MOwn k0 t b → ¬ HT (some w3.heap.size) (w.heap.size + 2) (w4).heap.size b := by
          rintro b hb ((h | h) | h)
          · have := ho2 b hb; omega
          · have := hMf.own hb; omega
          · have h4 := Option.some.inj h; have := hM.own hb; have := gw3.size; omega
        have hr := HAscendHintAll_any all x (some w3.heap.size) hHf hMf hdim hk (fun b e => by obtain rfl := Option.some.inj e; exact ⟨_, hhb, hintC0⟩) (fun b e => by obtain rfl := Option.some.inj e; refine ⟨by omega, by omega, by omega, by omega, by omega⟩) hTb htb (by have := HGL.out; omega)
        rw [HPV.out] at hr
        unfold fnG at hr
        try unfold hintV at hr
        try simp only [Option.map_some] at hr
        simp only [World.size_alloc] at hr
        have HR := Lib.hid hr
        clear hr hHf hMf hTb htb
        refine hK _ _ ⟨cw4.cell (fun h => h) m0, cw4.cell (fun h => h) m1, cw4.cell (fun h => h) m2, cw4.cell (fun h => h) q0, cw4.cell (fun h => h) q1⟩ ?_
        clear hK K
        repeat
          first
          | (refine scr_soft (by rfl) ?_ ?_ ?_ ?_
             rotate_left
             · simp [Region.wanted, yielded]; done
             · intro w' hS
               try obtain ⟨a1, a2, a3, a4, a5⟩ := hS
               go_simp
               try with_reducible rfl
             simp only [Act.put, List.setIfInBounds_toArray, List.set_cons_zero, List.set_cons_succ])
          | (refine scr_skip (by rfl) ?_ ?_
             · simp [Region.wanted, yielded]; done
             simp only [Act.put, List.setIfInBounds_toArray, List.set_cons_zero, List.set_cons_succ])
        refine scr_hard (by rfl) (by simp [Region.wanted, yielded]) (fun K hK => ?_)
        go_simp
        refine HR.out.mono ?_
        rintro e w9 ⟨rfl, hk9, _, hc9⟩
        rw [runL_first] at hk9
        obtain ⟨v, g1, g2⟩ := hk9.i.o
        have kk0 := cell_of_block g1 0
        simp only [List.getElem?_toArray, List.getElem?_cons_zero] at kk0
        clear g1 hk9
        have hsf := (cw4).size
        have hold : ∀ b, b < w1.heap.size → b ≠ w.heap.size + 2 → ¬ HT (some w3.heap.size) (w.heap.size + 2) (w4).heap.size b := by
          rintro b hb hb2 ((h | h) | h)
          · exact hb2 h
          · omega
          · have h4 := Option.some.inj h; have := cw3.size; omega
        have hn0 : ¬ HT (some w3.heap.size) (w.heap.size + 2) (w4).heap.size w.heap.size := hold _ (by omega) (by omega)
        have hn1 : ¬ HT (some w3.heap.size) (w.heap.size + 2) (w4).heap.size (w.heap.size + 1) := hold _ (by omega) (by omega)
        refine hK _ _ ⟨hc9.cell hn0 ((cw4).cell (fun h => h) m0), hc9.cell hn0 ((cw4).cell (fun h => h) m1), hc9.cell hn0 ((cw4).cell (fun h => h) m2), hc9.cell hn1 ((cw4).cell (fun h => h) q0), hc9.cell hn1 ((cw4).cell (fun h => h) q1)⟩ ?_
        clear hK K
        repeat
          first
          | (refine scr_soft (by rfl) ?_ ?_ ?_ ?_
             rotate_left
             · simp [Region.wanted, yielded]; done
             · intro w' hS
               try obtain ⟨a1, a2, a3, a4, a5⟩ := hS
               go_simp
               try with_reducible rfl
             simp only [Act.put, List.setIfInBounds_toArray, List.set_cons_zero, List.set_cons_succ])
          | (refine scr_skip (by rfl) ?_ ?_
             · simp [Region.wanted, yielded]; done
             simp only [Act.put, List.setIfInBounds_toArray, List.set_cons_zero, List.set_cons_succ])
        refine scr_nil ?_
        go_wp2_with fail
        go_ret
        exact ⟨v, rfl, g2.mono (hc1.trans (cw4)).size, (hc1.trans (cw4)).trans' hc9 (fun _ _ _ h => h) (fun b o hb h => hold b (by omega) (by omega) h)⟩
    · go_simp
      have ca : Chg (fun _ _ => False) w2 (w2.alloc hintO0) := (Chg.refl _ _).alloc hintO0
      have cA := c2.trans ca
      have hsa : w2.heap.size + 1 ≤ (w2.alloc hintO0).heap.size := by simp
      refine hK _ _ ⟨cA.cell (fun h => h) m0, cA.cell (fun h => h) m1, cA.cell (fun h => h) m2, cA.cell (fun h => h) q0, cA.cell (fun h => h) q1⟩ ?_
      clear hK K
      repeat
        first
        | (refine scr_soft (by rfl) ?_ ?_ ?_ ?_
           rotate_left
           · simp [Region.wanted, yielded]; done
           · intro w' hS
             try obtain ⟨a1, a2, a3, a4, a5⟩ := hS
             go_simp
             try with_reducible rfl
           simp only [Act.put, List.setIfInBounds_toArray, List.set_cons_zero, List.set_cons_succ])
        | (refine scr_skip (by rfl) ?_ ?_
           · simp [Region.wanted, yielded]; done
           simp only [Act.put, List.setIfInBounds_toArray, List.set_cons_zero, List.set_cons_succ])
      refine scr_hard (by rfl) (by simp [Region.wanted, yielded]) (fun K hK => ?_)
      go_simp
      refine (HFR.out (w2.alloc hintO0)).mono ?_
      rintro e w3 ⟨rfl, hcr⟩
      have cw3 : Chg (fun _ _ => False) w1 w3 := cA.trans hcr
      have gw3 : Chg (fun _ _ => False) w2 w3 := ca.trans hcr
      have hsr := hcr.size
      refine hK _ _ ⟨cw3.cell (fun h => h) m0, cw3.cell (fun h => h) m1, cw3.cell (fun h => h) m2, cw3.cell (fun h => h) q0, cw3.cell (fun h => h) q1⟩ ?_
      clear hK K
      repeat
        first
        | (refine scr_soft (by rfl) ?_ ?_ ?_ ?_
           rotate_left
           · simp [Region.wanted, yielded]; done
           · intro w' hS
             try obtain ⟨a1, a2, a3, a4, a5⟩ := hS
             go_simp
             try with_reducible rfl
           simp only [Act.put, List.setIfInBounds_toArray, List.set_cons_zero, List.set_cons_succ])
        | (refine scr_skip (by rfl) ?_ ?_
           · simp [Region.wanted, yielded]; done
           simp only [Act.put, List.setIfInBounds_toArray, List.set_cons_zero, List.set_cons_succ])
      refine scr_hard (by rfl) (by simp [Region.wanted, yielded]) (fun K hK => ?_)
      go_simp
      refine (takerAny_any (w.heap.size + 2) n (w3) (by rw [(cw3).block hlt1 (fun _ h => h)]; exact HBO.out)).mono ?_
      rintro e w4 ⟨rfl, hkt, hct⟩
      have cw4 : Chg (fun _ _ => False) w1 w4 := (cw3).trans hct
      have gw4 : Chg (fun _ _ => False) w2 w4 := (gw3).trans hct
      have hst := hct.size
      have hkl := hkt.i.l3
      have hkl2 := hkt.l
      have hkw := hkt.i.rw_
      have hhb : w4.heap[w2.heap.size]? = some hintO0 := by rw [hct.block (by omega) (fun _ h => h), hcr.block (by simp) (fun _ h => h)]; exact ha_at _ _ rfl
      have hk : Kept n (w.heap.size + 2) _ _ w4.heap.size w4 [] := hkt
      have hHf := HeapAt.chg hH gw4
      have hMf := hM.chg gw4
      have hsgf := (gw4).size
      have hTb : ∀ b, F b → ¬ HT (some w2.heap.size) (w.heap.size + 2) (w4).heap.size b := by
        rintro b hb ((h | h) | h)
        · have := hF2 b hb; omega
        · have := hMf.famLt hb; omega
        · have h4 := Option.some.inj h; have := hM.famLt hb; omega
      have htb : ∀ b, MOwn k0 t b → ¬ HT (some w2.heap.size) (w.heap.size + 2) (w4).heap.size b := by
        rintro b hb ((h | h) | h)
        · have := ho2 b hb; omega
        · have := hMf.own hb; omega
        · have h4 := Option.some.inj h; have := hM.own hb; omega
      have hr := HAscendHintAll_any all x (some w2.heap.size) hHf hMf hdim hk (fun b e => by obtain rfl := Option.some.inj e; exact ⟨_, hhb, hintC0⟩) (fun b e => by obtain rfl := Option.some.inj e; refine ⟨by omega, by omega, by omega, by omega, by omega⟩) hTb htb (by have := HGL.out; omega)
      rw [HPV.out] at hr
      unfold fnG at hr
      try unfold hintV at hr
      try simp only [Option.map_some] at hr
      skip
      have HR := Lib.hid hr
      clear hr hHf hMf hTb htb
      refine hK _ _ ⟨cw4.cell (fun h => h) m0, cw4.cell (fun h => h) m1, cw4.cell (fun h => h) m2, cw4.cell (fun h => h) q0, cw4.cell (fun h => h) q1⟩ ?_
      clear hK K
      repeat
        first
        | (refine scr_soft (by rfl) ?_ ?_ ?_ ?_
           rotate_left
           · simp [Region.wanted, yielded]; done
           · intro w' hS
             try obtain ⟨a1, a2, a3, a4, a5⟩ := hS
             go_simp
             try with_reducible rfl
           simp only [Act.put, List.setIfInBounds_toArray, List.set_cons_zero, List.set_cons_succ])
        | (refine scr_skip (by rfl) ?_ ?_
           · simp [Region.wanted, yielded]; done
           simp only [Act.put, List.setIfInBounds_toArray, List.set_cons_zero, List.set_cons_succ])
      refine scr_hard (by rfl) (by simp [Region.wanted, yielded]) (fun K hK => ?_)
      go_simp
      refine HR.out.mono ?_
      rintro e w9 ⟨rfl, hk9, _, hc9⟩
      rw [runL_first] at hk9
      obtain ⟨v, g1, g2⟩ := hk9.i.o
      have kk0 := cell_of_block g1 0
      simp only [List.getElem?_toArray, List.getElem?_cons_zero] at kk0
      clear g1 hk9
      have hsf := (cw4).size
      have hold : ∀ b, b < w1.heap.size → b ≠ w.heap.size + 2 → ¬ HT (some w2.heap.size) (w.heap.size + 2) (w4).heap.size b := by
        rintro b hb hb2 ((h | h) | h)
        · exact hb2 h
        · omega
        · have h4 := Option.some.inj h; omega
      have hn0 : ¬ HT (some w2.heap.size) (w.heap.size + 2) (w4).heap.size w.heap.size := hold _ (by omega) (by omega)
      have hn1 : ¬ HT (some w2.heap.size) (w.heap.size + 2) (w4).heap.size (w.heap.size + 1) := hold _ (by omega) (by omega)
      refine hK _ _ ⟨hc9.cell hn0 ((cw4).cell (fun h => h) m0), hc9.cell hn0 ((cw4).cell (fun h => h) m1), hc9.cell hn0 ((cw4).cell (fun h => h) m2), hc9.cell hn1 ((cw4).cell (fun h => h) q0), hc9.cell hn1 ((cw4).cell (fun h => h) q1)⟩ ?_
      clear hK K
      repeat
        first
        | (refine scr_soft (by rfl) ?_ ?_ ?_ ?_
           rotate_left
           · simp [Region.wanted, yielded]; done
           · intro w' hS
             try obtain ⟨a1, a2, a3, a4, a5⟩ := hS
             go_simp
             try with_reducible rfl
           simp only [Act.put, List.setIfInBounds_toArray, List.set_cons_zero, List.set_cons_succ])
        | (refine scr_skip (by rfl) ?_ ?_
           · simp [Region.wanted, yielded]; done
           simp only [Act.put, List.setIfInBounds_toArray, List.set_cons_zero, List.set_cons_succ])
      refine scr_nil ?_
      go_wp2_with fail
      go_ret
      exact ⟨v, rfl, g2.mono (hc1.trans (cw4)).size, (hc1.trans (cw4)).trans' hc9 (fun _ _ _ h => h) (fun b o hb h => hold b (by omega) (by omega) h)⟩
  · go_simp
    have ca := ((Chg.refl (fun _ _ => False) w1).alloc hintO0).drew
    have hsa : w1.heap.size + 1 ≤ (w1.alloc hintO0).drew.heap.size := by show _ ≤ (w1.alloc hintO0).heap.size; simp
    refine hK _ _ ⟨ca.cell (fun h => h) m0, ca.cell (fun h => h) m1, ca.cell (fun h => h) m2, ca.cell (fun h => h) q0, ca.cell (fun h => h) q1⟩ ?_
    clear hK K
    repeat
      first
      | (refine scr_soft (by rfl) ?_ ?_ ?_ ?_
         rotate_left
         · simp [Region.wanted, yielded]; done
         · intro w' hS
           try obtain ⟨a1, a2, a3, a4, a5⟩ := hS
           go_simp
           try with_reducible rfl
         simp only [Act.put, List.setIfInBounds_toArray, List.set_cons_zero, List.set_cons_succ])
      | (refine scr_skip (by rfl) ?_ ?_
         · simp [Region.wanted, yielded]; done
         simp only [Act.put, List.setIfInBounds_toArray, List.set_cons_zero, List.set_cons_succ])
    refine scr_hard (by rfl) (by simp [Region.wanted, yielded]) (fun K hK => ?_)
    go_simp
    refine (HGR.out _ (hc1.trans ca)).mono ?_
    rintro e w2 ⟨k0, hp, t, F, rfl, hH, hM, hc2', hF2', ho2', hhp2, _, _⟩
    have hszle : w1.heap.size + 1 ≤ ((w1.alloc hintO0).drew).heap.size := hsa
    have hF2 : ∀ b, F b → w1.heap.size + 1 ≤ b := fun b hb => Nat.le_trans hszle (hF2' b hb)
    have ho2 : ∀ b, MOwn k0 t b → w1.heap.size + 1 ≤ b := fun b hb => Nat.le_trans hszle (ho2' b hb)
    clear hF2' ho2'
    have c2 : Chg (fun _ _ => False) w1 w2 := ca.trans hc2'
    have hsg := hc2'.size
    have hs12 := c2.size
    refine hK _ _ ⟨c2.cell (fun h => h) m0, c2.cell (fun h => h) m1, c2.cell (fun h => h) m2, c2.cell (fun h => h) q0, c2.cell (fun h => h) q1⟩ ?_
    clear hK K
    repeat
      first
      | (refine scr_soft (by rfl) ?_ ?_ ?_ ?_
         rotate_left
         · simp [Region.wanted, yielded]; done
         · intro w' hS
           try obtain ⟨a1, a2, a3, a4, a5⟩ := hS
           go_simp
           try with_reducible rfl
         simp only [Act.put, List.setIfInBounds_toArray, List.set_cons_zero, List.set_cons_succ])
      | (refine scr_skip (by rfl) ?_ ?_
         · simp [Region.wanted, yielded]; done
         simp only [Act.put, List.setIfInBounds_toArray, List.set_cons_zero, List.set_cons_succ])
    refine scr_hard (by rfl) (by simp [Region.wanted, yielded]) (fun K hK => ?_)
    go_simp
    refine (HFR.out (w2)).mono ?_
    rintro e w3 ⟨rfl, hcr⟩
    have cw3 : Chg (fun _ _ => False) w1 w3 := c2.trans hcr
    have gw3 : Chg (fun _ _ => False) w2 w3 := (Chg.refl (fun _ _ => False) w2).trans hcr
    have hsr := hcr.size
    refine hK _ _ ⟨cw3.cell (fun h => h) m0, cw3.cell (fun h => h) m1, cw3.cell (fun h => h) m2, cw3.cell (fun h => h) q0, cw3.cell (fun h => h) q1⟩ ?_
    clear hK K
    repeat
      first
      | (refine scr_soft (by rfl) ?_ ?_ ?_ ?_
         rotate_left
         · simp [Region.wanted, yielded]; done
         · intro w' hS
           try obtain ⟨a1, a2, a3, a4, a5⟩ := hS
           go_simp
           try with_reducible rfl
         simp only [Act.put, List.setIfInBounds_toArray, List.set_cons_zero, List.set_cons_succ])
      | (refine scr_skip (by rfl) ?_ ?_
         · simp [Region.wanted, yielded]; done
         simp only [Act.put, List.setIfInBounds_toArray, List.set_cons_zero, List.set_cons_succ])
    refine scr_hard (by rfl) (by simp [Region.wanted, yielded]) (fun K hK => ?_)
    go_simp
    refine (takerAny_any (w.heap.size + 2) n (w3) (by rw [(cw3).block hlt1 (fun _ h => h)]; exact HBO.out)).mono ?_
    rintro e w4 ⟨rfl, hkt, hct⟩
    have cw4 : Chg (fun _ _ => False) w1 w4 := (cw3).trans hct
    have gw4 : Chg (fun _ _ => False) w2 w4 := (gw3).trans hct
    have hst := hct.size
    have hkl := hkt.i.l3
    have hkl2 := hkt.l
    have hkw := hkt.i.rw_
    have hhb : w4.heap[w1.heap.size]? = some hintO0 := by
      rw [((hc2'.trans hcr).trans hct).block (by omega) (fun _ h => h)]
      exact ha_at _ _ rfl
    have hk : Kept n (w.heap.size + 2) _ _ w4.heap.size w4 [] := hkt
    have hHf := HeapAt.chg hH gw4
    have hMf := hM.chg gw4
    have hsgf := (gw4).size
    have hTb : ∀ b, F b → ¬ HT (some w1.heap.size) (w.heap.size + 2) (w4).heap.size b := by
      rintro b hb ((h | h) | h)
      · have := hF2 b hb; omega
      · have := hMf.famLt hb; omega
      · have h4 := Option.some.inj h; have := hF2 _ hb; omega
    have htb : ∀ b, MOwn k0 t b → ¬ HT (some w1.heap.size) (w.heap.size + 2) (w4).heap.size b := by
      rintro b hb ((h | h) | h)
      · have := ho2 b hb; omega
      · have := hMf.own hb; omega
      · have h4 := Option.some.inj h; have := ho2 _ hb; omega
    have hr := HAscendHintAll_any all x (some w1.heap.size) hHf hMf hdim hk (fun b e => by obtain rfl := Option.some.inj e; exact ⟨_, hhb, hintC0⟩) (fun b e => by obtain rfl := Option.some.inj e; refine ⟨by omega, by omega, by omega, by omega, by omega⟩) hTb htb (by have := HGL.out; omega)
    rw [HPV.out] at hr
    unfold fnG at hr
    try unfold hintV at hr
    try simp only [Option.map_some] at hr
    skip
    have HR := Lib.hid hr
    clear hr hHf hMf hTb htb
    refine hK _ _ ⟨cw4.cell (fun h => h) m0, cw4.cell (fun h => h) m1, cw4.cell (fun h => h) m2, cw4.cell (fun h => h) q0, cw4.cell (fun h => h) q1⟩ ?_
    clear hK K
    repeat
      first
      | (refine scr_soft (by rfl) ?_ ?_ ?_ ?_
         rotate_left
         · simp [Region.wanted, yielded]; done
         · intro w' hS
           try obtain ⟨a1, a2, a3, a4, a5⟩ := hS
           go_simp
           try with_reducible rfl
         simp only [Act.put, List.setIfInBounds_toArray, List.set_cons_zero, List.set_cons_succ])
      | (refine scr_skip (by rfl) ?_ ?_
         · simp [Region.wanted, yielded]; done
         simp only [Act.put, List.setIfInBounds_toArray, List.set_cons_zero, List.set_cons_succ])
    refine scr_hard (by rfl) (by simp [Region.wanted, yielded]) (fun K hK => ?_)
    go_simp
    refine HR.out.mono ?_
    rintro e w9 ⟨rfl, hk9, _, hc9⟩
    rw [runL_first] at hk9
    obtain ⟨v, g1, g2⟩ := hk9.i.o
    have kk0 := cell_of_block g1 0
    simp only [List.getElem?_toArray, List.getElem?_cons_zero] at kk0
    clear g1 hk9
    have hsf := (cw4).size
    have hold : ∀ b, b < w1.heap.size → b ≠ w.heap.size + 2 → ¬ HT (some w1.heap.size) (w.heap.size + 2) (w4).heap.size b := by
      rintro b hb hb2 ((h | h) | h)
      · exact hb2 h
      · omega
      · have h4 := Option.some.inj h; omega
    have hn0 : ¬ HT (some w1.heap.size) (w.heap.size + 2) (w4).heap.size w.heap.size := hold _ (by omega) (by omega)
    have hn1 : ¬ HT (some w1.heap.size) (w.heap.size + 2) (w4).heap.size (w.heap.size + 1) := hold _ (by omega) (by omega)
    refine hK _ _ ⟨hc9.cell hn0 ((cw4).cell (fun h => h) m0), hc9.cell hn0 ((cw4).cell (fun h => h) m1), hc9.cell hn0 ((cw4).cell (fun h => h) m2), hc9.cell hn1 ((cw4).cell (fun h => h) q0), hc9.cell hn1 ((cw4).cell (fun h => h) q1)⟩ ?_
    clear hK K
    repeat
      first
      | (refine scr_soft (by rfl) ?_ ?_ ?_ ?_
         rotate_left
         · simp [Region.wanted, yielded]; done
         · intro w' hS
           try obtain ⟨a1, a2, a3, a4, a5⟩ := hS
           go_simp
           try with_reducible rfl
         simp only [Act.put, List.setIfInBounds_toArray, List.set_cons_zero, List.set_cons_succ])
      | (refine scr_skip (by rfl) ?_ ?_
         · simp [Region.wanted, yielded]; done
         simp only [Act.put, List.setIfInBounds_toArray, List.set_cons_zero, List.set_cons_succ])
    refine scr_nil ?_
    go_wp2_with fail
    go_ret
    exact ⟨v, rfl, g2.mono (hc1.trans (cw4)).size, (hc1.trans (cw4)).trans' hc9 (fun _ _ _ h => h) (fun b o hb h => hold b (by omega) (by omega) h)⟩
end Go.Proofs.Ytcabnhpnkaielaa
