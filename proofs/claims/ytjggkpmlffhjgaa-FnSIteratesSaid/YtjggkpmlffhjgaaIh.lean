/- SIter along the whole set. -/
import Derived.Test.YtjggkpmlffhjgaaIg
namespace Go.Proofs.Ytjggkpmlffhjgaa
set_option linter.unusedSimpArgs false
set_option linter.unusedVariables false
open Go.RowKit

/-- A move without a key. -/
def mvE : El Int where
  es := 3
  enc := fun x => [.int .i64 x, .int .i64 0, .int .i64 0]
  T := 55
  epos := by omega
  elen := fun _ => rfl
  eone := by intro x v hv; simp at hv; rcases hv with rfl | rfl <;> rfl

theorem SlE.mv {w : World} {a : Option Addr} {n cap : Nat} {xs : List Int} (h : SlE mvE w (.slice a n cap) xs) {j : Nat} {x : Int} (hj : xs[j]? = some x) : ∃ b o, a = some ⟨b, o, none⟩ ∧ w.cell? ⟨b, o + j * 3, none⟩ = some (.int .i64 x) ∧ w.cell? ⟨b, o + j * 3 + 1, none⟩ = some (.int .i64 0) ∧ w.cell? ⟨b, o + j * 3 + 2, none⟩ = some (.int .i64 0) := by
  obtain ⟨b, o, h1, h2⟩ := h.cell hj
  exact ⟨b, o, h1, by have := h2 0 _ rfl; simpa [mvE] using this, by have := h2 1 _ rfl; rw [Nat.add_assoc]; simpa [mvE] using this, by have := h2 2 _ rfl; rw [Nat.add_assoc]; simpa [mvE] using this⟩

def outL (d : Bool) (L : List (Int × Int)) : List (Option Int) := (turnL d L).map (fun y => some y.1) ++ [none]
theorem turnL_len (d : Bool) (L : List (Int × Int)) : (turnL d L).length = L.length := by cases d <;> simp [turnL]
theorem outL_len (d : Bool) (L : List (Int × Int)) : (outL d L).length = L.length + 1 := by simp [outL, turnL_len]
theorem outL_take {d : Bool} {L : List (Int × Int)} {j : Nat} {y : Int × Int} (hj : (turnL d L)[j]? = some y) : (outL d L).take (j + 1) = (outL d L).take j ++ [some y.1] := by
  have hlt := (List.getElem?_eq_some_iff.1 hj).1
  rw [List.take_add_one]
  have : (outL d L)[j]? = some (some y.1) := by
    unfold outL
    rw [List.getElem?_append_left (by simpa using hlt), List.getElem?_map, hj]; rfl
  rw [this]; rfl
theorem outL_end {d : Bool} {L : List (Int × Int)} {j : Nat} (hj : j = L.length) : (outL d L).take (j + 1) = (outL d L).take j ++ [none] := by
  rw [List.take_add_one]
  have : (outL d L)[j]? = some none := by
    unfold outL
    rw [List.getElem?_append_right (by rw [List.length_map, turnL_len, hj]; exact Nat.le_refl _), List.length_map, turnL_len, hj, Nat.sub_self]; rfl
  rw [this]; rfl


set_option maxRecDepth 100000 in
set_option maxHeartbeats 4000000 in
theorem SIter_fwd (v : Value) (l : List Int) (kv : Value) (w : World) (hs : SlE intE w v l) (hlen : l.length ≤ 2147483647) (hk : SlE mvE w kv (0 :: List.replicate (growL (l.map itK)).length 2)) :
    Calls Try.prog 41 #[v, kv] w fun e w' => ∃ v', e = .returned v' ∧ SlE keyE w' v' (outL false (growL (l.map itK))) ∧ Chg (fun _ _ => False) w w' := by
  have HG := Lib.hid (growSet_any v l w hs hlen)
  unfold GrowPost at HG
  have hgl := growL_lenK l l.length
  rw [List.take_of_length_le (by simp)] at hgl
  generalize growL (l.map itK) = L at HG hgl hk ⊢
  obtain ⟨a0, cap0, rfl⟩ := hs.form
  obtain ⟨a, kcap, hkf⟩ := hk.form
  rw [List.length_cons, List.length_replicate] at hkf
  subst hkf
  have HKV := Lib.hid hk
  clear hk hs
  obtain ⟨n, hn⟩ : ∃ n, L.length + 1 = n := ⟨_, rfl⟩
  rw [hn]
  rw [hn] at HKV
  obtain ⟨i0, hi0, hz0, hz1, hz2⟩ := info_parts infoKey
  go_enter Try.func41, Try.ntmps41
  go_wp2_with fail
  refine HG.out.mono ?_
  rintro e w1 ⟨t, F, rfl, ht0, hM, hc1, _⟩
  have hts := hM.own (b := t) MOwn.self
  have hFs : ∀ b, F b → b < w1.heap.size := fun b hb => hM.famLt hb
  have hi := fun w => sIter_any t w
  unfold itV at hi
  have HII := Lib.hid hi
  have HM := Lib.hid hM
  clear hi hM HG
  go_wp2_with fail
  refine (HII.out _).mono ?_
  rintro e w2 ⟨rfl, hc2⟩
  have p1 := siter_pz (ha_at w2 (.cells #[.pointer none, .bool false, .bool false, .bool false, .bool false, .slice none 0 0, .int .i64 0] 111) rfl)
  go_upto_region 2 with fail
  refine name_world (fun w3 => ItAt w3 w2.heap.size t false false false (.slice none 0 0) 0 ∧ Chg (fun _ _ => False) w2 w3) ⟨ha_at _ _ rfl, (Chg.refl _ _).alloc _⟩ ?_
  rintro w3 ⟨hia, hc3⟩
  have hs12 := hc2.size
  have hs01 := hc1.size
  have hli := hia.lt
  have hibw : w.heap.size ≤ w2.heap.size := Nat.le_trans hs01 hs12
  have hib2 : w1.heap.size ≤ w2.heap.size := hs12
  have hc03 : Chg (fun _ _ => False) w w3 := (hc1.trans hc2).trans hc3
  have hM3 := (HM.out.chg hc2).chg hc3
  clear p1 HM HII hc1 hc2 hc3
  generalize w2.heap.size = ib at hia hli hibw hib2 hs12 ⊢
  obtain ⟨St, ST⟩ := steps_fwd hM3 hia (fun b hb => by have := hFs b hb; omega) (by omega) (by omega)
  clear hia hM3 hFs
  go_wp2_with fail
  go_loopw [6, 15] (fun v i wr => ∃ (j : Nat), j ≤ n ∧ i = .int .i64 j ∧ OwnE keyE wr v ((outL false L).take j) w3.heap.size ∧ St j (fun b => v.ownBlock = some b) wr ∧ Chg (fun b _ => b = ib) w3 wr) (fun _ i _ => n - (intOf i).toNat)
  case atStart => exact ⟨0, Nat.zero_le _, rfl, OwnE.nil _ _ _, ST.start _, Chg.refl _ _⟩
  case round =>
    obtain ⟨j, hj, rfl, how, hst, hc⟩ := hrel
    have hsz := hc.size
    have hcw : Chg (fun _ _ => False) w wr := hc03.trans' hc (fun _ _ _ h => h) (fun b o hb h => by omega)
    by_cases hlt : j < n
    · have hibX : ∀ u : Value, OwnE keyE wr u ((outL false L).take j) w3.heap.size → ¬ u.ownBlock = some ib := fun u hu h => by have := (hu.own_lt h).1; omega
      replace hibX := hibX _ how
      have i0' : (0 : Int) ≤ (j : Int) := by omega
      have i1 : (j : Int) < (n : Int) := by omega
      by_cases hj0 : j = 0
      · have hx : (0 :: List.replicate L.length 2 : List Int)[j]? = some 0 := by rw [hj0]; rfl
        obtain ⟨b, o, rfl, g0, g1, g2⟩ := (HKV.out.chg hcw).mv hx
        have HJ0 := Lib.hid hj0
        clear hj0 hx
        have hc4 : Chg (fun b _ => b = ib) w3 (wr.alloc (.cells #[.int .i64 0, .int .i64 0, .int .i64 0] 55)) := hc.alloc _
        have hca := (Chg.refl (fun _ _ => False) wr).alloc (.cells #[.int .i64 0, .int .i64 0, .int .i64 0] 55)
        have hst4 := ST.move _ _ (fun b => u6.ownBlock = some b) _ _ hst (hca.mono (fun _ _ _ h => h.elim)) hibX (fun b hb => .inl hb)
        have hstep := ST.step (j) _ _ (by rw [turnL_len]; omega) hc4 (fun b hb => Nat.lt_of_lt_of_le (how.own_lt hb).2 hca.size) hst4
        rw [if_pos HJ0.out] at hstep
        have HSTEP := Lib.hid hstep
        have HOW := Lib.hid (how.keep hca)
        have HC4 := Lib.hid hc4
        have HIBX := Lib.hid hibX
        clear hstep hst4 hst how hca hc4 hc hcw hibX
        go_wp2_with fail
        refine HSTEP.out.mono ?_
        rintro e w5 ⟨rfl, hst5, ⟨sk, a5, e5', st5, k5, hia5, hk5⟩, hch⟩
        rw [turnL_len]
        have hs5 := hch.size
        have how5 := HOW.out.chgOwn hch (fun b o hb h => by
          have := (HOW.out.own_lt hb).1
          rcases h with h | h
          · omega
          · exact h.2 hb)
        have hc5 : Chg (fun b _ => b = ib) w3 w5 := HC4.out.trans' hch (fun _ _ _ h => h) (fun b o hb h => by
          rcases h with h | h
          · exact h
          · omega)
        have HK := Lib.hid (sKey_any hia5)
        obtain ⟨q5, hq5⟩ : ∃ q5, decide (j < L.length) = q5 := ⟨_, rfl⟩
        rw [hq5]
        have hky := fun w => key_any k5 q5 w
        obtain ⟨fk, hfk⟩ : ∃ fk, (if q5 then k5 else 0) = fk := ⟨_, rfl⟩
        rw [hfk] at hky
        obtain ⟨z5, hz5, hcel⟩ : ∃ z5 : Option Int, (outL false L).take (j + 1) = (outL false L).take (j) ++ [z5] ∧ keyL z5 = [.int .i64 fk, .bool q5] := by
          by_cases hjn : j < L.length
          · obtain ⟨y, hy⟩ : ∃ y, (turnL false L)[j]? = some y := ⟨_, List.getElem?_eq_getElem (by rw [turnL_len]; exact hjn)⟩
            have e1 := hk5 y hy
            rw [decide_eq_true hjn] at hq5
            subst hq5
            refine ⟨some y.1, outL_take hy, ?_⟩
            rw [← hfk, e1]; rfl
          · rw [decide_eq_false hjn] at hq5
            subst hq5
            refine ⟨none, outL_end (by omega), ?_⟩
            rw [← hfk]; rfl
        have HKY := Lib.hid hky
        have HZ5 := Lib.hid hz5
        have HCEL := Lib.hid hcel
        have HST5 := Lib.hid hst5
        have HOW5 := Lib.hid how5
        have HC5 := Lib.hid hc5
        clear hst5 hia5 hk5 hch how5 hc5 hq5 hfk hky hz5 hcel HSTEP HC4
        go_wp2_with fail
        refine HK.out.mono ?_
        rintro e w6 ⟨rfl, rfl⟩
        go_wp2_with fail
        refine (HKY.out _).mono ?_
        rintro e w6 ⟨rfl, hc6⟩
        have hcb := hc6.alloc (.cells #[.int .i64 fk, .bool q5] 60)
        have HOW6 := Lib.hid (HOW5.out.keep hcb)
        have HCB := Lib.hid hcb
        have hs6 := hcb.size
        have hol : ((outL false L).take (j)).length ≤ 2147483648 := by rw [List.length_take, outL_len]; omega
        clear hc6 hcb
        go_wp2_with (refine wpList_append_E2 keyE (by rfl) _ _ _ (by rfl) i0 _ 16 Try.underlying57 hi0 hz0 hz1 hz2 rfl _ (by rfl) _ w3.heap.size HOW6.out (Nat.le_trans HC5.out.size hs6) ⟨w6.heap.size, 0, none⟩ 1 _ (by rfl) [z5] rfl (by decide) ?_ ?_ ?_ ?_)
        · exact El.src1 keyE (c := #[.int .i64 fk, .bool q5]) (ha_at _ _ (by first | rfl | simp)) _ HCEL.out.symm
        · unfold maxLen; omega
        · omega
        intro v7 w7 g1 g2 g3
        have hc57 : Chg (fun b _ => u6.ownBlock = some b) w5 w7 := HCB.out.trans' g2 (fun _ _ _ h => h.elim) (fun _ _ _ h => h)
        have hst7 := ST.move _ _ (fun b => v7.ownBlock = some b) _ _ HST5.out hc57 HIBX.out (fun b hb => by
          rcases g3 with g3 | ⟨nb, g3, hn⟩
          · exact .inl (g3 ▸ hb)
          · rw [g3] at hb
            have e : nb = b := Option.some.inj hb
            exact .inr (by first | omega | (rw [← e]; exact Nat.le_trans hs6 hn) | (have h7 := hs6; simp at h7 hn; omega)))
        have hc7 : Chg (fun b _ => b = ib) w3 w7 := HC5.out.trans' hc57 (fun _ _ _ h => h) (fun b o hb h => by have := (HOW5.out.own_lt h).1; omega)
        have HR7 := Lib.hid (And.intro g1 (And.intro hst7 hc7))
        clear g1 g2 g3 hc57 hst7 hc7
        go_wp2
        go_roundw
        case rel => exact ⟨j + 1, by omega, by go_num, by rw [HZ5.out]; exact HR7.out.1, HR7.out.2.1, HR7.out.2.2⟩
        case measure => simp [intOf]; omega
      · have hx : (0 :: List.replicate L.length 2 : List Int)[j]? = some 2 := by
          obtain ⟨j', rfl⟩ := Nat.exists_eq_succ_of_ne_zero hj0
          rw [List.getElem?_cons_succ, List.getElem?_replicate, if_pos (by omega)]
        obtain ⟨b, o, rfl, g0, g1, g2⟩ := (HKV.out.chg hcw).mv hx
        have HJ0 := Lib.hid hj0
        clear hj0 hx
        have hc4 : Chg (fun b _ => b = ib) w3 (wr.alloc (.cells #[.int .i64 2, .int .i64 0, .int .i64 0] 55)) := hc.alloc _
        have hca := (Chg.refl (fun _ _ => False) wr).alloc (.cells #[.int .i64 2, .int .i64 0, .int .i64 0] 55)
        have hst4 := ST.move _ _ (fun b => u6.ownBlock = some b) _ _ hst (hca.mono (fun _ _ _ h => h.elim)) hibX (fun b hb => .inl hb)
        have hstep := ST.step (j) _ _ (by rw [turnL_len]; omega) hc4 (fun b hb => Nat.lt_of_lt_of_le (how.own_lt hb).2 hca.size) hst4
        rw [if_neg HJ0.out] at hstep
        have HSTEP := Lib.hid hstep
        have HOW := Lib.hid (how.keep hca)
        have HC4 := Lib.hid hc4
        have HIBX := Lib.hid hibX
        clear hstep hst4 hst how hca hc4 hc hcw hibX
        go_wp2_with fail
        refine HSTEP.out.mono ?_
        rintro e w5 ⟨rfl, hst5, ⟨sk, a5, e5', st5, k5, hia5, hk5⟩, hch⟩
        rw [turnL_len]
        have hs5 := hch.size
        have how5 := HOW.out.chgOwn hch (fun b o hb h => by
          have := (HOW.out.own_lt hb).1
          rcases h with h | h
          · omega
          · exact h.2 hb)
        have hc5 : Chg (fun b _ => b = ib) w3 w5 := HC4.out.trans' hch (fun _ _ _ h => h) (fun b o hb h => by
          rcases h with h | h
          · exact h
          · omega)
        have HK := Lib.hid (sKey_any hia5)
        obtain ⟨q5, hq5⟩ : ∃ q5, decide (j < L.length) = q5 := ⟨_, rfl⟩
        rw [hq5]
        have hky := fun w => key_any k5 q5 w
        obtain ⟨fk, hfk⟩ : ∃ fk, (if q5 then k5 else 0) = fk := ⟨_, rfl⟩
        rw [hfk] at hky
        obtain ⟨z5, hz5, hcel⟩ : ∃ z5 : Option Int, (outL false L).take (j + 1) = (outL false L).take (j) ++ [z5] ∧ keyL z5 = [.int .i64 fk, .bool q5] := by
          by_cases hjn : j < L.length
          · obtain ⟨y, hy⟩ : ∃ y, (turnL false L)[j]? = some y := ⟨_, List.getElem?_eq_getElem (by rw [turnL_len]; exact hjn)⟩
            have e1 := hk5 y hy
            rw [decide_eq_true hjn] at hq5
            subst hq5
            refine ⟨some y.1, outL_take hy, ?_⟩
            rw [← hfk, e1]; rfl
          · rw [decide_eq_false hjn] at hq5
            subst hq5
            refine ⟨none, outL_end (by omega), ?_⟩
            rw [← hfk]; rfl
        have HKY := Lib.hid hky
        have HZ5 := Lib.hid hz5
        have HCEL := Lib.hid hcel
        have HST5 := Lib.hid hst5
        have HOW5 := Lib.hid how5
        have HC5 := Lib.hid hc5
        clear hst5 hia5 hk5 hch how5 hc5 hq5 hfk hky hz5 hcel HSTEP HC4
        go_wp2_with fail
        refine HK.out.mono ?_
        rintro e w6 ⟨rfl, rfl⟩
        go_wp2_with fail
        refine (HKY.out _).mono ?_
        rintro e w6 ⟨rfl, hc6⟩
        have hcb := hc6.alloc (.cells #[.int .i64 fk, .bool q5] 60)
        have HOW6 := Lib.hid (HOW5.out.keep hcb)
        have HCB := Lib.hid hcb
        have hs6 := hcb.size
        have hol : ((outL false L).take (j)).length ≤ 2147483648 := by rw [List.length_take, outL_len]; omega
        clear hc6 hcb
        go_wp2_with (refine wpList_append_E2 keyE (by rfl) _ _ _ (by rfl) i0 _ 16 Try.underlying57 hi0 hz0 hz1 hz2 rfl _ (by rfl) _ w3.heap.size HOW6.out (Nat.le_trans HC5.out.size hs6) ⟨w6.heap.size, 0, none⟩ 1 _ (by rfl) [z5] rfl (by decide) ?_ ?_ ?_ ?_)
        · exact El.src1 keyE (c := #[.int .i64 fk, .bool q5]) (ha_at _ _ (by first | rfl | simp)) _ HCEL.out.symm
        · unfold maxLen; omega
        · omega
        intro v7 w7 g1 g2 g3
        have hc57 : Chg (fun b _ => u6.ownBlock = some b) w5 w7 := HCB.out.trans' g2 (fun _ _ _ h => h.elim) (fun _ _ _ h => h)
        have hst7 := ST.move _ _ (fun b => v7.ownBlock = some b) _ _ HST5.out hc57 HIBX.out (fun b hb => by
          rcases g3 with g3 | ⟨nb, g3, hn⟩
          · exact .inl (g3 ▸ hb)
          · rw [g3] at hb
            have e : nb = b := Option.some.inj hb
            exact .inr (by first | omega | (rw [← e]; exact Nat.le_trans hs6 hn) | (have h7 := hs6; simp at h7 hn; omega)))
        have hc7 : Chg (fun b _ => b = ib) w3 w7 := HC5.out.trans' hc57 (fun _ _ _ h => h) (fun b o hb h => by have := (HOW5.out.own_lt h).1; omega)
        have HR7 := Lib.hid (And.intro g1 (And.intro hst7 hc7))
        clear g1 g2 g3 hc57 hst7 hc7
        go_wp2
        go_roundw
        case rel => exact ⟨j + 1, by omega, by go_num, by rw [HZ5.out]; exact HR7.out.1, HR7.out.2.1, HR7.out.2.2⟩
        case measure => simp [intOf]; omega
    · obtain rfl : j = n := by omega
      rw [List.take_of_length_le (by rw [outL_len]; omega)] at how
      have HOW := Lib.hid how.sl
      obtain ⟨av, cv, hav⟩ := how.sl.form
      rw [outL_len, hn] at hav
      subst hav
      clear how hst
      go_wp2_with fail
      go_ret
      exact ⟨_, rfl, HOW.out, hcw⟩

set_option maxRecDepth 100000 in
set_option maxHeartbeats 4000000 in
theorem SIter_bwd (v : Value) (l : List Int) (kv : Value) (w : World) (hs : SlE intE w v l) (hlen : l.length ≤ 2147483647) (hk : SlE mvE w kv (1 :: List.replicate (growL (l.map itK)).length 3)) :
    Calls Try.prog 41 #[v, kv] w fun e w' => ∃ v', e = .returned v' ∧ SlE keyE w' v' (outL true (growL (l.map itK))) ∧ Chg (fun _ _ => False) w w' := by
  have HG := Lib.hid (growSet_any v l w hs hlen)
  unfold GrowPost at HG
  have hgl := growL_lenK l l.length
  rw [List.take_of_length_le (by simp)] at hgl
  generalize growL (l.map itK) = L at HG hgl hk ⊢
  obtain ⟨a0, cap0, rfl⟩ := hs.form
  obtain ⟨a, kcap, hkf⟩ := hk.form
  rw [List.length_cons, List.length_replicate] at hkf
  subst hkf
  have HKV := Lib.hid hk
  clear hk hs
  obtain ⟨n, hn⟩ : ∃ n, L.length + 1 = n := ⟨_, rfl⟩
  rw [hn]
  rw [hn] at HKV
  obtain ⟨i0, hi0, hz0, hz1, hz2⟩ := info_parts infoKey
  go_enter Try.func41, Try.ntmps41
  go_wp2_with fail
  refine HG.out.mono ?_
  rintro e w1 ⟨t, F, rfl, ht0, hM, hc1, _⟩
  have hts := hM.own (b := t) MOwn.self
  have hFs : ∀ b, F b → b < w1.heap.size := fun b hb => hM.famLt hb
  have hi := fun w => sIter_any t w
  unfold itV at hi
  have HII := Lib.hid hi
  have HM := Lib.hid hM
  clear hi hM HG
  go_wp2_with fail
  refine (HII.out _).mono ?_
  rintro e w2 ⟨rfl, hc2⟩
  have p1 := siter_pz (ha_at w2 (.cells #[.pointer none, .bool false, .bool false, .bool false, .bool false, .slice none 0 0, .int .i64 0] 111) rfl)
  go_upto_region 2 with fail
  refine name_world (fun w3 => ItAt w3 w2.heap.size t false false false (.slice none 0 0) 0 ∧ Chg (fun _ _ => False) w2 w3) ⟨ha_at _ _ rfl, (Chg.refl _ _).alloc _⟩ ?_
  rintro w3 ⟨hia, hc3⟩
  have hs12 := hc2.size
  have hs01 := hc1.size
  have hli := hia.lt
  have hibw : w.heap.size ≤ w2.heap.size := Nat.le_trans hs01 hs12
  have hib2 : w1.heap.size ≤ w2.heap.size := hs12
  have hc03 : Chg (fun _ _ => False) w w3 := (hc1.trans hc2).trans hc3
  have hM3 := (HM.out.chg hc2).chg hc3
  clear p1 HM HII hc1 hc2 hc3
  generalize w2.heap.size = ib at hia hli hibw hib2 hs12 ⊢
  obtain ⟨St, ST⟩ := steps_bwd hM3 hia (fun b hb => by have := hFs b hb; omega) (by omega) (by omega)
  clear hia hM3 hFs
  go_wp2_with fail
  go_loopw [6, 15] (fun v i wr => ∃ (j : Nat), j ≤ n ∧ i = .int .i64 j ∧ OwnE keyE wr v ((outL true L).take j) w3.heap.size ∧ St j (fun b => v.ownBlock = some b) wr ∧ Chg (fun b _ => b = ib) w3 wr) (fun _ i _ => n - (intOf i).toNat)
  case atStart => exact ⟨0, Nat.zero_le _, rfl, OwnE.nil _ _ _, ST.start _, Chg.refl _ _⟩
  case round =>
    obtain ⟨j, hj, rfl, how, hst, hc⟩ := hrel
    have hsz := hc.size
    have hcw : Chg (fun _ _ => False) w wr := hc03.trans' hc (fun _ _ _ h => h) (fun b o hb h => by omega)
    by_cases hlt : j < n
    · have hibX : ∀ u : Value, OwnE keyE wr u ((outL true L).take j) w3.heap.size → ¬ u.ownBlock = some ib := fun u hu h => by have := (hu.own_lt h).1; omega
      replace hibX := hibX _ how
      have i0' : (0 : Int) ≤ (j : Int) := by omega
      have i1 : (j : Int) < (n : Int) := by omega
      by_cases hj0 : j = 0
      · have hx : (1 :: List.replicate L.length 3 : List Int)[j]? = some 1 := by rw [hj0]; rfl
        obtain ⟨b, o, rfl, g0, g1, g2⟩ := (HKV.out.chg hcw).mv hx
        have HJ0 := Lib.hid hj0
        clear hj0 hx
        have hc4 : Chg (fun b _ => b = ib) w3 (wr.alloc (.cells #[.int .i64 1, .int .i64 0, .int .i64 0] 55)) := hc.alloc _
        have hca := (Chg.refl (fun _ _ => False) wr).alloc (.cells #[.int .i64 1, .int .i64 0, .int .i64 0] 55)
        have hst4 := ST.move _ _ (fun b => u6.ownBlock = some b) _ _ hst (hca.mono (fun _ _ _ h => h.elim)) hibX (fun b hb => .inl hb)
        have hstep := ST.step (j) _ _ (by rw [turnL_len]; omega) hc4 (fun b hb => Nat.lt_of_lt_of_le (how.own_lt hb).2 hca.size) hst4
        rw [if_pos HJ0.out] at hstep
        have HSTEP := Lib.hid hstep
        have HOW := Lib.hid (how.keep hca)
        have HC4 := Lib.hid hc4
        have HIBX := Lib.hid hibX
        clear hstep hst4 hst how hca hc4 hc hcw hibX
        go_wp2_with fail
        refine HSTEP.out.mono ?_
        rintro e w5 ⟨rfl, hst5, ⟨sk, a5, e5', st5, k5, hia5, hk5⟩, hch⟩
        rw [turnL_len]
        have hs5 := hch.size
        have how5 := HOW.out.chgOwn hch (fun b o hb h => by
          have := (HOW.out.own_lt hb).1
          rcases h with h | h
          · omega
          · exact h.2 hb)
        have hc5 : Chg (fun b _ => b = ib) w3 w5 := HC4.out.trans' hch (fun _ _ _ h => h) (fun b o hb h => by
          rcases h with h | h
          · exact h
          · omega)
        have HK := Lib.hid (sKey_any hia5)
        obtain ⟨q5, hq5⟩ : ∃ q5, decide (j < L.length) = q5 := ⟨_, rfl⟩
        rw [hq5]
        have hky := fun w => key_any k5 q5 w
        obtain ⟨fk, hfk⟩ : ∃ fk, (if q5 then k5 else 0) = fk := ⟨_, rfl⟩
        rw [hfk] at hky
        obtain ⟨z5, hz5, hcel⟩ : ∃ z5 : Option Int, (outL true L).take (j + 1) = (outL true L).take (j) ++ [z5] ∧ keyL z5 = [.int .i64 fk, .bool q5] := by
          by_cases hjn : j < L.length
          · obtain ⟨y, hy⟩ : ∃ y, (turnL true L)[j]? = some y := ⟨_, List.getElem?_eq_getElem (by rw [turnL_len]; exact hjn)⟩
            have e1 := hk5 y hy
            rw [decide_eq_true hjn] at hq5
            subst hq5
            refine ⟨some y.1, outL_take hy, ?_⟩
            rw [← hfk, e1]; rfl
          · rw [decide_eq_false hjn] at hq5
            subst hq5
            refine ⟨none, outL_end (by omega), ?_⟩
            rw [← hfk]; rfl
        have HKY := Lib.hid hky
        have HZ5 := Lib.hid hz5
        have HCEL := Lib.hid hcel
        have HST5 := Lib.hid hst5
        have HOW5 := Lib.hid how5
        have HC5 := Lib.hid hc5
        clear hst5 hia5 hk5 hch how5 hc5 hq5 hfk hky hz5 hcel HSTEP HC4
        go_wp2_with fail
        refine HK.out.mono ?_
        rintro e w6 ⟨rfl, rfl⟩
        go_wp2_with fail
        refine (HKY.out _).mono ?_
        rintro e w6 ⟨rfl, hc6⟩
        have hcb := hc6.alloc (.cells #[.int .i64 fk, .bool q5] 60)
        have HOW6 := Lib.hid (HOW5.out.keep hcb)
        have HCB := Lib.hid hcb
        have hs6 := hcb.size
        have hol : ((outL true L).take (j)).length ≤ 2147483648 := by rw [List.length_take, outL_len]; omega
        clear hc6 hcb
        go_wp2_with (refine wpList_append_E2 keyE (by rfl) _ _ _ (by rfl) i0 _ 16 Try.underlying57 hi0 hz0 hz1 hz2 rfl _ (by rfl) _ w3.heap.size HOW6.out (Nat.le_trans HC5.out.size hs6) ⟨w6.heap.size, 0, none⟩ 1 _ (by rfl) [z5] rfl (by decide) ?_ ?_ ?_ ?_)
        · exact El.src1 keyE (c := #[.int .i64 fk, .bool q5]) (ha_at _ _ (by first | rfl | simp)) _ HCEL.out.symm
        · unfold maxLen; omega
        · omega
        intro v7 w7 g1 g2 g3
        have hc57 : Chg (fun b _ => u6.ownBlock = some b) w5 w7 := HCB.out.trans' g2 (fun _ _ _ h => h.elim) (fun _ _ _ h => h)
        have hst7 := ST.move _ _ (fun b => v7.ownBlock = some b) _ _ HST5.out hc57 HIBX.out (fun b hb => by
          rcases g3 with g3 | ⟨nb, g3, hn⟩
          · exact .inl (g3 ▸ hb)
          · rw [g3] at hb
            have e : nb = b := Option.some.inj hb
            exact .inr (by first | omega | (rw [← e]; exact Nat.le_trans hs6 hn) | (have h7 := hs6; simp at h7 hn; omega)))
        have hc7 : Chg (fun b _ => b = ib) w3 w7 := HC5.out.trans' hc57 (fun _ _ _ h => h) (fun b o hb h => by have := (HOW5.out.own_lt h).1; omega)
        have HR7 := Lib.hid (And.intro g1 (And.intro hst7 hc7))
        clear g1 g2 g3 hc57 hst7 hc7
        go_wp2
        go_roundw
        case rel => exact ⟨j + 1, by omega, by go_num, by rw [HZ5.out]; exact HR7.out.1, HR7.out.2.1, HR7.out.2.2⟩
        case measure => simp [intOf]; omega
      · have hx : (1 :: List.replicate L.length 3 : List Int)[j]? = some 3 := by
          obtain ⟨j', rfl⟩ := Nat.exists_eq_succ_of_ne_zero hj0
          rw [List.getElem?_cons_succ, List.getElem?_replicate, if_pos (by omega)]
        obtain ⟨b, o, rfl, g0, g1, g2⟩ := (HKV.out.chg hcw).mv hx
        have HJ0 := Lib.hid hj0
        clear hj0 hx
        have hc4 : Chg (fun b _ => b = ib) w3 (wr.alloc (.cells #[.int .i64 3, .int .i64 0, .int .i64 0] 55)) := hc.alloc _
        have hca := (Chg.refl (fun _ _ => False) wr).alloc (.cells #[.int .i64 3, .int .i64 0, .int .i64 0] 55)
        have hst4 := ST.move _ _ (fun b => u6.ownBlock = some b) _ _ hst (hca.mono (fun _ _ _ h => h.elim)) hibX (fun b hb => .inl hb)
        have hstep := ST.step (j) _ _ (by rw [turnL_len]; omega) hc4 (fun b hb => Nat.lt_of_lt_of_le (how.own_lt hb).2 hca.size) hst4
        rw [if_neg HJ0.out] at hstep
        have HSTEP := Lib.hid hstep
        have HOW := Lib.hid (how.keep hca)
        have HC4 := Lib.hid hc4
        have HIBX := Lib.hid hibX
        clear hstep hst4 hst how hca hc4 hc hcw hibX
        go_wp2_with fail
        refine HSTEP.out.mono ?_
        rintro e w5 ⟨rfl, hst5, ⟨sk, a5, e5', st5, k5, hia5, hk5⟩, hch⟩
        rw [turnL_len]
        have hs5 := hch.size
        have how5 := HOW.out.chgOwn hch (fun b o hb h => by
          have := (HOW.out.own_lt hb).1
          rcases h with h | h
          · omega
          · exact h.2 hb)
        have hc5 : Chg (fun b _ => b = ib) w3 w5 := HC4.out.trans' hch (fun _ _ _ h => h) (fun b o hb h => by
          rcases h with h | h
          · exact h
          · omega)
        have HK := Lib.hid (sKey_any hia5)
        obtain ⟨q5, hq5⟩ : ∃ q5, decide (j < L.length) = q5 := ⟨_, rfl⟩
        rw [hq5]
        have hky := fun w => key_any k5 q5 w
        obtain ⟨fk, hfk⟩ : ∃ fk, (if q5 then k5 else 0) = fk := ⟨_, rfl⟩
        rw [hfk] at hky
        obtain ⟨z5, hz5, hcel⟩ : ∃ z5 : Option Int, (outL true L).take (j + 1) = (outL true L).take (j) ++ [z5] ∧ keyL z5 = [.int .i64 fk, .bool q5] := by
          by_cases hjn : j < L.length
          · obtain ⟨y, hy⟩ : ∃ y, (turnL true L)[j]? = some y := ⟨_, List.getElem?_eq_getElem (by rw [turnL_len]; exact hjn)⟩
            have e1 := hk5 y hy
            rw [decide_eq_true hjn] at hq5
            subst hq5
            refine ⟨some y.1, outL_take hy, ?_⟩
            rw [← hfk, e1]; rfl
          · rw [decide_eq_false hjn] at hq5
            subst hq5
            refine ⟨none, outL_end (by omega), ?_⟩
            rw [← hfk]; rfl
        have HKY := Lib.hid hky
        have HZ5 := Lib.hid hz5
        have HCEL := Lib.hid hcel
        have HST5 := Lib.hid hst5
        have HOW5 := Lib.hid how5
        have HC5 := Lib.hid hc5
        clear hst5 hia5 hk5 hch how5 hc5 hq5 hfk hky hz5 hcel HSTEP HC4
        go_wp2_with fail
        refine HK.out.mono ?_
        rintro e w6 ⟨rfl, rfl⟩
        go_wp2_with fail
        refine (HKY.out _).mono ?_
        rintro e w6 ⟨rfl, hc6⟩
        have hcb := hc6.alloc (.cells #[.int .i64 fk, .bool q5] 60)
        have HOW6 := Lib.hid (HOW5.out.keep hcb)
        have HCB := Lib.hid hcb
        have hs6 := hcb.size
        have hol : ((outL true L).take (j)).length ≤ 2147483648 := by rw [List.length_take, outL_len]; omega
        clear hc6 hcb
        go_wp2_with (refine wpList_append_E2 keyE (by rfl) _ _ _ (by rfl) i0 _ 16 Try.underlying57 hi0 hz0 hz1 hz2 rfl _ (by rfl) _ w3.heap.size HOW6.out (Nat.le_trans HC5.out.size hs6) ⟨w6.heap.size, 0, none⟩ 1 _ (by rfl) [z5] rfl (by decide) ?_ ?_ ?_ ?_)
        · exact El.src1 keyE (c := #[.int .i64 fk, .bool q5]) (ha_at _ _ (by first | rfl | simp)) _ HCEL.out.symm
        · unfold maxLen; omega
        · omega
        intro v7 w7 g1 g2 g3
        have hc57 : Chg (fun b _ => u6.ownBlock = some b) w5 w7 := HCB.out.trans' g2 (fun _ _ _ h => h.elim) (fun _ _ _ h => h)
        have hst7 := ST.move _ _ (fun b => v7.ownBlock = some b) _ _ HST5.out hc57 HIBX.out (fun b hb => by
          rcases g3 with g3 | ⟨nb, g3, hn⟩
          · exact .inl (g3 ▸ hb)
          · rw [g3] at hb
            have e : nb = b := Option.some.inj hb
            exact .inr (by first | omega | (rw [← e]; exact Nat.le_trans hs6 hn) | (have h7 := hs6; simp at h7 hn; omega)))
        have hc7 : Chg (fun b _ => b = ib) w3 w7 := HC5.out.trans' hc57 (fun _ _ _ h => h) (fun b o hb h => by have := (HOW5.out.own_lt h).1; omega)
        have HR7 := Lib.hid (And.intro g1 (And.intro hst7 hc7))
        clear g1 g2 g3 hc57 hst7 hc7
        go_wp2
        go_roundw
        case rel => exact ⟨j + 1, by omega, by go_num, by rw [HZ5.out]; exact HR7.out.1, HR7.out.2.1, HR7.out.2.2⟩
        case measure => simp [intOf]; omega
    · obtain rfl : j = n := by omega
      rw [List.take_of_length_le (by rw [outL_len]; omega)] at how
      have HOW := Lib.hid how.sl
      obtain ⟨av, cv, hav⟩ := how.sl.form
      rw [outL_len, hn] at hav
      subst hav
      clear how hst
      go_wp2_with fail
      go_ret
      exact ⟨_, rfl, HOW.out, hcw⟩
end Go.Proofs.Ytjggkpmlffhjgaa
