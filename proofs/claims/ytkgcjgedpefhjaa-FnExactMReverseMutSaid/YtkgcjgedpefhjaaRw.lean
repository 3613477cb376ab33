/- reverse, ReverseMut, MReverseMut; spec: Turned, First, GReverse. -/
import Derived.Test.YtkgcjgedpefhjaaRv
import Derived.Test.YtkgcjgedpefhjaaKs
import Derived.Test.YtkgcjgedpefhjaaSu
import Derived.Test.YtkgcjgedpefhjaaLa
namespace Go.Proofs.Ytkgcjgedpefhjaa
open Go.RowKit

def RunEnd (n : Int) (ob b2 b3 cb rb : Nat) (acc l : List (Int × Int)) (w : World) (e : Ending) (w' : World) : Prop :=
  e = .returned (.tuple #[]) ∧ Kept n ob b2 b3 cb rb w' (runL (contN n) acc l).1 ∧ Chg (fun b _ => TakeB ob rb b) w w'

theorem reverse_any {mn mx : Nat} {w : World} {F : Nat → Prop} {t : Nat} {l : List (Int × Int)} (mt : Bool) {n : Int} {ob b2 b3 cb rb : Nat} {acc : List (Int × Int)} (hM : MapIn mn mx w F t l) (hK : Kept n ob b2 b3 cb rb w acc) (hFb : ∀ b, F b → ¬ TakeB ob rb b) (htb : ¬ TakeB ob rb t) (hlen : acc.length + l.length ≤ 1000000000000) :
    Calls Try.prog 102 #[.pointer (some ⟨t, 0, none⟩), fnP cb, .bool mt] w (RunEnd n ob b2 b3 cb rb acc l.reverse w) := by
  rcases hM with ⟨rfl, _, hB⟩ | ⟨H, h, T, hI, hB, rfl, h1⟩
  · have c2 : w.cell? ⟨t, 2, none⟩ = some (.pointer none) := hB.c2
    have HK := Lib.hid hK
    clear hK
    unfold fnP
    go_enter Try.func102, Try.ntmps102
    go_wp2
    go_end0
    exact ⟨rfl, HK.out, Chg.refl _ _⟩
  · have c2 : w.cell? ⟨t, 2, none⟩ = some (.pointer (some ⟨rid T, 0, none⟩)) := hB.c2
    have hr := rev_all h mn mx w F H T t ⟨t, 2, none⟩ mt n ob b2 b3 cb rb acc hI.fam hI.isT hI.sh c2 hB.at_.c0 hK hFb htb hlen
    unfold fnP at hr ⊢
    have HR := Lib.hid hr
    clear hr hK
    go_enter Try.func102, Try.ntmps102
    go_wp2_with fail
    refine HR.out.mono ?_
    rintro e w1 ⟨rfl, h1, h2⟩
    go_wp2_with fail
    go_end0
    exact ⟨rfl, h1, h2⟩

theorem ReverseMut_any {mn mx : Nat} {w : World} {F : Nat → Prop} {t : Nat} {l : List (Int × Int)} {n : Int} {ob b2 b3 cb rb : Nat} {acc : List (Int × Int)} (hM : MapIn mn mx w F t l) (hK : Kept n ob b2 b3 cb rb w acc) (hFb : ∀ b, F b → ¬ TakeB ob rb b) (htb : ¬ TakeB ob rb t) (hlen : acc.length + l.length ≤ 1000000000000) :
    Calls Try.prog 76 #[.pointer (some ⟨t, 0, none⟩), fnP cb] w (RunEnd n ob b2 b3 cb rb acc l.reverse w) := by
  have hr := reverse_any true hM hK hFb htb hlen
  unfold fnP at hr ⊢
  have HR := Lib.hid hr
  clear hr hK
  go_enter Try.func76, Try.ntmps76
  go_wp2_with fail
  refine HR.out.mono ?_
  rintro e w1 ⟨rfl, h1, h2⟩
  go_wp2_with fail
  go_end0
  exact ⟨rfl, h1, h2⟩

theorem MapIn.blk' {mn mx : Nat} {w : World} {F : Nat → Prop} {t : Nat} {l : List (Int × Int)} (h : MapIn mn mx w F t l) : ∃ root, MapBlk 0 mn mx w t root l.length := by
  rcases h with ⟨rfl, _, hB⟩ | ⟨H, h, T, _, hB, rfl, _⟩
  · exact ⟨none, hB⟩
  · exact ⟨_, hB⟩
theorem MapIn.flt' {mn mx : Nat} {w : World} {F : Nat → Prop} {t : Nat} {l : List (Int × Int)} (hM : MapIn mn mx w F t l) : ∀ b, F b → b < w.heap.size := by
  intro b hb
  rcases hM with ⟨_, h, _⟩ | ⟨H, h, T, hI, _⟩
  · exact absurd hb (h b)
  · exact hI.fam.lt hb
set_option maxRecDepth 100000 in
theorem MReverseMut_any (d : Int) (p : Option Addr) (cap : Nat) (l : List (Int × Int)) (n : Int) (w : World) (h1 : 2 ≤ d) (h2 : d ≤ 128) (hl : ItemsAt w p l) (hlen : l.length ≤ 2147483647) :
    Calls Try.prog 54 #[.int .i64 d, .slice p l.length cap, .int .i64 n] w (OwnPost itemE (firstN n ((growL l).reverse)) w) := by
  have hgl := growL_take_len l l.length
  rw [List.take_length] at hgl
  have HGL := Lib.hid hgl
  have HL := Lib.hid hl
  clear hgl hl
  go_enter Try.func54, Try.ntmps54
  go_wp2_with fail
  refine name_calls (fun w1 => Chg (fun _ _ => False) w w1 ∧ w1.heap[w.heap.size]? = some (.cells #[.slice none 0 0] 22 (0, 0))) ⟨(Chg.refl _ _).alloc _, ha_at _ _ rfl⟩ ?_
  rintro w1 ⟨hc1, hb1⟩
  refine (growMap_any d p cap l _ h1 h2 (HL.out.chg hc1) hlen).mono ?_
  rintro e w2 ⟨t, F, rfl, ht, hM, hc2, hF2⟩
  have hb2 : w2.heap[w.heap.size]? = some (.cells #[.slice none 0 0] 22 (0, 0)) := by rw [hc2.block (heap_lt hb1) (fun _ h => h)]; exact hb1
  have hlt1 := heap_lt hb1
  have hp := pairs_any w.heap.size n w2 hb2
  have HP := Lib.hid hp
  clear hp hb1 hb2
  go_wp2_with fail
  refine HP.out.mono ?_
  rintro e w3 ⟨b2, b3, cb, rfl, hk, hc3⟩
  have hsz3 := hc3.size
  have hM3 := hM.chg hc3
  have hTb : ∀ b, F b → ¬ TakeB w.heap.size w3.heap.size b := by
    rintro b hb (h | h)
    · have := hF2 b hb; omega
    · have := hM3.flt' b hb; omega
  have htb : ¬ TakeB w.heap.size w3.heap.size t := by
    rintro (h | h)
    · omega
    · obtain ⟨root, hB⟩ := hM3.blk'
      have := hB.lt; omega
  have hr := ReverseMut_any hM3 hk hTb htb (by have := HGL.out; simp; omega)
  unfold fnP at hr
  have HR := Lib.hid hr
  clear hr hk
  go_wp2_with fail
  refine HR.out.mono ?_
  rintro e w4 ⟨rfl, hk4, hc4⟩
  rw [runL_first] at hk4
  obtain ⟨⟨v, g1, g2⟩, _⟩ := hk4
  have k0 := cell_of_block g1 0
  simp only [List.getElem?_toArray, List.getElem?_cons_zero] at k0
  clear g1
  go_wp2_with fail
  go_ret
  have hc03 := (hc1.trans hc2).trans hc3
  exact ⟨v, rfl, g2.mono hc03.size, hc03.trans' hc4 (fun _ _ _ h => h) (fun b o hb h => by rcases h with h | h <;> omega)⟩

/-! spec -/
set_option maxRecDepth 100000 in
theorem Turned_any (v : Value) (xs : List (Int × Int)) (w : World) (h : SlE itemE w v xs) (hlen : xs.length ≤ 2147483648) :
    Calls Try.prog 78 #[v] w (OwnPost itemE xs.reverse w) := by
  obtain ⟨a, cap, rfl⟩ := h.form
  have HS := Lib.hid h
  clear h
  obtain ⟨i0, hi0, hz0, hz1, hz2⟩ := info_parts infoItem
  go_enter Try.func78, Try.ntmps78
  go_wp2
  go_loopw [3, 4] (fun v i wr => ∃ (k : Nat) (z : Int), i = .int .i64 z ∧ z = (k : Int) - 1 ∧ k ≤ xs.length ∧ OwnE itemE wr v (xs.reverse.take (xs.length - k)) w.heap.size ∧ Chg (fun _ _ => False) w wr) (fun _ i _ => (intOf i + 1).toNat)
  case atStart => exact ⟨xs.length, _, rfl, rfl, Nat.le_refl _, by rw [Nat.sub_self]; exact OwnE.nil _ _ _, Chg.refl _ _⟩
  case round =>
    obtain ⟨k, z, rfl, hz, hk, how, hc⟩ := hrel
    have hsz := hc.size
    rcases k with _ | k
    · have hz0 : ¬ (0 : Int) ≤ z := by omega
      clear hz
      go_wp2
      go_ret
      exact ⟨_, rfl, by rw [List.take_of_length_le (by simp)] at how; exact how, hc⟩
    · obtain rfl : z = (k : Int) := by omega
      obtain ⟨x, hx⟩ : ∃ x, xs[k]? = some x := ⟨_, List.getElem?_eq_getElem (by omega)⟩
      obtain ⟨b, o, rfl, g0, g1⟩ := (HS.out.chg hc).item hx
      have ht : xs.reverse.take (xs.length - k) = xs.reverse.take (xs.length - (k + 1)) ++ [x] := by
        have e : xs.length - k = (xs.length - (k + 1)) + 1 := by omega
        rw [e, List.take_add_one, List.getElem?_reverse (by omega)]
        have : xs.length - 1 - (xs.length - (k + 1)) = k := by omega
        rw [this, hx]; rfl
      have hll : (xs.reverse.take (xs.length - (k + 1))).length ≤ xs.length := by simp
      have HT := Lib.hid ht
      have HLL := Lib.hid hll
      clear hx ht hz hll
      have i0' : (0 : Int) ≤ (k : Int) := by omega
      have i1 : (k : Int) < (xs.length : Int) := by omega
      have hc2 : Chg (fun _ _ => False) w (wr.alloc (.cells #[.int .i64 x.1, .int .i64 x.2] 39)) := hc.alloc _
      have how2 := how.keep ((Chg.refl (fun _ _ => False) wr).alloc (.cells #[.int .i64 x.1, .int .i64 x.2] 39))
      have HOW := Lib.hid how2
      clear how how2
      go_wp2_with (refine wpList_append_E itemE (by rfl) _ _ _ (by rfl) i0 _ 16 Try.underlying22 hi0 hz0 hz1 hz2 rfl _ (by rfl) _ w.heap.size HOW.out hc2.size ⟨wr.heap.size, 0, none⟩ 1 _ (by rfl) [x] rfl (by decide) ?_ ?_ ?_ ?_)
      · exact El.src1 itemE (c := #[.int .i64 x.1, .int .i64 x.2]) (ha_at _ _ (by simp)) _ rfl
      · have := HLL.out; unfold maxLen; omega
      · have := HLL.out; omega
      intro v' w' h1 h2 _
      have hc3 : Chg (fun _ _ => False) w w' := hc2.trans' h2 (fun _ _ _ h => h) (fun b o hb h => by omega)
      go_wp2
      go_roundw
      case rel => exact ⟨k, (k : Int) - 1, by go_num, rfl, by omega, by rw [HT.out]; exact h1, hc3⟩
      case measure => simp [intOf]

theorem SlE.take {α : Type} {p : El α} {w : World} {a : Option Addr} {cap : Nat} {xs : List α} (h : SlE p w (.slice a xs.length cap) xs) (k : Nat) (hk : k ≤ xs.length) : SlE p w (.slice a k cap) (xs.take k) := by
  obtain ⟨a', cap', h1, h2, h3⟩ := h
  injection h1 with e1 e2 e3
  subst e1 e3
  have hl : (xs.take k).length = k := by simp; omega
  refine ⟨a, cap, by rw [hl], by omega, ?_⟩
  rcases h3 with rfl | ⟨b, o, rfl, hc⟩
  · exact .inl (by simp)
  · refine .inr ⟨b, o, rfl, fun j u hj => hc j u ?_⟩
    have e : flat p.par (xs.take k) = (flat p.par xs).take (k * p.par.es) := (flat_take p.par xs k).symm
    rw [e] at hj
    have hjl : j < k * p.par.es := by
      have := (List.getElem?_eq_some_iff.1 hj).1
      simp at this; omega
    rw [List.getElem?_take_of_lt hjl] at hj
    exact hj

theorem First_any (v : Value) (xs : List (Int × Int)) (n : Int) (w : World) (h : SlE itemE w v xs) (hlen : xs.length ≤ 2147483648) :
    Calls Try.prog 77 #[v, .int .i64 n] w fun e w' => ∃ v', e = .returned v' ∧ SlE itemE w' v' (firstN n xs) ∧ Chg (fun _ _ => False) w w' := by
  obtain ⟨a, cap, rfl⟩ := h.form
  obtain ⟨_, _, _, hcap0, _⟩ := id h
  have hcap : xs.length ≤ cap := by
    obtain ⟨a', cap', e, h2, _⟩ := id h
    injection e with e1 e2 e3
    omega
  have HS := Lib.hid h
  clear h
  by_cases h1 : n < 1
  · have hf : firstN n xs = xs := by unfold firstN; rw [if_pos (.inl h1)]
    rw [hf]
    go_enter Try.func77, Try.ntmps77
    go_wp2
    go_ret
    exact ⟨_, rfl, HS.out, Chg.refl _ _⟩
  by_cases h2 : (xs.length : Int) < n
  · have hf : firstN n xs = xs := by unfold firstN; rw [if_pos (.inr h2)]
    rw [hf]
    go_enter Try.func77, Try.ntmps77
    go_wp2
    go_ret
    exact ⟨_, rfl, HS.out, Chg.refl _ _⟩
  · obtain ⟨k, rfl⟩ : ∃ k : Nat, n = (k : Int) := ⟨n.toNat, by omega⟩
    have hf : firstN (k : Int) xs = xs.take k := by unfold firstN; rw [if_neg (by omega)]; simp
    rw [hf]
    have k0 : (0 : Int) ≤ (k : Int) := by omega
    have k1 : (k : Int) ≤ (cap : Int) := by omega
    have k2 : k ≤ cap := by omega
    have ht := HS.out.take k (by omega)
    have HT := Lib.hid ht
    clear ht hf
    go_enter Try.func77, Try.ntmps77
    go_wp2
    go_ret
    exact ⟨_, rfl, HT.out, Chg.refl _ _⟩

set_option maxRecDepth 100000 in
theorem GReverse_nil (p : Option Addr) (cap : Nat) (l : List (Int × Int)) (n : Int) (w : World) (hl : ItemsAt w p l) (hlen : l.length ≤ 2147483647) :
    Calls Try.prog 55 #[makeV (.slice none 0 0) 0 false, .slice p l.length cap, .int .i64 n] w fun e w' => ∃ v', e = .returned v' ∧ SlE itemE w' v' (firstN n (treeL (ltR id) l).reverse) ∧ Chg (fun _ _ => False) w w' := by
  have HT := Lib.hid (fun w1 (c : Chg (fun _ _ => False) w w1) => tree_any (.slice none 0 0) id p cap l w1 (rank_nil w1) (hl.chg c) hlen)
  have hlen2 := treeL_len (ltR id) l
  clear hl
  unfold makeV
  go_enter Try.func55, Try.ntmps55
  go_wp2_with fail
  have hc1 : Chg (fun _ _ => False) w (w.alloc (.cells #[.slice none 0 0, .int .i64 0, .bool false] 55)) := (Chg.refl _ _).alloc _
  refine (HT.out _ hc1).mono ?_
  rintro e w2 ⟨v2, rfl, hv2, hc2⟩
  obtain ⟨q, cap2, rfl, hi, hcap⟩ := hv2.items
  go_wp2_with fail
  refine (Turned_any _ _ _ (hi.sl hcap) (by omega)).mono ?_
  rintro e w3 ⟨v3, rfl, how3, hc3⟩
  go_wp2_with fail
  refine (First_any _ _ n _ how3.sl (by simp; omega)).mono ?_
  rintro e w4 ⟨v4, rfl, hs4, hc4⟩
  go_wp2_with fail
  go_ret
  exact ⟨v4, rfl, hs4, ((hc1.trans hc2).trans hc3).trans hc4⟩

theorem firstN_len {α : Type} (n : Int) (l : List α) : (firstN n l).length ≤ l.length := by
  unfold firstN
  split
  · exact Nat.le_refl _
  · simp; omega

set_option maxRecDepth 100000 in
theorem mReverseMut_any (d : Int) (p : Option Addr) (cap : Nat) (l : List (Int × Int)) (n : Int) (w : World) (h1 : 2 ≤ d) (h2 : d ≤ 128) (hl : ItemsAt w p l) (hlen : l.length ≤ 2147483647) :
    Calls Try.prog 30 #[.int .i64 d, .slice p l.length cap, .int .i64 n] w fun e w' => e = .returned (.bool true) ∧ Chg (fun _ _ => False) w w' := by
  have hM := MReverseMut_any d p cap l n w h1 h2 hl hlen
  have hG := fun w1 (c : Chg (fun _ _ => False) w w1) => GReverse_nil p cap l n w1 (hl.chg c) hlen
  have e1 : growL l = treeL (ltR id) l := rfl
  rw [e1] at hM
  have hfl := firstN_len n (treeL (ltR id) l).reverse
  have hlen2 := treeL_len (ltR id) l
  rw [List.length_reverse] at hfl
  unfold makeV at hG
  have HM := Lib.hid hM
  have HG := Lib.hid hG
  clear hM hG hl e1
  go_enter Try.func30, Try.ntmps30
  go_wp2_with fail
  refine HM.out.mono ?_
  rintro e w1 ⟨v1, rfl, how1, hc1⟩
  go_wp2_with fail
  refine (HG.out _ hc1).mono ?_
  rintro e w3 ⟨v3, rfl, hs3, hc3⟩
  go_wp2_with fail
  refine (equal_item _ _ _ _ (how1.sl.chg hc3) hs3 (by omega)).mono ?_
  rintro e w4 ⟨rfl, hc4⟩
  go_wp2_with fail
  go_ret
  exact ⟨rfl, (hc1.trans hc3).trans hc4⟩
end Go.Proofs.Ytkgcjgedpefhjaa
