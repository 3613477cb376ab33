/- The law FnGSorted: the walk. -/
import Derived.Laws.MakeOwn
import Derived.Test.YtojplcbkiogcpaaEl
import Derived.Test.YtojplcbkiogcpaaY0
namespace Go.Proofs.Ytojplcbkiogcpaa
set_option linter.unusedSimpArgs false
set_option linter.unusedVariables false
open Go.RowKit

theorem pre_step {α : Type} {xs : List α} {ts : List (List α)} {i : Nat} {x : α} {t : List α} (hx : xs[i]? = some x) (ht : ts[i]? = some t) : pre (xs.take (i + 1)) (ts.take (i + 1)) = pre (xs.take i) (ts.take i) ++ (t ++ [x]) := by
  have hi := (List.getElem?_eq_some_iff.1 hx).1
  have hj := (List.getElem?_eq_some_iff.1 ht).1
  rw [List.take_add_one, List.take_add_one, hx, ht]
  have h : (xs.take i).length = (ts.take i).length := by simp; omega
  have := pre_app (xs.take i) [x] (ts.take i) [t] h
  simpa [pre] using this

theorem inter_end {α : Type} {xs : List α} {ts : List (List α)} {t : List α} (h : ts.length = xs.length + 1) (ht : ts[xs.length]? = some t) : inter xs ts = pre (xs.take xs.length) (ts.take xs.length) ++ t := by
  rw [inter_split xs.length xs ts t h ht, List.drop_of_length_le (Nat.le_refl _)]
  simp [post]

/-- A piece of the list ahead of the i-th child, and up to it. -/
theorem pre_len {α : Type} {xs : List α} {ts : List (List α)} (h : ts.length = xs.length + 1) {i : Nat} {t : List α} (ht : ts[i]? = some t) : (pre (xs.take i) (ts.take i)).length + t.length ≤ (inter xs ts).length := by
  rw [inter_split i xs ts t h ht]
  simp only [List.length_append]; omega

def ItSpec (ord : List Int) (h : Nat) : Prop := ∀ (k : Kc ord) (mn mx : Nat) (w : World) (F : Nat → Prop) (H : Nat → Option (NodeR (It ord))) (T : BT (It ord) h) (t : Nat) (pa : Addr) (mt : Bool) (v : Value) (acc : List (It ord)) (base : Nat),
  Fam (parM k) w F H → IsT H h T → Sh mn mx h T → 1 ≤ (its T).length → 1 ≤ mn → OwnE itemE w v acc base → base ≤ w.heap.size → (∀ b, F b → b < base) → t < base →
  w.cell? ⟨t, 0, none⟩ = some (.int .u64 k.iso) → w.cell? pa = some (.pointer (some ⟨rid T, 0, none⟩)) → acc.length + (toL h T).length ≤ 1000000000000 →
  Calls Try.prog 113 #[.pointer (some ⟨t, 0, none⟩), .pointer (some pa), v, .bool mt] w fun e w' => ∃ v', e = .returned v' ∧ OwnE itemE w' v' (acc ++ toL h T) base ∧ Chg (fun b _ => base ≤ b) w w'

theorem flat_same {ord : List Int} {k : Kc ord} (xs : List (It ord)) : flat (parM k) xs = flat itemE.par xs := rfl

set_option maxRecDepth 100000 in
set_option maxHeartbeats 1000000 in
theorem items_leaf (ord : List Int) : ItSpec ord 0 := by
  intro k mn mx w F H T t pa mt v acc base hF hT hs hit hmn how hbase hFb htb c0 hpa hlen
  obtain ⟨i0, hi0, hz0, hz1, hz2⟩ := info_parts infoItem
  obtain ⟨l0, hn0⟩ := hF.node hT.root
  have nn := hn0.c0
  have n3 := hn0.c3n rfl
  have n2 : w.cell? ⟨rid T, 2, none⟩ = some (.slice (some ⟨l0.ib, l0.io, none⟩) T.2.length l0.ic) := hn0.c2
  have hrow := hn0.row
  have hlen' : acc.length + T.2.length ≤ 1000000000000 := hlen
  have hit' : 1 ≤ T.2.length := hit
  have HOW := Lib.hid how
  have HROW := Lib.hid hrow
  clear how hrow
  go_enter Try.func113, Try.ntmps113
  go_wp2_with fail
  refine (isoLoad_any t (rid T) k _ _ _ hpa nn c0).mono ?_
  rintro e w1 ⟨rfl, m, hw1⟩
  have hc1 : Chg (fun _ _ => False) w w1 := by rw [hw1]; exact (Chg.refl _ _).drewN _
  replace n3 := hc1.cell (fun h => h) n3
  replace n2 := hc1.cell (fun h => h) n2
  clear hw1
  go_wp2_with fail
  refine (leaf_any _ none _ n3).mono ?_
  rintro e w' ⟨rfl, rfl⟩
  have HOW2 := Lib.hid (HOW.out.keep hc1)
  go_wp2_with (refine wpList_append_E itemE (by rfl) _ _ _ (by rfl) i0 _ 16 Try.underlying31 hi0 hz0 hz1 hz2 rfl _ (by rfl) _ base HOW2.out (Nat.le_trans hbase hc1.size) ⟨l0.ib, l0.io, none⟩ T.2.length _ (by rfl) T.2 rfl (by omega) ?_ ?_ ?_ ?_)
  · intro j u hj
    rw [add_none]
    exact hc1.cell (fun h => h) (HROW.out.cell hj)
  · unfold maxLen; omega
  · omega
  intro v' w' h1 h2 _
  go_wp2
  go_ret
  exact ⟨_, rfl, h1, (hc1.mono (fun _ _ _ h => h.elim)).trans h2⟩

set_option maxRecDepth 100000 in
set_option maxHeartbeats 1000000 in
theorem items_branch {ord : List Int} {h : Nat} (ih : ItSpec ord h) : ItSpec ord (h + 1) := by
  intro k mn mx w F H T t pa mt v acc base hF hT hs hit hmn how hbase hFb htb c0 hpa hlen
  obtain ⟨i0, hi0, hz0, hz1, hz2⟩ := info_parts infoItem
  obtain ⟨l0, hn0⟩ := hF.node hT.root
  have nn := hn0.c0
  have hk : (recOf (h + 1) T).kids = some (T.2.2.map fun c => some (rid c)) := rfl
  have n3 := hn0.c3s hk
  have hkl : T.2.2.length = T.2.1.length + 1 := hs.2.1
  have hml : (T.2.2.map (toL h)).length = T.2.1.length + 1 := by simpa using hkl
  have hlen' : acc.length + (inter T.2.1 (T.2.2.map (toL h))).length ≤ 1000000000000 := hlen
  have HLEN := Lib.hid hlen'
  have HOW := Lib.hid how
  have HKL := Lib.hid hkl
  have HML := Lib.hid hml
  have hitn : T.2.1.length ≤ (inter T.2.1 (T.2.2.map (toL h))).length := (its_sub hs).length_le
  have hitl : T.2.1.length ≤ 1000000000000 := by omega
  clear how hkl hlen' hml hlen hitn
  go_enter Try.func113, Try.ntmps113
  go_wp2_with fail
  refine (isoLoad_any t (rid T) k _ _ _ hpa nn c0).mono ?_
  rintro e w1 ⟨rfl, m, hw1⟩
  have hc1 : Chg (fun b _ => base ≤ b) w w1 := by rw [hw1]; exact (Chg.refl _ _).drewN _
  have hcf : Chg (fun _ _ => False) w w1 := by rw [hw1]; exact (Chg.refl _ _).drewN _
  replace n3 := hcf.cell (fun h => h) n3
  have HOW1 := Lib.hid (HOW.out.keep hcf)
  clear hw1 hcf
  go_wp2_with fail
  refine (leaf_any _ (some ⟨l0.cc, 0, none⟩) _ n3).mono ?_
  rintro e w' ⟨rfl, rfl⟩
  clear n3
  go_wp2_with fail
  go_loopw [2, 10] (fun v i wr => ∃ (j : Nat), j ≤ T.2.1.length ∧ i = .int .i64 j ∧ OwnE itemE wr v (acc ++ pre (T.2.1.take j) ((T.2.2.map (toL h)).take j)) base ∧ Chg (fun b _ => base ≤ b) w wr) (fun _ i _ => T.2.1.length - (intOf i).toNat)
  case atStart => exact ⟨0, Nat.zero_le _, rfl, by simpa [pre] using HOW1.out, hc1⟩
  case round =>
    obtain ⟨j, hj, rfl, how, hc⟩ := hrel
    have hsz := hc.size
    have hFr := hF.chg hc (fun b o hb h => by have := hFb b hb; omega)
    obtain ⟨l, hn, hblk⟩ := hFr.nodeB hT.root
    have hrb : ¬ base ≤ rid T := by have := hFb _ (hblk _ (.inl rfl)); omega
    have hcb : ¬ base ≤ l.cc := by have := hFb _ (hblk _ (.inr (.inr ⟨by rw [hk]; simp, .inl rfl⟩))); omega
    have n2 : wr.cell? ⟨rid T, 2, none⟩ = some (.slice (some ⟨l.ib, l.io, none⟩) T.2.1.length l.ic) := hn.c2
    have n3 := hn.c3s hk
    have nc := hn.cc hk
    rw [List.length_map] at nc
    obtain ⟨c, hcj⟩ : ∃ c, T.2.2[j]? = some c := ⟨_, List.getElem?_eq_getElem (by have := HKL.out; omega)⟩
    have kc : wr.cell? ⟨l.cb, l.co + j, none⟩ = some (.pointer (some ⟨rid c, 0, none⟩)) := hn.kidc hk (j := j) (o := some (rid c)) (by simp [hcj])
    have hcm : c ∈ T.2.2 := List.mem_of_getElem? hcj
    have hkc := (List.getElem?_eq_some_iff.1 hcj).1
    have htj : (T.2.2.map (toL h))[j]? = some (toL h c) := by simp [hcj]
    have hpl := pre_len HML.out htj
    have hpl2 := HLEN.out
    have i0' : (0 : Int) ≤ (j : Int) := by omega
    have k1 : (j : Int) < (T.2.2.length : Int) := by omega
    have hih := fun (w1 : World) (pa1 : Addr) (v1 : Value) (acc1 : List (It ord)) (hc1 : Chg (fun b _ => base ≤ b) w w1) (h1 : OwnE itemE w1 v1 acc1 base) (hp1 : w1.cell? pa1 = some (.pointer (some ⟨rid c, 0, none⟩))) (h2 : acc1.length + (toL h c).length ≤ 1000000000000) =>
      ih k mn mx w1 F H c t pa1 mt v1 acc1 base (hF.chg hc1 (fun b o hb h => by have := hFb b hb; omega)) (hT.kid hcm) (hs.2.2 c hcm).2 (Nat.le_trans hmn (hs.2.2 c hcm).1) hmn h1 (Nat.le_trans hbase hc1.size) hFb htb (hc1.cell (fun h => by have h2 : base ≤ t := h; omega) c0) hp1 h2
    have HIH := Lib.hid hih
    clear hih
    have hml1 : (acc ++ pre (T.2.1.take j) ((T.2.2.map (toL h)).take j)).length + (toL h c).length ≤ 1000000000000 := by
      rw [List.length_append]; omega
    have HL1 := Lib.hid hml1
    clear hml1
    by_cases hlt : j < T.2.1.length
    · obtain ⟨x, hx⟩ : ∃ x, T.2.1[j]? = some x := ⟨_, List.getElem?_eq_getElem hlt⟩
      have hstep := pre_step hx htj
      have ht : acc ++ pre (T.2.1.take (j + 1)) ((T.2.2.map (toL h)).take (j + 1)) = acc ++ pre (T.2.1.take j) ((T.2.2.map (toL h)).take j) ++ toL h c ++ [x] := by
        rw [hstep]; simp
      have HT := Lib.hid ht
      have HX := Lib.hid hx
      have HOW2 := Lib.hid how
      clear hx ht hstep how htj hcj hpl hpl2
      have i1 : (j : Int) < (T.2.1.length : Int) := by omega
      go_wp2_with fail
      refine (HIH.out _ _ _ _ hc HOW2.out kc HL1.out).mono ?_
      rintro e w2 ⟨v2, rfl, how2, hc2⟩
      have hc02 := hc.trans hc2
      obtain ⟨l2, hn2⟩ := (hF.chg hc02 (fun b o hb h => by have := hFb b hb; omega)).node hT.root
      have n2' : w2.cell? ⟨rid T, 2, none⟩ = some (.slice (some ⟨l2.ib, l2.io, none⟩) T.2.1.length l2.ic) := hn2.c2
      have iv := hn2.mval (j := j) HX.out
      have ik := hn2.mkey (j := j) HX.out
      have hca : Chg (fun _ _ => False) w2 (w2.alloc (.cells #[.int .i64 x.1, .int .i64 x.2] 26)) := (Chg.refl _ _).alloc _
      have HOW3 := Lib.hid (how2.keep hca)
      clear how2
      have hsz2 := hc02.size
      have hll : (acc ++ pre (T.2.1.take j) ((T.2.2.map (toL h)).take j) ++ toL h c).length ≤ 1000000000000 := by
        have := HL1.out
        rw [List.length_append]; exact this
      have HLL := Lib.hid hll
      clear hll n2 n3 nc kc
      go_wp2_with (refine wpList_append_E itemE (by rfl) _ _ _ (by rfl) i0 _ 16 Try.underlying31 hi0 hz0 hz1 hz2 rfl _ (by rfl) _ base HOW3.out (Nat.le_trans hbase (Nat.le_trans hsz2 hca.size)) ⟨w2.heap.size, 0, none⟩ 1 _ (by rfl) [x] rfl (by decide) ?_ ?_ ?_ ?_)
      · exact El.src1 itemE (c := #[.int .i64 x.1, .int .i64 x.2]) (ha_at _ _ (by simp)) _ rfl
      · have := HLL.out; unfold maxLen; omega
      · have := HLL.out; omega
      intro v' w' h1 h2 _
      have hc3 : Chg (fun b _ => base ≤ b) w w' := (hc02.trans (hca.mono (fun _ _ _ h => h.elim))).trans h2
      go_wp2
      go_roundw
      case rel => exact ⟨j + 1, by omega, by go_num, by rw [HT.out]; simpa only [List.append_assoc] using h1, hc3⟩
      case measure => simp [intOf]; omega
    · obtain rfl : j = T.2.1.length := by omega
      have hend := inter_end HML.out htj
      have ht : acc ++ toL (h + 1) T = acc ++ pre (T.2.1.take T.2.1.length) ((T.2.2.map (toL h)).take T.2.1.length) ++ toL h c := by
        show acc ++ inter T.2.1 (T.2.2.map (toL h)) = _
        rw [hend]; simp
      have HT := Lib.hid ht
      have HOW2 := Lib.hid how
      have hkk := HKL.out
      have kc' : wr.cell? ⟨l.cb, l.co + (T.2.2.length - 1), none⟩ = some (.pointer (some ⟨rid c, 0, none⟩)) := by
        have e : T.2.2.length - 1 = T.2.1.length := by omega
        rw [e]; exact kc
      have i4 : (1 : Int) ≤ (T.2.2.length : Int) := by omega
      have i0 : (0 : Int) ≤ (T.2.2.length : Int) - 1 := by omega
      have i1 : (T.2.2.length : Int) - 1 < (T.2.2.length : Int) := by omega
      have i2 : ((T.2.2.length : Int) - 1).toNat = T.2.2.length - 1 := by omega
      have i3 : IntKind.i64.wrap ((T.2.2.length : Int) - 1) = (T.2.2.length : Int) - 1 := IntWalk.i64_in _ (by omega)
      clear ht hend how htj hcj hpl hpl2 hkk hkc kc k1
      go_wp2_with fail
      refine wp_region_scr (fun w' => w'.cell? ⟨rid T, 3, none⟩ = some (.pointer (some ⟨l.cc, 0, none⟩)) ∧ w'.cell? ⟨l.cc, 0, none⟩ = some (.slice (some ⟨l.cb, l.co, none⟩) T.2.2.length l.ck)) (.soft 0 (.soft 1 (.soft 2 (.soft 3 (.soft 4 (.soft 5 (.soft 6 (.soft 7 (.soft 8 (.soft 9 (.soft 10 (.soft 11 (.soft 12 (.soft 13 (.soft 14 (.soft 15 (.soft 16 (.soft 17 (.hard 18 (.soft 19 .nil)))))))))))))))))))) (by kernel_rfl) (by kernel_rfl) (fun _ _ _ _ _ h => h) ⟨n3, nc⟩ ?_
      repeat
        first
        | (refine scr_soft (by rfl) ?_ ?_ ?_ ?_
           rotate_left
           · simp [Region.wanted, yielded]; done
           · intro w' hS
             try obtain ⟨a1, a2⟩ := hS
             go_simp
             try with_reducible rfl
           simp only [Act.put, List.setIfInBounds_toArray, List.set_cons_zero, List.set_cons_succ])
        | (refine scr_skip (by rfl) ?_ ?_
           · simp [Region.wanted, yielded]; done
           simp only [Act.put, List.setIfInBounds_toArray, List.set_cons_zero, List.set_cons_succ])
      refine scr_hard (by rfl) (by simp [Region.wanted, yielded]) (fun K hK => ?_)
      go_simp
      refine (HIH.out wr.drew _ _ _ hc.drew (HOW2.out.keep (Chg.refl _ _).drew) kc' HL1.out).mono ?_
      rintro e w2 ⟨v2, rfl, how2, hc2⟩
      refine hK _ _ ⟨hc2.cell hrb n3, hc2.cell hcb nc⟩ ?_
      clear hK K
      repeat
        first
        | (refine scr_soft (by rfl) ?_ ?_ ?_ ?_
           rotate_left
           · simp [Region.wanted, yielded]; done
           · intro w' hS
             try obtain ⟨a1, a2⟩ := hS
             go_simp
             try with_reducible rfl
           simp only [Act.put, List.setIfInBounds_toArray, List.set_cons_zero, List.set_cons_succ])
        | (refine scr_skip (by rfl) ?_ ?_
           · simp [Region.wanted, yielded]; done
           simp only [Act.put, List.setIfInBounds_toArray, List.set_cons_zero, List.set_cons_succ])
      refine scr_nil ?_
      go_wp2
      go_ret
      exact ⟨v2, rfl, by rw [HT.out]; simpa only [List.append_assoc] using how2, hc.drew.trans hc2⟩

theorem items_all (ord : List Int) : (h : Nat) → ItSpec ord h
  | 0 => items_leaf ord
  | h + 1 => items_branch (items_all ord h)
end Go.Proofs.Ytojplcbkiogcpaa

namespace Go.Proofs.Ytojplcbkiogcpaa
set_option linter.unusedSimpArgs false
set_option linter.unusedVariables false
open Go.RowKit

def OwnPostI (xs : List (Int × Int)) (w : World) (e : Ending) (w' : World) : Prop := ∃ v, e = .returned v ∧ OwnE itemE w' v xs w.heap.size ∧ Chg (fun _ _ => False) w w'

theorem MapIn.blk {ord : List Int} {k : Kc ord} {mn mx : Nat} {w : World} {F : Nat → Prop} {t : Nat} {l : List (It ord)} (h : MapIn k mn mx w F t l) : ∃ root, MapBlk k mn mx w t root l.length := by
  rcases h with ⟨rfl, _, hB⟩ | ⟨H, h, T, _, hB, rfl, _⟩
  · exact ⟨none, hB⟩
  · exact ⟨_, hB⟩

theorem MapIn.flt {ord : List Int} {k : Kc ord} {mn mx : Nat} {w : World} {F : Nat → Prop} {t : Nat} {l : List (It ord)} (hM : MapIn k mn mx w F t l) : ∀ b, F b → b < w.heap.size := by
  intro b hb
  rcases hM with ⟨_, h, _⟩ | ⟨H, h, T, hI, _⟩
  · exact absurd hb (h b)
  · exact hI.fam.lt hb

theorem Len_any {ord : List Int} {k : Kc ord} {mn mx : Nat} {w : World} {F : Nat → Prop} {t : Nat} {l : List (It ord)} (hM : MapIn k mn mx w F t l) :
    Calls Try.prog 112 #[.pointer (some ⟨t, 0, none⟩)] w fun e w' => e = .returned (.int .i64 l.length) ∧ w = w' := by
  obtain ⟨root, hB⟩ := hM.blk
  have c3 := hB.c3
  clear hB hM
  go_enter Try.func112, Try.ntmps112
  go_wp2
  go_ret
  exact ⟨rfl, rfl⟩

theorem made_items (n : Nat) (w : World) (hn : n ≤ 1000000000000) : (Instr.makeSlice 31 (.int .i64 0) (.int .i64 n)).run Try.prog w = .ok (.slice (some ⟨w.heap.size, 0, none⟩) 0 n) (w.alloc (.cells (madeCells #[.int .i64 0, .int .i64 0] (n * 2)) 26)) := by
  obtain ⟨i0, hi0, hz0, hz1, hz2⟩ := info_parts infoItem
  have h := run_make (P := Try.prog) w 31 26 i0 _ Try.underlying31 hi0 hz0 .i64 .i64 0 (n : Int) (by omega) (by omega) (by rw [hz2]; omega) (by omega)
  rw [h, hz1]
  simp [Value.cells]

theorem own_made (n : Nat) (w : World) : OwnE itemE (w.alloc (.cells (madeCells #[.int .i64 0, .int .i64 0] (n * 2)) 26)) (.slice (some ⟨w.heap.size, 0, none⟩) 0 n) [] w.heap.size := by
  refine .inr ⟨w.heap.size, 0, n, rfl, Nat.zero_le _, Nat.le_refl _, RowAt.of_block (ha_at _ _ rfl) _ _ (by simp [flat]) ?_ (by simp [flat])⟩
  simp [madeCells, itemE]

set_option maxRecDepth 100000 in
theorem items_any {ord : List Int} {k : Kc ord} {mn mx : Nat} {w : World} {F : Nat → Prop} {t : Nat} {l : List (It ord)} (mt : Bool) (hM : MapIn k mn mx w F t l) (hmn : 1 ≤ mn) (hlen : l.length ≤ 1000000000000) :
    Calls Try.prog 86 #[.pointer (some ⟨t, 0, none⟩), .bool mt] w (OwnPostI l w) := by
  have hF := hM.flt
  have htw : t < w.heap.size := hM.own MOwn.self
  have hL := Len_any hM
  obtain ⟨n, hn⟩ : ∃ n, l.length = n := ⟨_, rfl⟩
  rw [hn] at hL hlen
  have HN := Lib.hid hn
  clear hn
  have hmk := fun w' => made_items n w' hlen
  have hca : Chg (fun _ _ => False) w (w.alloc (.cells (madeCells #[.int .i64 0, .int .i64 0] (n * 2)) 26)) := (Chg.refl _ _).alloc _
  have hown := own_made n w
  have HOWN := Lib.hid hown
  clear hown
  rcases hM.chg hca with ⟨rfl, _, hB⟩ | ⟨H, h, T, hI, hB, rfl, h1⟩
  · have c2 : (w.alloc (.cells (madeCells #[.int .i64 0, .int .i64 0] (n * 2)) 26)).cell? ⟨t, 2, none⟩ = some (.pointer none) := hB.c2
    clear hB
    go_enter Try.func86, Try.ntmps86
    go_wp2_with fail
    refine (lock_any t mt _).mono ?_
    rintro e w' ⟨rfl, rfl⟩
    go_wp2_with fail
    refine hL.mono ?_
    rintro e w' ⟨rfl, rfl⟩
    go_wp2_with fail
    go_ret
    exact ⟨_, rfl, HOWN.out, hca⟩
  · have c2 : (w.alloc (.cells (madeCells #[.int .i64 0, .int .i64 0] (n * 2)) 26)).cell? ⟨t, 2, none⟩ = some (.pointer (some ⟨rid T, 0, none⟩)) := hB.c2
    have c0 := hB.at_.c0
    have hk := items_all ord h k mn mx _ F H T t ⟨t, 2, none⟩ mt _ [] w.heap.size hI.fam hI.isT hI.sh h1 hmn HOWN.out hca.size hF htw c0 c2 (by rw [HN.out]; simpa using hlen)
    have HK := Lib.hid hk
    clear hk hB
    go_enter Try.func86, Try.ntmps86
    go_wp2_with fail
    refine (lock_any t mt _).mono ?_
    rintro e w' ⟨rfl, rfl⟩
    go_wp2_with fail
    refine hL.mono ?_
    rintro e w' ⟨rfl, rfl⟩
    go_wp2_with fail
    refine HK.out.mono ?_
    rintro e w2 ⟨v2, rfl, how2, hc2⟩
    go_wp2_with fail
    go_ret
    exact ⟨v2, rfl, how2, hca.trans' hc2 (fun _ _ _ h => h) (fun b o hb h => by omega)⟩

theorem ItemsMut_any {ord : List Int} {k : Kc ord} {mn mx : Nat} {w : World} {F : Nat → Prop} {t : Nat} {l : List (It ord)} (hM : MapIn k mn mx w F t l) (hmn : 1 ≤ mn) (hlen : l.length ≤ 1000000000000) :
    Calls Try.prog 81 #[.pointer (some ⟨t, 0, none⟩)] w (OwnPostI l w) := by
  have HK := Lib.hid (items_any true hM hmn hlen)
  clear hM
  go_enter Try.func81, Try.ntmps81
  go_wp2_with fail
  refine HK.out.mono ?_
  rintro e w1 ⟨v1, rfl, h1, h2⟩
  go_wp2_with fail
  go_ret
  exact ⟨v1, rfl, h1, h2⟩

set_option maxRecDepth 100000 in
theorem GItemsMut_any {ord : List Int} (sv : Value) (d : Int) (nl : Bool) (p : Option Addr) (cap : Nat) (l : List (It ord)) (w : World) (hs : SlE intE w sv ord) (hol : ord.length ≤ 2147483647) (hd : FitD d) (hl : ItemsAt w p l) (hlen : l.length ≤ 2147483647) :
    Calls Try.prog 51 #[.agg #[sv, .int .i64 d, .bool nl], .slice p l.length cap] w (OwnPostI (growL l) w) := by
  have HG := Lib.hid (fun w1 (c : Chg (fun _ _ => False) w w1) => grow_any (ord := ord) sv d nl p cap l w1 hd (hs.chg c) hol (hl.chg c) hlen)
  have hdim := hd.dims.1
  unfold GrowPost at HG
  have hgl := growL_take_len l l.length
  rw [List.take_length] at hgl
  have HGL := Lib.hid hgl
  obtain ⟨sa, sc, rfl⟩ : ∃ a c, sv = .slice a ord.length c := hs.form
  clear hs hl hgl
  go_enter Try.func51, Try.ntmps51
  go_wp2_with fail
  refine (HG.out _ ((Chg.refl _ _).alloc _)).mono ?_
  rintro e w2 ⟨k, t, F, rfl, hM, hc2, _, _⟩
  go_wp2_with fail
  refine (ItemsMut_any hM hdim (by have := HGL.out; omega)).mono ?_
  rintro e w3 ⟨v, rfl, how, hc3⟩
  have hc0 := (((Chg.refl (fun _ _ => False) w).alloc _)).trans hc2
  go_wp2_with fail
  go_ret
  exact ⟨v, rfl, how.mono hc0.size, hc0.trans hc3⟩

set_option maxRecDepth 100000 in
theorem gItemsMut_any {ord : List Int} (sv : Value) (d : Int) (nl : Bool) (p : Option Addr) (cap : Nat) (l : List (It ord)) (w : World) (hs : SlE intE w sv ord) (hol : ord.length ≤ 2147483647) (hd : FitD d) (hl : ItemsAt w p l) (hlen : l.length ≤ 2147483647) :
    Calls Try.prog 21 #[.agg #[sv, .int .i64 d, .bool nl], .slice p l.length cap] w fun e w' => e = .returned (.bool true) ∧ Chg (fun _ _ => False) w w' := by
  have HM := Lib.hid (fun w1 (c : Chg (fun _ _ => False) w w1) => GItemsMut_any sv d nl p cap l w1 (hs.chg c) hol hd (hl.chg c) hlen)
  have HT := Lib.hid (fun w1 (c : Chg (fun _ _ => False) w w1) => tree_any sv (rkL ord) p cap l w1 (rank_list sv ord w1 (hs.chg c) hol) (hl.chg c) hlen)
  rw [growL_tree] at HM
  have hlen2 := treeL_len (ltR (rkL ord)) l
  unfold TreePost at HT
  generalize treeL (ltR (rkL ord)) l = L at HM HT hlen2
  obtain ⟨sa, sc, rfl⟩ : ∃ a c, sv = .slice a ord.length c := hs.form
  clear hs hl
  go_enter Try.func21, Try.ntmps21
  go_wp2_with fail
  refine (HM.out _ ((Chg.refl _ _).alloc _)).mono ?_
  rintro e w1 ⟨v1, rfl, how1, hc1⟩
  have hb0 : w1.heap[w.heap.size]? = some (.cells #[.slice sa ord.length sc, .int .i64 d, .bool nl] 24 (0, 0)) := by rw [hc1.block (by simp) (fun _ h => h)]; exact ha_at _ _ rfl
  have m0 := cell_of_block hb0 0
  simp only [List.getElem?_toArray, List.getElem?_cons_zero, List.getElem?_cons_succ] at m0
  have hc01 := ((Chg.refl (fun _ _ => False) w).alloc (.cells #[.slice sa ord.length sc, .int .i64 d, .bool nl] 24)).trans hc1
  clear hb0
  go_wp2_with fail
  refine (HT.out _ hc01).mono ?_
  rintro e w2 ⟨v2, rfl, hv2, hc2⟩
  obtain ⟨q, cap2, rfl, hi, hcap⟩ := hv2.items
  go_wp2_with fail
  refine (equal_item _ _ _ _ (how1.sl.chg hc2) (hi.sl hcap) (by omega)).mono ?_
  rintro e w3 ⟨rfl, hc3⟩
  go_wp2_with fail
  go_ret
  exact ⟨rfl, (hc01.trans hc2).trans hc3⟩

set_option maxRecDepth 100000 in
theorem law_ExactGItemsMut (sv : Value) (os : List Int) (d : Int) (nl : Bool) (p : Option Addr) (cap : Nat) (l : List (Int × Int)) (w : World) (hs : SlE intE w sv os) (hl : ItemsAt w p l) :
    Calls Try.prog 5 #[.agg #[sv, .int .i64 d, .bool nl], .slice p l.length cap] w fun e w' => e = .returned (.bool true) ∧ Chg (fun _ _ => False) w w' := by
  obtain ⟨sa, sc, rfl⟩ : ∃ a c, sv = .slice a os.length c := hs.form
  have hz := fun w1 => zzFits1_any sa os.length sc d nl w1
  by_cases hol : os.length ≤ 2147483647
  rotate_left
  · rw [decide_eq_false hol] at hz
    go_enter Try.func5, Try.ntmps5
    go_wp2_with fail
    refine name_calls (fun w1 => Chg (fun _ _ => False) w w1) (((Chg.refl _ _).alloc _)) ?_
    intro w1 hc1
    refine (hz w1).mono ?_
    rintro e w2 ⟨rfl, hc2⟩
    go_wp2_with fail
    go_ret
    exact ⟨rfl, hc1.trans hc2⟩
  rw [decide_eq_true hol] at hz
  by_cases hlen : l.length ≤ 2147483647
  rotate_left
  · have hlen' : 2147483647 < l.length := by omega
    go_enter Try.func5, Try.ntmps5
    go_wp2_with fail
    refine name_calls (fun w1 => Chg (fun _ _ => False) w w1) (((Chg.refl _ _).alloc _)) ?_
    intro w1 hc1
    refine (hz w1).mono ?_
    rintro e w2 ⟨rfl, hc2⟩
    go_wp2_with fail
    go_ret
    exact ⟨rfl, hc1.trans hc2⟩
  have hn : ¬ 2147483647 < l.length := by omega
  have HEX := Lib.hid (fun q w1 (hq : ItemsAt w1 q exL) => gItemsMut_any (ord := []) (.slice none 0 0) 2 false q 7 exL w1 ⟨none, 0, rfl, Nat.le_refl _, .inl rfl⟩ (by simp) (.inr ⟨by omega, by omega⟩) hq (by decide))
  have HG := Lib.hid (fun hd w1 (c : Chg (fun _ _ => False) w w1) => gItemsMut_any (ord := os) (.slice sa os.length sc) d nl p cap l w1 (hs.chg c) hol hd (hl.chg c) hlen)
  clear hs hl
  have q1 : exL.length = 7 := rfl
  go_enter Try.func5, Try.ntmps5
  go_wp2_with fail
  refine name_calls (fun w1 => Chg (fun _ _ => False) w w1 ∧ w1.heap[w.heap.size]? = some (.cells #[.slice sa os.length sc, .int .i64 d, .bool nl] 24 (0, 0))) ⟨((Chg.refl _ _).alloc _), ha_at _ _ rfl⟩ ?_
  rintro w1 ⟨hc1, hb0⟩
  have m0 := cell_of_block hb0 0
  have m1 := cell_of_block hb0 1
  have m2 := cell_of_block hb0 2
  simp only [List.getElem?_toArray, List.getElem?_cons_zero, List.getElem?_cons_succ] at m0 m1 m2
  clear hb0
  refine (hz w1).mono ?_
  rintro e w2 ⟨rfl, hc2⟩
  replace m0 := hc2.cell (fun h => h) m0
  replace m1 := hc2.cell (fun h => h) m1
  replace m2 := hc2.cell (fun h => h) m2
  go_wp2_with fail
  refine (exMake_any _).mono ?_
  rintro e w3 ⟨rfl, hc3⟩
  replace m0 := hc3.cell (fun h => h) m0
  replace m1 := hc3.cell (fun h => h) m1
  replace m2 := hc3.cell (fun h => h) m2
  go_wp2_with fail
  refine (exItems_any _).mono ?_
  rintro e w4 ⟨q, rfl, hq, hc4⟩
  replace m0 := hc4.cell (fun h => h) m0
  replace m1 := hc4.cell (fun h => h) m1
  replace m2 := hc4.cell (fun h => h) m2
  go_wp2_with fail
  refine (HEX.out q _ hq).mono ?_
  rintro e w5 ⟨rfl, hc5⟩
  replace m0 := hc5.cell (fun h => h) m0
  replace m1 := hc5.cell (fun h => h) m1
  replace m2 := hc5.cell (fun h => h) m2
  have hc04 := (((hc1.trans hc2).trans hc3).trans hc4).trans hc5
  by_cases hd : FitD d
  · go_wp2_with fail
    refine (fits_fit d _ hd).mono ?_
    rintro e w' ⟨rfl, rfl⟩
    go_wp2_with fail
    refine (HG.out hd _ hc04).mono ?_
    rintro e w5 ⟨rfl, hc5⟩
    go_wp2_with fail
    go_ret
    exact ⟨rfl, hc04.trans hc5⟩
  · go_wp2_with fail
    refine (fits_not d _ hd).mono ?_
    rintro e w' ⟨rfl, rfl⟩
    go_wp2_with fail
    go_ret
    exact ⟨rfl, hc04⟩
end Go.Proofs.Ytojplcbkiogcpaa

namespace Go.Proofs.Ytojplcbkiogcpaa
set_option linter.unusedSimpArgs false
set_option linter.unusedVariables false
open Go.RowKit

theorem Items_any {ord : List Int} {k : Kc ord} {mn mx : Nat} {w : World} {F : Nat → Prop} {t : Nat} {l : List (It ord)} (hM : MapIn k mn mx w F t l) (hmn : 1 ≤ mn) (hlen : l.length ≤ 1000000000000) :
    Calls Try.prog 54 #[.pointer (some ⟨t, 0, none⟩)] w (OwnPostI l w) := by
  have HK := Lib.hid (items_any false hM hmn hlen)
  clear hM
  go_enter Try.func54, Try.ntmps54
  go_wp2_with fail
  refine HK.out.mono ?_
  rintro e w1 ⟨v1, rfl, h1, h2⟩
  go_wp2_with fail
  go_ret
  exact ⟨v1, rfl, h1, h2⟩

set_option maxRecDepth 100000 in
theorem GItems_any {ord : List Int} (sv : Value) (d : Int) (nl : Bool) (p : Option Addr) (cap : Nat) (l : List (It ord)) (w : World) (hs : SlE intE w sv ord) (hol : ord.length ≤ 2147483647) (hd : FitD d) (hl : ItemsAt w p l) (hlen : l.length ≤ 2147483647) :
    Calls Try.prog 24 #[.agg #[sv, .int .i64 d, .bool nl], .slice p l.length cap] w (OwnPostI (growL l) w) := by
  have HG := Lib.hid (fun w1 (c : Chg (fun _ _ => False) w w1) => grow_any (ord := ord) sv d nl p cap l w1 hd (hs.chg c) hol (hl.chg c) hlen)
  have hdim := hd.dims.1
  unfold GrowPost at HG
  have hgl := growL_take_len l l.length
  rw [List.take_length] at hgl
  have HGL := Lib.hid hgl
  obtain ⟨sa, sc, rfl⟩ : ∃ a c, sv = .slice a ord.length c := hs.form
  clear hs hl hgl
  go_enter Try.func24, Try.ntmps24
  go_wp2_with fail
  refine (HG.out _ ((Chg.refl _ _).alloc _)).mono ?_
  rintro e w2 ⟨k, t, F, rfl, hM, hc2, _, _⟩
  go_wp2_with fail
  refine (Items_any hM hdim (by have := HGL.out; omega)).mono ?_
  rintro e w3 ⟨v, rfl, how, hc3⟩
  have hc0 := (((Chg.refl (fun _ _ => False) w).alloc _)).trans hc2
  go_wp2_with fail
  go_ret
  exact ⟨v, rfl, how.mono hc0.size, hc0.trans hc3⟩


theorem lawFits_yes (a : Option Addr) (m c : Nat) (d : Int) (nl : Bool) (w : World) (hd : FitD d) :
    Calls Try.prog 22 #[.agg #[.slice a m c, .int .i64 d, .bool nl]] w fun e w' => e = .returned (.bool true) ∧ Chg (fun _ _ => False) w w' := by
  go_enter Try.func22, Try.ntmps22
  go_wp2_with fail
  refine (fits_fit d _ hd).mono ?_
  rintro e w' ⟨rfl, rfl⟩
  go_wp2_with fail
  go_ret
  exact ⟨rfl, (Chg.refl _ _).alloc _⟩

theorem lawFits_no (a : Option Addr) (m c : Nat) (d : Int) (nl : Bool) (w : World) (hd : ¬ FitD d) :
    Calls Try.prog 22 #[.agg #[.slice a m c, .int .i64 d, .bool nl]] w fun e w' => e = .returned (.bool false) ∧ Chg (fun _ _ => False) w w' := by
  go_enter Try.func22, Try.ntmps22
  go_wp2_with fail
  refine (fits_not d _ hd).mono ?_
  rintro e w' ⟨rfl, rfl⟩
  go_wp2_with fail
  go_ret
  exact ⟨rfl, (Chg.refl _ _).alloc _⟩

def exL3 : List (Int × Int) := [(5, 1), (3, 2), (9, 3)]
theorem grow3 : (growL (ord := []) exL3).length = 3 := by decide

theorem ItemsAt.take {w : World} {p : Option Addr} {l : List (Int × Int)} (h : ItemsAt w p l) (n : Nat) : ItemsAt w p (l.take n) := by
  rcases h with rfl | ⟨b, o, rfl, hc⟩
  · exact .inl (by simp)
  · refine .inr ⟨b, o, rfl, fun i x hx => hc i x ?_⟩
    rw [List.getElem?_take] at hx
    split at hx
    · exact hx
    · cases hx

theorem alive_any (w : World) : Calls Try.prog 23 #[] w fun e w' => e = .returned (.bool true) ∧ Chg (fun _ _ => False) w w' := by
  have HI := Lib.hid (fun q w1 (hq : ItemsAt w1 q exL3) => GItems_any (ord := []) (.slice none 0 0) 2 false q 7 exL3 w1 ⟨none, 0, rfl, Nat.le_refl _, .inl rfl⟩ (by simp) (.inr ⟨by omega, by omega⟩) hq (by decide))
  have q1 : exL.length = 7 := rfl
  have q3 : exL3.length = 3 := rfl
  unfold OwnPostI at HI
  rw [q3] at HI
  go_enter Try.func23, Try.ntmps23
  go_wp2_with fail
  refine (exMake_any _).mono ?_
  rintro e w1 ⟨rfl, hc1⟩
  go_wp2_with fail
  refine (exItems_any _).mono ?_
  rintro e w2 ⟨q, rfl, hq, hc2⟩
  go_wp2_with fail
  refine (HI.out q _ (hq.take 3)).mono ?_
  rintro e w3 ⟨v, rfl, how, hc3⟩
  obtain ⟨a, c, rfl⟩ := how.sl.form
  have hl3 : (growL (ord := []) exL3).length = 3 := grow3
  rw [hl3]
  clear how
  go_wp2_with fail
  go_ret
  exact ⟨rfl, (hc1.trans hc2).trans hc3⟩
end Go.Proofs.Ytojplcbkiogcpaa

namespace Go.Proofs.Ytojplcbkiogcpaa
set_option linter.unusedSimpArgs false
set_option linter.unusedVariables false
open Go.RowKit

theorem snoc_ind {α : Type} {p : List α → Prop} (h0 : p []) (h1 : ∀ l x, p l → p (l ++ [x])) (l : List α) : p l := by
  have h : ∀ r : List α, p r.reverse := by
    intro r
    induction r with
    | nil => exact h0
    | cons a r ih => rw [List.reverse_cons]; exact h1 _ _ ih
  have := h l.reverse
  rwa [List.reverse_reverse] at this

def eqv {α : Type} (lt : α → α → Bool) (x y : α) : Bool := !lt x y && !lt y x

theorem treeL_snoc (lt : Int × Int → Int × Int → Bool) (l : List (Int × Int)) (x : Int × Int) : treeL lt (l ++ [x]) = insL lt x (treeL lt l) := by simp [treeL]

theorem treeL_srt {lt : Int × Int → Int × Int → Bool} (s : Swo lt) (l : List (Int × Int)) : Srt lt (treeL lt l) := by
  refine snoc_ind (p := fun l => Srt lt (treeL lt l)) ?_ ?_ l
  · simp [treeL, Srt]
  · intro l x ih
    rw [treeL_snoc]; exact insL_srt s x ih

theorem insL_has {α : Type} {lt : α → α → Bool} (x : α) : ∀ (l : List α), x ∈ insL lt x l
  | [] => by simp [insL]
  | y :: l => by
    rw [insL]
    split
    · exact List.mem_cons_of_mem _ (insL_has x l)
    · split <;> simp

/-- What stands in the list with x put in: x itself, or an elder item that is not x's equal. -/
theorem insL_else {α : Type} {lt : α → α → Bool} (s : Swo lt) {x y : α} : ∀ {l : List α}, Srt lt l → y ∈ insL lt x l → y = x ∨ (y ∈ l ∧ eqv lt y x = false)
  | [], _, h => by simp [insL] at h; exact .inl h
  | z :: l, hs, h => by
    obtain ⟨h1, h2⟩ := List.pairwise_cons.1 hs
    rw [insL] at h
    by_cases hz : lt z x = true
    · rw [if_pos hz] at h
      rcases List.mem_cons.1 h with rfl | h
      · exact .inr ⟨List.mem_cons_self, by simp [eqv, hz]⟩
      · rcases insL_else s h2 h with h | ⟨h, h3⟩
        · exact .inl h
        · exact .inr ⟨List.mem_cons_of_mem _ h, h3⟩
    · rw [if_neg hz] at h
      have hz' : lt z x = false := by simpa using hz
      by_cases hx : lt x z = true
      · rw [if_pos hx] at h
        rcases List.mem_cons.1 h with h | h
        · exact .inl h
        · refine .inr ⟨h, ?_⟩
          rcases List.mem_cons.1 h with rfl | h
          · simp [eqv, hx]
          · have h3 := h1 y h
            have h4 : lt x y = true := by
              cases h5 : lt x y with
              | true => rfl
              | false =>
                have h6 := s.ntrans x y z h5 (s.asymm _ _ h3)
                rw [hx] at h6; cases h6
            simp [eqv, h4]
      · rw [if_neg hx] at h
        have hx' : lt x z = false := by simpa using hx
        rcases List.mem_cons.1 h with h | h
        · exact .inl h
        · refine .inr ⟨List.mem_cons_of_mem _ h, ?_⟩
          have h3 := h1 y h
          have h4 : lt x y = true := by
            cases h5 : lt x y with
            | true => rfl
            | false =>
              have h6 := s.ntrans z x y hz' h5
              rw [h3] at h6; cases h6
          simp [eqv, h4]

theorem treeL_last {lt : Int × Int → Int × Int → Bool} (s : Swo lt) (l : List (Int × Int)) : ∀ x ∈ treeL lt l, (l.filter (eqv lt x)).getLast? = some x := by
  refine snoc_ind (p := fun l => ∀ x ∈ treeL lt l, (l.filter (eqv lt x)).getLast? = some x) ?_ ?_ l
  · intro x h; simp [treeL] at h
  · intro l y ih x h
    rw [treeL_snoc] at h
    rcases insL_else s (treeL_srt s l) h with rfl | ⟨h, h2⟩
    · have e : eqv lt x x = true := by simp [eqv, s.irrefl]
      simp [List.filter_append, e]
    · rw [List.filter_append]
      simp [h2, ih x h]

theorem eqv_trans {α : Type} {lt : α → α → Bool} (s : Swo lt) {a b c : α} (h1 : eqv lt a b = true) (h2 : eqv lt b c = true) : eqv lt a c = true := by
  simp only [eqv, Bool.and_eq_true, Bool.not_eq_true'] at h1 h2 ⊢
  exact ⟨s.ntrans _ _ _ h1.1 h2.1, s.ntrans _ _ _ h2.2 h1.2⟩

theorem insL_keep {α : Type} {lt : α → α → Bool} {x y : α} : ∀ {l : List α}, y ∈ l → y ∈ insL lt x l ∨ eqv lt x y = true
  | z :: l, h => by
    rw [insL]
    by_cases hz : lt z x = true
    · rw [if_pos hz]
      rcases List.mem_cons.1 h with rfl | h
      · exact .inl List.mem_cons_self
      · exact (insL_keep (x := x) h).imp (List.mem_cons_of_mem _) id
    · rw [if_neg hz]
      by_cases hx : lt x z = true
      · rw [if_pos hx]; exact .inl (List.mem_cons_of_mem _ h)
      · rw [if_neg hx]
        rcases List.mem_cons.1 h with rfl | h
        · exact .inr (by simp [eqv, hz, hx])
        · exact .inl (List.mem_cons_of_mem _ h)

theorem treeL_all {lt : Int × Int → Int × Int → Bool} (s : Swo lt) (l : List (Int × Int)) : ∀ y ∈ l, ∃ x ∈ treeL lt l, eqv lt x y = true := by
  refine snoc_ind (p := fun l => ∀ y ∈ l, ∃ x ∈ treeL lt l, eqv lt x y = true) ?_ ?_ l
  · intro y h; cases h
  · intro l z ih y h
    rw [treeL_snoc]
    rcases List.mem_append.1 h with h | h
    · obtain ⟨x, hx, he⟩ := ih y h
      rcases insL_keep (lt := lt) (x := z) hx with h2 | h2
      · exact ⟨x, h2, he⟩
      · exact ⟨z, insL_has z _, eqv_trans s h2 he⟩
    · obtain rfl := List.mem_singleton.1 h
      exact ⟨y, insL_has y _, by simp [eqv, s.irrefl]⟩
end Go.Proofs.Ytojplcbkiogcpaa

namespace Go.Proofs.Ytojplcbkiogcpaa
set_option linter.unusedSimpArgs false
set_option linter.unusedVariables false
open Go.RowKit

set_option maxRecDepth 100000 in
theorem sorted1_any {ord : List Int} (sv : Value) (mb yb : Nat) (x y : It ord) (w : World) (hs : SlE intE w sv ord) (hol : ord.length ≤ 2147483647) (hm : w.cell? ⟨mb, 0, none⟩ = some sv) (h0 : w.cell? ⟨yb, 0, none⟩ = some (.int .i64 y.1)) (h1 : w.cell? ⟨yb, 1, none⟩ = some (.int .i64 y.2)) :
    Calls Try.prog 27 #[.agg #[.int .i64 x.1, .int .i64 x.2], .pointer (some ⟨mb, 0, none⟩), .pointer (some ⟨yb, 0, none⟩)] w fun e w' => e = .returned (.bool (eqv (ltR (rkL ord)) x y)) ∧ Chg (fun _ _ => False) w w' := by
  have hb1 := fun w1 (c : Chg (fun _ _ => False) w w1) => before_any sv (rkL ord) x y w1 (rank_list sv ord w1 (hs.chg c) hol)
  have hb2 := fun w1 (c : Chg (fun _ _ => False) w w1) => before_any sv (rkL ord) y x w1 (rank_list sv ord w1 (hs.chg c) hol)
  obtain ⟨sa, sc, rfl⟩ : ∃ a c, sv = .slice a ord.length c := hs.form
  unfold itemV at hb1 hb2
  unfold eqv
  generalize ltR (rkL ord) x y = a at hb1 ⊢
  generalize ltR (rkL ord) y x = b at hb2 ⊢
  have HB1 := Lib.hid hb1
  have HB2 := Lib.hid hb2
  have hmb : mb < w.heap.size := World.block_lt_of_cell? w _ hm
  have hyb : yb < w.heap.size := World.block_lt_of_cell? w _ h0
  clear hb1 hb2 hs
  go_enter Try.func27, Try.ntmps27
  go_wp2_with fail
  refine name_calls (fun w1 => Chg (fun _ _ => False) w w1 ∧ w1.heap[w.heap.size]? = some (.cells #[.int .i64 x.1, .int .i64 x.2] 26 (0, 0))) ⟨(Chg.refl _ _).alloc _, ha_at _ _ rfl⟩ ?_
  rintro w1 ⟨hc1, hbx⟩
  refine (HB1.out _ hc1).mono ?_
  rintro e w2 ⟨rfl, hc2⟩
  have hc02 := hc1.trans hc2
  replace hm := hc02.cell (fun h => h) hm
  replace h0 := hc02.cell (fun h => h) h0
  replace h1 := hc02.cell (fun h => h) h1
  have x0 := hc2.cell (fun h => h) (cell_of_block hbx 0)
  have x1 := hc2.cell (fun h => h) (cell_of_block hbx 1)
  clear hbx
  cases a
  · go_wp2_with fail
    refine (HB2.out _ hc02).mono ?_
    rintro e w3 ⟨rfl, hc3⟩
    cases b
    all_goals
      go_wp2_with fail
      go_ret
      exact ⟨rfl, hc02.trans hc3⟩
  · go_wp2_with fail
    go_ret
    exact ⟨rfl, hc02⟩
end Go.Proofs.Ytojplcbkiogcpaa

namespace Go.Proofs.Ytojplcbkiogcpaa
set_option linter.unusedSimpArgs false
set_option linter.unusedVariables false
open Go.RowKit

set_option maxRecDepth 100000 in
theorem index_any {ord : List Int} (sv v : Value) (mb yb : Nat) (xs : List (It ord)) (y : It ord) (w : World) (hs : SlE intE w sv ord) (hol : ord.length ≤ 2147483647) (hv : SlE itemE w v xs) (hxl : xs.length ≤ 2147483648) (hm : w.cell? ⟨mb, 0, none⟩ = some sv) (h0 : w.cell? ⟨yb, 0, none⟩ = some (.int .i64 y.1)) (h1 : w.cell? ⟨yb, 1, none⟩ = some (.int .i64 y.2)) (hex : ∃ x ∈ xs, eqv (ltR (rkL ord)) x y = true) :
    Calls Try.prog 56 #[v, .func (.func 27) #[] #[.pointer (some ⟨mb, 0, none⟩), .pointer (some ⟨yb, 0, none⟩)]] w fun e w' => (∃ j : Nat, e = .returned (.int .i64 j)) ∧ Chg (fun _ _ => False) w w' := by
  obtain ⟨a, cap, rfl⟩ := hv.form
  have HF := Lib.hid (fun x w1 (c : Chg (fun _ _ => False) w w1) => sorted1_any sv mb yb x y w1 (hs.chg c) hol (c.cell (fun h => h) hm) (c.cell (fun h => h) h0) (c.cell (fun h => h) h1))
  have HV := Lib.hid hv
  clear hs hv hm h0 h1
  go_enter Try.func56, Try.ntmps56
  go_wp2_with fail
  go_loopw [8] (fun i wr => ∃ (j : Nat), j ≤ xs.length ∧ i = .int .i64 j ∧ Chg (fun _ _ => False) w wr ∧ ∀ q x, q < j → xs[q]? = some x → eqv (ltR (rkL ord)) x y = false) (fun i _ => xs.length - (intOf i).toNat)
  case atStart => exact ⟨0, Nat.zero_le _, rfl, Chg.refl _ _, fun q x h => by omega⟩
  case round =>
    obtain ⟨j, hj, rfl, hc, hq⟩ := hrel
    by_cases hlt : j < xs.length
    · obtain ⟨x, hx⟩ : ∃ x, xs[j]? = some x := ⟨_, List.getElem?_eq_getElem hlt⟩
      obtain ⟨b, o, rfl, g0, g1⟩ := (HV.out.chg hc).item hx
      have HX := Lib.hid hx
      have HQ := Lib.hid hq
      clear hx hq
      have i0 : (0 : Int) ≤ (j : Int) := by omega
      have i1 : (j : Int) < (xs.length : Int) := by omega
      have hf := HF.out x _ hc
      generalize hE : eqv (ltR (rkL ord)) x y = q at hf
      have HE := Lib.hid hE
      have HF1 := Lib.hid hf
      clear hE hf
      go_wp2_with fail
      refine HF1.out.mono ?_
      rintro e w2 ⟨rfl, hc2⟩
      cases q
      · go_wp2_with fail
        go_roundw
        case rel =>
          refine ⟨j + 1, by omega, by go_num, hc.trans hc2, fun q z h1 h2 => ?_⟩
          rcases Nat.lt_or_ge q j with h | h
          · exact HQ.out q z h h2
          · obtain rfl : q = j := by omega
            rw [HX.out] at h2
            obtain rfl := Option.some.inj h2
            exact HE.out
        case measure => simp [intOf]; omega
      · go_wp2_with fail
        go_ret
        exact ⟨⟨j, rfl⟩, hc.trans hc2⟩
    · exfalso
      obtain ⟨x, hx, he⟩ := hex
      obtain ⟨q, hq2⟩ := List.getElem?_of_mem hx
      have := hq q x (by have := (List.getElem?_eq_some_iff.1 hq2).1; omega) hq2
      rw [he] at this; cases this
end Go.Proofs.Ytojplcbkiogcpaa

namespace Go.Proofs.Ytojplcbkiogcpaa
set_option linter.unusedSimpArgs false
set_option linter.unusedVariables false
open Go.RowKit

theorem contains_any {ord : List Int} (sv v : Value) (mb yb : Nat) (xs : List (It ord)) (y : It ord) (w : World) (hs : SlE intE w sv ord) (hol : ord.length ≤ 2147483647) (hv : SlE itemE w v xs) (hxl : xs.length ≤ 2147483648) (hm : w.cell? ⟨mb, 0, none⟩ = some sv) (h0 : w.cell? ⟨yb, 0, none⟩ = some (.int .i64 y.1)) (h1 : w.cell? ⟨yb, 1, none⟩ = some (.int .i64 y.2)) (hex : ∃ x ∈ xs, eqv (ltR (rkL ord)) x y = true) :
    Calls Try.prog 26 #[v, .func (.func 27) #[] #[.pointer (some ⟨mb, 0, none⟩), .pointer (some ⟨yb, 0, none⟩)]] w fun e w' => e = .returned (.bool true) ∧ Chg (fun _ _ => False) w w' := by
  obtain ⟨a, cap, rfl⟩ := hv.form
  have HI := Lib.hid (index_any sv _ mb yb xs y w hs hol hv hxl hm h0 h1 hex)
  clear hs hv hm h0 h1
  go_enter Try.func26, Try.ntmps26
  go_wp2_with fail
  refine HI.out.mono ?_
  rintro e w2 ⟨⟨j, rfl⟩, hc⟩
  have j0 : (0 : Int) ≤ (j : Int) := by omega
  go_wp2_with fail
  go_ret
  exact ⟨rfl, hc⟩
end Go.Proofs.Ytojplcbkiogcpaa

namespace Go.Proofs.Ytojplcbkiogcpaa
set_option linter.unusedSimpArgs false
set_option linter.unusedVariables false
open Go.RowKit

set_option maxRecDepth 100000 in
set_option maxHeartbeats 2000000 in
theorem law_GSorted (sv : Value) (os : List Int) (d : Int) (nl : Bool) (p : Option Addr) (cap : Nat) (l : List (Int × Int)) (w : World) (hs : SlE intE w sv os) (hl : ItemsAt w p l) (hcapl : l.length ≤ cap) :
    Calls Try.prog 6 #[.agg #[sv, .int .i64 d, .bool nl], .slice p l.length cap] w fun e w' => e = .returned (.bool true) ∧ Chg (fun _ _ => False) w w' := by
  have hmf : ∀ (fn : Fn) (first cap : Array Value) (w : World), (Instr.makeFunc fn first cap).run Try.prog w = .ok (.func fn first cap) w := fun _ _ _ _ => rfl
  obtain ⟨sa, sc, rfl⟩ : ∃ a c, sv = .slice a os.length c := hs.form
  have hz := fun w1 => zzFits1_any sa os.length sc d nl w1
  by_cases hol : os.length ≤ 2147483647
  rotate_left
  · rw [decide_eq_false hol] at hz
    go_enter Try.func6, Try.ntmps6
    go_wp2_with fail
    refine name_calls (fun w1 => Chg (fun _ _ => False) w w1) (((Chg.refl _ _).alloc _)) ?_
    intro w1 hc1
    refine (hz w1).mono ?_
    rintro e w2 ⟨rfl, hc2⟩
    go_wp2_with fail
    go_ret
    exact ⟨rfl, hc1.trans hc2⟩
  rw [decide_eq_true hol] at hz
  by_cases hlen : l.length ≤ 2147483647
  rotate_left
  · have hlen' : 2147483647 < l.length := by omega
    go_enter Try.func6, Try.ntmps6
    go_wp2_with fail
    refine name_calls (fun w1 => Chg (fun _ _ => False) w w1) (((Chg.refl _ _).alloc _)) ?_
    intro w1 hc1
    refine (hz w1).mono ?_
    rintro e w2 ⟨rfl, hc2⟩
    go_wp2_with fail
    go_ret
    exact ⟨rfl, hc1.trans hc2⟩
  have hn : ¬ 2147483647 < l.length := by omega
  have HG := Lib.hid (fun hd w1 (c : Chg (fun _ _ => False) w w1) => GItems_any (ord := os) (.slice sa os.length sc) d nl p cap l w1 (hs.chg c) hol hd (hl.chg c) hlen)
  have HR := Lib.hid (fun w1 (c : Chg (fun _ _ => False) w w1) => rank_list (.slice sa os.length sc) os w1 (hs.chg c) hol)
  have HS := Lib.hid hs
  have HL := Lib.hid (hl.sl hcapl)
  clear hs hl
  go_enter Try.func6, Try.ntmps6
  go_wp2_with fail
  refine name_calls (fun w1 => Chg (fun _ _ => False) w w1 ∧ w1.heap[w.heap.size]? = some (.cells #[.slice sa os.length sc, .int .i64 d, .bool nl] 24 (0, 0))) ⟨((Chg.refl _ _).alloc _), ha_at _ _ rfl⟩ ?_
  rintro w1 ⟨hc1, hb0⟩
  have m0 := cell_of_block hb0 0
  have m1 := cell_of_block hb0 1
  have m2 := cell_of_block hb0 2
  simp only [List.getElem?_toArray, List.getElem?_cons_zero, List.getElem?_cons_succ] at m0 m1 m2
  have hmk := heap_lt hb0
  clear hb0
  refine (hz w1).mono ?_
  rintro e w2 ⟨rfl, hc2⟩
  replace m0 := hc2.cell (fun h => h) m0
  replace m1 := hc2.cell (fun h => h) m1
  replace m2 := hc2.cell (fun h => h) m2
  go_wp2_with fail
  by_cases hd : FitD d
  rotate_left
  · refine (lawFits_no sa _ sc d nl _ hd).mono ?_
    rintro e w3 ⟨rfl, hc3⟩
    go_wp2_with fail
    refine (alive_any _).mono ?_
    rintro e w4 ⟨rfl, hc4⟩
    go_wp2_with fail
    go_ret
    exact ⟨rfl, ((hc1.trans hc2).trans hc3).trans hc4⟩
  refine (lawFits_yes sa _ sc d nl _ hd).mono ?_
  rintro e w3 ⟨rfl, hc3⟩
  replace m0 := hc3.cell (fun h => h) m0
  replace m1 := hc3.cell (fun h => h) m1
  replace m2 := hc3.cell (fun h => h) m2
  have hc03 := (hc1.trans hc2).trans hc3
  go_wp2_with fail
  refine (HG.out hd _ hc03).mono ?_
  rintro e w4 ⟨v, rfl, how, hc4⟩
  replace m0 := hc4.cell (fun h => h) m0
  replace m1 := hc4.cell (fun h => h) m1
  replace m2 := hc4.cell (fun h => h) m2
  have hsrt := treeL_srt (show Swo (ltR (rkL os)) from swoM (ord := os)) l
  have hlast := treeL_last (show Swo (ltR (rkL os)) from swoM (ord := os)) l
  have hallc := treeL_all (show Swo (ltR (rkL os)) from swoM (ord := os)) l
  have hgl := treeL_len (ltR (rkL os)) l
  rw [growL_tree] at how
  generalize treeL (ltR (rkL os)) l = L at how hsrt hlast hallc hgl
  have HW := Lib.hid how.sl
  obtain ⟨a, c, rfl⟩ := how.sl.form
  have hc04 := hc03.trans hc4
  have HSRT := Lib.hid hsrt
  have HLAST := Lib.hid hlast
  have HALLC := Lib.hid hallc
  clear how hsrt hlast hallc HG
  go_wp2_with fail
  go_loopw [30] (fun i wr => ∃ (j : Nat), j ≤ L.length ∧ i = .int .i64 j ∧ Chg (fun _ _ => False) w4 wr) (fun i _ => L.length - (intOf i).toNat)
  case atStart => exact ⟨0, Nat.zero_le _, rfl, Chg.refl _ _⟩
  case round =>
    obtain ⟨j, hj, rfl, hc⟩ := hrel
    by_cases hlt : j < L.length
    rotate_left
    · obtain rfl : j = L.length := by omega
      have hnlt : ¬ ((L.length : Nat) : Int) < (L.length : Int) := by omega
      have hL31 : L.length ≤ 2147483648 := by omega
      have HML := Lib.hid hL31
      clear hL31
      go_wp2_with fail
      go_loopw [85] (fun i w' => ∃ (q : Nat), q ≤ l.length ∧ i = .int .i64 q ∧ Chg (fun _ _ => False) w4 w') (fun i _ => l.length - (intOf i).toNat)
      case atStart => exact ⟨0, Nat.zero_le _, rfl, hc⟩
      case round =>
        obtain ⟨q, hq, rfl, hcq⟩ := hrel
        have q0 : (0 : Int) ≤ (q : Int) := by omega
        have hcw := hc04.trans hcq
        by_cases hql : q < l.length
        · obtain ⟨y, hy⟩ : ∃ y, l[q]? = some y := ⟨_, List.getElem?_eq_getElem hql⟩
          obtain ⟨b1, o1, rfl, g0, g1⟩ := (HL.out.chg hcw).item hy
          have q1 : (q : Int) < (l.length : Int) := by omega
          have hex := HALLC.out y (List.mem_of_getElem? hy)
          have HEX := Lib.hid hex
          have mm0 := hcq.cell (fun h => h) m0
          clear hy hex
          go_wp2_with fail
          refine name_calls (fun w9 => Chg (fun _ _ => False) wr w9 ∧ w9.heap[wr.heap.size]? = some (.cells #[.int .i64 y.1, .int .i64 y.2] 26 (0, 0))) ⟨(Chg.refl _ _).alloc _, ha_at _ _ rfl⟩ ?_
          rintro w9 ⟨hc9, hby⟩
          refine (contains_any (.slice sa os.length sc) _ w.heap.size wr.heap.size L y w9 (HS.out.chg (hcw.trans hc9)) hol ((HW.out.chg hcq).chg hc9) HML.out (hc9.cell (fun h => h) mm0) (cell_of_block hby 0) (cell_of_block hby 1) HEX.out).mono ?_
          rintro e w10 ⟨rfl, hc10⟩
          go_wp2_with fail
          go_roundw
          case rel => exact ⟨q + 1, by omega, by go_num, hcq.trans (hc9.trans hc10)⟩
          case measure => simp [intOf]; omega
        · obtain rfl : q = l.length := by omega
          have hnl2 : ¬ ((l.length : Nat) : Int) < (l.length : Int) := by omega
          go_wp2_with fail
          refine (alive_any _).mono ?_
          rintro e w10 ⟨rfl, hc10⟩
          go_wp2_with fail
          go_ret
          exact ⟨rfl, hcw.trans hc10⟩
    obtain ⟨x, hx⟩ : ∃ x, L[j]? = some x := ⟨_, List.getElem?_eq_getElem hlt⟩
    obtain ⟨b, o, rfl, g0, g1⟩ := (HW.out.chg hc).item hx
    have HX := Lib.hid hx
    have mm0 := hc.cell (fun h => h) m0
    have i0 : (0 : Int) ≤ (j : Int) := by omega
    have i1 : (j : Int) < (L.length : Int) := by omega
    clear hx
    go_wp2_with fail
    refine name_world (fun w5 => Chg (fun _ _ => False) wr w5 ∧ w5.heap[wr.heap.size]? = some (.cells #[.int .i64 x.1, .int .i64 x.2] 26 (0, 0))) ⟨?_, ?_⟩ ?_
    · repeat (first | refine Chg.alloc ?_ _ | exact Chg.refl _ _)
    · exact ha_at _ _ rfl
    rintro w5 ⟨hc5, hbx⟩
    have x0 := cell_of_block hbx 0
    have x1 := cell_of_block hbx 1
    simp only [List.getElem?_toArray, List.getElem?_cons_zero, List.getElem?_cons_succ] at x0 x1
    have HBX := Lib.hid hbx
    have n0 := hc5.cell (fun h => h) mm0
    clear hbx g0 g1
    have hsl5 := hc04.size
    have hbm1 := fun (y : Int × Int) (w1 : World) (c : Chg (fun _ _ => False) w w1) => before_any (.slice sa os.length sc) (rkL os) x y w1 (HR.out w1 c)
    have hbm2 := fun (y : Int × Int) (w1 : World) (c : Chg (fun _ _ => False) w w1) => before_any (.slice sa os.length sc) (rkL os) y x w1 (HR.out w1 c)
    unfold itemV at hbm1 hbm2
    have HB1 := Lib.hid hbm1
    have HB2 := Lib.hid hbm2
    clear hbm1 hbm2
    have hc05 := (hc04.trans hc).trans hc5
    have HC05 := Lib.hid hc05
    clear hc05
    rcases Nat.eq_zero_or_pos j with hj0 | hj0
    case' inl =>
      have hgt : ¬ 0 < j := by omega
      have HJ0 := Lib.hid hj0
      clear hj0
      refine wp_region_scr (fun w' => True) (.soft 0 (.soft 1 (.soft 2 (.soft 3 (.soft 4 (.soft 5 (.soft 6 (.soft 7 (.soft 8 (.soft 9 (.soft 10 (.hard 11 (.soft 12 (.soft 13 .nil)))))))))))))) (by kernel_rfl) (by kernel_rfl) (fun _ _ _ _ _ h => h) trivial ?_
      repeat
        first
        | (refine scr_soft (by rfl) ?_ ?_ ?_ ?_
           rotate_left
           · simp [Region.wanted, yielded]; done
           · intro w' hS
             try obtain ⟨a1⟩ := hS
             go_simp
             try with_reducible rfl
           simp only [Act.put, List.setIfInBounds_toArray, List.set_cons_zero, List.set_cons_succ])
        | (refine scr_skip (by rfl) ?_ ?_
           · simp [Region.wanted, yielded]; done
           simp only [Act.put, List.setIfInBounds_toArray, List.set_cons_zero, List.set_cons_succ])
      refine scr_hard_skip (by rfl) (by simp [Region.wanted, yielded]) ?_
      simp only [Act.put, List.setIfInBounds_toArray, List.set_cons_zero, List.set_cons_succ]
      repeat
        first
        | (refine scr_soft (by rfl) ?_ ?_ ?_ ?_
           rotate_left
           · simp [Region.wanted, yielded]; done
           · intro w' hS
             try obtain ⟨a1⟩ := hS
             go_simp
             try with_reducible rfl
           simp only [Act.put, List.setIfInBounds_toArray, List.set_cons_zero, List.set_cons_succ])
        | (refine scr_skip (by rfl) ?_ ?_
           · simp [Region.wanted, yielded]; done
           simp only [Act.put, List.setIfInBounds_toArray, List.set_cons_zero, List.set_cons_succ])
      refine scr_nil ?_
      obtain ⟨w6, hw6⟩ : ∃ w6, w5.drew = w6 := ⟨_, rfl⟩
      rw [hw6]
      have hc6 : Chg (fun _ _ => False) w5 w6 := by rw [← hw6]; exact (Chg.refl _ _).drew
      clear hgt hw6
    case' inr =>
      have hgt : 0 < j := hj0
      obtain ⟨y, hy⟩ : ∃ y, L[j - 1]? = some y := ⟨_, List.getElem?_eq_getElem (by omega)⟩
      obtain ⟨b', o', hbo, g0, g1⟩ := ((HW.out.chg hc).chg hc5).item hy
      obtain ⟨rfl, rfl⟩ : b = b' ∧ o = o' := by simpa using hbo
      have hlt1 : ltR (rkL os) y x = true := by
        obtain ⟨h1, e1⟩ := List.getElem?_eq_some_iff.1 hy
        obtain ⟨h2, e2⟩ := List.getElem?_eq_some_iff.1 HX.out
        rw [← e1, ← e2]
        exact List.pairwise_iff_getElem.1 HSRT.out _ _ h1 h2 (by omega)
      have hcast2 : ((j : Int) - 1).toNat = j - 1 := by omega
      have s1 : (0 : Int) ≤ (j : Int) - 1 := by omega
      have s4 : (1 : Int) ≤ (j : Int) := by omega
      have s2 : (j : Int) - 1 < (L.length : Int) := by omega
      have s3 : IntKind.i64.wrap ((j : Int) - 1) = (j : Int) - 1 := IntWalk.i64_in _ (by omega)
      have hbf := HB2.out y
      rw [hlt1] at hbf
      have HBF := Lib.hid hbf
      have HJ0 := Lib.hid hj0
      clear hbo hy hlt1 hbf hj0
      refine wp_region_scr (fun w' => w'.cell? ⟨w.heap.size, 0, none⟩ = some (.slice sa os.length sc) ∧ w'.cell? ⟨b, o + (j - 1) * 2, none⟩ = some (.int .i64 y.1) ∧ w'.cell? ⟨b, o + (j - 1) * 2 + 1, none⟩ = some (.int .i64 y.2) ∧ w'.cell? ⟨wr.heap.size, 0, none⟩ = some (.int .i64 x.1) ∧ w'.cell? ⟨wr.heap.size, 1, none⟩ = some (.int .i64 x.2)) (.soft 0 (.soft 1 (.soft 2 (.soft 3 (.soft 4 (.soft 5 (.soft 6 (.soft 7 (.soft 8 (.soft 9 (.soft 10 (.hard 11 (.soft 12 (.soft 13 .nil)))))))))))))) (by kernel_rfl) (by kernel_rfl) (fun _ _ _ _ _ h => h) ⟨n0, g0, g1, x0, x1⟩ ?_
      repeat
        first
        | (refine scr_soft (by rfl) ?_ ?_ ?_ ?_
           rotate_left
           · simp [Region.wanted, yielded]; done
           · intro w' hS
             try obtain ⟨a1, a2, a3, a4, a5⟩ := hS
             go_simp
             try with_reducible rfl
           simp only [Act.put, List.setIfInBounds_toArray, List.set_cons_zero, List.set_cons_succ])
        | (refine scr_skip (by rfl) ?_ ?_
           · simp [Region.wanted, yielded]; done
           simp only [Act.put, List.setIfInBounds_toArray, List.set_cons_zero, List.set_cons_succ])
      refine scr_hard (by rfl) (by simp [Region.wanted, yielded]) (fun K hK => ?_)
      go_simp
      refine (HBF.out _ HC05.out.drew).mono ?_
      rintro e w6 ⟨rfl, hc6'⟩
      refine hK _ _ ⟨hc6'.cell (fun h => h) n0, hc6'.cell (fun h => h) g0, hc6'.cell (fun h => h) g1, hc6'.cell (fun h => h) x0, hc6'.cell (fun h => h) x1⟩ ?_
      clear hK K
      repeat
        first
        | (refine scr_soft (by rfl) ?_ ?_ ?_ ?_
           rotate_left
           · simp [Region.wanted, yielded]; done
           · intro w' hS
             try obtain ⟨a1, a2, a3, a4, a5⟩ := hS
             go_simp
             try with_reducible rfl
           simp only [Act.put, List.setIfInBounds_toArray, List.set_cons_zero, List.set_cons_succ])
        | (refine scr_skip (by rfl) ?_ ?_
           · simp [Region.wanted, yielded]; done
           simp only [Act.put, List.setIfInBounds_toArray, List.set_cons_zero, List.set_cons_succ])
      refine scr_nil ?_
      have hc6 : Chg (fun _ _ => False) w5 w6 := (Chg.refl _ _).drew.trans hc6'
      clear hgt g0 g1 hcast2 s1 s4 s2 s3 HBF hc6'
    all_goals
      have hc06 := HC05.out.trans hc6
      replace n0 := hc6.cell (fun h => h) n0
      replace x0 := hc6.cell (fun h => h) x0
      replace x1 := hc6.cell (fun h => h) x1
      have hsz6 : wr.heap.size < w6.heap.size := by have h1 := hc6.size; have h2 := heap_lt HBX.out; omega
      go_wp2_with fail
      refine name_world (fun w7 => Chg (fun _ _ => False) w6 w7 ∧ w7.heap[w6.heap.size]? = some (.cells (foundL none).toArray 38 (0, 0))) ⟨?_, ?_⟩ ?_
      · repeat (first | refine Chg.alloc ?_ _ | exact Chg.refl _ _)
      · exact ha_at _ _ rfl
      rintro w7 ⟨hc7, hb7⟩
      have hc07 := hc06.trans hc7
      replace n0 := hc7.cell (fun h => h) n0
      replace x0 := hc7.cell (fun h => h) x0
      replace x1 := hc7.cell (fun h => h) x1
      have hsz7 : w6.heap.size < w7.heap.size := heap_lt hb7
      have hsw : w.heap.size ≤ w6.heap.size := hc06.size
      have hwne : w.heap.size ≠ w6.heap.size := by have h1 := hc04.size; have h2 := hc.size; omega
      have hxne : wr.heap.size ≠ w6.heap.size := by omega
      have hs46 : w4.heap.size ≤ w6.heap.size := ((hc.trans hc5).trans hc6).size
      have HB7 := Lib.hid hb7
      clear hb7
      go_loopw [52] (fun i w' => ∃ (q : Nat), q ≤ l.length ∧ i = .int .i64 q ∧ Chg (fun b _ => b = w6.heap.size) w7 w' ∧ w'.heap[w6.heap.size]? = some (.cells (foundL ((l.take q).filter (eqv (ltR (rkL os)) x)).getLast?).toArray 38 (0, 0))) (fun i _ => l.length - (intOf i).toNat)
      case atStart => exact ⟨0, Nat.zero_le _, rfl, Chg.refl _ _, HB7.out⟩
      case round =>
        obtain ⟨q, hq, rfl, hcq, hbq⟩ := hrel
        have hcw : Chg (fun _ _ => False) w wr := hc07.trans' hcq (fun _ _ _ h => h) (fun b o hb e => by omega)
        have n0' := hcq.cell (fun e => hwne e) n0
        have x0' := hcq.cell (fun e => hxne e) x0
        have x1' := hcq.cell (fun e => hxne e) x1
        have q0 : (0 : Int) ≤ (q : Int) := by omega
        have hbl := heap_lt hbq
        obtain ⟨k0, v0, b0, hf0⟩ : ∃ k v b, foundL ((l.take q).filter (eqv (ltR (rkL os)) x)).getLast? = [.int .i64 k, .int .i64 v, .bool b] := by
          cases ((l.take q).filter (eqv (ltR (rkL os)) x)).getLast? with
          | none => exact ⟨_, _, _, rfl⟩
          | some y => exact ⟨_, _, _, rfl⟩
        rw [hf0] at hbq
        have c0 := cell_of_block hbq 0
        have c1 := cell_of_block hbq 1
        have c2 := cell_of_block hbq 2
        have z0 := frozen_of_block hbq 0
        have z1 := frozen_of_block hbq 1
        have z2 := frozen_of_block hbq 2
        simp only [List.getElem?_toArray, List.getElem?_cons_zero, List.getElem?_cons_succ] at c0 c1 c2
        have HBQ := Lib.hid hbq
        have HF0 := Lib.hid hf0
        clear hbq hf0
        by_cases hql : q < l.length
        · obtain ⟨y, hy⟩ : ∃ y, l[q]? = some y := ⟨_, List.getElem?_eq_getElem hql⟩
          obtain ⟨b1, o1, rfl, g0, g1⟩ := (HL.out.chg hcw).item hy
          have HY := Lib.hid hy
          have q1 : (q : Int) < (l.length : Int) := by omega
          have htk : l.take (q + 1) = l.take q ++ [y] := by rw [List.take_add_one, hy]; rfl
          have HTK := Lib.hid htk
          obtain ⟨p1, hp1⟩ : ∃ p, ltR (rkL os) x y = p := ⟨_, rfl⟩
          obtain ⟨p2, hp2⟩ : ∃ p, ltR (rkL os) y x = p := ⟨_, rfl⟩
          have hm1 := HB1.out y
          have hm2 := HB2.out y
          rw [hp1] at hm1
          rw [hp2] at hm2
          have HM1 := Lib.hid hm1
          have HM2 := Lib.hid hm2
          have hev : eqv (ltR (rkL os)) x y = (!p1 && !p2) := by unfold eqv; rw [hp1, hp2]
          have HEV := Lib.hid hev
          clear hy htk hm1 hm2 hp1 hp2 hev
          have hl1 := World.block_lt_of_cell? wr _ n0'
          have hl2 := World.block_lt_of_cell? wr _ x0'
          go_wp2_with fail
          refine name_calls (fun w9 => Chg (fun _ _ => False) wr w9 ∧ w9.heap[wr.heap.size]? = some (.cells #[.int .i64 y.1, .int .i64 y.2] 26 (0, 0))) ⟨(Chg.refl _ _).alloc _, ha_at _ _ rfl⟩ ?_
          rintro w9 ⟨hc9, hby⟩
          refine (HM1.out _ (hcw.trans hc9)).mono ?_
          rintro e w10 ⟨rfl, hc10⟩
          have hc910 := hc9.trans hc10
          replace n0' := hc910.cell (fun h => h) n0'
          replace x0' := hc910.cell (fun h => h) x0'
          replace x1' := hc910.cell (fun h => h) x1'
          replace c0 := hc910.cell (fun h => h) c0
          replace c1 := hc910.cell (fun h => h) c1
          replace c2 := hc910.cell (fun h => h) c2
          have y0 := hc10.cell (fun h => h) (cell_of_block hby 0)
          have y1 := hc10.cell (fun h => h) (cell_of_block hby 1)
          clear z0 z1 z2 hby
          cases p1
          · go_wp2_with fail
            refine (HM2.out _ (hcw.trans hc910)).mono ?_
            rintro e w11 ⟨rfl, hc11⟩
            have hc911 := hc910.trans hc11
            replace n0' := hc11.cell (fun h => h) n0'
            replace x0' := hc11.cell (fun h => h) x0'
            replace x1' := hc11.cell (fun h => h) x1'
            replace c0 := hc11.cell (fun h => h) c0
            replace c1 := hc11.cell (fun h => h) c1
            replace c2 := hc11.cell (fun h => h) c2
            replace y0 := hc11.cell (fun h => h) y0
            replace y1 := hc11.cell (fun h => h) y1
            have hb11 : w11.heap[w6.heap.size]? = some (.cells #[.int .i64 k0, .int .i64 v0, .bool b0] 38 (0, 0)) := by rw [hc911.block hbl (fun _ h => h)]; exact HBQ.out
            have HB11 := Lib.hid hb11
            have z0 := frozen_of_block hb11 0
            have z1 := frozen_of_block hb11 1
            have z2 := frozen_of_block hb11 2
            clear hb11
            cases p2
            · go_wp2_with fail
              go_roundw
              case rel =>
                refine ⟨q + 1, by omega, by go_num, ?_, ?_⟩
                · refine (hcq.trans (hc911.mono (fun _ _ _ h => h.elim))).trans ?_
                  repeat (first | refine Chg.setCell ?_ (.inl rfl) _ | exact Chg.refl _ _)
                · rw [HTK.out, List.filter_append, List.filter_cons_of_pos (by rw [HEV.out]; rfl), List.filter_nil, List.getLast?_append]
                  rw [hs_same (hs_same (hs_same HB11.out _) _) _]
                  rfl
              case measure => simp [intOf]; omega
            · go_wp2_with fail
              go_roundw
              case rel =>
                refine ⟨q + 1, by omega, by go_num, hcq.trans (hc911.mono (fun _ _ _ h => h.elim)), ?_⟩
                rw [HTK.out, List.filter_append, List.filter_cons_of_neg (by rw [HEV.out]; simp), List.filter_nil, List.append_nil, HF0.out]
                exact HB11.out
              case measure => simp [intOf]; omega
          · go_wp2_with fail
            go_roundw
            case rel =>
              refine ⟨q + 1, by omega, by go_num, hcq.trans (hc910.mono (fun _ _ _ h => h.elim)), ?_⟩
              rw [HTK.out, List.filter_append, List.filter_cons_of_neg (by rw [HEV.out]; simp), List.filter_nil, List.append_nil, HF0.out, hc910.block hbl (fun _ h => h)]
              exact HBQ.out
            case measure => simp [intOf]; omega
        · obtain rfl : q = l.length := by omega
          have hfx := HF0.out
          rw [List.take_length, HLAST.out x (List.mem_of_getElem? HX.out)] at hfx
          obtain ⟨rfl, rfl, rfl⟩ : x.1 = k0 ∧ x.2 = v0 ∧ true = b0 := by simpa [foundL] using hfx
          clear hfx
          have hnlt : ¬ ((l.length : Nat) : Int) < (l.length : Int) := by omega
          go_wp2_with fail
          go_roundw
          case rel => exact ⟨j + 1, by omega, by go_num, ((hc.trans hc5).trans (hc6.trans hc7)).trans' hcq (fun _ _ _ h => h) (fun b o hb e => by omega)⟩
          case measure => simp [intOf]; omega
end Go.Proofs.Ytojplcbkiogcpaa
