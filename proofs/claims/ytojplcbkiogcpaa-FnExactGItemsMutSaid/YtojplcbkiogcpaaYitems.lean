/- Items of a tree; the law on GItemsMut. -/
import Derived.Laws.MakeOwn
import Derived.Test.YtojplcbkiogcpaaEl
import Derived.Test.YtojplcbkiogcpaaY0
namespace Go.Proofs.Ytojplcbkiogcpaa
set_option linter.unusedSimpArgs false
set_option linter.unusedVariables false
open Go.RowKit

theorem pre_step {α : Type} {xs : List α} {ts : List (List α)} {i : Nat} {x : α} {t : List α} (hx : xs[i]? = some x) (ht : ts[i]? = some t) : pre (xs.take (i + 1)) (ts.take (i + 1)) = pre (xs.take i) (ts.take i) ++ (t ++ [x]) := by
  have hi := (List.getElem?_eq_some_iff.1 hx).1
  have hj := (List.getElem?_eq_some_iff.1 ht).1
  rw [List.take_add_one, List.take_add_one, hx, ht]
  have h : (xs.take i).length = (ts.take i).length := by simp; omega
  have := pre_app (xs.take i) [x] (ts.take i) [t] h
  simpa [pre] using this

theorem inter_end {α : Type} {xs : List α} {ts : List (List α)} {t : List α} (h : ts.length = xs.length + 1) (ht : ts[xs.length]? = some t) : inter xs ts = pre (xs.take xs.length) (ts.take xs.length) ++ t := by
  rw [inter_split xs.length xs ts t h ht, List.drop_of_length_le (Nat.le_refl _)]
  simp [post]

/-- A piece of the list ahead of the i-th child, and up to it. -/
theorem pre_len {α : Type} {xs : List α} {ts : List (List α)} (h : ts.length = xs.length + 1) {i : Nat} {t : List α} (ht : ts[i]? = some t) : (pre (xs.take i) (ts.take i)).length + t.length ≤ (inter xs ts).length := by
  rw [inter_split i xs ts t h ht]
  simp only [List.length_append]; omega

def ItSpec (ord : List Int) (h : Nat) : Prop := ∀ (k : Kc ord) (mn mx : Nat) (w : World) (F : Nat → Prop) (H : Nat → Option (NodeR (It ord))) (T : BT (It ord) h) (t : Nat) (pa : Addr) (v : Value) (acc : List (It ord)) (base : Nat),
  Fam (parM k) w F H → IsT H h T → Sh mn mx h T → 1 ≤ (its T).length → 1 ≤ mn → OwnE itemE w v acc base → base ≤ w.heap.size → (∀ b, F b → b < base) → t < base →
  w.cell? ⟨t, 0, none⟩ = some (.int .u64 k.iso) → w.cell? pa = some (.pointer (some ⟨rid T, 0, none⟩)) → acc.length + (toL h T).length ≤ 1000000000000 →
  Calls Try.prog 113 #[.pointer (some ⟨t, 0, none⟩), .pointer (some pa), v, .bool true] w fun e w' => ∃ v', e = .returned v' ∧ OwnE itemE w' v' (acc ++ toL h T) base ∧ Chg (fun b _ => base ≤ b) w w'

theorem flat_same {ord : List Int} {k : Kc ord} (xs : List (It ord)) : flat (parM k) xs = flat itemE.par xs := rfl

set_option maxRecDepth 100000 in
set_option maxHeartbeats 1000000 in
theorem items_leaf (ord : List Int) : ItSpec ord 0 := by
  intro k mn mx w F H T t pa v acc base hF hT hs hit hmn how hbase hFb htb c0 hpa hlen
  obtain ⟨i0, hi0, hz0, hz1, hz2⟩ := info_parts infoItem
  obtain ⟨l0, hn0⟩ := hF.node hT.root
  have nn := hn0.c0
  have n3 := hn0.c3n rfl
  have n2 : w.cell? ⟨rid T, 2, none⟩ = some (.slice (some ⟨l0.ib, l0.io, none⟩) T.2.length l0.ic) := hn0.c2
  have hrow := hn0.row
  have hlen' : acc.length + T.2.length ≤ 1000000000000 := hlen
  have hit' : 1 ≤ T.2.length := hit
  have HOW := Lib.hid how
  have HROW := Lib.hid hrow
  clear how hrow
  go_enter Try.func113, Try.ntmps113
  go_wp2_with fail
  refine (isoLoad_any t (rid T) k _ _ _ hpa nn c0).mono ?_
  rintro e w1 ⟨rfl, m, hw1⟩
  have hc1 : Chg (fun _ _ => False) w w1 := by rw [hw1]; exact (Chg.refl _ _).drewN _
  replace n3 := hc1.cell (fun h => h) n3
  replace n2 := hc1.cell (fun h => h) n2
  clear hw1
  go_wp2_with fail
  refine (leaf_any _ none _ n3).mono ?_
  rintro e w' ⟨rfl, rfl⟩
  have HOW2 := Lib.hid (HOW.out.keep hc1)
  go_wp2_with (refine wpList_append_E itemE (by rfl) _ _ _ (by rfl) i0 _ 16 Try.underlying31 hi0 hz0 hz1 hz2 rfl _ (by rfl) _ base HOW2.out (Nat.le_trans hbase hc1.size) ⟨l0.ib, l0.io, none⟩ T.2.length _ (by rfl) T.2 rfl (by omega) ?_ ?_ ?_ ?_)
  · intro j u hj
    rw [add_none]
    exact hc1.cell (fun h => h) (HROW.out.cell hj)
  · unfold maxLen; omega
  · omega
  intro v' w' h1 h2 _
  go_wp2
  go_ret
  exact ⟨_, rfl, h1, (hc1.mono (fun _ _ _ h => h.elim)).trans h2⟩

set_option maxRecDepth 100000 in
set_option maxHeartbeats 1000000 in
theorem items_branch {ord : List Int} {h : Nat} (ih : ItSpec ord h) : ItSpec ord (h + 1) := by
  intro k mn mx w F H T t pa v acc base hF hT hs hit hmn how hbase hFb htb c0 hpa hlen
  obtain ⟨i0, hi0, hz0, hz1, hz2⟩ := info_parts infoItem
  obtain ⟨l0, hn0⟩ := hF.node hT.root
  have nn := hn0.c0
  have hk : (recOf (h + 1) T).kids = some (T.2.2.map fun c => some (rid c)) := rfl
  have n3 := hn0.c3s hk
  have hkl : T.2.2.length = T.2.1.length + 1 := hs.2.1
  have hml : (T.2.2.map (toL h)).length = T.2.1.length + 1 := by simpa using hkl
  have hlen' : acc.length + (inter T.2.1 (T.2.2.map (toL h))).length ≤ 1000000000000 := hlen
  have HLEN := Lib.hid hlen'
  have HOW := Lib.hid how
  have HKL := Lib.hid hkl
  have HML := Lib.hid hml
  have hitn : T.2.1.length ≤ (inter T.2.1 (T.2.2.map (toL h))).length := (its_sub hs).length_le
  have hitl : T.2.1.length ≤ 1000000000000 := by omega
  clear how hkl hlen' hml hlen hitn
  go_enter Try.func113, Try.ntmps113
  go_wp2_with fail
  refine (isoLoad_any t (rid T) k _ _ _ hpa nn c0).mono ?_
  rintro e w1 ⟨rfl, m, hw1⟩
  have hc1 : Chg (fun b _ => base ≤ b) w w1 := by rw [hw1]; exact (Chg.refl _ _).drewN _
  have hcf : Chg (fun _ _ => False) w w1 := by rw [hw1]; exact (Chg.refl _ _).drewN _
  replace n3 := hcf.cell (fun h => h) n3
  have HOW1 := Lib.hid (HOW.out.keep hcf)
  clear hw1 hcf
  go_wp2_with fail
  refine (leaf_any _ (some ⟨l0.cc, 0, none⟩) _ n3).mono ?_
  rintro e w' ⟨rfl, rfl⟩
  clear n3
  go_wp2_with fail
  go_loopw [2, 10] (fun v i wr => ∃ (j : Nat), j ≤ T.2.1.length ∧ i = .int .i64 j ∧ OwnE itemE wr v (acc ++ pre (T.2.1.take j) ((T.2.2.map (toL h)).take j)) base ∧ Chg (fun b _ => base ≤ b) w wr) (fun _ i _ => T.2.1.length - (intOf i).toNat)
  case atStart => exact ⟨0, Nat.zero_le _, rfl, by simpa [pre] using HOW1.out, hc1⟩
  case round =>
    obtain ⟨j, hj, rfl, how, hc⟩ := hrel
    have hsz := hc.size
    have hFr := hF.chg hc (fun b o hb h => by have := hFb b hb; omega)
    obtain ⟨l, hn, hblk⟩ := hFr.nodeB hT.root
    have hrb : ¬ base ≤ rid T := by have := hFb _ (hblk _ (.inl rfl)); omega
    have hcb : ¬ base ≤ l.cc := by have := hFb _ (hblk _ (.inr (.inr ⟨by rw [hk]; simp, .inl rfl⟩))); omega
    have n2 : wr.cell? ⟨rid T, 2, none⟩ = some (.slice (some ⟨l.ib, l.io, none⟩) T.2.1.length l.ic) := hn.c2
    have n3 := hn.c3s hk
    have nc := hn.cc hk
    rw [List.length_map] at nc
    obtain ⟨c, hcj⟩ : ∃ c, T.2.2[j]? = some c := ⟨_, List.getElem?_eq_getElem (by have := HKL.out; omega)⟩
    have kc : wr.cell? ⟨l.cb, l.co + j, none⟩ = some (.pointer (some ⟨rid c, 0, none⟩)) := hn.kidc hk (j := j) (o := some (rid c)) (by simp [hcj])
    have hcm : c ∈ T.2.2 := List.mem_of_getElem? hcj
    have hkc := (List.getElem?_eq_some_iff.1 hcj).1
    have htj : (T.2.2.map (toL h))[j]? = some (toL h c) := by simp [hcj]
    have hpl := pre_len HML.out htj
    have hpl2 := HLEN.out
    have i0' : (0 : Int) ≤ (j : Int) := by omega
    have k1 : (j : Int) < (T.2.2.length : Int) := by omega
    have hih := fun (w1 : World) (pa1 : Addr) (v1 : Value) (acc1 : List (It ord)) (hc1 : Chg (fun b _ => base ≤ b) w w1) (h1 : OwnE itemE w1 v1 acc1 base) (hp1 : w1.cell? pa1 = some (.pointer (some ⟨rid c, 0, none⟩))) (h2 : acc1.length + (toL h c).length ≤ 1000000000000) =>
      ih k mn mx w1 F H c t pa1 v1 acc1 base (hF.chg hc1 (fun b o hb h => by have := hFb b hb; omega)) (hT.kid hcm) (hs.2.2 c hcm).2 (Nat.le_trans hmn (hs.2.2 c hcm).1) hmn h1 (Nat.le_trans hbase hc1.size) hFb htb (hc1.cell (fun h => by have h2 : base ≤ t := h; omega) c0) hp1 h2
    have HIH := Lib.hid hih
    clear hih
    have hml1 : (acc ++ pre (T.2.1.take j) ((T.2.2.map (toL h)).take j)).length + (toL h c).length ≤ 1000000000000 := by
      rw [List.length_append]; omega
    have HL1 := Lib.hid hml1
    clear hml1
    by_cases hlt : j < T.2.1.length
    · obtain ⟨x, hx⟩ : ∃ x, T.2.1[j]? = some x := ⟨_, List.getElem?_eq_getElem hlt⟩
      have hstep := pre_step hx htj
      have ht : acc ++ pre (T.2.1.take (j + 1)) ((T.2.2.map (toL h)).take (j + 1)) = acc ++ pre (T.2.1.take j) ((T.2.2.map (toL h)).take j) ++ toL h c ++ [x] := by
        rw [hstep]; simp
      have HT := Lib.hid ht
      have HX := Lib.hid hx
      have HOW2 := Lib.hid how
      clear hx ht hstep how htj hcj hpl hpl2
      have i1 : (j : Int) < (T.2.1.length : Int) := by omega
      go_wp2_with fail
      refine (HIH.out _ _ _ _ hc HOW2.out kc HL1.out).mono ?_
      rintro e w2 ⟨v2, rfl, how2, hc2⟩
      have hc02 := hc.trans hc2
      obtain ⟨l2, hn2⟩ := (hF.chg hc02 (fun b o hb h => by have := hFb b hb; omega)).node hT.root
      have n2' : w2.cell? ⟨rid T, 2, none⟩ = some (.slice (some ⟨l2.ib, l2.io, none⟩) T.2.1.length l2.ic) := hn2.c2
      have iv := hn2.mval (j := j) HX.out
      have ik := hn2.mkey (j := j) HX.out
      have hca : Chg (fun _ _ => False) w2 (w2.alloc (.cells #[.int .i64 x.1, .int .i64 x.2] 26)) := (Chg.refl _ _).alloc _
      have HOW3 := Lib.hid (how2.keep hca)
      clear how2
      have hsz2 := hc02.size
      have hll : (acc ++ pre (T.2.1.take j) ((T.2.2.map (toL h)).take j) ++ toL h c).length ≤ 1000000000000 := by
        have := HL1.out
        rw [List.length_append]; exact this
      have HLL := Lib.hid hll
      clear hll n2 n3 nc kc
      go_wp2_with (refine wpList_append_E itemE (by rfl) _ _ _ (by rfl) i0 _ 16 Try.underlying31 hi0 hz0 hz1 hz2 rfl _ (by rfl) _ base HOW3.out (Nat.le_trans hbase (Nat.le_trans hsz2 hca.size)) ⟨w2.heap.size, 0, none⟩ 1 _ (by rfl) [x] rfl (by decide) ?_ ?_ ?_ ?_)
      · exact El.src1 itemE (c := #[.int .i64 x.1, .int .i64 x.2]) (ha_at _ _ (by simp)) _ rfl
      · have := HLL.out; unfold maxLen; omega
      · have := HLL.out; omega
      intro v' w' h1 h2 _
      have hc3 : Chg (fun b _ => base ≤ b) w w' := (hc02.trans (hca.mono (fun _ _ _ h => h.elim))).trans h2
      go_wp2
      go_roundw
      case rel => exact ⟨j + 1, by omega, by go_num, by rw [HT.out]; simpa only [List.append_assoc] using h1, hc3⟩
      case measure => simp [intOf]; omega
    · obtain rfl : j = T.2.1.length := by omega
      have hend := inter_end HML.out htj
      have ht : acc ++ toL (h + 1) T = acc ++ pre (T.2.1.take T.2.1.length) ((T.2.2.map (toL h)).take T.2.1.length) ++ toL h c := by
        show acc ++ inter T.2.1 (T.2.2.map (toL h)) = _
        rw [hend]; simp
      have HT := Lib.hid ht
      have HOW2 := Lib.hid how
      have hkk := HKL.out
      have kc' : wr.cell? ⟨l.cb, l.co + (T.2.2.length - 1), none⟩ = some (.pointer (some ⟨rid c, 0, none⟩)) := by
        have e : T.2.2.length - 1 = T.2.1.length := by omega
        rw [e]; exact kc
      have i4 : (1 : Int) ≤ (T.2.2.length : Int) := by omega
      have i0 : (0 : Int) ≤ (T.2.2.length : Int) - 1 := by omega
      have i1 : (T.2.2.length : Int) - 1 < (T.2.2.length : Int) := by omega
      have i2 : ((T.2.2.length : Int) - 1).toNat = T.2.2.length - 1 := by omega
      have i3 : IntKind.i64.wrap ((T.2.2.length : Int) - 1) = (T.2.2.length : Int) - 1 := IntWalk.i64_in _ (by omega)
      clear ht hend how htj hcj hpl hpl2 hkk hkc kc k1
      go_wp2_with fail
      refine wp_region_scr (fun w' => w'.cell? ⟨rid T, 3, none⟩ = some (.pointer (some ⟨l.cc, 0, none⟩)) ∧ w'.cell? ⟨l.cc, 0, none⟩ = some (.slice (some ⟨l.cb, l.co, none⟩) T.2.2.length l.ck)) (.soft 0 (.soft 1 (.soft 2 (.soft 3 (.soft 4 (.soft 5 (.soft 6 (.soft 7 (.soft 8 (.soft 9 (.soft 10 (.soft 11 (.soft 12 (.soft 13 (.soft 14 (.soft 15 (.soft 16 (.soft 17 (.hard 18 (.soft 19 .nil)))))))))))))))))))) (by kernel_rfl) (by kernel_rfl) (fun _ _ _ _ _ h => h) ⟨n3, nc⟩ ?_
      repeat
        first
        | (refine scr_soft (by rfl) ?_ ?_ ?_ ?_
           rotate_left
           · simp [Region.wanted, yielded]; done
           · intro w' hS
             try obtain ⟨a1, a2⟩ := hS
             go_simp
             try with_reducible rfl
           simp only [Act.put, List.setIfInBounds_toArray, List.set_cons_zero, List.set_cons_succ])
        | (refine scr_skip (by rfl) ?_ ?_
           · simp [Region.wanted, yielded]; done
           simp only [Act.put, List.setIfInBounds_toArray, List.set_cons_zero, List.set_cons_succ])
      refine scr_hard (by rfl) (by simp [Region.wanted, yielded]) (fun K hK => ?_)
      go_simp
      refine (HIH.out wr.drew _ _ _ hc.drew (HOW2.out.keep (Chg.refl _ _).drew) kc' HL1.out).mono ?_
      rintro e w2 ⟨v2, rfl, how2, hc2⟩
      refine hK _ _ ⟨hc2.cell hrb n3, hc2.cell hcb nc⟩ ?_
      clear hK K
      repeat
        first
        | (refine scr_soft (by rfl) ?_ ?_ ?_ ?_
           rotate_left
           · simp [Region.wanted, yielded]; done
           · intro w' hS
             try obtain ⟨a1, a2⟩ := hS
             go_simp
             try with_reducible rfl
           simp only [Act.put, List.setIfInBounds_toArray, List.set_cons_zero, List.set_cons_succ])
        | (refine scr_skip (by rfl) ?_ ?_
           · simp [Region.wanted, yielded]; done
           simp only [Act.put, List.setIfInBounds_toArray, List.set_cons_zero, List.set_cons_succ])
      refine scr_nil ?_
      go_wp2
      go_ret
      exact ⟨v2, rfl, by rw [HT.out]; simpa only [List.append_assoc] using how2, hc.drew.trans hc2⟩

theorem items_all (ord : List Int) : (h : Nat) → ItSpec ord h
  | 0 => items_leaf ord
  | h + 1 => items_branch (items_all ord h)
end Go.Proofs.Ytojplcbkiogcpaa

namespace Go.Proofs.Ytojplcbkiogcpaa
set_option linter.unusedSimpArgs false
set_option linter.unusedVariables false
open Go.RowKit

def OwnPostI (xs : List (Int × Int)) (w : World) (e : Ending) (w' : World) : Prop := ∃ v, e = .returned v ∧ OwnE itemE w' v xs w.heap.size ∧ Chg (fun _ _ => False) w w'

theorem MapIn.blk {ord : List Int} {k : Kc ord} {mn mx : Nat} {w : World} {F : Nat → Prop} {t : Nat} {l : List (It ord)} (h : MapIn k mn mx w F t l) : ∃ root, MapBlk k mn mx w t root l.length := by
  rcases h with ⟨rfl, _, hB⟩ | ⟨H, h, T, _, hB, rfl, _⟩
  · exact ⟨none, hB⟩
  · exact ⟨_, hB⟩

theorem MapIn.flt {ord : List Int} {k : Kc ord} {mn mx : Nat} {w : World} {F : Nat → Prop} {t : Nat} {l : List (It ord)} (hM : MapIn k mn mx w F t l) : ∀ b, F b → b < w.heap.size := by
  intro b hb
  rcases hM with ⟨_, h, _⟩ | ⟨H, h, T, hI, _⟩
  · exact absurd hb (h b)
  · exact hI.fam.lt hb

theorem Len_any {ord : List Int} {k : Kc ord} {mn mx : Nat} {w : World} {F : Nat → Prop} {t : Nat} {l : List (It ord)} (hM : MapIn k mn mx w F t l) :
    Calls Try.prog 112 #[.pointer (some ⟨t, 0, none⟩)] w fun e w' => e = .returned (.int .i64 l.length) ∧ w = w' := by
  obtain ⟨root, hB⟩ := hM.blk
  have c3 := hB.c3
  clear hB hM
  go_enter Try.func112, Try.ntmps112
  go_wp2
  go_ret
  exact ⟨rfl, rfl⟩

theorem made_items (n : Nat) (w : World) (hn : n ≤ 1000000000000) : (Instr.makeSlice 31 (.int .i64 0) (.int .i64 n)).run Try.prog w = .ok (.slice (some ⟨w.heap.size, 0, none⟩) 0 n) (w.alloc (.cells (madeCells #[.int .i64 0, .int .i64 0] (n * 2)) 26)) := by
  obtain ⟨i0, hi0, hz0, hz1, hz2⟩ := info_parts infoItem
  have h := run_make (P := Try.prog) w 31 26 i0 _ Try.underlying31 hi0 hz0 .i64 .i64 0 (n : Int) (by omega) (by omega) (by rw [hz2]; omega) (by omega)
  rw [h, hz1]
  simp [Value.cells]

theorem own_made (n : Nat) (w : World) : OwnE itemE (w.alloc (.cells (madeCells #[.int .i64 0, .int .i64 0] (n * 2)) 26)) (.slice (some ⟨w.heap.size, 0, none⟩) 0 n) [] w.heap.size := by
  refine .inr ⟨w.heap.size, 0, n, rfl, Nat.zero_le _, Nat.le_refl _, RowAt.of_block (ha_at _ _ rfl) _ _ (by simp [flat]) ?_ (by simp [flat])⟩
  simp [madeCells, itemE]

set_option maxRecDepth 100000 in
theorem items_any {ord : List Int} {k : Kc ord} {mn mx : Nat} {w : World} {F : Nat → Prop} {t : Nat} {l : List (It ord)} (hM : MapIn k mn mx w F t l) (hmn : 1 ≤ mn) (hlen : l.length ≤ 1000000000000) :
    Calls Try.prog 86 #[.pointer (some ⟨t, 0, none⟩), .bool true] w (OwnPostI l w) := by
  have hF := hM.flt
  have htw : t < w.heap.size := hM.own MOwn.self
  have hL := Len_any hM
  obtain ⟨n, hn⟩ : ∃ n, l.length = n := ⟨_, rfl⟩
  rw [hn] at hL hlen
  have HN := Lib.hid hn
  clear hn
  have hmk := fun w' => made_items n w' hlen
  have hca : Chg (fun _ _ => False) w (w.alloc (.cells (madeCells #[.int .i64 0, .int .i64 0] (n * 2)) 26)) := (Chg.refl _ _).alloc _
  have hown := own_made n w
  have HOWN := Lib.hid hown
  clear hown
  rcases hM.chg hca with ⟨rfl, _, hB⟩ | ⟨H, h, T, hI, hB, rfl, h1⟩
  · have c2 : (w.alloc (.cells (madeCells #[.int .i64 0, .int .i64 0] (n * 2)) 26)).cell? ⟨t, 2, none⟩ = some (.pointer none) := hB.c2
    clear hB
    go_enter Try.func86, Try.ntmps86
    go_wp2_with fail
    refine (lock_any t true _).mono ?_
    rintro e w' ⟨rfl, rfl⟩
    go_wp2_with fail
    refine hL.mono ?_
    rintro e w' ⟨rfl, rfl⟩
    go_wp2_with fail
    go_ret
    exact ⟨_, rfl, HOWN.out, hca⟩
  · have c2 : (w.alloc (.cells (madeCells #[.int .i64 0, .int .i64 0] (n * 2)) 26)).cell? ⟨t, 2, none⟩ = some (.pointer (some ⟨rid T, 0, none⟩)) := hB.c2
    have c0 := hB.at_.c0
    have hk := items_all ord h k mn mx _ F H T t ⟨t, 2, none⟩ _ [] w.heap.size hI.fam hI.isT hI.sh h1 hmn HOWN.out hca.size hF htw c0 c2 (by rw [HN.out]; simpa using hlen)
    have HK := Lib.hid hk
    clear hk hB
    go_enter Try.func86, Try.ntmps86
    go_wp2_with fail
    refine (lock_any t true _).mono ?_
    rintro e w' ⟨rfl, rfl⟩
    go_wp2_with fail
    refine hL.mono ?_
    rintro e w' ⟨rfl, rfl⟩
    go_wp2_with fail
    refine HK.out.mono ?_
    rintro e w2 ⟨v2, rfl, how2, hc2⟩
    go_wp2_with fail
    go_ret
    exact ⟨v2, rfl, how2, hca.trans' hc2 (fun _ _ _ h => h) (fun b o hb h => by omega)⟩

theorem ItemsMut_any {ord : List Int} {k : Kc ord} {mn mx : Nat} {w : World} {F : Nat → Prop} {t : Nat} {l : List (It ord)} (hM : MapIn k mn mx w F t l) (hmn : 1 ≤ mn) (hlen : l.length ≤ 1000000000000) :
    Calls Try.prog 81 #[.pointer (some ⟨t, 0, none⟩)] w (OwnPostI l w) := by
  have HK := Lib.hid (items_any hM hmn hlen)
  clear hM
  go_enter Try.func81, Try.ntmps81
  go_wp2_with fail
  refine HK.out.mono ?_
  rintro e w1 ⟨v1, rfl, h1, h2⟩
  go_wp2_with fail
  go_ret
  exact ⟨v1, rfl, h1, h2⟩

set_option maxRecDepth 100000 in
theorem GItemsMut_any {ord : List Int} (sv : Value) (d : Int) (nl : Bool) (p : Option Addr) (cap : Nat) (l : List (It ord)) (w : World) (hs : SlE intE w sv ord) (hol : ord.length ≤ 2147483647) (hd : FitD d) (hl : ItemsAt w p l) (hlen : l.length ≤ 2147483647) :
    Calls Try.prog 51 #[.agg #[sv, .int .i64 d, .bool nl], .slice p l.length cap] w (OwnPostI (growL l) w) := by
  have HG := Lib.hid (fun w1 (c : Chg (fun _ _ => False) w w1) => grow_any (ord := ord) sv d nl p cap l w1 hd (hs.chg c) hol (hl.chg c) hlen)
  have hdim := hd.dims.1
  unfold GrowPost at HG
  have hgl := growL_take_len l l.length
  rw [List.take_length] at hgl
  have HGL := Lib.hid hgl
  obtain ⟨sa, sc, rfl⟩ : ∃ a c, sv = .slice a ord.length c := hs.form
  clear hs hl hgl
  go_enter Try.func51, Try.ntmps51
  go_wp2_with fail
  refine (HG.out _ ((Chg.refl _ _).alloc _)).mono ?_
  rintro e w2 ⟨k, t, F, rfl, hM, hc2, _, _⟩
  go_wp2_with fail
  refine (ItemsMut_any hM hdim (by have := HGL.out; omega)).mono ?_
  rintro e w3 ⟨v, rfl, how, hc3⟩
  have hc0 := (((Chg.refl (fun _ _ => False) w).alloc _)).trans hc2
  go_wp2_with fail
  go_ret
  exact ⟨v, rfl, how.mono hc0.size, hc0.trans hc3⟩

set_option maxRecDepth 100000 in
theorem gItemsMut_any {ord : List Int} (sv : Value) (d : Int) (nl : Bool) (p : Option Addr) (cap : Nat) (l : List (It ord)) (w : World) (hs : SlE intE w sv ord) (hol : ord.length ≤ 2147483647) (hd : FitD d) (hl : ItemsAt w p l) (hlen : l.length ≤ 2147483647) :
    Calls Try.prog 21 #[.agg #[sv, .int .i64 d, .bool nl], .slice p l.length cap] w fun e w' => e = .returned (.bool true) ∧ Chg (fun _ _ => False) w w' := by
  have HM := Lib.hid (fun w1 (c : Chg (fun _ _ => False) w w1) => GItemsMut_any sv d nl p cap l w1 (hs.chg c) hol hd (hl.chg c) hlen)
  have HT := Lib.hid (fun w1 (c : Chg (fun _ _ => False) w w1) => tree_any sv (rkL ord) p cap l w1 (rank_list sv ord w1 (hs.chg c) hol) (hl.chg c) hlen)
  rw [growL_tree] at HM
  have hlen2 := treeL_len (ltR (rkL ord)) l
  unfold TreePost at HT
  generalize treeL (ltR (rkL ord)) l = L at HM HT hlen2
  obtain ⟨sa, sc, rfl⟩ : ∃ a c, sv = .slice a ord.length c := hs.form
  clear hs hl
  go_enter Try.func21, Try.ntmps21
  go_wp2_with fail
  refine (HM.out _ ((Chg.refl _ _).alloc _)).mono ?_
  rintro e w1 ⟨v1, rfl, how1, hc1⟩
  have hb0 : w1.heap[w.heap.size]? = some (.cells #[.slice sa ord.length sc, .int .i64 d, .bool nl] 24 (0, 0)) := by rw [hc1.block (by simp) (fun _ h => h)]; exact ha_at _ _ rfl
  have m0 := cell_of_block hb0 0
  simp only [List.getElem?_toArray, List.getElem?_cons_zero, List.getElem?_cons_succ] at m0
  have hc01 := ((Chg.refl (fun _ _ => False) w).alloc (.cells #[.slice sa ord.length sc, .int .i64 d, .bool nl] 24)).trans hc1
  clear hb0
  go_wp2_with fail
  refine (HT.out _ hc01).mono ?_
  rintro e w2 ⟨v2, rfl, hv2, hc2⟩
  obtain ⟨q, cap2, rfl, hi, hcap⟩ := hv2.items
  go_wp2_with fail
  refine (equal_item _ _ _ _ (how1.sl.chg hc2) (hi.sl hcap) (by omega)).mono ?_
  rintro e w3 ⟨rfl, hc3⟩
  go_wp2_with fail
  go_ret
  exact ⟨rfl, (hc01.trans hc2).trans hc3⟩

set_option maxRecDepth 100000 in
theorem law_ExactGItemsMut (sv : Value) (os : List Int) (d : Int) (nl : Bool) (p : Option Addr) (cap : Nat) (l : List (Int × Int)) (w : World) (hs : SlE intE w sv os) (hl : ItemsAt w p l) :
    Calls Try.prog 5 #[.agg #[sv, .int .i64 d, .bool nl], .slice p l.length cap] w fun e w' => e = .returned (.bool true) ∧ Chg (fun _ _ => False) w w' := by
  obtain ⟨sa, sc, rfl⟩ : ∃ a c, sv = .slice a os.length c := hs.form
  have hz := fun w1 => zzFits1_any sa os.length sc d nl w1
  by_cases hol : os.length ≤ 2147483647
  rotate_left
  · rw [decide_eq_false hol] at hz
    go_enter Try.func5, Try.ntmps5
    go_wp2_with fail
    refine name_calls (fun w1 => Chg (fun _ _ => False) w w1) (((Chg.refl _ _).alloc _)) ?_
    intro w1 hc1
    refine (hz w1).mono ?_
    rintro e w2 ⟨rfl, hc2⟩
    go_wp2_with fail
    go_ret
    exact ⟨rfl, hc1.trans hc2⟩
  rw [decide_eq_true hol] at hz
  by_cases hlen : l.length ≤ 2147483647
  rotate_left
  · have hlen' : 2147483647 < l.length := by omega
    go_enter Try.func5, Try.ntmps5
    go_wp2_with fail
    refine name_calls (fun w1 => Chg (fun _ _ => False) w w1) (((Chg.refl _ _).alloc _)) ?_
    intro w1 hc1
    refine (hz w1).mono ?_
    rintro e w2 ⟨rfl, hc2⟩
    go_wp2_with fail
    go_ret
    exact ⟨rfl, hc1.trans hc2⟩
  have hn : ¬ 2147483647 < l.length := by omega
  have HEX := Lib.hid (fun q w1 (hq : ItemsAt w1 q exL) => gItemsMut_any (ord := []) (.slice none 0 0) 2 false q 7 exL w1 ⟨none, 0, rfl, Nat.le_refl _, .inl rfl⟩ (by simp) (.inr ⟨by omega, by omega⟩) hq (by decide))
  have HG := Lib.hid (fun hd w1 (c : Chg (fun _ _ => False) w w1) => gItemsMut_any (ord := os) (.slice sa os.length sc) d nl p cap l w1 (hs.chg c) hol hd (hl.chg c) hlen)
  clear hs hl
  have q1 : exL.length = 7 := rfl
  go_enter Try.func5, Try.ntmps5
  go_wp2_with fail
  refine name_calls (fun w1 => Chg (fun _ _ => False) w w1 ∧ w1.heap[w.heap.size]? = some (.cells #[.slice sa os.length sc, .int .i64 d, .bool nl] 24 (0, 0))) ⟨((Chg.refl _ _).alloc _), ha_at _ _ rfl⟩ ?_
  rintro w1 ⟨hc1, hb0⟩
  have m0 := cell_of_block hb0 0
  have m1 := cell_of_block hb0 1
  have m2 := cell_of_block hb0 2
  simp only [List.getElem?_toArray, List.getElem?_cons_zero, List.getElem?_cons_succ] at m0 m1 m2
  clear hb0
  refine (hz w1).mono ?_
  rintro e w2 ⟨rfl, hc2⟩
  replace m0 := hc2.cell (fun h => h) m0
  replace m1 := hc2.cell (fun h => h) m1
  replace m2 := hc2.cell (fun h => h) m2
  go_wp2_with fail
  refine (exMake_any _).mono ?_
  rintro e w3 ⟨rfl, hc3⟩
  replace m0 := hc3.cell (fun h => h) m0
  replace m1 := hc3.cell (fun h => h) m1
  replace m2 := hc3.cell (fun h => h) m2
  go_wp2_with fail
  refine (exItems_any _).mono ?_
  rintro e w4 ⟨q, rfl, hq, hc4⟩
  replace m0 := hc4.cell (fun h => h) m0
  replace m1 := hc4.cell (fun h => h) m1
  replace m2 := hc4.cell (fun h => h) m2
  go_wp2_with fail
  refine (HEX.out q _ hq).mono ?_
  rintro e w5 ⟨rfl, hc5⟩
  replace m0 := hc5.cell (fun h => h) m0
  replace m1 := hc5.cell (fun h => h) m1
  replace m2 := hc5.cell (fun h => h) m2
  have hc04 := (((hc1.trans hc2).trans hc3).trans hc4).trans hc5
  by_cases hd : FitD d
  · go_wp2_with fail
    refine (fits_fit d _ hd).mono ?_
    rintro e w' ⟨rfl, rfl⟩
    go_wp2_with fail
    refine (HG.out hd _ hc04).mono ?_
    rintro e w5 ⟨rfl, hc5⟩
    go_wp2_with fail
    go_ret
    exact ⟨rfl, hc04.trans hc5⟩
  · go_wp2_with fail
    refine (fits_not d _ hd).mono ?_
    rintro e w' ⟨rfl, rfl⟩
    go_wp2_with fail
    go_ret
    exact ⟨rfl, hc04⟩
end Go.Proofs.Ytojplcbkiogcpaa
