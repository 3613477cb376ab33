/- The order copied, the function less made of it; grow. -/
import Derived.Test.YtojplcbkiogcpaaGq
namespace Go.Proofs.Ytojplcbkiogcpaa
set_option linter.unusedSimpArgs false
set_option linter.unusedVariables false
open Go.RowKit
variable {ord : List Int} {k : Kc ord}

def ClonePost (ord : List Int) (w : World) (e : Ending) (w' : World) : Prop :=
  ∃ v', e = .returned v' ∧ Chg (fun _ _ => False) w w' ∧ ((ord = [] ∧ v' = .slice none 0 0) ∨ ∃ b o cap, v' = .slice (some ⟨b, o, none⟩) ord.length cap ∧ w.heap.size ≤ b ∧ b < w'.heap.size ∧ ∀ j x, ord[j]? = some x → w'.cell? ⟨b, o + j, none⟩ = some (.int .i64 x))

theorem flat_int (xs : List Int) (j : Nat) (x : Int) (h : xs[j]? = some x) : (flat intE.par xs)[j]? = some (.int .i64 x) := by
  have h2 : (intE.par.enc x)[0]? = some (.int .i64 x) := rfl
  have := flat_get intE.par h h2
  have e : intE.par.es = 1 := rfl
  rw [e] at this
  simpa using this

set_option maxRecDepth 100000 in
theorem clone_any (v : Value) (w : World) (hs : SlE intE w v ord) (hlen : ord.length ≤ 2147483647) :
    Calls Try.prog 109 #[v] w (ClonePost ord w) := by
  obtain ⟨a, cap, rfl, hcap, hc⟩ := hs
  have qS : ∀ (w : World) (a : Option Addr) (n c : Nat), (binOp .eql 22 (.slice a n c) (.slice none 0 0)).run Try.prog w = .ok (.bool a.isNone) w := fun w a n c => Lib.run_eql_slice_nil w _ _ _ _ _ _ _ Try.underlying22
  rcases a with _ | ad
  · have h0 : ord = [] := by
      rcases hc with h | ⟨b, o, h, _⟩
      · exact h
      · cases h
    have hl0 : ord.length = 0 := by rw [h0]; rfl
    rw [hl0]
    have H0 := Lib.hid h0
    clear hc h0 hl0 hcap
    go_enter Try.func109, Try.ntmps109
    go_wp2
    go_ret
    exact ⟨_, rfl, Chg.refl _ _, .inl ⟨H0.out, rfl⟩⟩
  · have hsrc : (∃ ad', some ad = some ad' ∧ ∀ j u, (flat intE.par ord)[j]? = some u → w.cell? (ad'.add j) = some u) ∨ (ord.length = 0 ∧ flat intE.par ord = []) := by
      rcases hc with h | ⟨b, o, h, hcell⟩
      · exact .inr ⟨by rw [h]; rfl, by rw [h]; rfl⟩
      · refine .inl ⟨ad, rfl, fun j u hj => ?_⟩
        obtain rfl := Option.some.inj h
        rw [add_none]; exact hcell j u hj
    have HS := Lib.hid hsrc
    obtain ⟨n, hn⟩ : ∃ n, ord.length = n := ⟨_, rfl⟩
    have HN := Lib.hid hn
    rw [hn] at hlen ⊢
    clear hc hsrc hn
    obtain ⟨i0, hi0, hz0, hz1, hz2⟩ := info_parts infoInt
    go_enter Try.func109, Try.ntmps109
    have hca : Chg (fun _ _ => False) w (w.alloc (.cells #[] 3)) := (Chg.refl _ _).alloc _
    go_wp2_with (refine wpList_append_opt (by rfl) _ _ _ (by rfl) 3 i0 _ 1 8 Try.underlying22 hi0 hz0 hz1 hz2 rfl w.heap.size 0 0 0 (by rfl) [] ?_ rfl (Nat.le_refl _) (some ad) n _ (by rfl) (flat intE.par ord) ?_ ?_ (flat_one _ _) ?_ ?_ ?_)
    · exact RowAt.of_block (c := #[]) (ha_at _ _ rfl) _ _ (by simp) (by simp) (by simp)
    · have := flat_len intE.par ord
      have e : intE.par.es = 1 := rfl
      rw [this, e, HN.out]
    · rcases HS.out with ⟨ad', h1, h2⟩ | ⟨h1, h2⟩
      · exact .inl ⟨ad', h1, fun j u hj => hca.cell (fun h => h) (h2 j u hj)⟩
      · exact .inr ⟨by rw [← HN.out]; exact h1, h2⟩
    · unfold maxLen; omega
    · omega
    intro b' o' cap' w' happ
    have hrow := happ.row
    rw [List.nil_append] at hrow
    have hpl : w.heap.size ≤ b' := by
      rcases happ.place with h | h
      · have := h.1; omega
      · have h2 := h.1; simp at h2; omega
    have hcc : Chg (fun _ _ => False) w w' := hca.trans' happ.chg (fun _ _ _ h => h) (fun b o hb h => by have := h.1; omega)
    have FIN := Lib.hid (show ClonePost ord w (.returned (.slice (some ⟨b', o', none⟩) n cap')) w' from ⟨_, rfl, hcc, .inr ⟨b', o', cap', by rw [HN.out], hpl, hrow.lt, fun j x hx => hrow.cell (flat_int ord j x hx)⟩⟩)
    clear happ hrow hpl hcc
    go_wp2
    go_ret
    exact FIN.out

def BeforePost (ord : List Int) (w : World) (e : Ending) (w' : World) : Prop :=
  ∃ ob rb, e = .returned (.func (.func 110) #[] #[.pointer (some ⟨ob, 0, none⟩)]) ∧ Chg (fun _ _ => False) w w' ∧ w.heap.size ≤ ob ∧ w.heap.size ≤ rb ∧ ∀ iso ctr, OrdAt (⟨iso, ctr, ob, rb⟩ : Kc ord) w'

theorem before_any' (v : Value) (w : World) (hs : SlE intE w v ord) (hlen : ord.length ≤ 2147483647) :
    Calls Try.prog 84 #[v] w (BeforePost ord w) := by
  have hmf : ∀ (fn : Fn) (first cap : Array Value) (w : World), (Instr.makeFunc fn first cap).run Try.prog w = .ok (.func fn first cap) w := fun _ _ _ _ => rfl
  have HC := Lib.hid (clone_any v w hs hlen)
  clear hs
  go_enter Try.func84, Try.ntmps84
  go_wp2_with fail
  refine HC.out.mono ?_
  rintro e w1 ⟨v', rfl, hc1, hv⟩
  have hsz := hc1.size
  have fin : ∀ w2, w2 = w1.alloc (.cells #[v'] 22) → BeforePost ord w (.returned (.func (.func 110) #[] #[.pointer (some ⟨w1.heap.size, 0, none⟩)])) w2 := by
    rintro w2 rfl
    have hal : Chg (fun _ _ => False) w1 (w1.alloc (.cells #[v'] 22)) := (Chg.refl _ _).alloc _
    rcases hv with ⟨h1, h2⟩ | ⟨b, o, cap, h1, h2, h3, h4⟩
    · exact ⟨w1.heap.size, w1.heap.size, rfl, hc1.trans hal, hsz, hsz, fun iso ctr => ⟨by show w1.heap.size < _; simp, hlen, v', ha_at _ _ rfl, .inl ⟨h1, h2⟩⟩⟩
    · exact ⟨w1.heap.size, b, rfl, hc1.trans hal, hsz, h2, fun iso ctr => ⟨by show b < _; simp; omega, hlen, v', ha_at _ _ rfl, .inr ⟨o, cap, h1, fun j x hx => hal.cell (fun h => h) (h4 j x hx)⟩⟩⟩
  have FIN := Lib.hid fin
  have hv2 : ∃ a n c, v' = .slice a n c := by
    rcases hv with ⟨_, h2⟩ | ⟨b, o, cap, h1, _⟩
    · exact ⟨_, _, _, h2⟩
    · exact ⟨_, _, _, h1⟩
  obtain ⟨a, n, c, rfl⟩ := hv2
  clear fin hv
  go_wp2
  go_ret
  exact FIN.out _ rfl

theorem options_any (v : Value) (d : Int) (b : Bool) (w : World) (hv : ∃ a n c, v = .slice a n c) :
    Calls Try.prog 85 #[.agg #[v, .int .i64 d, .bool b]] w fun e w' => e = .returned (.agg #[.int .i64 d, .bool b]) ∧ Chg (fun _ _ => False) w w' := by
  obtain ⟨a, n, c, rfl⟩ := hv
  go_enter Try.func85, Try.ntmps85
  go_wp2_with fail
  refine name_prop (fun w1 => Chg (fun _ _ => False) w w1 ∧ w1.heap[w.heap.size + 1]? = some (.cells #[.int .i64 d, .bool b] 86 (0, 0))) ⟨?_, ?_⟩ ?_
  · repeat (first | refine Chg.drew ?_ | refine Chg.drewN ?_ _ | refine Chg.alloc ?_ _ | refine Chg.setCell ?_ (.inr (by simp)) _ | exact Chg.refl _ _)
  · exact ha_at _ _ (by simp)
  rintro w1 ⟨hc, hb⟩
  have p0 := cell_of_block hb 0
  have p1 := cell_of_block hb 1
  simp only [List.getElem?_toArray, List.getElem?_cons_zero, List.getElem?_cons_succ] at p0 p1
  refine bodyPost_ret (v := .agg #[.int .i64 d, .bool b]) (by simp [results, Try.results85, go_sem, p0, p1]) rfl ?_
  exact ⟨rfl, hc⟩

def GrowPost (ord : List Int) (d : Int) (w : World) (l : List (It ord)) (e : Ending) (w' : World) : Prop :=
  ∃ (k : Kc ord) (t : Nat) (F : Nat → Prop), e = .returned (.pointer (some ⟨t, 0, none⟩)) ∧ MapIn k (mnD d) (mxD d) w' F t (growL l) ∧ Chg (fun _ _ => False) w w' ∧ (∀ b, F b → w.heap.size ≤ b) ∧ (∀ b, MOwn k t b → w.heap.size ≤ b)

set_option maxRecDepth 100000 in
set_option maxHeartbeats 2000000 in
theorem grow_any (v : Value) (d : Int) (nl : Bool) (p : Option Addr) (cap : Nat) (l : List (It ord)) (w : World) (hd : FitD d) (hs : SlE intE w v ord) (hol : ord.length ≤ 2147483647) (hl : ItemsAt w p l) (hlen : l.length ≤ 2147483647) :
    Calls Try.prog 53 #[.agg #[v, .int .i64 d, .bool nl], .slice p l.length cap] w (GrowPost ord d w l) := by
  have hv : ∃ a n c, v = .slice a n c := by
    obtain ⟨a, c, e, _⟩ := hs
    exact ⟨_, _, _, e⟩
  have HS := Lib.hid hs
  have HL := Lib.hid hl
  have HOP := Lib.hid (fun w1 => options_any v d nl w1 hv)
  have hbf := fun w1 (c : Chg (fun _ _ => False) w w1) => before_any' v w1 (HS.out.chg c) hol
  have HBF := Lib.hid hbf
  obtain ⟨a, n, c, rfl⟩ := hv
  have hdim := hd.dims
  clear hs hl hbf
  go_enter Try.func53, Try.ntmps53
  go_wp2_with fail
  refine name_world (fun w1 => Chg (fun _ _ => False) w w1 ∧ w1.heap[w.heap.size]? = some (.cells #[.slice a n c, .int .i64 d, .bool nl] 24 (0, 0))) ⟨(Chg.refl _ _).alloc _, ha_at _ _ rfl⟩ ?_
  rintro w1 ⟨hc1, hb1⟩
  have q0 := cell_of_block hb1 0
  have q1 := cell_of_block hb1 1
  have q2 := cell_of_block hb1 2
  simp only [List.getElem?_toArray, List.getElem?_cons_zero, List.getElem?_cons_succ] at q0 q1 q2
  have hsz1 := hc1.size
  clear hb1
  refine wp_region_scr (fun w' => w'.cell? ⟨w.heap.size, 0, none⟩ = some (.slice a n c) ∧ w'.cell? ⟨w.heap.size, 1, none⟩ = some (.int .i64 d) ∧ w'.cell? ⟨w.heap.size, 2, none⟩ = some (.bool nl)) (.soft 0 (.soft 1 (.soft 3 (.hard 2 (.hard 4 (.hard 5 (.soft 6 .nil))))))) (by kernel_rfl) (by kernel_rfl) (fun _ _ _ _ _ h => h) ⟨q0, q1, q2⟩ ?_
  repeat
    first
    | (refine scr_soft (by rfl) ?_ ?_ ?_ ?_
       rotate_left
       · simp [Region.wanted, yielded]; done
       · intro w' hS
         try obtain ⟨a1, a2, a3⟩ := hS
         go_simp
         try with_reducible rfl
       simp only [Act.put, List.setIfInBounds_toArray, List.set_cons_zero, List.set_cons_succ])
    | (refine scr_skip (by rfl) ?_ ?_
       · simp [Region.wanted, yielded]; done
       simp only [Act.put, List.setIfInBounds_toArray, List.set_cons_zero, List.set_cons_succ])
  refine scr_hard (by rfl) (by simp [Region.wanted, yielded]) (fun K hK => ?_)
  go_simp
  refine (HBF.out _ hc1.drew).mono ?_
  rintro e w2 ⟨ob, rb, rfl, hc2, hob, hrb, hord⟩
  refine hK _ _ ⟨hc2.cell (fun h => h) q0, hc2.cell (fun h => h) q1, hc2.cell (fun h => h) q2⟩ ?_
  clear hK K
  repeat
    first
    | (refine scr_soft (by rfl) ?_ ?_ ?_ ?_
       rotate_left
       · simp [Region.wanted, yielded]; done
       · intro w' hS
         try obtain ⟨a1, a2, a3⟩ := hS
         go_simp
         try with_reducible rfl
       simp only [Act.put, List.setIfInBounds_toArray, List.set_cons_zero, List.set_cons_succ])
    | (refine scr_skip (by rfl) ?_ ?_
       · simp [Region.wanted, yielded]; done
       simp only [Act.put, List.setIfInBounds_toArray, List.set_cons_zero, List.set_cons_succ])
  refine scr_hard (by rfl) (by simp [Region.wanted, yielded]) (fun K hK => ?_)
  go_simp
  refine (HOP.out w2).mono ?_
  rintro e w3 ⟨rfl, hc3⟩
  have hc13 := hc2.trans hc3
  refine hK _ _ ⟨hc13.cell (fun h => h) q0, hc13.cell (fun h => h) q1, hc13.cell (fun h => h) q2⟩ ?_
  clear hK K
  repeat
    first
    | (refine scr_soft (by rfl) ?_ ?_ ?_ ?_
       rotate_left
       · simp [Region.wanted, yielded]; done
       · intro w' hS
         try obtain ⟨a1, a2, a3⟩ := hS
         go_simp
         try with_reducible rfl
       simp only [Act.put, List.setIfInBounds_toArray, List.set_cons_zero, List.set_cons_succ])
    | (refine scr_skip (by rfl) ?_ ?_
       · simp [Region.wanted, yielded]; done
       simp only [Act.put, List.setIfInBounds_toArray, List.set_cons_zero, List.set_cons_succ])
  refine scr_hard (by rfl) (by simp [Region.wanted, yielded]) (fun K hK => ?_)
  go_simp
  refine (new_any (⟨0, 0, ob, rb⟩ : Kc ord) d nl w3 hd ((hord 0 0).chg hc3 (fun _ h => h) (fun _ h => h))).mono ?_
  rintro e w4 ⟨rfl, hc4, hB4⟩
  have hc14 := hc13.trans hc4
  refine hK _ _ ⟨hc14.cell (fun h => h) q0, hc14.cell (fun h => h) q1, hc14.cell (fun h => h) q2⟩ ?_
  clear hK K
  repeat
    first
    | (refine scr_soft (by rfl) ?_ ?_ ?_ ?_
       rotate_left
       · simp [Region.wanted, yielded]; done
       · intro w' hS
         try obtain ⟨a1, a2, a3⟩ := hS
         go_simp
         try with_reducible rfl
       simp only [Act.put, List.setIfInBounds_toArray, List.set_cons_zero, List.set_cons_succ])
    | (refine scr_skip (by rfl) ?_ ?_
       · simp [Region.wanted, yielded]; done
       simp only [Act.put, List.setIfInBounds_toArray, List.set_cons_zero, List.set_cons_succ])
  refine scr_nil ?_
  have hsz3 := hc13.size
  have hszd : w1.drew.heap.size = w1.heap.size := rfl
  obtain ⟨t, ht⟩ : ∃ t, t = w3.heap.size + 1 := ⟨_, rfl⟩
  obtain ⟨kk, hkk⟩ : ∃ kk : Kc ord, kk = ⟨1, w3.heap.size + 2, ob, rb⟩ := ⟨_, rfl⟩
  rw [← ht, ← hkk] at hB4
  rw [← ht]
  have hown : ∀ b, MOwn kk t b → w.heap.size ≤ b := by
    rw [hkk]
    rintro b (h | h | h)
    · omega
    · have h2 : b = ob := h; omega
    · have h2 : b = rb := h; omega
  have hc04 : Chg (fun _ _ => False) w w4 := (hc1.trans (Chg.refl _ _).drew).trans hc14
  clear ht hkk hord hc4 hc13 hc14 hc2 hc3 q0 q1 q2 HBF HOP HS hob hrb
  go_wp2_with fail
  go_loopw [16] (fun i wr => ∃ (j : Nat) (F : Nat → Prop), j ≤ l.length ∧ i = .int .i64 j ∧ MapIn kk (mnD d) (mxD d) wr F t (growL (l.take j)) ∧ Chg (fun _ _ => False) w wr ∧ (∀ b, F b → w.heap.size ≤ b)) (fun i _ => l.length - (intOf i).toNat)
  case atStart => exact ⟨0, fun _ => False, Nat.zero_le _, rfl, .inl ⟨rfl, fun _ h => h, hB4⟩, hc04, fun _ h => h.elim⟩
  case round =>
    obtain ⟨j, F, hj, rfl, hM, hc, hF⟩ := hrel
    have hsz := hc.size
    by_cases hlt : j < l.length
    · obtain ⟨x, hx⟩ : ∃ x, l[j]? = some x := ⟨_, List.getElem?_eq_getElem hlt⟩
      rcases HL.out.chg hc with hl0 | ⟨b, o, rfl, hcell⟩
      · subst hl0; simp at hlt
      obtain ⟨g0, g1⟩ := hcell j x hx
      have i0 : (0 : Int) ≤ (j : Int) := by omega
      have i1 : (j : Int) < (l.length : Int) := by omega
      have hgl := growL_take_len l j
      have hgt := growL_take hx
      have htl := hown t MOwn.self
      clear hcell hx
      have hs1 := Set_any (hM.chg ((Chg.refl (fun _ _ => False) wr).alloc (.cells #[.int .i64 x.1, .int .i64 x.2] 26))) x (by omega) hdim.1 hdim.2.1 hdim.2.2.1 hdim.2.2.2.1 hdim.2.2.2.2
      unfold aggM at hs1
      have HS1 := Lib.hid hs1
      clear hs1
      go_wp2_with fail
      refine HS1.out.mono ?_
      rintro e w2 ⟨hret, F', hM2, hc2, hF2⟩
      have hc02 : Chg (fun _ _ => False) w w2 := (hc.trans ((Chg.refl (fun _ _ => False) wr).alloc _)).trans' hc2 (fun _ _ _ h => h) (fun b o hb h => by
        rcases h with h | h
        · have := hF b h; omega
        · omega)
      have hF2' : ∀ b, F' b → w.heap.size ≤ b := fun b hb => by
        rcases hF2 b hb with h | h
        · exact hF b h
        · have h2 : wr.heap.size ≤ (wr.alloc (.cells #[.int .i64 x.1, .int .i64 x.2] 26)).heap.size := (((Chg.refl (fun _ _ => False) wr).alloc _)).size
          omega
      rcases hret with ⟨y, _, rfl⟩ | ⟨_, rfl⟩
      all_goals
        go_wp2_with fail
        go_roundw
        case rel => exact ⟨j + 1, F', by omega, by go_num, by rw [hgt]; exact hM2, hc02, hF2'⟩
        case measure => simp [intOf]; omega
    · obtain rfl : j = l.length := by omega
      go_wp2_with fail
      go_ret
      exact ⟨kk, t, F, rfl, by rw [List.take_length] at hM; exact hM, hc, hF, hown⟩
end Go.Proofs.Ytojplcbkiogcpaa
