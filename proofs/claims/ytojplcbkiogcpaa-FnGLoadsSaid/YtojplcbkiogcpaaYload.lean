/- GSet and GLoad: what each item replaced, and the items. -/
import Derived.Deep.Cut
import Derived.Laws.MakeOwn
import Derived.Test.YtojplcbkiogcpaaEl
import Derived.Test.YtojplcbkiogcpaaWm
import Derived.Test.YtojplcbkiogcpaaY1
namespace Go.Proofs.Ytojplcbkiogcpaa
set_option linter.unusedSimpArgs false
set_option linter.unusedVariables false
open Go.RowKit

section
variable {α : Type}

/-- The counts of the nodes S changed by δ. -/
def bmp (H : Nat → Option (NodeR α)) (S : List Nat) (δ : Int) : Nat → Option (NodeR α) := fun m => if m ∈ S then (H m).map (fun r => { r with cnt := r.cnt + δ }) else H m

theorem bmp_nil (H : Nat → Option (NodeR α)) (δ : Int) : bmp H [] δ = H := by funext m; simp [bmp]
theorem bmp_out {H : Nat → Option (NodeR α)} {S : List Nat} {δ : Int} {m : Nat} (h : m ∉ S) : bmp H S δ m = H m := if_neg h
theorem bmp_in {H : Nat → Option (NodeR α)} {S : List Nat} {δ : Int} {m : Nat} {r : NodeR α} (h : m ∈ S) (hr : H m = some r) : bmp H S δ m = some { r with cnt := r.cnt + δ } := by simp [bmp, h, hr]

theorem bmp_snoc {H : Nat → Option (NodeR α)} {S : List Nat} {δ : Int} {n : Nat} {r : NodeR α} (hr : H n = some r) : upd (bmp H S δ) n { r with cnt := r.cnt + δ } = bmp H (S ++ [n]) δ := by
  funext m
  by_cases e : m = n
  · subst e; rw [upd_same, bmp_in (by simp) hr]
  · rw [upd_ne _ _ e]; unfold bmp; simp [e]

theorem bmp_cons {H : Nat → Option (NodeR α)} {S : List Nat} {δ : Int} {n : Nat} {r : NodeR α} (hn : n ∉ S) (hr : H n = some r) : upd (bmp H (n :: S) δ) n r = bmp H S δ := by
  funext m
  by_cases e : m = n
  · subst e; rw [upd_same, bmp_out hn, hr]
  · rw [upd_ne _ _ e]; unfold bmp; simp [e]

/-- A count is set. -/
theorem Fam.setCnt {p : Par α} {w : World} {F : Nat → Prop} {H : Nat → Option (NodeR α)} (h : Fam p w F H) {n : Nat} {r : NodeR α} (hn : H n = some r) (c : Int) : Fam p (w.setCell ⟨n, 1, none⟩ (.int .i64 c)) F (upd H n { r with cnt := c }) ∧ Chg (fun b _ => F b) w (w.setCell ⟨n, 1, none⟩ (.int .i64 c)) := by
  obtain ⟨l, h1, _, _, h4⟩ := h.work hn
  obtain ⟨g1, g2⟩ := h4 _ _ _ ((Run.start h1).setCnt c)
  refine ⟨g1.mono (fun b hb => ?_) (fun b hb => ?_), g2⟩
  · rcases hb with hb | ⟨hb1, hb2⟩
    · exact hb
    · have h3 : (w.setCell ⟨n, 1, none⟩ (.int .i64 c)).heap.size = w.heap.size := by simp
      omega
  · have h3 : (w.setCell ⟨n, 1, none⟩ (.int .i64 c)).heap.size = w.heap.size := by simp
    have := h.lt hb
    omega

/-- The nodes on the road along the last children. -/
def spineR : (h : Nat) → BT α h → List Nat
  | 0, t => [t.1]
  | h + 1, t => t.1 :: (match t.2.2.getLast? with | some c => spineR h c | none => [])

theorem spineR_cons {h : Nat} {t : BT α (h + 1)} {c : BT α h} (hc : t.2.2.getLast? = some c) : spineR (h + 1) t = rid t :: spineR h c := by
  show t.1 :: (match t.2.2.getLast? with | some c => spineR h c | none => []) = _
  rw [hc]; rfl

theorem spineR_sub : {h : Nat} → {t : BT α h} → ∀ a ∈ spineR h t, a ∈ ids h t
  | 0, t, a, ha => ha
  | h + 1, t, a, ha => by
    change a ∈ t.1 :: (match t.2.2.getLast? with | some c => spineR h c | none => []) at ha
    rcases List.mem_cons.1 ha with rfl | ha
    · exact List.mem_cons_self
    · cases hg : t.2.2.getLast? with
      | none => rw [hg] at ha; simp at ha
      | some c =>
        rw [hg] at ha
        exact ids_kid (List.mem_of_getLast? hg) (spineR_sub a ha)

theorem spineR_head {h : Nat} {t : BT α (h + 1)} {c : BT α h} (hd : (ids (h + 1) t).Nodup) (hc : t.2.2.getLast? = some c) : rid t ∉ spineR h c := fun hm =>
  nodup_root hd (List.mem_of_getLast? hc) (spineR_sub _ hm)

/-- x has come behind the last item of the subtree. -/
structure AppIn (mn mx : Nat) (H : Nat → Option (NodeR α)) (h : Nat) (T : BT α h) (x : α) (T' : BT α h) : Prop where
  isT : IsT H h T'
  rid' : rid T' = rid T
  ids' : ids h T' = ids h T
  sh : Sh mn mx h T'
  len : (its T).length ≤ (its T').length
  list : toL h T' = toL h T ++ [x]

theorem app_leaf {mn mx : Nat} {H : Nat → Option (NodeR α)} {T : BT α 0} {x : α} (hl : T.2.length < mx) (hr : H (rid T) = some ⟨(T.2.length : Int) + 1, T.2 ++ [x], none⟩) : AppIn mn mx H 0 T x ((T.1, T.2 ++ [x]) : BT α 0) := by
  refine ⟨?_, rfl, rfl, ?_, ?_, rfl⟩
  · show H (rid T) = some (⟨((T.2 ++ [x]).length : Nat), T.2 ++ [x], none⟩ : NodeR α)
    rw [hr]; simp
  · show (T.2 ++ [x]).length ≤ mx
    simp; omega
  · show T.2.length ≤ (T.2 ++ [x]).length
    simp

theorem app_step {mn mx : Nat} {H H' : Nat → Option (NodeR α)} {h : Nat} {T : BT α (h + 1)} {c c' : BT α h} {x : α} (hT : IsT H (h + 1) T) (hd : (ids (h + 1) T).Nodup) (hs : Sh mn mx (h + 1) T) (hc : T.2.2.getLast? = some c) (hA : AppIn mn mx H' h c x c')
    (hr : H' (rid T) = some { recOf (h + 1) T with cnt := (recOf (h + 1) T).cnt + 1 }) (ho : ∀ a, a ∈ ids (h + 1) T → a ∉ ids h c → a ≠ rid T → H' a = H a) : ∃ T', AppIn mn mx H' (h + 1) T x T' := by
  obtain ⟨n, xs, ts⟩ := T
  obtain ⟨L, rfl⟩ : ∃ L, ts = L ++ [c] := by
    have hc' : ts.getLast? = some c := hc
    obtain ⟨L, hL⟩ := List.getLast?_eq_some_iff.1 hc'
    exact ⟨L, hL⟩
  obtain ⟨h1, h2, h3⟩ := hs
  change xs.length ≤ mx at h1
  change (L ++ [c]).length = xs.length + 1 at h2
  have hlL : L.length = xs.length := by simpa using h2
  have e1 : toL (h + 1) ((n, xs, L ++ [c]) : BT α (h + 1)) = pre xs (L.map (toL h)) ++ toL h c := by
    show inter xs ((L ++ [c]).map (toL h)) = _
    rw [inter_split L.length xs _ (toL h c) (by simpa using h2) (by simp)]
    rw [hlL, List.take_length, List.drop_length]
    simp [post, ← hlL, List.take_append_of_le_length]
  have e2 : toL (h + 1) ((n, xs, L ++ [c']) : BT α (h + 1)) = toL (h + 1) ((n, xs, L ++ [c]) : BT α (h + 1)) ++ [x] := by
    rw [e1]
    show inter xs ((L ++ [c']).map (toL h)) = _
    rw [inter_split L.length xs _ (toL h c') (by simp [hlL]) (by simp)]
    rw [hlL, List.take_length, List.drop_length, hA.list]
    simp [post, ← hlL, List.take_append_of_le_length]
  refine ⟨(n, xs, L ++ [c']), ⟨?_, fun d hdm => ?_⟩, rfl, ?_, ⟨h1, ?_, fun d hdm => ?_⟩, Nat.le_refl _, e2⟩
  · show H' n = some (⟨((toL (h + 1) ((n, xs, L ++ [c']) : BT α (h + 1))).length : Nat), xs, some ((L ++ [c']).map fun c => some (rid c))⟩ : NodeR α)
    rw [e2]
    have hr' : H' n = some (⟨((toL (h + 1) ((n, xs, L ++ [c]) : BT α (h + 1))).length : Nat) + 1, xs, some ((L ++ [c]).map fun c => some (rid c))⟩ : NodeR α) := hr
    rw [hr']
    simp [hA.rid']
  · change d ∈ L ++ [c'] at hdm
    rcases List.mem_append.1 hdm with hdL | hdm
    · refine (hT.2 d (List.mem_append.2 (.inl hdL))).congr fun a ha => ?_
      have ap := fun {a : Nat} (ha : a ∈ ids h c) => nodup_apart (n := n) (xs := xs) (L := L) (R := []) (c := c) hd ha
      refine ho a (ids_kid (List.mem_append.2 (.inl hdL)) ha) (fun hac => (ap hac).2.1 (List.mem_flatMap.2 ⟨d, hdL, ha⟩)) (fun e => ?_)
      exact nodup_root hd (List.mem_append.2 (.inl hdL) : d ∈ ((n, xs, L ++ [c]) : BT α (h + 1)).2.2) (e ▸ ha)
    · rw [List.mem_singleton.1 hdm]; exact hA.isT
  · show n :: (L ++ [c']).flatMap (ids h) = n :: (L ++ [c]).flatMap (ids h)
    simp [hA.ids']
  · show (L ++ [c']).length = xs.length + 1
    simpa using h2
  · change d ∈ L ++ [c'] at hdm
    rcases List.mem_append.1 hdm with hdL | hdm
    · exact h3 d (List.mem_append.2 (.inl hdL))
    · rw [List.mem_singleton.1 hdm]
      have := h3 c (List.mem_append.2 (.inr (List.mem_singleton.2 rfl)))
      exact ⟨Nat.le_trans this.1 hA.len, hA.sh⟩

/-- The item behind all others. -/
theorem insL_last {lt : α → α → Bool} {x : α} {l : List α} (h : ∀ a ∈ l, lt a x = true) : insL lt x l = l ++ [x] ∧ fndL lt x l = none := by
  have h1 := insL_pre (lt := lt) (x := x) (A := l) (B := []) h
  have h2 := fndL_pre (lt := lt) (x := x) (A := l) (B := []) h
  rw [List.append_nil] at h1 h2
  exact ⟨by rw [h1]; rfl, by rw [h2]; rfl⟩

theorem srt_last {lt : α → α → Bool} (s : Swo lt) {l : List α} {x y : α} (hs : Srt lt l) (hl : l.getLast? = some y) (hy : lt y x = true) : ∀ a ∈ l, lt a x = true := by
  obtain ⟨L, rfl⟩ := List.getLast?_eq_some_iff.1 hl
  intro a ha
  rcases List.mem_append.1 ha with h | h
  · exact s.trans ((List.pairwise_append.1 hs).2.2 a h y (List.mem_singleton.2 rfl)) hy
  · rw [List.mem_singleton.1 h]; exact hy
end
end Go.Proofs.Ytojplcbkiogcpaa

namespace Go.Proofs.Ytojplcbkiogcpaa
set_option linter.unusedSimpArgs false
set_option linter.unusedVariables false
open Go.RowKit


set_option maxRecDepth 100000 in
set_option maxHeartbeats 4000000 in
theorem load_any {ord : List Int} {k : Kc ord} {mn mx : Nat} {w : World} {F : Nat → Prop} {t : Nat} {l : List (It ord)} (hM : MapIn k mn mx w F t l) (x : It ord) (hl : l.length < 100000000000000) (hmn : 1 ≤ mn) (hmx : 3 ≤ mx) (hmx2 : mx ≤ 1000) (hmh : mn ≤ mx / 2) (hmh2 : mn ≤ mx - (mx / 2 + 1)) :
    Calls Try.prog 63 #[.pointer (some ⟨t, 0, none⟩), aggM x] w (SetPost k mn mx w F t l x) := by
  have hol : ∀ b, MOwn k t b → b < w.heap.size := fun b hb => hM.own hb
  have hfl : ∀ b, F b → b < w.heap.size := fun b hb => hM.famLt hb
  have htl := hol t MOwn.self
  have HOL := Lib.hid hol
  have HFL := Lib.hid hfl
  clear hol hfl
  unfold aggM
  rcases hM with ⟨rfl, hnF, hB⟩ | ⟨H, h, T, hI, hB, rfl, h1⟩
  · have HB := Lib.hid hB
    have HNF := Lib.hid hnF
    clear hB hnF
    go_enter Try.func63, Try.ntmps63
    go_wp2_with fail
    refine name_calls (fun w1 => Chg (fun _ _ => False) w w1 ∧ w1.heap[w.heap.size]? = some (.cells #[.int .i64 x.1, .int .i64 x.2] 26 (0, 0)) ∧ w1.heap[w.heap.size + 1]? = some (.cells #[.int .i64 0, .int .i64 0] 26 (0, 0))) ⟨((Chg.refl _ _).alloc _).alloc _, ?_, ?_⟩ ?_
    · rw [ha_lt _ _ (by simp)]; exact ha_at _ _ rfl
    · exact ha_at _ _ (by simp)
    rintro w1 ⟨hc1, hbk, hbr⟩
    refine (lock_any t true _).mono ?_
    rintro e w' ⟨rfl, rfl⟩
    have hm := HB.out.chg hc1 (fun _ _ _ h => h)
    have c2 : w1.cell? ⟨t, 2, none⟩ = some (.pointer none) := hm.c2
    have q0 := cell_of_block hbk 0
    have q1 := cell_of_block hbk 1
    simp only [List.getElem?_toArray, List.getElem?_cons_zero, List.getElem?_cons_succ] at q0 q1
    have hcX : Chg (fun b _ => F b) w w1 := hc1.mono (fun _ _ _ h => h.elim)
    have hMX : MapIn k mn mx w1 F t [] := .inl ⟨rfl, HNF.out, hm⟩
    have HBR := Lib.hid hbr
    have HMX := Lib.hid hMX
    clear hm hbk hbr hMX
    go_wp2_with fail
    refine (set_any HMX.out x hl hmn hmx hmx2 hmh hmh2).mono ?_
    rintro e w2 ⟨hret, F', hM2, hc2, hF2⟩
    have hltX := heap_lt HBR.out
    have hbp2 : w2.heap[w.heap.size + 1]? = some (.cells #[.int .i64 0, .int .i64 0] 26 (0, 0)) := by
      rw [hc2.block hltX (fun _ h => by
        rcases h with h | h
        · have := HFL.out _ h; omega
        · omega)]
      exact HBR.out
    have p0 := cell_of_block hbp2 0
    have p1 := cell_of_block hbp2 1
    have pf0 := frozen_of_block hbp2 0
    have pf1 := frozen_of_block hbp2 1
    simp only [List.getElem?_toArray, List.getElem?_cons_zero, List.getElem?_cons_succ] at p0 p1
    have hszX := hcX.size
    have hres : ∀ wl, Chg (fun b _ => b = w.heap.size + 1) w2 wl → SetPost k mn mx w F t [] x e wl := by
      intro wl hcl
      refine ⟨hret, F', hM2.chgA hcl (fun b _ hb e => ?_) (fun b _ hb e => by have := HOL.out b hb; omega), ?_, fun b hb => ?_⟩
      · rcases hF2 b hb with h | h
        · have := HFL.out _ h; omega
        · omega
      · refine ((hcX.mono (B := fun b _ => F b ∨ b = t) (fun _ _ _ h => .inl h)).trans' hc2 (B := fun b _ => F b ∨ b = t) (fun _ _ _ h => h) (fun _ _ _ h => h)).trans' hcl (fun _ _ _ h => h) (fun b o hb e => by omega)
      · rcases hF2 b hb with h | h
        · exact .inl h
        · exact .inr (by omega)
    have HRES := Lib.hid hres
    have HBP2 := Lib.hid hbp2
    clear hres hbp2
    have hret2 := hret
    rcases hret2 with ⟨y, _, rfl⟩ | ⟨_, rfl⟩
    · go_wp2_with fail
      refine name_prop (fun wl => Chg (fun b _ => b = w.heap.size + 1) w2 wl ∧ wl.heap[w.heap.size + 1]? = some (.cells #[.int .i64 y.1, .int .i64 y.2] 26 (0, 0))) ⟨?_, ?_⟩ ?_
      · repeat (first | refine Chg.drew ?_ | refine Chg.drewN ?_ _ | refine Chg.setCell ?_ (.inl rfl) _ | exact Chg.refl _ _)
      · exact blk2 HBP2.out _ _
      clear p0 p1 pf0 pf1
      rintro wl ⟨hcl, hbl⟩
      have p0 := cell_of_block hbl 0
      have p1 := cell_of_block hbl 1
      simp only [List.getElem?_toArray, List.getElem?_cons_zero, List.getElem?_cons_succ] at p0 p1
      refine bodyPost_ret (v := .tuple #[.agg #[.int .i64 y.1, .int .i64 y.2], .bool true]) (by simp [results, Try.results63, go_sem, p0, p1]) rfl ?_
      exact HRES.out _ hcl
    · go_wp2_with fail
      refine name_prop (fun wl => Chg (fun b _ => b = w.heap.size + 1) w2 wl ∧ wl.heap[w.heap.size + 1]? = some (.cells #[.int .i64 0, .int .i64 0] 26 (0, 0))) ⟨?_, ?_⟩ ?_
      · repeat (first | refine Chg.drew ?_ | refine Chg.drewN ?_ _ | refine Chg.setCell ?_ (.inl rfl) _ | exact Chg.refl _ _)
      · exact blk2 HBP2.out _ _
      clear p0 p1 pf0 pf1
      rintro wl ⟨hcl, hbl⟩
      have p0 := cell_of_block hbl 0
      have p1 := cell_of_block hbl 1
      simp only [List.getElem?_toArray, List.getElem?_cons_zero, List.getElem?_cons_succ] at p0 p1
      refine bodyPost_ret (v := .tuple #[.agg #[.int .i64 0, .int .i64 0], .bool false]) (by simp [results, Try.results63, go_sem, p0, p1]) rfl ?_
      exact HRES.out _ hcl
  · have HB := Lib.hid hB
    have HI := Lib.hid hI
    have HOUT := Lib.hid hI.out
    have hbig0 := hI.big
    clear hB hI
    go_enter Try.func63, Try.ntmps63
    go_wp2_with fail
    refine name_calls (fun w1 => Chg (fun _ _ => False) w w1 ∧ w1.heap[w.heap.size]? = some (.cells #[.int .i64 x.1, .int .i64 x.2] 26 (0, 0)) ∧ w1.heap[w.heap.size + 1]? = some (.cells #[.int .i64 0, .int .i64 0] 26 (0, 0))) ⟨((Chg.refl _ _).alloc _).alloc _, ?_, ?_⟩ ?_
    · rw [ha_lt _ _ (by simp)]; exact ha_at _ _ rfl
    · exact ha_at _ _ (by simp)
    rintro w1 ⟨hc1, hbk, hbr⟩
    refine (lock_any t true _).mono ?_
    rintro e w' ⟨rfl, rfl⟩
    have hm := HB.out.chg hc1 (fun _ _ _ h => h)
    have c2 : w1.cell? ⟨t, 2, none⟩ = some (.pointer (some ⟨rid T, 0, none⟩)) := hm.c2
    have c0 := hm.at_.c0
    obtain ⟨l0, hn0⟩ := (HI.out.fam.chg hc1 (fun _ _ _ h => h)).node HI.out.isT.root
    have n0 := hn0.c0
    have HBK := Lib.hid hbk
    have HBR := Lib.hid hbr
    clear hm hn0 hbk hbr
    go_wp2_with fail
    refine (isoLoad_any t (rid T) k _ _ _ c2 n0 c0).mono ?_
    rintro e w2 ⟨rfl, m, hw1⟩
    have hc12 : Chg (fun _ _ => False) w1 w2 := by rw [hw1]; exact (Chg.refl _ _).drewN _
    have hc12' := hc12.mono (B := fun b _ => F b) (fun _ _ _ h => h.elim)
    clear hw1 c2 c0 n0
    go_wp2_with fail
    go_loopw [6] (fun nv wr => ∃ h', ∃ T' : BT (It ord) h', ∃ P : List Nat, nv = .pointer (some ⟨rid T', 0, none⟩) ∧ IsT H h' T' ∧ Sh mn mx h' T' ∧ 1 ≤ (its T').length ∧ (ids h' T').Nodup ∧ (toL h' T').length ≤ 100000000000000 ∧ (toL h' T').getLast? = (toL h T).getLast? ∧ spineR h T = P ++ spineR h' T' ∧ (∀ a ∈ P, a ∉ ids h' T') ∧ (∀ a ∈ ids h' T', a ∈ ids h T) ∧
      Hid (∀ H'' T'', AppIn mn mx H'' h' T' x T'' → (∀ a ∈ P, H'' a = bmp H P 1 a) → (∀ a ∈ ids h T, a ∉ P → a ∉ ids h' T' → H'' a = H a) → ∃ Tf, AppIn mn mx H'' h T x Tf) ∧ Fam (parM k) wr F (bmp H P 1) ∧ Chg (fun b _ => F b) w1 wr) (fun nv _ => mOf H nv)
    case atStart => exact ⟨h, T, [], rfl, HI.out.isT, HI.out.sh, h1, HI.out.nd, HI.out.big, rfl, rfl, (fun _ h => by cases h), (fun _ h => h), Lib.hid (fun H'' T'' hA _ _ => ⟨T'', hA⟩), by rw [bmp_nil]; exact (HI.out.fam.chg hc1 (fun _ _ _ h => h)).chg hc12 (fun _ _ _ h => h), hc12'⟩
    case round =>
      obtain ⟨h', T', P, rfl, hT, hs, hit, hnd, hbg, hla, hsp, hPn, hsub, HKC, hfam, hc⟩ := hrel
      match h', T', hT, hs, hit, hnd, hbg, hla, hsp, hPn, hsub, HKC, hfam with
      | 0, T', hT, hs, hit, hnd, hbg, hla, hsp, hPn, hsub, HKC, hfam =>
        have hrp : rid T' ∉ P := fun hm => hPn _ hm (rid_mem T')
        have hrec : bmp H P 1 (rid T') = some (recOf (0) T') := (bmp_out hrp).trans hT.root
        obtain ⟨l2, hn2⟩ := hfam.node hrec
        have n1 := hn2.c1
        have fz := hn2.fz 1
        rw [recOf_cnt] at n1
        have hsc := hfam.setCnt hrec ((recOf (0) T').cnt + 1)
        rw [bmp_snoc hT.root, recOf_cnt] at hsc
        have HSC := Lib.hid hsc
        have s1 : IntKind.i64.wrap (((toL (0) T').length : Int) + 1) = ((toL (0) T').length : Int) + 1 := IntWalk.i64_in _ (by omega)
        have HRB := Lib.hid hc
        have HSP := Lib.hid hsp
        have HLA := Lib.hid hla
        clear hsc hn2 hfam hrec hc hsp hla
        go_wp2_with fail
        refine name_calls (fun w3 => Fam (parM k) w3 F (bmp H (P ++ [rid T']) 1) ∧ Chg (fun b _ => F b) wr w3) ⟨HSC.out.1, HSC.out.2⟩ ?_
        rintro w3 ⟨hf3, hc3⟩
        have hcw3 := HRB.out.trans hc3
        have hrec3 : bmp H (P ++ [rid T']) 1 (rid T') = some { recOf (0) T' with cnt := (recOf (0) T').cnt + 1 } := bmp_in (List.mem_append.2 (.inr (List.mem_singleton.2 rfl))) hT.root
        clear n1 fz s1 HSC
        obtain ⟨l3, hn3, hblk3⟩ := hf3.nodeB hrec3
        have n3 := hn3.c3n rfl
        have n2 : w3.cell? ⟨rid T', 2, none⟩ = some (.slice (some ⟨l3.ib, l3.io, none⟩) T'.2.length l3.ic) := hn3.c2
        have hX0 := hc1.mono (B := fun b _ => F b) (fun _ _ _ h => h.elim)
        have hcX := hX0.trans hcw3
        have e7 := (HI.out.map.chg hcX (fun b _ hm h => HOUT.out b hm h)).c7
        have hit' : 1 ≤ T'.2.length := hit
        have hlen : T'.2.length ≤ mx := hs
        have hspz : spineR h T = P ++ [rid T'] := HSP.out
        have HSPZ := Lib.hid hspz
        have HFZ := Lib.hid hf3
        have hn3' := Lib.hid hn3
        have HREC3 := Lib.hid hrec3
        clear hspz hn3
        go_wp2_with fail
        refine (leaf_any _ none _ n3).mono ?_
        rintro e w' ⟨rfl, rfl⟩
        by_cases hroom : T'.2.length < mx
        rotate_left
        · have hrm : ¬ (T'.2.length : Int) < (mx : Int) := by omega
          have ct2 : w3.cell? ⟨t, 2, none⟩ = some (.pointer (some ⟨rid T, 0, none⟩)) := (HB.out.chg hcX (fun b o hm h => HOUT.out b hm h)).c2
          go_wp2_with fail
          go_quiet (fail)
          go_wp2_with fail
          clear n2 n3 e7 ct2
          go_loopw [6] (fun nv wr => ∃ h', ∃ T' : BT (It ord) h', nv = .pointer (some ⟨rid T', 0, none⟩) ∧ IsT H h' T' ∧ Sh mn mx h' T' ∧ 1 ≤ (its T').length ∧ (ids h' T').Nodup ∧ (toL h' T').length ≤ 100000000000000 ∧ Fam (parM k) wr F (bmp H (spineR h' T') 1) ∧ Chg (fun b _ => F b) w1 wr) (fun nv _ => mOf H nv)
          case atStart => exact ⟨h, T, rfl, HI.out.isT, HI.out.sh, h1, HI.out.nd, HI.out.big, by rw [HSPZ.out]; exact HFZ.out.chg ((Chg.refl (fun _ _ => False) _).drewN _) (fun _ _ _ h => h), hcw3.drewN _⟩
          case round =>
            obtain ⟨h', T', rfl, hT, hs, hit, hnd, hbg, hfam, hc⟩ := hrel
            match h', T', hT, hs, hit, hnd, hbg, hfam with
            | 0, T', hT, hs, hit, hnd, hbg, hfam =>
              have hrec := bmp_in (δ := 1) (show rid T' ∈ spineR (0) T' from List.mem_singleton.2 rfl) hT.root
              obtain ⟨l2, hn2⟩ := hfam.node hrec
              have n1 : wr.cell? ⟨rid T', 1, none⟩ = some (.int .i64 ((recOf (0) T').cnt + 1)) := hn2.c1
              have fz := hn2.fz 1
              rw [recOf_cnt] at n1
              have hsc := hfam.setCnt hrec (((toL (0) T').length : Nat) : Int)
              have HSC := Lib.hid hsc
              have s1 : IntKind.i64.wrap (((toL (0) T').length : Int) + 1 - 1) = ((toL (0) T').length : Int) := by rw [IntWalk.i64_in _ (by omega)]; omega
              have s2 : ((toL (0) T').length : Int) + 1 - 1 = ((toL (0) T').length : Int) := by omega
              have HRB := Lib.hid hc
              clear hsc hn2 hfam hrec hc
              go_wp2_with fail
              try rw [s2]
              refine name_calls (fun w4 => Fam (parM k) w4 F (upd (bmp H (spineR (0) T') 1) (rid T') { recOf (0) T' with cnt := ((toL (0) T').length : Nat) }) ∧ Chg (fun b _ => F b) wr w4) ⟨HSC.out.1, HSC.out.2⟩ ?_
              rintro w4 ⟨hf4, hc4⟩
              have hrc : ({ recOf (0) T' with cnt := ((toL (0) T').length : Nat) } : NodeR (It ord)) = recOf (0) T' := by rw [← recOf_cnt]
              rw [hrc] at hf4
              have hcw4 := HRB.out.trans hc4
              clear n1 fz s1 s2 HSC hrc
              have hf5 : Fam (parM k) w4 F H := by
                have := bmp_cons (δ := (1 : Int)) (S := []) (H := H) (n := rid T') (List.not_mem_nil) hT.root
                rw [bmp_nil] at this
                rw [← this]; exact hf4
              obtain ⟨l4, hn4⟩ := hf5.node hT.root
              have n3 := hn4.c3n rfl
              have hX0 := hc1.mono (B := fun b _ => F b) (fun _ _ _ h => h.elim)
              have hcX := hX0.trans hcw4
              have hbX : w4.heap[w.heap.size]? = some (.cells #[.int .i64 x.1, .int .i64 x.2] 26 (0, 0)) := by rw [hcw4.block (heap_lt HBK.out) (fun _ h => by have := HFL.out _ h; omega)]; exact HBK.out
              have hbR : w4.heap[w.heap.size + 1]? = some (.cells #[.int .i64 0, .int .i64 0] 26 (0, 0)) := by rw [hcw4.block (heap_lt HBR.out) (fun _ h => by have := HFL.out _ h; omega)]; exact HBR.out
              have q0 := cell_of_block hbX 0
              have q1 := cell_of_block hbX 1
              simp only [List.getElem?_toArray, List.getElem?_cons_zero, List.getElem?_cons_succ] at q0 q1
              have hMX : MapIn k mn mx w4 F t (toL h T) := .inr ⟨H, h, T, ⟨hf5, HI.out.map.chg hcX (fun b _ hm h => HOUT.out b hm h), HI.out.out, HI.out.isT, HI.out.nd, HI.out.sh, HI.out.srt, HI.out.big, HI.out.m3, HI.out.m1000, HI.out.mh, HI.out.mh2⟩, HB.out.chg hcX (fun b _ hm h => HOUT.out b hm h), rfl, h1⟩
              have HMX := Lib.hid hMX
              have HBR4 := Lib.hid hbR
              clear hMX hbX hbR hn4 hf5 hf4
              go_wp2_with fail
              refine (leaf_any _ none _ n3).mono ?_
              rintro e w' ⟨rfl, rfl⟩
              go_wp2_with fail
              refine (set_any HMX.out x hl hmn hmx hmx2 hmh hmh2).mono ?_
              rintro e w2 ⟨hret, F', hM2, hc2, hF2⟩
              have hltX := heap_lt HBR4.out
              have hbp2 : w2.heap[w.heap.size + 1]? = some (.cells #[.int .i64 0, .int .i64 0] 26 (0, 0)) := by
                rw [hc2.block hltX (fun _ h => by
                  rcases h with h | h
                  · have := HFL.out _ h; omega
                  · omega)]
                exact HBR4.out
              have p0 := cell_of_block hbp2 0
              have p1 := cell_of_block hbp2 1
              have pf0 := frozen_of_block hbp2 0
              have pf1 := frozen_of_block hbp2 1
              simp only [List.getElem?_toArray, List.getElem?_cons_zero, List.getElem?_cons_succ] at p0 p1
              have hszX := hcX.size
              have hres : ∀ wl, Chg (fun b _ => b = w.heap.size + 1) w2 wl → SetPost k mn mx w F t (toL h T) x e wl := by
                intro wl hcl
                refine ⟨hret, F', hM2.chgA hcl (fun b _ hb e => ?_) (fun b _ hb e => by have := HOL.out b hb; omega), ?_, fun b hb => ?_⟩
                · rcases hF2 b hb with h | h
                  · have := HFL.out _ h; omega
                  · omega
                · refine ((hcX.mono (B := fun b _ => F b ∨ b = t) (fun _ _ _ h => .inl h)).trans' hc2 (B := fun b _ => F b ∨ b = t) (fun _ _ _ h => h) (fun _ _ _ h => h)).trans' hcl (fun _ _ _ h => h) (fun b o hb e => by omega)
                · rcases hF2 b hb with h | h
                  · exact .inl h
                  · exact .inr (by omega)
              have HRES := Lib.hid hres
              have HBP2 := Lib.hid hbp2
              clear hres hbp2
              have hret2 := hret
              rcases hret2 with ⟨y, _, rfl⟩ | ⟨_, rfl⟩
              · go_wp2_with fail
                refine name_prop (fun wl => Chg (fun b _ => b = w.heap.size + 1) w2 wl ∧ wl.heap[w.heap.size + 1]? = some (.cells #[.int .i64 y.1, .int .i64 y.2] 26 (0, 0))) ⟨?_, ?_⟩ ?_
                · repeat (first | refine Chg.drew ?_ | refine Chg.drewN ?_ _ | refine Chg.setCell ?_ (.inl rfl) _ | exact Chg.refl _ _)
                · exact blk2 HBP2.out _ _
                clear p0 p1 pf0 pf1
                rintro wl ⟨hcl, hbl⟩
                have p0 := cell_of_block hbl 0
                have p1 := cell_of_block hbl 1
                simp only [List.getElem?_toArray, List.getElem?_cons_zero, List.getElem?_cons_succ] at p0 p1
                refine bodyPost_ret (v := .tuple #[.agg #[.int .i64 y.1, .int .i64 y.2], .bool true]) (by simp [results, Try.results63, go_sem, p0, p1]) rfl ?_
                exact HRES.out _ hcl
              · go_wp2_with fail
                refine name_prop (fun wl => Chg (fun b _ => b = w.heap.size + 1) w2 wl ∧ wl.heap[w.heap.size + 1]? = some (.cells #[.int .i64 0, .int .i64 0] 26 (0, 0))) ⟨?_, ?_⟩ ?_
                · repeat (first | refine Chg.drew ?_ | refine Chg.drewN ?_ _ | refine Chg.setCell ?_ (.inl rfl) _ | exact Chg.refl _ _)
                · exact blk2 HBP2.out _ _
                clear p0 p1 pf0 pf1
                rintro wl ⟨hcl, hbl⟩
                have p0 := cell_of_block hbl 0
                have p1 := cell_of_block hbl 1
                simp only [List.getElem?_toArray, List.getElem?_cons_zero, List.getElem?_cons_succ] at p0 p1
                refine bodyPost_ret (v := .tuple #[.agg #[.int .i64 0, .int .i64 0], .bool false]) (by simp [results, Try.results63, go_sem, p0, p1]) rfl ?_
                exact HRES.out _ hcl
            | h' + 1, T', hT, hs, hit, hnd, hbg, hfam =>
              have hrec := bmp_in (δ := 1) (show rid T' ∈ spineR (h' + 1) T' from List.mem_cons_self) hT.root
              obtain ⟨l2, hn2⟩ := hfam.node hrec
              have n1 : wr.cell? ⟨rid T', 1, none⟩ = some (.int .i64 ((recOf (h' + 1) T').cnt + 1)) := hn2.c1
              have fz := hn2.fz 1
              rw [recOf_cnt] at n1
              have hsc := hfam.setCnt hrec (((toL (h' + 1) T').length : Nat) : Int)
              have HSC := Lib.hid hsc
              have s1 : IntKind.i64.wrap (((toL (h' + 1) T').length : Int) + 1 - 1) = ((toL (h' + 1) T').length : Int) := by rw [IntWalk.i64_in _ (by omega)]; omega
              have s2 : ((toL (h' + 1) T').length : Int) + 1 - 1 = ((toL (h' + 1) T').length : Int) := by omega
              have HRB := Lib.hid hc
              clear hsc hn2 hfam hrec hc
              go_wp2_with fail
              try rw [s2]
              refine name_calls (fun w4 => Fam (parM k) w4 F (upd (bmp H (spineR (h' + 1) T') 1) (rid T') { recOf (h' + 1) T' with cnt := ((toL (h' + 1) T').length : Nat) }) ∧ Chg (fun b _ => F b) wr w4) ⟨HSC.out.1, HSC.out.2⟩ ?_
              rintro w4 ⟨hf4, hc4⟩
              have hrc : ({ recOf (h' + 1) T' with cnt := ((toL (h' + 1) T').length : Nat) } : NodeR (It ord)) = recOf (h' + 1) T' := by rw [← recOf_cnt]
              rw [hrc] at hf4
              have hcw4 := HRB.out.trans hc4
              clear n1 fz s1 s2 HSC hrc
              obtain ⟨c, hc0, g1, g2, g3, g4⟩ := last_kid hs hit hmn
              have hcm : c ∈ T'.2.2 := List.mem_of_getElem? hc0
              have hcl : T'.2.2.getLast? = some c := by rw [List.getLast?_eq_getElem?]; exact hc0
              have hf5 : Fam (parM k) w4 F (bmp H (spineR h' c) 1) := by
                rw [spineR_cons hcl, bmp_cons (spineR_head hnd hcl) hT.root] at hf4
                exact hf4
              have hr5 : bmp H (spineR h' c) 1 (rid T') = some (recOf (h' + 1) T') := (bmp_out (spineR_head hnd hcl)).trans hT.root
              have hk : (recOf (h' + 1) T').kids = some (T'.2.2.map fun c => some (rid c)) := rfl
              have hlen : T'.2.1.length ≤ mx := hs.1
              have hkn : T'.2.2.length = T'.2.1.length + 1 := hs.2.1
              obtain ⟨l4, hn4⟩ := hf5.node hr5
              have n3 := hn4.c3s hk
              have nc := hn4.cc hk
              have k0 := hn4.kidc hk (j := T'.2.2.length - 1) (o := some (rid c)) (by simp [hc0])
              have k0' : w4.cell? ⟨l4.cb, l4.co + (T'.2.2.length - 1), none⟩ = some (.pointer (some ⟨rid c, 0, none⟩)) := k0
              rw [List.length_map] at nc
              have i4 : (1 : Int) ≤ (T'.2.2.length : Int) := by omega
              have i0 : (0 : Int) ≤ (T'.2.2.length : Int) - 1 := by omega
              have i1 : (T'.2.2.length : Int) - 1 < (T'.2.2.length : Int) := by omega
              have i2 : ((T'.2.2.length : Int) - 1).toNat = T'.2.2.length - 1 := by omega
              have i3 : IntKind.i64.wrap ((T'.2.2.length : Int) - 1) = (T'.2.2.length : Int) - 1 := IntWalk.i64_in _ (by omega)
              have m2 := mOf_root (hT.kid hcm)
              have HF5 := Lib.hid hf5
              have hbg2 : (toL h' c).length ≤ 100000000000000 := by omega
              clear k0 hc0 hn4 hkn hf4 hf5 hr5
              go_wp2_with fail
              refine (leaf_any _ (some ⟨l4.cc, 0, none⟩) _ n3).mono ?_
              rintro e w' ⟨rfl, rfl⟩
              go_wp2_with fail
              go_quiet (fail)
              go_wp2_with fail
              go_roundw
              case rel => exact ⟨h', c, rfl, hT.kid hcm, g2, g1, nodup_kid hnd hcm, hbg2, HF5.out.chg ((Chg.refl (fun _ _ => False) _).drewN _) (fun _ _ _ h => h), hcw4.drewN _⟩
              case measure =>
                have hq3 := mOf_root hT
                omega
        have hrm : (T'.2.length : Int) < (mx : Int) := by omega
        obtain ⟨y, hy⟩ : ∃ y, T'.2[T'.2.length - 1]? = some y := ⟨_, List.getElem?_eq_getElem (by omega)⟩
        have iv := hn3'.out.mval (j := T'.2.length - 1) hy
        have ik := hn3'.out.mkey (j := T'.2.length - 1) hy
        have hbK : w3.heap[w.heap.size]? = some (.cells #[.int .i64 x.1, .int .i64 x.2] 26 (0, 0)) := by rw [hcw3.block (heap_lt HBK.out) (fun _ h => by have := HFL.out _ h; omega)]; exact HBK.out
        have hbR3 : w3.heap[w.heap.size + 1]? = some (.cells #[.int .i64 0, .int .i64 0] 26 (0, 0)) := by rw [hcw3.block (heap_lt HBR.out) (fun _ h => by have := HFL.out _ h; omega)]; exact HBR.out
        have q0 := cell_of_block hbK 0
        have q1 := cell_of_block hbK 1
        simp only [List.getElem?_toArray, List.getElem?_cons_zero, List.getElem?_cons_succ] at q0 q1
        have i4 : (1 : Int) ≤ (T'.2.length : Int) := by omega
        have i0 : (0 : Int) ≤ (T'.2.length : Int) - 1 := by omega
        have i1 : (T'.2.length : Int) - 1 < (T'.2.length : Int) := by omega
        have i2 : ((T'.2.length : Int) - 1).toNat = T'.2.length - 1 := by omega
        have i3 : IntKind.i64.wrap ((T'.2.length : Int) - 1) = (T'.2.length : Int) - 1 := IntWalk.i64_in _ (by omega)
        have HY := Lib.hid hy
        have HBK3 := Lib.hid hbK
        have HBR3 := Lib.hid hbR3
        clear hy hbK hbR3
        go_wp2_with fail
        go_quiet (fail)
        go_wp2_with fail
        refine name_world (fun w5 => Chg (fun _ _ => False) w3 w5) ((Chg.refl _ _).drewN _) ?_
        intro w5 hc5
        replace n2 := hc5.cell (fun h => h) n2
        replace iv := hc5.cell (fun h => h) iv
        replace ik := hc5.cell (fun h => h) ik
        replace q0 := hc5.cell (fun h => h) q0
        replace q1 := hc5.cell (fun h => h) q1
        have hcX5 := hcX.trans (hc5.mono (B := fun b _ => F b) (fun _ _ _ h => h.elim))
        refine wp_region_scr (fun w' => w'.cell? ⟨rid T', 2, none⟩ = some (.slice (some ⟨l3.ib, l3.io, none⟩) T'.2.length l3.ic) ∧ w'.cell? ⟨l3.ib, l3.io + (T'.2.length - 1) * 2, none⟩ = some (.int .i64 y.1) ∧ w'.cell? ⟨l3.ib, l3.io + (T'.2.length - 1) * 2 + 1, none⟩ = some (.int .i64 y.2) ∧ w'.cell? ⟨w.heap.size, 0, none⟩ = some (.int .i64 x.1) ∧ w'.cell? ⟨w.heap.size, 1, none⟩ = some (.int .i64 x.2)) (.soft 0 (.soft 1 (.soft 2 (.soft 3 (.soft 4 (.soft 5 (.soft 6 (.soft 7 (.soft 8 (.soft 9 (.soft 10 (.soft 11 (.soft 12 (.soft 13 (.hard 14 .nil))))))))))))))) (by kernel_rfl) (by kernel_rfl) (fun _ _ _ _ _ h => h) ⟨n2, iv, ik, q0, q1⟩ ?_
        repeat
          first
          | (refine scr_soft (by rfl) ?_ ?_ ?_ ?_
             rotate_left
             · simp [Region.wanted, yielded]; done
             · intro w' hS
               try obtain ⟨a1, a2, a3, a4, a5⟩ := hS
               go_simp
               try with_reducible rfl
             simp only [Act.put, List.setIfInBounds_toArray, List.set_cons_zero, List.set_cons_succ])
          | (refine scr_skip (by rfl) ?_ ?_
             · simp [Region.wanted, yielded]; done
             simp only [Act.put, List.setIfInBounds_toArray, List.set_cons_zero, List.set_cons_succ])
        refine scr_hard (by rfl) (by simp [Region.wanted, yielded]) (fun K hK => ?_)
        go_simp
        refine (Less_any (HI.out.map.chg hcX5.drew (fun b _ hm h => HOUT.out b hm h)) y x).mono ?_
        rintro e w6 ⟨rfl, hc6'⟩
        have hc56 : Chg (fun _ _ => False) w5 w6 := (Chg.refl _ _).drew.trans hc6'
        have hc36 := hc5.trans hc56
        have hc36F := hc36.mono (B := fun b _ => F b) (fun _ _ _ h => h.elim)
        refine hK _ _ ⟨hc6'.cell (fun h => h) n2, hc6'.cell (fun h => h) iv, hc6'.cell (fun h => h) ik, hc6'.cell (fun h => h) q0, hc6'.cell (fun h => h) q1⟩ ?_
        clear hK K
        repeat
          first
          | (refine scr_soft (by rfl) ?_ ?_ ?_ ?_
             rotate_left
             · simp [Region.wanted, yielded]; done
             · intro w' hS
               try obtain ⟨a1, a2, a3, a4, a5⟩ := hS
               go_simp
               try with_reducible rfl
             simp only [Act.put, List.setIfInBounds_toArray, List.set_cons_zero, List.set_cons_succ])
          | (refine scr_skip (by rfl) ?_ ?_
             · simp [Region.wanted, yielded]; done
             simp only [Act.put, List.setIfInBounds_toArray, List.set_cons_zero, List.set_cons_succ])
        refine scr_nil ?_
        clear n2 iv ik q0 q1 e7 n3 i0 i1 i2 i3 i4
        have hcX6 := hcX.trans hc36F
        have hm6 := HB.out.chg hcX6 (fun b _ hm h => HOUT.out b hm h)
        cases hlt : ltM y x
        · have ct2 : w6.cell? ⟨t, 2, none⟩ = some (.pointer (some ⟨rid T, 0, none⟩)) := hm6.c2
          clear hm6
          go_wp2_with fail
          clear ct2
          go_loopw [6] (fun nv wr => ∃ h', ∃ T' : BT (It ord) h', nv = .pointer (some ⟨rid T', 0, none⟩) ∧ IsT H h' T' ∧ Sh mn mx h' T' ∧ 1 ≤ (its T').length ∧ (ids h' T').Nodup ∧ (toL h' T').length ≤ 100000000000000 ∧ Fam (parM k) wr F (bmp H (spineR h' T') 1) ∧ Chg (fun b _ => F b) w1 wr) (fun nv _ => mOf H nv)
          case atStart => exact ⟨h, T, rfl, HI.out.isT, HI.out.sh, h1, HI.out.nd, HI.out.big, by rw [HSPZ.out]; exact HFZ.out.chg hc36 (fun _ _ _ h => h), hcw3.trans hc36F⟩
          case round =>
            obtain ⟨h', T', rfl, hT, hs, hit, hnd, hbg, hfam, hc⟩ := hrel
            match h', T', hT, hs, hit, hnd, hbg, hfam with
            | 0, T', hT, hs, hit, hnd, hbg, hfam =>
              have hrec := bmp_in (δ := 1) (show rid T' ∈ spineR (0) T' from List.mem_singleton.2 rfl) hT.root
              obtain ⟨l2, hn2⟩ := hfam.node hrec
              have n1 : wr.cell? ⟨rid T', 1, none⟩ = some (.int .i64 ((recOf (0) T').cnt + 1)) := hn2.c1
              have fz := hn2.fz 1
              rw [recOf_cnt] at n1
              have hsc := hfam.setCnt hrec (((toL (0) T').length : Nat) : Int)
              have HSC := Lib.hid hsc
              have s1 : IntKind.i64.wrap (((toL (0) T').length : Int) + 1 - 1) = ((toL (0) T').length : Int) := by rw [IntWalk.i64_in _ (by omega)]; omega
              have s2 : ((toL (0) T').length : Int) + 1 - 1 = ((toL (0) T').length : Int) := by omega
              have HRB := Lib.hid hc
              clear hsc hn2 hfam hrec hc
              go_wp2_with fail
              try rw [s2]
              refine name_calls (fun w4 => Fam (parM k) w4 F (upd (bmp H (spineR (0) T') 1) (rid T') { recOf (0) T' with cnt := ((toL (0) T').length : Nat) }) ∧ Chg (fun b _ => F b) wr w4) ⟨HSC.out.1, HSC.out.2⟩ ?_
              rintro w4 ⟨hf4, hc4⟩
              have hrc : ({ recOf (0) T' with cnt := ((toL (0) T').length : Nat) } : NodeR (It ord)) = recOf (0) T' := by rw [← recOf_cnt]
              rw [hrc] at hf4
              have hcw4 := HRB.out.trans hc4
              clear n1 fz s1 s2 HSC hrc
              have hf5 : Fam (parM k) w4 F H := by
                have := bmp_cons (δ := (1 : Int)) (S := []) (H := H) (n := rid T') (List.not_mem_nil) hT.root
                rw [bmp_nil] at this
                rw [← this]; exact hf4
              obtain ⟨l4, hn4⟩ := hf5.node hT.root
              have n3 := hn4.c3n rfl
              have hX0 := hc1.mono (B := fun b _ => F b) (fun _ _ _ h => h.elim)
              have hcX := hX0.trans hcw4
              have hbX : w4.heap[w.heap.size]? = some (.cells #[.int .i64 x.1, .int .i64 x.2] 26 (0, 0)) := by rw [hcw4.block (heap_lt HBK.out) (fun _ h => by have := HFL.out _ h; omega)]; exact HBK.out
              have hbR : w4.heap[w.heap.size + 1]? = some (.cells #[.int .i64 0, .int .i64 0] 26 (0, 0)) := by rw [hcw4.block (heap_lt HBR.out) (fun _ h => by have := HFL.out _ h; omega)]; exact HBR.out
              have q0 := cell_of_block hbX 0
              have q1 := cell_of_block hbX 1
              simp only [List.getElem?_toArray, List.getElem?_cons_zero, List.getElem?_cons_succ] at q0 q1
              have hMX : MapIn k mn mx w4 F t (toL h T) := .inr ⟨H, h, T, ⟨hf5, HI.out.map.chg hcX (fun b _ hm h => HOUT.out b hm h), HI.out.out, HI.out.isT, HI.out.nd, HI.out.sh, HI.out.srt, HI.out.big, HI.out.m3, HI.out.m1000, HI.out.mh, HI.out.mh2⟩, HB.out.chg hcX (fun b _ hm h => HOUT.out b hm h), rfl, h1⟩
              have HMX := Lib.hid hMX
              have HBR4 := Lib.hid hbR
              clear hMX hbX hbR hn4 hf5 hf4
              go_wp2_with fail
              refine (leaf_any _ none _ n3).mono ?_
              rintro e w' ⟨rfl, rfl⟩
              go_wp2_with fail
              refine (set_any HMX.out x hl hmn hmx hmx2 hmh hmh2).mono ?_
              rintro e w2 ⟨hret, F', hM2, hc2, hF2⟩
              have hltX := heap_lt HBR4.out
              have hbp2 : w2.heap[w.heap.size + 1]? = some (.cells #[.int .i64 0, .int .i64 0] 26 (0, 0)) := by
                rw [hc2.block hltX (fun _ h => by
                  rcases h with h | h
                  · have := HFL.out _ h; omega
                  · omega)]
                exact HBR4.out
              have p0 := cell_of_block hbp2 0
              have p1 := cell_of_block hbp2 1
              have pf0 := frozen_of_block hbp2 0
              have pf1 := frozen_of_block hbp2 1
              simp only [List.getElem?_toArray, List.getElem?_cons_zero, List.getElem?_cons_succ] at p0 p1
              have hszX := hcX.size
              have hres : ∀ wl, Chg (fun b _ => b = w.heap.size + 1) w2 wl → SetPost k mn mx w F t (toL h T) x e wl := by
                intro wl hcl
                refine ⟨hret, F', hM2.chgA hcl (fun b _ hb e => ?_) (fun b _ hb e => by have := HOL.out b hb; omega), ?_, fun b hb => ?_⟩
                · rcases hF2 b hb with h | h
                  · have := HFL.out _ h; omega
                  · omega
                · refine ((hcX.mono (B := fun b _ => F b ∨ b = t) (fun _ _ _ h => .inl h)).trans' hc2 (B := fun b _ => F b ∨ b = t) (fun _ _ _ h => h) (fun _ _ _ h => h)).trans' hcl (fun _ _ _ h => h) (fun b o hb e => by omega)
                · rcases hF2 b hb with h | h
                  · exact .inl h
                  · exact .inr (by omega)
              have HRES := Lib.hid hres
              have HBP2 := Lib.hid hbp2
              clear hres hbp2
              have hret2 := hret
              rcases hret2 with ⟨y, _, rfl⟩ | ⟨_, rfl⟩
              · go_wp2_with fail
                refine name_prop (fun wl => Chg (fun b _ => b = w.heap.size + 1) w2 wl ∧ wl.heap[w.heap.size + 1]? = some (.cells #[.int .i64 y.1, .int .i64 y.2] 26 (0, 0))) ⟨?_, ?_⟩ ?_
                · repeat (first | refine Chg.drew ?_ | refine Chg.drewN ?_ _ | refine Chg.setCell ?_ (.inl rfl) _ | exact Chg.refl _ _)
                · exact blk2 HBP2.out _ _
                clear p0 p1 pf0 pf1
                rintro wl ⟨hcl, hbl⟩
                have p0 := cell_of_block hbl 0
                have p1 := cell_of_block hbl 1
                simp only [List.getElem?_toArray, List.getElem?_cons_zero, List.getElem?_cons_succ] at p0 p1
                refine bodyPost_ret (v := .tuple #[.agg #[.int .i64 y.1, .int .i64 y.2], .bool true]) (by simp [results, Try.results63, go_sem, p0, p1]) rfl ?_
                exact HRES.out _ hcl
              · go_wp2_with fail
                refine name_prop (fun wl => Chg (fun b _ => b = w.heap.size + 1) w2 wl ∧ wl.heap[w.heap.size + 1]? = some (.cells #[.int .i64 0, .int .i64 0] 26 (0, 0))) ⟨?_, ?_⟩ ?_
                · repeat (first | refine Chg.drew ?_ | refine Chg.drewN ?_ _ | refine Chg.setCell ?_ (.inl rfl) _ | exact Chg.refl _ _)
                · exact blk2 HBP2.out _ _
                clear p0 p1 pf0 pf1
                rintro wl ⟨hcl, hbl⟩
                have p0 := cell_of_block hbl 0
                have p1 := cell_of_block hbl 1
                simp only [List.getElem?_toArray, List.getElem?_cons_zero, List.getElem?_cons_succ] at p0 p1
                refine bodyPost_ret (v := .tuple #[.agg #[.int .i64 0, .int .i64 0], .bool false]) (by simp [results, Try.results63, go_sem, p0, p1]) rfl ?_
                exact HRES.out _ hcl
            | h' + 1, T', hT, hs, hit, hnd, hbg, hfam =>
              have hrec := bmp_in (δ := 1) (show rid T' ∈ spineR (h' + 1) T' from List.mem_cons_self) hT.root
              obtain ⟨l2, hn2⟩ := hfam.node hrec
              have n1 : wr.cell? ⟨rid T', 1, none⟩ = some (.int .i64 ((recOf (h' + 1) T').cnt + 1)) := hn2.c1
              have fz := hn2.fz 1
              rw [recOf_cnt] at n1
              have hsc := hfam.setCnt hrec (((toL (h' + 1) T').length : Nat) : Int)
              have HSC := Lib.hid hsc
              have s1 : IntKind.i64.wrap (((toL (h' + 1) T').length : Int) + 1 - 1) = ((toL (h' + 1) T').length : Int) := by rw [IntWalk.i64_in _ (by omega)]; omega
              have s2 : ((toL (h' + 1) T').length : Int) + 1 - 1 = ((toL (h' + 1) T').length : Int) := by omega
              have HRB := Lib.hid hc
              clear hsc hn2 hfam hrec hc
              go_wp2_with fail
              try rw [s2]
              refine name_calls (fun w4 => Fam (parM k) w4 F (upd (bmp H (spineR (h' + 1) T') 1) (rid T') { recOf (h' + 1) T' with cnt := ((toL (h' + 1) T').length : Nat) }) ∧ Chg (fun b _ => F b) wr w4) ⟨HSC.out.1, HSC.out.2⟩ ?_
              rintro w4 ⟨hf4, hc4⟩
              have hrc : ({ recOf (h' + 1) T' with cnt := ((toL (h' + 1) T').length : Nat) } : NodeR (It ord)) = recOf (h' + 1) T' := by rw [← recOf_cnt]
              rw [hrc] at hf4
              have hcw4 := HRB.out.trans hc4
              clear n1 fz s1 s2 HSC hrc
              obtain ⟨c, hc0, g1, g2, g3, g4⟩ := last_kid hs hit hmn
              have hcm : c ∈ T'.2.2 := List.mem_of_getElem? hc0
              have hcl : T'.2.2.getLast? = some c := by rw [List.getLast?_eq_getElem?]; exact hc0
              have hf5 : Fam (parM k) w4 F (bmp H (spineR h' c) 1) := by
                rw [spineR_cons hcl, bmp_cons (spineR_head hnd hcl) hT.root] at hf4
                exact hf4
              have hr5 : bmp H (spineR h' c) 1 (rid T') = some (recOf (h' + 1) T') := (bmp_out (spineR_head hnd hcl)).trans hT.root
              have hk : (recOf (h' + 1) T').kids = some (T'.2.2.map fun c => some (rid c)) := rfl
              have hlen : T'.2.1.length ≤ mx := hs.1
              have hkn : T'.2.2.length = T'.2.1.length + 1 := hs.2.1
              obtain ⟨l4, hn4⟩ := hf5.node hr5
              have n3 := hn4.c3s hk
              have nc := hn4.cc hk
              have k0 := hn4.kidc hk (j := T'.2.2.length - 1) (o := some (rid c)) (by simp [hc0])
              have k0' : w4.cell? ⟨l4.cb, l4.co + (T'.2.2.length - 1), none⟩ = some (.pointer (some ⟨rid c, 0, none⟩)) := k0
              rw [List.length_map] at nc
              have i4 : (1 : Int) ≤ (T'.2.2.length : Int) := by omega
              have i0 : (0 : Int) ≤ (T'.2.2.length : Int) - 1 := by omega
              have i1 : (T'.2.2.length : Int) - 1 < (T'.2.2.length : Int) := by omega
              have i2 : ((T'.2.2.length : Int) - 1).toNat = T'.2.2.length - 1 := by omega
              have i3 : IntKind.i64.wrap ((T'.2.2.length : Int) - 1) = (T'.2.2.length : Int) - 1 := IntWalk.i64_in _ (by omega)
              have m2 := mOf_root (hT.kid hcm)
              have HF5 := Lib.hid hf5
              have hbg2 : (toL h' c).length ≤ 100000000000000 := by omega
              clear k0 hc0 hn4 hkn hf4 hf5 hr5
              go_wp2_with fail
              refine (leaf_any _ (some ⟨l4.cc, 0, none⟩) _ n3).mono ?_
              rintro e w' ⟨rfl, rfl⟩
              go_wp2_with fail
              go_quiet (fail)
              go_wp2_with fail
              go_roundw
              case rel => exact ⟨h', c, rfl, hT.kid hcm, g2, g1, nodup_kid hnd hcm, hbg2, HF5.out.chg ((Chg.refl (fun _ _ => False) _).drewN _) (fun _ _ _ h => h), hcw4.drewN _⟩
              case measure =>
                have hq3 := mOf_root hT
                omega
        · obtain ⟨l6, hn6, hblk6, _, hclose⟩ := (HFZ.out.chg hc36 (fun _ _ _ h => h)).work HREC3.out
          have n2 : w6.cell? ⟨rid T', 2, none⟩ = some (.slice (some ⟨l6.ib, l6.io, none⟩) T'.2.length l6.ic) := hn6.c2
          have hbK : w6.heap[w.heap.size]? = some (.cells #[.int .i64 x.1, .int .i64 x.2] 26 (0, 0)) := by rw [hc36.block (heap_lt HBK3.out) (fun _ h => h)]; exact HBK3.out
          have hbR6 : w6.heap[w.heap.size + 1]? = some (.cells #[.int .i64 0, .int .i64 0] 26 (0, 0)) := by rw [hc36.block (heap_lt HBR3.out) (fun _ h => h)]; exact HBR3.out
          have q0 := cell_of_block hbK 0
          have q1 := cell_of_block hbK 1
          simp only [List.getElem?_toArray, List.getElem?_cons_zero, List.getElem?_cons_succ] at q0 q1
          have hnib : rid T' ≠ l6.ib := Ne.symm hn6.d1
          have hibF : F l6.ib := hblk6 _ (.inr (.inl rfl))
          have hkib : w.heap.size ≠ l6.ib := fun e => by have := HFL.out _ hibF; omega
          have hrib : w.heap.size + 1 ≠ l6.ib := fun e => by have := HFL.out _ hibF; omega
          have fz2 := hn6.fz 2
          have nlt := World.block_lt_of_cell? w6 _ n2
          have hlenT : T'.2.length ≤ l6.ic := hn6.len
          obtain ⟨i0, hi0, hz0, hz1, hz2⟩ := info_parts infoPair
          have HBR6 := Lib.hid hbR6
          have HN6 := Lib.hid hn6
          have hrow := hn6.row
          clear hbK hbR6 hn6
          go_wp2_with fail
          refine wp_region_soft (fun w' => w'.cell? ⟨rid T', 2, none⟩ = some (.slice (some ⟨l6.ib, l6.io, none⟩) T'.2.length l6.ic) ∧ w'.cell? ⟨w.heap.size, 0, none⟩ = some (.int .i64 x.1) ∧ w'.cell? ⟨w.heap.size, 1, none⟩ = some (.int .i64 x.2))
            8 [0, 1, 2, 3, 4, 5] [6, 7] (by kernel_rfl) (by kernel_rfl) (fun _ _ _ _ _ h => h) rfl rfl ⟨n2, q0, q1⟩ ?_
          simp only [pickOps, List.filterMap_cons, List.filterMap_nil, List.getElem?_cons_zero, List.getElem?_cons_succ]
          iterate 6
            refine wpSoft_step ?_ rfl ?_ ?_
            rotate_left
            · intro w' hS
              obtain ⟨a1, a2, a3⟩ := hS
              go_simp
              try with_reducible rfl
            simp only [Act.put, List.setIfInBounds_toArray, List.set_cons_zero, List.set_cons_succ]
          refine wpSoft_nil ?_
          have hca : Chg (fun _ _ => False) w6 (w6.alloc (.cells #[.int .i64 x.1, .int .i64 x.2] 26)).drew := ((Chg.refl _ _).alloc _).drew
          refine wpHards_step (fun K hK => ?_)
          go_simp
          refine hK _ _ ⟨hca.cell (fun h => h) n2, hca.cell (fun h => h) q0, hca.cell (fun h => h) q1⟩ ?_
          iterate 0 go_keep
          clear hK K
          refine wpHards_step (fun K hK => ?_)
          refine wp_append_row _ _ _ (by rfl) 26 i0 _ 2 16 Try.underlying31 hi0 hz0 hz1 hz2 rfl l6.ib l6.io T'.2.length l6.ic (by rfl) (flat (parM k) T'.2) ((hrow.alloc _).drew) (flat_len _ _) ⟨w6.heap.size, 0, none⟩ 1 _ (by rfl) [.int .i64 x.1, .int .i64 x.2] (by rfl) (World.news_of_block (cs := #[.int .i64 x.1, .int .i64 x.2]) (t := 26) (fr := (0, 0)) (heap_alloc_new w6 _)) (by simp [Value.oneCell']) (by unfold maxLen; omega) (by omega) ?_
          intro b' o1 cap' w7 happ
          have hch := happ.chg
          have n2' := hch.cell (a := ⟨rid T', 2, none⟩) (fun h => hnib h.1) (hca.cell (fun h => h) n2)
          have q0' := hch.cell (a := ⟨w.heap.size, 0, none⟩) (fun h => hkib h.1) (hca.cell (fun h => h) q0)
          have q1' := hch.cell (a := ⟨w.heap.size, 1, none⟩) (fun h => hkib h.1) (hca.cell (fun h => h) q1)
          have z2' : w7.frozen? ⟨rid T', 2, none⟩ = false := by rw [hch.frozen (Nat.lt_of_lt_of_le nlt hca.size), hca.frozen nlt]; exact fz2
          have r8 := ((Run.start HN6.out).still hca).append [x] happ (Chg.refl _ _)
          have hcl8 := hclose _ _ _ r8
          have HCL8 := Lib.hid hcl8
          refine hK _ _ ⟨n2', q0', q1'⟩ ?_
          clear hK K n2 q0 q1 r8 hcl8 hch
          simp only [wpHards, List.drop_succ_cons, List.drop_zero, Act.put, List.setIfInBounds_toArray, List.set_cons_zero, List.set_cons_succ]
          go_upto_region 11 with fail
          refine name_world (fun w8 => ∃ FA, Fam (parM k) w8 FA (upd (bmp H (P ++ [rid T']) 1) (rid T') (⟨((T'.2.length : Nat) : Int) + 1, T'.2 ++ [x], none⟩ : NodeR (It ord))) ∧ (∀ b, FA b → F b ∨ w6.heap.size ≤ b) ∧ Chg (fun b _ => F b) w6 w8) ⟨_, HCL8.out.1, fun b hb => hb.imp id (fun h => h.1), HCL8.out.2⟩ ?_
          rintro w8 ⟨FA, hf8, hFA, hc8⟩
          obtain ⟨Tf, hTf⟩ := HKC.out (upd (bmp H (P ++ [rid T']) 1) (rid T') (⟨((T'.2.length : Nat) : Int) + 1, T'.2 ++ [x], none⟩ : NodeR (It ord))) _ (app_leaf (mn := mn) (mx := mx) (x := x) hroom (upd_same _ _ _)) (fun a ha => by
            have h4 : a ≠ rid T' := fun e => hrp (e ▸ ha)
            rw [upd_ne _ _ h4]
            simp [bmp, ha]) (fun a ha h2 h3 => by
            have h4 : a ≠ rid T' := fun e => h3 (e ▸ rid_mem T')
            rw [upd_ne _ _ h4]
            exact bmp_out (fun h5 => by rcases List.mem_append.1 h5 with h6 | h6; exact h2 h6; exact h4 (List.mem_singleton.1 h6)))
          have hcX8 := hcX6.trans' hc8 (B := fun b _ => F b) (fun _ _ _ h => h) (fun _ _ _ h => h)
          have hm8 := HB.out.chg hcX8 (fun b _ hm h => HOUT.out b hm h)
          have c3 := hm8.c3
          have f3 := hm8.fz 3
          have g8 : (w8.setCell ⟨t, 3, none⟩ (.int .i64 (((toL h T).length : Int) + 1))).cell? ⟨t, 7, none⟩ = some (.int .i64 0) ∧ (w8.setCell ⟨t, 3, none⟩ (.int .i64 (((toL h T).length : Int) + 1))).cell? ⟨t, 8, none⟩ = some (.int .i64 0) := (hm8.setCnt _).empty
          have hbR8 : w8.heap[w.heap.size + 1]? = some (.cells #[.int .i64 0, .int .i64 0] 26 (0, 0)) := by rw [hc8.block (heap_lt HBR6.out) (fun _ h => by have := HFL.out _ h; omega)]; exact HBR6.out
          have HBR8 := Lib.hid hbR8
          have s1 : IntKind.i64.wrap (((toL h T).length : Int) + 1) = ((toL h T).length : Int) + 1 := IntWalk.i64_in _ (by omega)
          have HM8 := Lib.hid hm8
          have HTF := Lib.hid hTf
          have HF8 := Lib.hid hf8
          clear hm8 hbR8 hTf hf8 g8
          go_upto_region 12 with fail
          have hm9 := HM8.out.setCnt (((toL h T).length : Int) + 1)
          obtain ⟨c7, c8⟩ := hm9.empty
          refine name_world (fun w9 => MapBlk k mn mx w9 t (some (rid T)) (((toL h T).length : Int) + 1) ∧ Fam (parM k) w9 FA (upd (bmp H (P ++ [rid T']) 1) (rid T') (⟨((T'.2.length : Nat) : Int) + 1, T'.2 ++ [x], none⟩ : NodeR (It ord))) ∧ Chg (fun b _ => b = t) w8 w9) ⟨hm9, ?_, ?_⟩ ?_
          · refine HF8.out.chg ((Chg.refl (fun b _ => b = t) w8).setCell (.inl rfl) _) (fun b _ hb e => ?_)
            subst e
            rcases hFA b hb with h2 | h2
            · exact HOUT.out b MOwn.self h2
            · have := hcX6.size; omega
          · exact (Chg.refl (fun b _ => b = t) w8).setCell (.inl rfl) _
          clear hm9 c7 c8 c3 f3 s1
          rintro w9 ⟨hm9, hf9, hc9⟩
          obtain ⟨c7, c8⟩ := hm9.empty
          have hb9 : w9.heap[w.heap.size + 1]? = some (.cells #[.int .i64 0, .int .i64 0] 26 (0, 0)) := by rw [hc9.block (heap_lt HBR8.out) (fun _ h => by omega)]; exact HBR8.out
          have p0 := cell_of_block hb9 0
          have p1 := cell_of_block hb9 1
          have pf0 := frozen_of_block hb9 0
          have pf1 := frozen_of_block hb9 1
          simp only [List.getElem?_toArray, List.getElem?_cons_zero, List.getElem?_cons_succ] at p0 p1
          have HB9 := Lib.hid hb9
          have HM9 := Lib.hid hm9
          have HF9 := Lib.hid hf9
          clear hb9 hm9 hf9
          go_wp2_with fail
          refine name_prop (fun wl => Chg (fun b _ => b = w.heap.size + 1) w9 wl ∧ wl.heap[w.heap.size + 1]? = some (.cells #[.int .i64 0, .int .i64 0] 26 (0, 0))) ⟨?_, ?_⟩ ?_
          · repeat (first | refine Chg.drew ?_ | refine Chg.drewN ?_ _ | refine Chg.setCell ?_ (.inl rfl) _ | exact Chg.refl _ _)
          · exact blk2 HB9.out _ _
          clear p0 p1 pf0 pf1
          rintro wl ⟨hcl, hbl⟩
          have p0 := cell_of_block hbl 0
          have p1 := cell_of_block hbl 1
          simp only [List.getElem?_toArray, List.getElem?_cons_zero, List.getElem?_cons_succ] at p0 p1
          refine bodyPost_ret (v := .tuple #[.agg #[.int .i64 0, .int .i64 0], .bool false]) (by simp [results, Try.results63, go_sem, p0, p1]) rfl ?_
          have hlast : (toL h T).getLast? = some y := by
            rw [← HLA.out]
            show T'.2.getLast? = some y
            rw [List.getLast?_eq_getElem?]; exact HY.out
          obtain ⟨g1, g2⟩ := insL_last (srt_last swoM HI.out.srt hlast hlt)
          have hFAl : ∀ b, FA b → b ≠ w.heap.size + 1 := fun b hb e => by
            rcases hFA b hb with h2 | h2
            · have := HFL.out b h2; omega
            · have := (hcX6.size); have := heap_lt HBR6.out; omega
          have hFAt : ∀ b, MOwn k t b → ¬ FA b := fun b hm hb => by
            rcases hFA b hb with h2 | h2
            · exact HOUT.out b hm h2
            · have := HOL.out b hm; have := hcX6.size; omega
          have hfl9 := HF9.out.chg hcl (fun b _ hb e => hFAl b hb e)
          have hml9 := HM9.out.chg hcl (fun b _ hm e => by have := HOL.out b hm; omega)
          have hlenf : (toL h Tf).length = (toL h T).length + 1 := by rw [HTF.out.list]; simp
          refine ⟨.inr ⟨g2, rfl⟩, FA, .inr ⟨_, h, Tf, ⟨hfl9, hml9.at_, hFAt, HTF.out.isT, by rw [HTF.out.ids']; exact HI.out.nd, HTF.out.sh, by rw [HTF.out.list, ← g1]; exact insL_srt swoM x HI.out.srt, by omega, HI.out.m3, HI.out.m1000, HI.out.mh, HI.out.mh2⟩, ?_, by rw [g1]; exact HTF.out.list, by have := HTF.out.len; omega⟩, ?_, fun b hb => ?_⟩
          · rw [HTF.out.rid', hlenf]; exact hml9
          · refine ((hcX8.mono (B := fun b _ => F b ∨ b = t) (fun _ _ _ h => .inl h)).trans' hc9 (fun _ _ _ h => h) (fun _ _ _ h => .inr h)).trans' hcl (fun _ _ _ h => h) (fun b o hb e => by omega)
          · rcases hFA b hb with h2 | h2
            · exact .inl h2
            · exact .inr (by have := hcX6.size; omega)
      | h' + 1, T', hT, hs, hit, hnd, hbg, hla, hsp, hPn, hsub, HKC, hfam =>
        have hrp : rid T' ∉ P := fun hm => hPn _ hm (rid_mem T')
        have hrec : bmp H P 1 (rid T') = some (recOf (h' + 1) T') := (bmp_out hrp).trans hT.root
        obtain ⟨l2, hn2⟩ := hfam.node hrec
        have n1 := hn2.c1
        have fz := hn2.fz 1
        rw [recOf_cnt] at n1
        have hsc := hfam.setCnt hrec ((recOf (h' + 1) T').cnt + 1)
        rw [bmp_snoc hT.root, recOf_cnt] at hsc
        have HSC := Lib.hid hsc
        have s1 : IntKind.i64.wrap (((toL (h' + 1) T').length : Int) + 1) = ((toL (h' + 1) T').length : Int) + 1 := IntWalk.i64_in _ (by omega)
        have HRB := Lib.hid hc
        have HSP := Lib.hid hsp
        have HLA := Lib.hid hla
        clear hsc hn2 hfam hrec hc hsp hla
        go_wp2_with fail
        refine name_calls (fun w3 => Fam (parM k) w3 F (bmp H (P ++ [rid T']) 1) ∧ Chg (fun b _ => F b) wr w3) ⟨HSC.out.1, HSC.out.2⟩ ?_
        rintro w3 ⟨hf3, hc3⟩
        have hcw3 := HRB.out.trans hc3
        have hrec3 : bmp H (P ++ [rid T']) 1 (rid T') = some { recOf (h' + 1) T' with cnt := (recOf (h' + 1) T').cnt + 1 } := bmp_in (List.mem_append.2 (.inr (List.mem_singleton.2 rfl))) hT.root
        clear n1 fz s1 HSC
        obtain ⟨c, hc0, g1, g2, g3, g4⟩ := last_kid hs hit hmn
        have hcm : c ∈ T'.2.2 := List.mem_of_getElem? hc0
        have hcl : T'.2.2.getLast? = some c := by rw [List.getLast?_eq_getElem?]; exact hc0
        have hk : (recOf (h' + 1) T').kids = some (T'.2.2.map fun c => some (rid c)) := rfl
        have hlen : T'.2.1.length ≤ mx := hs.1
        have hkn : T'.2.2.length = T'.2.1.length + 1 := hs.2.1
        obtain ⟨l4, hn4⟩ := hf3.node hrec3
        have n3 := hn4.c3s hk
        have nc := hn4.cc hk
        have k0 := hn4.kidc hk (j := T'.2.2.length - 1) (o := some (rid c)) (by simp [hc0])
        have k0' : w3.cell? ⟨l4.cb, l4.co + (T'.2.2.length - 1), none⟩ = some (.pointer (some ⟨rid c, 0, none⟩)) := k0
        rw [List.length_map] at nc
        have i4 : (1 : Int) ≤ (T'.2.2.length : Int) := by omega
        have i0 : (0 : Int) ≤ (T'.2.2.length : Int) - 1 := by omega
        have i1 : (T'.2.2.length : Int) - 1 < (T'.2.2.length : Int) := by omega
        have i2 : ((T'.2.2.length : Int) - 1).toNat = T'.2.2.length - 1 := by omega
        have i3 : IntKind.i64.wrap ((T'.2.2.length : Int) - 1) = (T'.2.2.length : Int) - 1 := IntWalk.i64_in _ (by omega)
        have hX0 := hc1.mono (B := fun b _ => F b) (fun _ _ _ h => h.elim)
        have cw0 : w3.cell? ⟨t, 0, none⟩ = some (.int .u64 k.iso) := (HI.out.map.chg (hX0.trans hcw3) (fun b _ hm h => HOUT.out b hm h)).c0
        have hPc : ∀ a ∈ P ++ [rid T'], a ∉ ids h' c := fun a ha hac => by
          rcases List.mem_append.1 ha with h2 | h2
          · exact hPn a h2 (ids_kid hcm hac)
          · rw [List.mem_singleton.1 h2] at hac; exact nodup_root hnd hcm hac
        have hrc : bmp H (P ++ [rid T']) 1 (rid c) = some (recOf h' c) := (bmp_out (fun hm => hPc _ hm (rid_mem c))).trans (hT.kid hcm).root
        obtain ⟨lc, hnc⟩ := hf3.node hrc
        have nc0 := hnc.c0
        have m1 := mOf_root hT
        have m2 := mOf_root (hT.kid hcm)
        have HF3 := Lib.hid hf3
        have hbg2 : (toL h' c).length ≤ 100000000000000 := by omega
        have hspc : spineR h T = (P ++ [rid T']) ++ spineR h' c := by rw [HSP.out, spineR_cons hcl, List.append_assoc]; rfl
        have hKC : ∀ H'' T'', AppIn mn mx H'' h' c x T'' → (∀ a ∈ P ++ [rid T'], H'' a = bmp H (P ++ [rid T']) 1 a) → (∀ a ∈ ids h T, a ∉ P ++ [rid T'] → a ∉ ids h' c → H'' a = H a) → ∃ Tf, AppIn mn mx H'' h T x Tf := by
          intro H'' T'' hA hP1 hP2
          obtain ⟨T3, hT3⟩ := app_step (H' := H'') hT hnd hs hcl hA (by rw [hP1 _ (List.mem_append.2 (.inr (List.mem_singleton.2 rfl)))]; exact hrec3) (fun a ha h2 h3 => hP2 a (hsub a ha) (fun h4 => by
            rcases List.mem_append.1 h4 with h5 | h5
            · exact hPn a h5 ha
            · exact h3 (List.mem_singleton.1 h5)) h2)
          refine HKC.out H'' T3 hT3 (fun a ha => ?_) (fun a ha h2 h3 => ?_)
          · rw [hP1 a (List.mem_append.2 (.inl ha))]
            simp [bmp, ha]
          · refine hP2 a ha (fun h4 => ?_) (fun h4 => h3 (ids_kid hcm h4))
            rcases List.mem_append.1 h4 with h5 | h5
            · exact h2 h5
            · exact h3 (List.mem_singleton.1 h5 ▸ rid_mem T')
        have HKC2 := Lib.hid hKC
        have HSPC := Lib.hid hspc
        clear k0 hc0 hn4 hkn hnc hf3 hrec3 hrc hKC hspc
        go_wp2_with fail
        refine (leaf_any _ (some ⟨l4.cc, 0, none⟩) _ n3).mono ?_
        rintro e w' ⟨rfl, rfl⟩
        go_wp2_with fail
        refine wp_region_scr (fun w' => w'.cell? ⟨rid T', 3, none⟩ = some (.pointer (some ⟨l4.cc, 0, none⟩)) ∧ w'.cell? ⟨l4.cc, 0, none⟩ = some (.slice (some ⟨l4.cb, l4.co, none⟩) T'.2.2.length l4.ck)) (.soft 0 (.soft 1 (.soft 2 (.soft 3 (.soft 4 (.soft 5 (.soft 6 (.soft 7 (.soft 8 (.soft 9 (.soft 10 (.soft 11 (.soft 12 (.soft 13 (.soft 14 (.soft 15 (.hard 16 (.soft 17 .nil)))))))))))))))))) (by kernel_rfl) (by kernel_rfl) (fun _ _ _ _ _ h => h) ⟨n3, nc⟩ ?_
        repeat
          first
          | (refine scr_soft (by rfl) ?_ ?_ ?_ ?_
             rotate_left
             · simp [Region.wanted, yielded]; done
             · intro w' hS
               try obtain ⟨a1, a2⟩ := hS
               go_simp
               try with_reducible rfl
             simp only [Act.put, List.setIfInBounds_toArray, List.set_cons_zero, List.set_cons_succ])
          | (refine scr_skip (by rfl) ?_ ?_
             · simp [Region.wanted, yielded]; done
             simp only [Act.put, List.setIfInBounds_toArray, List.set_cons_zero, List.set_cons_succ])
        refine scr_hard (by rfl) (by simp [Region.wanted, yielded]) (fun K hK => ?_)
        go_simp
        refine (isoLoad_any t (rid c) k _ _ w3.drew k0' nc0 cw0).mono ?_
        rintro e w4 ⟨rfl, m4, hw4⟩
        have hc4 : Chg (fun _ _ => False) w3 w4 := by rw [hw4]; exact (Chg.refl _ _).drew.drewN _
        refine hK _ _ ⟨hc4.cell (fun h => h) n3, hc4.cell (fun h => h) nc⟩ ?_
        clear hw4 hK K
        repeat
          first
          | (refine scr_soft (by rfl) ?_ ?_ ?_ ?_
             rotate_left
             · simp [Region.wanted, yielded]; done
             · intro w' hS
               try obtain ⟨a1, a2⟩ := hS
               go_simp
               try with_reducible rfl
             simp only [Act.put, List.setIfInBounds_toArray, List.set_cons_zero, List.set_cons_succ])
          | (refine scr_skip (by rfl) ?_ ?_
             · simp [Region.wanted, yielded]; done
             simp only [Act.put, List.setIfInBounds_toArray, List.set_cons_zero, List.set_cons_succ])
        refine scr_nil ?_
        go_wp2_with fail
        go_roundw
        case rel => exact ⟨h', c, P ++ [rid T'], rfl, hT.kid hcm, g2, g1, nodup_kid hnd hcm, hbg2, g3.trans HLA.out, HSPC.out, hPc, fun a ha => hsub a (ids_kid hcm ha), HKC2, HF3.out.chg hc4 (fun _ _ _ h => h), hcw3.trans (hc4.mono (fun _ _ _ h => h.elim))⟩
        case measure => omega
end Go.Proofs.Ytojplcbkiogcpaa

namespace Go.Proofs.Ytojplcbkiogcpaa
set_option linter.unusedSimpArgs false
set_option linter.unusedVariables false
open Go.RowKit

theorem pre_step {α : Type} {xs : List α} {ts : List (List α)} {i : Nat} {x : α} {t : List α} (hx : xs[i]? = some x) (ht : ts[i]? = some t) : pre (xs.take (i + 1)) (ts.take (i + 1)) = pre (xs.take i) (ts.take i) ++ (t ++ [x]) := by
  have hi := (List.getElem?_eq_some_iff.1 hx).1
  have hj := (List.getElem?_eq_some_iff.1 ht).1
  rw [List.take_add_one, List.take_add_one, hx, ht]
  have h : (xs.take i).length = (ts.take i).length := by simp; omega
  have := pre_app (xs.take i) [x] (ts.take i) [t] h
  simpa [pre] using this

theorem inter_end {α : Type} {xs : List α} {ts : List (List α)} {t : List α} (h : ts.length = xs.length + 1) (ht : ts[xs.length]? = some t) : inter xs ts = pre (xs.take xs.length) (ts.take xs.length) ++ t := by
  rw [inter_split xs.length xs ts t h ht, List.drop_of_length_le (Nat.le_refl _)]
  simp [post]

/-- A piece of the list ahead of the i-th child, and up to it. -/
theorem pre_len {α : Type} {xs : List α} {ts : List (List α)} (h : ts.length = xs.length + 1) {i : Nat} {t : List α} (ht : ts[i]? = some t) : (pre (xs.take i) (ts.take i)).length + t.length ≤ (inter xs ts).length := by
  rw [inter_split i xs ts t h ht]
  simp only [List.length_append]; omega

def ItSpec (ord : List Int) (h : Nat) : Prop := ∀ (k : Kc ord) (mn mx : Nat) (w : World) (F : Nat → Prop) (H : Nat → Option (NodeR (It ord))) (T : BT (It ord) h) (t : Nat) (pa : Addr) (mt : Bool) (v : Value) (acc : List (It ord)) (base : Nat),
  Fam (parM k) w F H → IsT H h T → Sh mn mx h T → 1 ≤ (its T).length → 1 ≤ mn → OwnE itemE w v acc base → base ≤ w.heap.size → (∀ b, F b → b < base) → t < base →
  w.cell? ⟨t, 0, none⟩ = some (.int .u64 k.iso) → w.cell? pa = some (.pointer (some ⟨rid T, 0, none⟩)) → acc.length + (toL h T).length ≤ 1000000000000 →
  Calls Try.prog 113 #[.pointer (some ⟨t, 0, none⟩), .pointer (some pa), v, .bool mt] w fun e w' => ∃ v', e = .returned v' ∧ OwnE itemE w' v' (acc ++ toL h T) base ∧ Chg (fun b _ => base ≤ b) w w'

theorem flat_same {ord : List Int} {k : Kc ord} (xs : List (It ord)) : flat (parM k) xs = flat itemE.par xs := rfl

set_option maxRecDepth 100000 in
set_option maxHeartbeats 1000000 in
theorem items_leaf (ord : List Int) : ItSpec ord 0 := by
  intro k mn mx w F H T t pa mt v acc base hF hT hs hit hmn how hbase hFb htb c0 hpa hlen
  obtain ⟨i0, hi0, hz0, hz1, hz2⟩ := info_parts infoItem
  obtain ⟨l0, hn0⟩ := hF.node hT.root
  have nn := hn0.c0
  have n3 := hn0.c3n rfl
  have n2 : w.cell? ⟨rid T, 2, none⟩ = some (.slice (some ⟨l0.ib, l0.io, none⟩) T.2.length l0.ic) := hn0.c2
  have hrow := hn0.row
  have hlen' : acc.length + T.2.length ≤ 1000000000000 := hlen
  have hit' : 1 ≤ T.2.length := hit
  have HOW := Lib.hid how
  have HROW := Lib.hid hrow
  clear how hrow
  go_enter Try.func113, Try.ntmps113
  go_wp2_with fail
  refine (isoLoad_any t (rid T) k _ _ _ hpa nn c0).mono ?_
  rintro e w1 ⟨rfl, m, hw1⟩
  have hc1 : Chg (fun _ _ => False) w w1 := by rw [hw1]; exact (Chg.refl _ _).drewN _
  replace n3 := hc1.cell (fun h => h) n3
  replace n2 := hc1.cell (fun h => h) n2
  clear hw1
  go_wp2_with fail
  refine (leaf_any _ none _ n3).mono ?_
  rintro e w' ⟨rfl, rfl⟩
  have HOW2 := Lib.hid (HOW.out.keep hc1)
  go_wp2_with (refine wpList_append_E itemE (by rfl) _ _ _ (by rfl) i0 _ 16 Try.underlying31 hi0 hz0 hz1 hz2 rfl _ (by rfl) _ base HOW2.out (Nat.le_trans hbase hc1.size) ⟨l0.ib, l0.io, none⟩ T.2.length _ (by rfl) T.2 rfl (by omega) ?_ ?_ ?_ ?_)
  · intro j u hj
    rw [add_none]
    exact hc1.cell (fun h => h) (HROW.out.cell hj)
  · unfold maxLen; omega
  · omega
  intro v' w' h1 h2 _
  go_wp2
  go_ret
  exact ⟨_, rfl, h1, (hc1.mono (fun _ _ _ h => h.elim)).trans h2⟩

set_option maxRecDepth 100000 in
set_option maxHeartbeats 1000000 in
theorem items_branch {ord : List Int} {h : Nat} (ih : ItSpec ord h) : ItSpec ord (h + 1) := by
  intro k mn mx w F H T t pa mt v acc base hF hT hs hit hmn how hbase hFb htb c0 hpa hlen
  obtain ⟨i0, hi0, hz0, hz1, hz2⟩ := info_parts infoItem
  obtain ⟨l0, hn0⟩ := hF.node hT.root
  have nn := hn0.c0
  have hk : (recOf (h + 1) T).kids = some (T.2.2.map fun c => some (rid c)) := rfl
  have n3 := hn0.c3s hk
  have hkl : T.2.2.length = T.2.1.length + 1 := hs.2.1
  have hml : (T.2.2.map (toL h)).length = T.2.1.length + 1 := by simpa using hkl
  have hlen' : acc.length + (inter T.2.1 (T.2.2.map (toL h))).length ≤ 1000000000000 := hlen
  have HLEN := Lib.hid hlen'
  have HOW := Lib.hid how
  have HKL := Lib.hid hkl
  have HML := Lib.hid hml
  have hitn : T.2.1.length ≤ (inter T.2.1 (T.2.2.map (toL h))).length := (its_sub hs).length_le
  have hitl : T.2.1.length ≤ 1000000000000 := by omega
  clear how hkl hlen' hml hlen hitn
  go_enter Try.func113, Try.ntmps113
  go_wp2_with fail
  refine (isoLoad_any t (rid T) k _ _ _ hpa nn c0).mono ?_
  rintro e w1 ⟨rfl, m, hw1⟩
  have hc1 : Chg (fun b _ => base ≤ b) w w1 := by rw [hw1]; exact (Chg.refl _ _).drewN _
  have hcf : Chg (fun _ _ => False) w w1 := by rw [hw1]; exact (Chg.refl _ _).drewN _
  replace n3 := hcf.cell (fun h => h) n3
  have HOW1 := Lib.hid (HOW.out.keep hcf)
  clear hw1 hcf
  go_wp2_with fail
  refine (leaf_any _ (some ⟨l0.cc, 0, none⟩) _ n3).mono ?_
  rintro e w' ⟨rfl, rfl⟩
  clear n3
  go_wp2_with fail
  go_loopw [2, 10] (fun v i wr => ∃ (j : Nat), j ≤ T.2.1.length ∧ i = .int .i64 j ∧ OwnE itemE wr v (acc ++ pre (T.2.1.take j) ((T.2.2.map (toL h)).take j)) base ∧ Chg (fun b _ => base ≤ b) w wr) (fun _ i _ => T.2.1.length - (intOf i).toNat)
  case atStart => exact ⟨0, Nat.zero_le _, rfl, by simpa [pre] using HOW1.out, hc1⟩
  case round =>
    obtain ⟨j, hj, rfl, how, hc⟩ := hrel
    have hsz := hc.size
    have hFr := hF.chg hc (fun b o hb h => by have := hFb b hb; omega)
    obtain ⟨l, hn, hblk⟩ := hFr.nodeB hT.root
    have hrb : ¬ base ≤ rid T := by have := hFb _ (hblk _ (.inl rfl)); omega
    have hcb : ¬ base ≤ l.cc := by have := hFb _ (hblk _ (.inr (.inr ⟨by rw [hk]; simp, .inl rfl⟩))); omega
    have n2 : wr.cell? ⟨rid T, 2, none⟩ = some (.slice (some ⟨l.ib, l.io, none⟩) T.2.1.length l.ic) := hn.c2
    have n3 := hn.c3s hk
    have nc := hn.cc hk
    rw [List.length_map] at nc
    obtain ⟨c, hcj⟩ : ∃ c, T.2.2[j]? = some c := ⟨_, List.getElem?_eq_getElem (by have := HKL.out; omega)⟩
    have kc : wr.cell? ⟨l.cb, l.co + j, none⟩ = some (.pointer (some ⟨rid c, 0, none⟩)) := hn.kidc hk (j := j) (o := some (rid c)) (by simp [hcj])
    have hcm : c ∈ T.2.2 := List.mem_of_getElem? hcj
    have hkc := (List.getElem?_eq_some_iff.1 hcj).1
    have htj : (T.2.2.map (toL h))[j]? = some (toL h c) := by simp [hcj]
    have hpl := pre_len HML.out htj
    have hpl2 := HLEN.out
    have i0' : (0 : Int) ≤ (j : Int) := by omega
    have k1 : (j : Int) < (T.2.2.length : Int) := by omega
    have hih := fun (w1 : World) (pa1 : Addr) (v1 : Value) (acc1 : List (It ord)) (hc1 : Chg (fun b _ => base ≤ b) w w1) (h1 : OwnE itemE w1 v1 acc1 base) (hp1 : w1.cell? pa1 = some (.pointer (some ⟨rid c, 0, none⟩))) (h2 : acc1.length + (toL h c).length ≤ 1000000000000) =>
      ih k mn mx w1 F H c t pa1 mt v1 acc1 base (hF.chg hc1 (fun b o hb h => by have := hFb b hb; omega)) (hT.kid hcm) (hs.2.2 c hcm).2 (Nat.le_trans hmn (hs.2.2 c hcm).1) hmn h1 (Nat.le_trans hbase hc1.size) hFb htb (hc1.cell (fun h => by have h2 : base ≤ t := h; omega) c0) hp1 h2
    have HIH := Lib.hid hih
    clear hih
    have hml1 : (acc ++ pre (T.2.1.take j) ((T.2.2.map (toL h)).take j)).length + (toL h c).length ≤ 1000000000000 := by
      rw [List.length_append]; omega
    have HL1 := Lib.hid hml1
    clear hml1
    by_cases hlt : j < T.2.1.length
    · obtain ⟨x, hx⟩ : ∃ x, T.2.1[j]? = some x := ⟨_, List.getElem?_eq_getElem hlt⟩
      have hstep := pre_step hx htj
      have ht : acc ++ pre (T.2.1.take (j + 1)) ((T.2.2.map (toL h)).take (j + 1)) = acc ++ pre (T.2.1.take j) ((T.2.2.map (toL h)).take j) ++ toL h c ++ [x] := by
        rw [hstep]; simp
      have HT := Lib.hid ht
      have HX := Lib.hid hx
      have HOW2 := Lib.hid how
      clear hx ht hstep how htj hcj hpl hpl2
      have i1 : (j : Int) < (T.2.1.length : Int) := by omega
      go_wp2_with fail
      refine (HIH.out _ _ _ _ hc HOW2.out kc HL1.out).mono ?_
      rintro e w2 ⟨v2, rfl, how2, hc2⟩
      have hc02 := hc.trans hc2
      obtain ⟨l2, hn2⟩ := (hF.chg hc02 (fun b o hb h => by have := hFb b hb; omega)).node hT.root
      have n2' : w2.cell? ⟨rid T, 2, none⟩ = some (.slice (some ⟨l2.ib, l2.io, none⟩) T.2.1.length l2.ic) := hn2.c2
      have iv := hn2.mval (j := j) HX.out
      have ik := hn2.mkey (j := j) HX.out
      have hca : Chg (fun _ _ => False) w2 (w2.alloc (.cells #[.int .i64 x.1, .int .i64 x.2] 26)) := (Chg.refl _ _).alloc _
      have HOW3 := Lib.hid (how2.keep hca)
      clear how2
      have hsz2 := hc02.size
      have hll : (acc ++ pre (T.2.1.take j) ((T.2.2.map (toL h)).take j) ++ toL h c).length ≤ 1000000000000 := by
        have := HL1.out
        rw [List.length_append]; exact this
      have HLL := Lib.hid hll
      clear hll n2 n3 nc kc
      go_wp2_with (refine wpList_append_E itemE (by rfl) _ _ _ (by rfl) i0 _ 16 Try.underlying31 hi0 hz0 hz1 hz2 rfl _ (by rfl) _ base HOW3.out (Nat.le_trans hbase (Nat.le_trans hsz2 hca.size)) ⟨w2.heap.size, 0, none⟩ 1 _ (by rfl) [x] rfl (by decide) ?_ ?_ ?_ ?_)
      · exact El.src1 itemE (c := #[.int .i64 x.1, .int .i64 x.2]) (ha_at _ _ (by simp)) _ rfl
      · have := HLL.out; unfold maxLen; omega
      · have := HLL.out; omega
      intro v' w' h1 h2 _
      have hc3 : Chg (fun b _ => base ≤ b) w w' := (hc02.trans (hca.mono (fun _ _ _ h => h.elim))).trans h2
      go_wp2
      go_roundw
      case rel => exact ⟨j + 1, by omega, by go_num, by rw [HT.out]; simpa only [List.append_assoc] using h1, hc3⟩
      case measure => simp [intOf]; omega
    · obtain rfl : j = T.2.1.length := by omega
      have hend := inter_end HML.out htj
      have ht : acc ++ toL (h + 1) T = acc ++ pre (T.2.1.take T.2.1.length) ((T.2.2.map (toL h)).take T.2.1.length) ++ toL h c := by
        show acc ++ inter T.2.1 (T.2.2.map (toL h)) = _
        rw [hend]; simp
      have HT := Lib.hid ht
      have HOW2 := Lib.hid how
      have hkk := HKL.out
      have kc' : wr.cell? ⟨l.cb, l.co + (T.2.2.length - 1), none⟩ = some (.pointer (some ⟨rid c, 0, none⟩)) := by
        have e : T.2.2.length - 1 = T.2.1.length := by omega
        rw [e]; exact kc
      have i4 : (1 : Int) ≤ (T.2.2.length : Int) := by omega
      have i0 : (0 : Int) ≤ (T.2.2.length : Int) - 1 := by omega
      have i1 : (T.2.2.length : Int) - 1 < (T.2.2.length : Int) := by omega
      have i2 : ((T.2.2.length : Int) - 1).toNat = T.2.2.length - 1 := by omega
      have i3 : IntKind.i64.wrap ((T.2.2.length : Int) - 1) = (T.2.2.length : Int) - 1 := IntWalk.i64_in _ (by omega)
      clear ht hend how htj hcj hpl hpl2 hkk hkc kc k1
      go_wp2_with fail
      refine wp_region_scr (fun w' => w'.cell? ⟨rid T, 3, none⟩ = some (.pointer (some ⟨l.cc, 0, none⟩)) ∧ w'.cell? ⟨l.cc, 0, none⟩ = some (.slice (some ⟨l.cb, l.co, none⟩) T.2.2.length l.ck)) (.soft 0 (.soft 1 (.soft 2 (.soft 3 (.soft 4 (.soft 5 (.soft 6 (.soft 7 (.soft 8 (.soft 9 (.soft 10 (.soft 11 (.soft 12 (.soft 13 (.soft 14 (.soft 15 (.soft 16 (.soft 17 (.hard 18 (.soft 19 .nil)))))))))))))))))))) (by kernel_rfl) (by kernel_rfl) (fun _ _ _ _ _ h => h) ⟨n3, nc⟩ ?_
      repeat
        first
        | (refine scr_soft (by rfl) ?_ ?_ ?_ ?_
           rotate_left
           · simp [Region.wanted, yielded]; done
           · intro w' hS
             try obtain ⟨a1, a2⟩ := hS
             go_simp
             try with_reducible rfl
           simp only [Act.put, List.setIfInBounds_toArray, List.set_cons_zero, List.set_cons_succ])
        | (refine scr_skip (by rfl) ?_ ?_
           · simp [Region.wanted, yielded]; done
           simp only [Act.put, List.setIfInBounds_toArray, List.set_cons_zero, List.set_cons_succ])
      refine scr_hard (by rfl) (by simp [Region.wanted, yielded]) (fun K hK => ?_)
      go_simp
      refine (HIH.out wr.drew _ _ _ hc.drew (HOW2.out.keep (Chg.refl _ _).drew) kc' HL1.out).mono ?_
      rintro e w2 ⟨v2, rfl, how2, hc2⟩
      refine hK _ _ ⟨hc2.cell hrb n3, hc2.cell hcb nc⟩ ?_
      clear hK K
      repeat
        first
        | (refine scr_soft (by rfl) ?_ ?_ ?_ ?_
           rotate_left
           · simp [Region.wanted, yielded]; done
           · intro w' hS
             try obtain ⟨a1, a2⟩ := hS
             go_simp
             try with_reducible rfl
           simp only [Act.put, List.setIfInBounds_toArray, List.set_cons_zero, List.set_cons_succ])
        | (refine scr_skip (by rfl) ?_ ?_
           · simp [Region.wanted, yielded]; done
           simp only [Act.put, List.setIfInBounds_toArray, List.set_cons_zero, List.set_cons_succ])
      refine scr_nil ?_
      go_wp2
      go_ret
      exact ⟨v2, rfl, by rw [HT.out]; simpa only [List.append_assoc] using how2, hc.drew.trans hc2⟩

theorem items_all (ord : List Int) : (h : Nat) → ItSpec ord h
  | 0 => items_leaf ord
  | h + 1 => items_branch (items_all ord h)
end Go.Proofs.Ytojplcbkiogcpaa

namespace Go.Proofs.Ytojplcbkiogcpaa
set_option linter.unusedSimpArgs false
set_option linter.unusedVariables false
open Go.RowKit

def OwnPostI (xs : List (Int × Int)) (w : World) (e : Ending) (w' : World) : Prop := ∃ v, e = .returned v ∧ OwnE itemE w' v xs w.heap.size ∧ Chg (fun _ _ => False) w w'

theorem MapIn.blk {ord : List Int} {k : Kc ord} {mn mx : Nat} {w : World} {F : Nat → Prop} {t : Nat} {l : List (It ord)} (h : MapIn k mn mx w F t l) : ∃ root, MapBlk k mn mx w t root l.length := by
  rcases h with ⟨rfl, _, hB⟩ | ⟨H, h, T, _, hB, rfl, _⟩
  · exact ⟨none, hB⟩
  · exact ⟨_, hB⟩

theorem MapIn.flt {ord : List Int} {k : Kc ord} {mn mx : Nat} {w : World} {F : Nat → Prop} {t : Nat} {l : List (It ord)} (hM : MapIn k mn mx w F t l) : ∀ b, F b → b < w.heap.size := by
  intro b hb
  rcases hM with ⟨_, h, _⟩ | ⟨H, h, T, hI, _⟩
  · exact absurd hb (h b)
  · exact hI.fam.lt hb

theorem Len_any {ord : List Int} {k : Kc ord} {mn mx : Nat} {w : World} {F : Nat → Prop} {t : Nat} {l : List (It ord)} (hM : MapIn k mn mx w F t l) :
    Calls Try.prog 112 #[.pointer (some ⟨t, 0, none⟩)] w fun e w' => e = .returned (.int .i64 l.length) ∧ w = w' := by
  obtain ⟨root, hB⟩ := hM.blk
  have c3 := hB.c3
  clear hB hM
  go_enter Try.func112, Try.ntmps112
  go_wp2
  go_ret
  exact ⟨rfl, rfl⟩

theorem made_items (n : Nat) (w : World) (hn : n ≤ 1000000000000) : (Instr.makeSlice 31 (.int .i64 0) (.int .i64 n)).run Try.prog w = .ok (.slice (some ⟨w.heap.size, 0, none⟩) 0 n) (w.alloc (.cells (madeCells #[.int .i64 0, .int .i64 0] (n * 2)) 26)) := by
  obtain ⟨i0, hi0, hz0, hz1, hz2⟩ := info_parts infoItem
  have h := run_make (P := Try.prog) w 31 26 i0 _ Try.underlying31 hi0 hz0 .i64 .i64 0 (n : Int) (by omega) (by omega) (by rw [hz2]; omega) (by omega)
  rw [h, hz1]
  simp [Value.cells]

theorem own_made (n : Nat) (w : World) : OwnE itemE (w.alloc (.cells (madeCells #[.int .i64 0, .int .i64 0] (n * 2)) 26)) (.slice (some ⟨w.heap.size, 0, none⟩) 0 n) [] w.heap.size := by
  refine .inr ⟨w.heap.size, 0, n, rfl, Nat.zero_le _, Nat.le_refl _, RowAt.of_block (ha_at _ _ rfl) _ _ (by simp [flat]) ?_ (by simp [flat])⟩
  simp [madeCells, itemE]

set_option maxRecDepth 100000 in
theorem items_any {ord : List Int} {k : Kc ord} {mn mx : Nat} {w : World} {F : Nat → Prop} {t : Nat} {l : List (It ord)} (mt : Bool) (hM : MapIn k mn mx w F t l) (hmn : 1 ≤ mn) (hlen : l.length ≤ 1000000000000) :
    Calls Try.prog 86 #[.pointer (some ⟨t, 0, none⟩), .bool mt] w (OwnPostI l w) := by
  have hF := hM.flt
  have htw : t < w.heap.size := hM.own MOwn.self
  have hL := Len_any hM
  obtain ⟨n, hn⟩ : ∃ n, l.length = n := ⟨_, rfl⟩
  rw [hn] at hL hlen
  have HN := Lib.hid hn
  clear hn
  have hmk := fun w' => made_items n w' hlen
  have hca : Chg (fun _ _ => False) w (w.alloc (.cells (madeCells #[.int .i64 0, .int .i64 0] (n * 2)) 26)) := (Chg.refl _ _).alloc _
  have hown := own_made n w
  have HOWN := Lib.hid hown
  clear hown
  rcases hM.chg hca with ⟨rfl, _, hB⟩ | ⟨H, h, T, hI, hB, rfl, h1⟩
  · have c2 : (w.alloc (.cells (madeCells #[.int .i64 0, .int .i64 0] (n * 2)) 26)).cell? ⟨t, 2, none⟩ = some (.pointer none) := hB.c2
    clear hB
    go_enter Try.func86, Try.ntmps86
    go_wp2_with fail
    refine (lock_any t mt _).mono ?_
    rintro e w' ⟨rfl, rfl⟩
    go_wp2_with fail
    refine hL.mono ?_
    rintro e w' ⟨rfl, rfl⟩
    go_wp2_with fail
    go_ret
    exact ⟨_, rfl, HOWN.out, hca⟩
  · have c2 : (w.alloc (.cells (madeCells #[.int .i64 0, .int .i64 0] (n * 2)) 26)).cell? ⟨t, 2, none⟩ = some (.pointer (some ⟨rid T, 0, none⟩)) := hB.c2
    have c0 := hB.at_.c0
    have hk := items_all ord h k mn mx _ F H T t ⟨t, 2, none⟩ mt _ [] w.heap.size hI.fam hI.isT hI.sh h1 hmn HOWN.out hca.size hF htw c0 c2 (by rw [HN.out]; simpa using hlen)
    have HK := Lib.hid hk
    clear hk hB
    go_enter Try.func86, Try.ntmps86
    go_wp2_with fail
    refine (lock_any t mt _).mono ?_
    rintro e w' ⟨rfl, rfl⟩
    go_wp2_with fail
    refine hL.mono ?_
    rintro e w' ⟨rfl, rfl⟩
    go_wp2_with fail
    refine HK.out.mono ?_
    rintro e w2 ⟨v2, rfl, how2, hc2⟩
    go_wp2_with fail
    go_ret
    exact ⟨v2, rfl, how2, hca.trans' hc2 (fun _ _ _ h => h) (fun b o hb h => by omega)⟩

theorem ItemsMut_any {ord : List Int} {k : Kc ord} {mn mx : Nat} {w : World} {F : Nat → Prop} {t : Nat} {l : List (It ord)} (hM : MapIn k mn mx w F t l) (hmn : 1 ≤ mn) (hlen : l.length ≤ 1000000000000) :
    Calls Try.prog 81 #[.pointer (some ⟨t, 0, none⟩)] w (OwnPostI l w) := by
  have HK := Lib.hid (items_any true hM hmn hlen)
  clear hM
  go_enter Try.func81, Try.ntmps81
  go_wp2_with fail
  refine HK.out.mono ?_
  rintro e w1 ⟨v1, rfl, h1, h2⟩
  go_wp2_with fail
  go_ret
  exact ⟨v1, rfl, h1, h2⟩

set_option maxRecDepth 100000 in
theorem GItemsMut_any {ord : List Int} (sv : Value) (d : Int) (nl : Bool) (p : Option Addr) (cap : Nat) (l : List (It ord)) (w : World) (hs : SlE intE w sv ord) (hol : ord.length ≤ 2147483647) (hd : FitD d) (hl : ItemsAt w p l) (hlen : l.length ≤ 2147483647) :
    Calls Try.prog 51 #[.agg #[sv, .int .i64 d, .bool nl], .slice p l.length cap] w (OwnPostI (growL l) w) := by
  have HG := Lib.hid (fun w1 (c : Chg (fun _ _ => False) w w1) => grow_any (ord := ord) sv d nl p cap l w1 hd (hs.chg c) hol (hl.chg c) hlen)
  have hdim := hd.dims.1
  unfold GrowPost at HG
  have hgl := growL_take_len l l.length
  rw [List.take_length] at hgl
  have HGL := Lib.hid hgl
  obtain ⟨sa, sc, rfl⟩ : ∃ a c, sv = .slice a ord.length c := hs.form
  clear hs hl hgl
  go_enter Try.func51, Try.ntmps51
  go_wp2_with fail
  refine (HG.out _ ((Chg.refl _ _).alloc _)).mono ?_
  rintro e w2 ⟨k, t, F, rfl, hM, hc2, _, _⟩
  go_wp2_with fail
  refine (ItemsMut_any hM hdim (by have := HGL.out; omega)).mono ?_
  rintro e w3 ⟨v, rfl, how, hc3⟩
  have hc0 := (((Chg.refl (fun _ _ => False) w).alloc _)).trans hc2
  go_wp2_with fail
  go_ret
  exact ⟨v, rfl, how.mono hc0.size, hc0.trans hc3⟩

set_option maxRecDepth 100000 in
theorem gItemsMut_any {ord : List Int} (sv : Value) (d : Int) (nl : Bool) (p : Option Addr) (cap : Nat) (l : List (It ord)) (w : World) (hs : SlE intE w sv ord) (hol : ord.length ≤ 2147483647) (hd : FitD d) (hl : ItemsAt w p l) (hlen : l.length ≤ 2147483647) :
    Calls Try.prog 21 #[.agg #[sv, .int .i64 d, .bool nl], .slice p l.length cap] w fun e w' => e = .returned (.bool true) ∧ Chg (fun _ _ => False) w w' := by
  have HM := Lib.hid (fun w1 (c : Chg (fun _ _ => False) w w1) => GItemsMut_any sv d nl p cap l w1 (hs.chg c) hol hd (hl.chg c) hlen)
  have HT := Lib.hid (fun w1 (c : Chg (fun _ _ => False) w w1) => tree_any sv (rkL ord) p cap l w1 (rank_list sv ord w1 (hs.chg c) hol) (hl.chg c) hlen)
  rw [growL_tree] at HM
  have hlen2 := treeL_len (ltR (rkL ord)) l
  unfold TreePost at HT
  generalize treeL (ltR (rkL ord)) l = L at HM HT hlen2
  obtain ⟨sa, sc, rfl⟩ : ∃ a c, sv = .slice a ord.length c := hs.form
  clear hs hl
  go_enter Try.func21, Try.ntmps21
  go_wp2_with fail
  refine (HM.out _ ((Chg.refl _ _).alloc _)).mono ?_
  rintro e w1 ⟨v1, rfl, how1, hc1⟩
  have hb0 : w1.heap[w.heap.size]? = some (.cells #[.slice sa ord.length sc, .int .i64 d, .bool nl] 24 (0, 0)) := by rw [hc1.block (by simp) (fun _ h => h)]; exact ha_at _ _ rfl
  have m0 := cell_of_block hb0 0
  simp only [List.getElem?_toArray, List.getElem?_cons_zero, List.getElem?_cons_succ] at m0
  have hc01 := ((Chg.refl (fun _ _ => False) w).alloc (.cells #[.slice sa ord.length sc, .int .i64 d, .bool nl] 24)).trans hc1
  clear hb0
  go_wp2_with fail
  refine (HT.out _ hc01).mono ?_
  rintro e w2 ⟨v2, rfl, hv2, hc2⟩
  obtain ⟨q, cap2, rfl, hi, hcap⟩ := hv2.items
  go_wp2_with fail
  refine (equal_item _ _ _ _ (how1.sl.chg hc2) (hi.sl hcap) (by omega)).mono ?_
  rintro e w3 ⟨rfl, hc3⟩
  go_wp2_with fail
  go_ret
  exact ⟨rfl, (hc01.trans hc2).trans hc3⟩

set_option maxRecDepth 100000 in
theorem law_ExactGItemsMut (sv : Value) (os : List Int) (d : Int) (nl : Bool) (p : Option Addr) (cap : Nat) (l : List (Int × Int)) (w : World) (hs : SlE intE w sv os) (hl : ItemsAt w p l) :
    Calls Try.prog 5 #[.agg #[sv, .int .i64 d, .bool nl], .slice p l.length cap] w fun e w' => e = .returned (.bool true) ∧ Chg (fun _ _ => False) w w' := by
  obtain ⟨sa, sc, rfl⟩ : ∃ a c, sv = .slice a os.length c := hs.form
  have hz := fun w1 => zzFits1_any sa os.length sc d nl w1
  by_cases hol : os.length ≤ 2147483647
  rotate_left
  · rw [decide_eq_false hol] at hz
    go_enter Try.func5, Try.ntmps5
    go_wp2_with fail
    refine name_calls (fun w1 => Chg (fun _ _ => False) w w1) (((Chg.refl _ _).alloc _)) ?_
    intro w1 hc1
    refine (hz w1).mono ?_
    rintro e w2 ⟨rfl, hc2⟩
    go_wp2_with fail
    go_ret
    exact ⟨rfl, hc1.trans hc2⟩
  rw [decide_eq_true hol] at hz
  by_cases hlen : l.length ≤ 2147483647
  rotate_left
  · have hlen' : 2147483647 < l.length := by omega
    go_enter Try.func5, Try.ntmps5
    go_wp2_with fail
    refine name_calls (fun w1 => Chg (fun _ _ => False) w w1) (((Chg.refl _ _).alloc _)) ?_
    intro w1 hc1
    refine (hz w1).mono ?_
    rintro e w2 ⟨rfl, hc2⟩
    go_wp2_with fail
    go_ret
    exact ⟨rfl, hc1.trans hc2⟩
  have hn : ¬ 2147483647 < l.length := by omega
  have HEX := Lib.hid (fun q w1 (hq : ItemsAt w1 q exL) => gItemsMut_any (ord := []) (.slice none 0 0) 2 false q 7 exL w1 ⟨none, 0, rfl, Nat.le_refl _, .inl rfl⟩ (by simp) (.inr ⟨by omega, by omega⟩) hq (by decide))
  have HG := Lib.hid (fun hd w1 (c : Chg (fun _ _ => False) w w1) => gItemsMut_any (ord := os) (.slice sa os.length sc) d nl p cap l w1 (hs.chg c) hol hd (hl.chg c) hlen)
  clear hs hl
  have q1 : exL.length = 7 := rfl
  go_enter Try.func5, Try.ntmps5
  go_wp2_with fail
  refine name_calls (fun w1 => Chg (fun _ _ => False) w w1 ∧ w1.heap[w.heap.size]? = some (.cells #[.slice sa os.length sc, .int .i64 d, .bool nl] 24 (0, 0))) ⟨((Chg.refl _ _).alloc _), ha_at _ _ rfl⟩ ?_
  rintro w1 ⟨hc1, hb0⟩
  have m0 := cell_of_block hb0 0
  have m1 := cell_of_block hb0 1
  have m2 := cell_of_block hb0 2
  simp only [List.getElem?_toArray, List.getElem?_cons_zero, List.getElem?_cons_succ] at m0 m1 m2
  clear hb0
  refine (hz w1).mono ?_
  rintro e w2 ⟨rfl, hc2⟩
  replace m0 := hc2.cell (fun h => h) m0
  replace m1 := hc2.cell (fun h => h) m1
  replace m2 := hc2.cell (fun h => h) m2
  go_wp2_with fail
  refine (exMake_any _).mono ?_
  rintro e w3 ⟨rfl, hc3⟩
  replace m0 := hc3.cell (fun h => h) m0
  replace m1 := hc3.cell (fun h => h) m1
  replace m2 := hc3.cell (fun h => h) m2
  go_wp2_with fail
  refine (exItems_any _).mono ?_
  rintro e w4 ⟨q, rfl, hq, hc4⟩
  replace m0 := hc4.cell (fun h => h) m0
  replace m1 := hc4.cell (fun h => h) m1
  replace m2 := hc4.cell (fun h => h) m2
  go_wp2_with fail
  refine (HEX.out q _ hq).mono ?_
  rintro e w5 ⟨rfl, hc5⟩
  replace m0 := hc5.cell (fun h => h) m0
  replace m1 := hc5.cell (fun h => h) m1
  replace m2 := hc5.cell (fun h => h) m2
  have hc04 := (((hc1.trans hc2).trans hc3).trans hc4).trans hc5
  by_cases hd : FitD d
  · go_wp2_with fail
    refine (fits_fit d _ hd).mono ?_
    rintro e w' ⟨rfl, rfl⟩
    go_wp2_with fail
    refine (HG.out hd _ hc04).mono ?_
    rintro e w5 ⟨rfl, hc5⟩
    go_wp2_with fail
    go_ret
    exact ⟨rfl, hc04.trans hc5⟩
  · go_wp2_with fail
    refine (fits_not d _ hd).mono ?_
    rintro e w' ⟨rfl, rfl⟩
    go_wp2_with fail
    go_ret
    exact ⟨rfl, hc04⟩
end Go.Proofs.Ytojplcbkiogcpaa

namespace Go.Proofs.Ytojplcbkiogcpaa
set_option linter.unusedSimpArgs false
set_option linter.unusedVariables false
open Go.RowKit

theorem Items_any {ord : List Int} {k : Kc ord} {mn mx : Nat} {w : World} {F : Nat → Prop} {t : Nat} {l : List (It ord)} (hM : MapIn k mn mx w F t l) (hmn : 1 ≤ mn) (hlen : l.length ≤ 1000000000000) :
    Calls Try.prog 54 #[.pointer (some ⟨t, 0, none⟩)] w (OwnPostI l w) := by
  have HK := Lib.hid (items_any false hM hmn hlen)
  clear hM
  go_enter Try.func54, Try.ntmps54
  go_wp2_with fail
  refine HK.out.mono ?_
  rintro e w1 ⟨v1, rfl, h1, h2⟩
  go_wp2_with fail
  go_ret
  exact ⟨v1, rfl, h1, h2⟩

set_option maxRecDepth 100000 in
theorem GItems_any {ord : List Int} (sv : Value) (d : Int) (nl : Bool) (p : Option Addr) (cap : Nat) (l : List (It ord)) (w : World) (hs : SlE intE w sv ord) (hol : ord.length ≤ 2147483647) (hd : FitD d) (hl : ItemsAt w p l) (hlen : l.length ≤ 2147483647) :
    Calls Try.prog 24 #[.agg #[sv, .int .i64 d, .bool nl], .slice p l.length cap] w (OwnPostI (growL l) w) := by
  have HG := Lib.hid (fun w1 (c : Chg (fun _ _ => False) w w1) => grow_any (ord := ord) sv d nl p cap l w1 hd (hs.chg c) hol (hl.chg c) hlen)
  have hdim := hd.dims.1
  unfold GrowPost at HG
  have hgl := growL_take_len l l.length
  rw [List.take_length] at hgl
  have HGL := Lib.hid hgl
  obtain ⟨sa, sc, rfl⟩ : ∃ a c, sv = .slice a ord.length c := hs.form
  clear hs hl hgl
  go_enter Try.func24, Try.ntmps24
  go_wp2_with fail
  refine (HG.out _ ((Chg.refl _ _).alloc _)).mono ?_
  rintro e w2 ⟨k, t, F, rfl, hM, hc2, _, _⟩
  go_wp2_with fail
  refine (Items_any hM hdim (by have := HGL.out; omega)).mono ?_
  rintro e w3 ⟨v, rfl, how, hc3⟩
  have hc0 := (((Chg.refl (fun _ _ => False) w).alloc _)).trans hc2
  go_wp2_with fail
  go_ret
  exact ⟨v, rfl, how.mono hc0.size, hc0.trans hc3⟩


theorem lawFits_yes (a : Option Addr) (m c : Nat) (d : Int) (nl : Bool) (w : World) (hd : FitD d) :
    Calls Try.prog 22 #[.agg #[.slice a m c, .int .i64 d, .bool nl]] w fun e w' => e = .returned (.bool true) ∧ Chg (fun _ _ => False) w w' := by
  go_enter Try.func22, Try.ntmps22
  go_wp2_with fail
  refine (fits_fit d _ hd).mono ?_
  rintro e w' ⟨rfl, rfl⟩
  go_wp2_with fail
  go_ret
  exact ⟨rfl, (Chg.refl _ _).alloc _⟩

theorem lawFits_no (a : Option Addr) (m c : Nat) (d : Int) (nl : Bool) (w : World) (hd : ¬ FitD d) :
    Calls Try.prog 22 #[.agg #[.slice a m c, .int .i64 d, .bool nl]] w fun e w' => e = .returned (.bool false) ∧ Chg (fun _ _ => False) w w' := by
  go_enter Try.func22, Try.ntmps22
  go_wp2_with fail
  refine (fits_not d _ hd).mono ?_
  rintro e w' ⟨rfl, rfl⟩
  go_wp2_with fail
  go_ret
  exact ⟨rfl, (Chg.refl _ _).alloc _⟩

def exL3 : List (Int × Int) := [(5, 1), (3, 2), (9, 3)]
theorem grow3 : (growL (ord := []) exL3).length = 3 := by decide

theorem ItemsAt.take {w : World} {p : Option Addr} {l : List (Int × Int)} (h : ItemsAt w p l) (n : Nat) : ItemsAt w p (l.take n) := by
  rcases h with rfl | ⟨b, o, rfl, hc⟩
  · exact .inl (by simp)
  · refine .inr ⟨b, o, rfl, fun i x hx => hc i x ?_⟩
    rw [List.getElem?_take] at hx
    split at hx
    · exact hx
    · cases hx

theorem alive_any (w : World) : Calls Try.prog 23 #[] w fun e w' => e = .returned (.bool true) ∧ Chg (fun _ _ => False) w w' := by
  have HI := Lib.hid (fun q w1 (hq : ItemsAt w1 q exL3) => GItems_any (ord := []) (.slice none 0 0) 2 false q 7 exL3 w1 ⟨none, 0, rfl, Nat.le_refl _, .inl rfl⟩ (by simp) (.inr ⟨by omega, by omega⟩) hq (by decide))
  have q1 : exL.length = 7 := rfl
  have q3 : exL3.length = 3 := rfl
  unfold OwnPostI at HI
  rw [q3] at HI
  go_enter Try.func23, Try.ntmps23
  go_wp2_with fail
  refine (exMake_any _).mono ?_
  rintro e w1 ⟨rfl, hc1⟩
  go_wp2_with fail
  refine (exItems_any _).mono ?_
  rintro e w2 ⟨q, rfl, hq, hc2⟩
  go_wp2_with fail
  refine (HI.out q _ (hq.take 3)).mono ?_
  rintro e w3 ⟨v, rfl, how, hc3⟩
  obtain ⟨a, c, rfl⟩ := how.sl.form
  have hl3 : (growL (ord := []) exL3).length = 3 := grow3
  rw [hl3]
  clear how
  go_wp2_with fail
  go_ret
  exact ⟨rfl, (hc1.trans hc2).trans hc3⟩
end Go.Proofs.Ytojplcbkiogcpaa

namespace Go.Proofs.Ytojplcbkiogcpaa
set_option linter.unusedSimpArgs false
set_option linter.unusedVariables false
open Go.RowKit

set_option maxRecDepth 100000 in
theorem find_any {ord : List Int} {k : Kc ord} {mn mx : Nat} {w : World} {n : Nat} {r : NodeR (It ord)} {l : Lay} (t : Nat) (x : It ord) (dp : Int) (hm : MapAt k mn mx w t) (h : NodeAt (parM k) w n r l) (hs : Srt ltM r.items) (hlen : r.items.length ≤ 1000000) :
    Calls Try.prog 123 #[.pointer (some ⟨t, 0, none⟩), .pointer (some ⟨n, 0, none⟩), aggM x, .pointer none, .int .i64 dp] w (SrchN r.items x w) := by
  have HS := Lib.hid (fun (w1 : World) (c : Chg (fun _ _ => False) w w1) => search_node t x (hm.chg c (fun _ _ _ h => h)) (h.chg c (fun _ _ _ h => h)) hs hlen)
  clear hm h hs
  unfold aggM at HS ⊢
  unfold SrchN at HS ⊢
  go_enter Try.func123, Try.ntmps123
  go_wp2_with fail
  refine (HS.out _ ((Chg.refl _ _).alloc _)).mono ?_
  rintro e w2 ⟨i, f, rfl, hc, hf⟩
  go_wp2_with fail
  go_ret2
  exact ⟨i, f, rfl, ((Chg.refl _ _).alloc _).trans hc, hf⟩

theorem fnd_kid {α : Type} {lt : α → α → Bool} (s : Swo lt) {h : Nat} {T : BT α (h + 1)} {mn mx i : Nat} {c : BT α h} {x : α} (hs : Sh mn mx (h + 1) T) (hc : T.2.2[i]? = some c) (hsrt : Srt lt (toL (h + 1) T)) (hp : PosAt lt T.2.1 x i) :
    fndL lt x (toL (h + 1) T) = fndL lt x (toL h c) := by
  obtain ⟨h1, h2⟩ := around s hs hc hsrt hp
  rw [toL_at hs hc]
  exact fndL_mid s h1 h2

theorem kid_lt {α : Type} {h : Nat} {T : BT α (h + 1)} {mn mx : Nat} {c : BT α h} (hs : Sh mn mx (h + 1) T) (hc : c ∈ T.2.2) (h1 : 1 ≤ T.2.1.length) : (toL h c).length < (toL (h + 1) T).length := by
  have e := inter_len T.2.1 (T.2.2.map (toL h)) (by simpa using hs.2.1)
  obtain ⟨A, B, hAB⟩ := List.append_of_mem hc
  have e2 : (toL (h + 1) T).length = T.2.1.length + ((T.2.2.map (toL h)).map (·.length)).sum := e
  rw [e2, hAB]
  simp only [List.map_append, List.map_cons, List.sum_append, List.sum_cons]
  omega

set_option maxRecDepth 100000 in
set_option maxHeartbeats 1000000 in
theorem getHint_any {ord : List Int} {k : Kc ord} {mn mx : Nat} {w : World} {F : Nat → Prop} {t : Nat} {l : List (It ord)} (mt : Bool) (x : It ord) (hM : MapIn k mn mx w F t l) (hmn : 1 ≤ mn) :
    Calls Try.prog 104 #[.pointer (some ⟨t, 0, none⟩), aggM x, .pointer none, .bool mt] w fun e w' => e = .returned (lastV (fndL ltM x l)) ∧ Chg (fun _ _ => False) w w' := by
  rcases hM with ⟨rfl, _, hB⟩ | ⟨H, h, T, hI, hB, rfl, h1⟩
  · have htl := hB.lt
    have HB := Lib.hid hB
    clear hB
    unfold aggM
    go_enter Try.func104, Try.ntmps104
    go_wp2_with fail
    refine name_calls (fun w1 => Chg (fun _ _ => False) w w1 ∧ w1.heap[w.heap.size]? = some (.cells #[.int .i64 x.1, .int .i64 x.2] 26 (0, 0)) ∧ w1.heap[w.heap.size + 1]? = some (.cells #[.int .i64 0, .int .i64 0] 26 (0, 0))) ⟨((Chg.refl _ _).alloc _).alloc _, ?_, ?_⟩ ?_
    · rw [ha_lt _ _ (by simp)]; exact ha_at _ _ rfl
    · exact ha_at _ _ (by simp)
    rintro w1 ⟨hc1, hbk, hbr⟩
    refine (lock_any t mt _).mono ?_
    rintro e w' ⟨rfl, rfl⟩
    have hm := HB.out.chg hc1 (fun _ _ _ h => h)
    have c2 : w1.cell? ⟨t, 2, none⟩ = some (.pointer none) := hm.c2
    obtain ⟨c7, c8⟩ := hm.empty
    have c0 := hm.at_.c0
    have hma := hm.at_
    clear hm hma
    have z0 := frozen_of_block hbr 0
    have z1 := frozen_of_block hbr 1
    have p0 := cell_of_block hbr 0
    have p1 := cell_of_block hbr 1
    simp only [List.getElem?_toArray, List.getElem?_cons_zero, List.getElem?_cons_succ] at p0 p1
    go_wp2_with fail
    refine name_prop (fun wl => Chg (fun b _ => b = w.heap.size + 1) w1 wl ∧ wl.heap[w.heap.size + 1]? = some (.cells #[.int .i64 0, .int .i64 0] 26 (0, 0))) ⟨?_, blk2 hbr _ _⟩ ?_
    · repeat (first | refine Chg.drew ?_ | refine Chg.drewN ?_ _ | refine Chg.setCell ?_ (.inl rfl) _ | exact Chg.refl _ _)
    clear p0 p1
    rintro wl ⟨hcl, hbl⟩
    have p0 := cell_of_block hbl 0
    have p1 := cell_of_block hbl 1
    simp only [List.getElem?_toArray, List.getElem?_cons_zero, List.getElem?_cons_succ] at p0 p1
    refine bodyPost_ret (v := .tuple #[.agg #[.int .i64 0, .int .i64 0], .bool false]) (by simp [results, Try.results104, go_sem, p0, p1]) rfl ?_
    exact ⟨rfl, hc1.trans' hcl (fun _ _ _ h => h) (fun b o hb e => by omega)⟩
  · have htl := hB.lt
    have HB := Lib.hid hB
    have HI := Lib.hid hI
    have hmx := hI.m1000
    generalize hfd : fndL ltM x (toL h T) = o
    have HFD := Lib.hid hfd
    clear hB hI hfd
    unfold aggM
    go_enter Try.func104, Try.ntmps104
    go_wp2_with fail
    refine name_calls (fun w1 => Chg (fun _ _ => False) w w1 ∧ w1.heap[w.heap.size]? = some (.cells #[.int .i64 x.1, .int .i64 x.2] 26 (0, 0)) ∧ w1.heap[w.heap.size + 1]? = some (.cells #[.int .i64 0, .int .i64 0] 26 (0, 0))) ⟨((Chg.refl _ _).alloc _).alloc _, ?_, ?_⟩ ?_
    · rw [ha_lt _ _ (by simp)]; exact ha_at _ _ rfl
    · exact ha_at _ _ (by simp)
    rintro w1 ⟨hc1, hbk, hbr⟩
    refine (lock_any t mt _).mono ?_
    rintro e w' ⟨rfl, rfl⟩
    have hm := HB.out.chg hc1 (fun _ _ _ h => h)
    have c2 : w1.cell? ⟨t, 2, none⟩ = some (.pointer (some ⟨rid T, 0, none⟩)) := hm.c2
    obtain ⟨c7, c8⟩ := hm.empty
    have c0 := hm.at_.c0
    have hma := hm.at_
    obtain ⟨l0, hn0⟩ := (HI.out.fam.chg hc1 (fun _ _ _ h => h)).node HI.out.isT.root
    have n0 := hn0.c0
    have HMA := Lib.hid hma
    clear hm hn0 hma
    go_wp2_with fail
    refine (isoLoad_any t (rid T) k _ _ _ c2 n0 c0).mono ?_
    rintro e w2 ⟨rfl, m, hw1⟩
    have hc2 : Chg (fun _ _ => False) w1 w2 := by rw [hw1]; exact (Chg.refl _ _).drewN _
    clear hw1
    go_wp2_with fail
    go_loopw [10, 11] (fun nv dv wr => ∃ h', ∃ T' : BT (It ord) h', ∃ dp : Int, nv = .pointer (some ⟨rid T', 0, none⟩) ∧ dv = .int .i64 dp ∧ IsT H h' T' ∧ Sh mn mx h' T' ∧ 1 ≤ (its T').length ∧ Srt ltM (toL h' T') ∧ fndL ltM x (toL h' T') = o ∧ Chg (fun _ _ => False) w1 wr) (fun nv _ _ => mOf H nv)
    case atStart => exact ⟨h, T, 0, rfl, rfl, HI.out.isT, HI.out.sh, h1, HI.out.srt, HFD.out, hc2⟩
    case round =>
      obtain ⟨h', T', dp, rfl, rfl, hT, hs, hit, hsrt, hfo, hc⟩ := hrel
      have hFr := (HI.out.fam.chg hc1 (fun _ _ _ h => h)).chg hc (fun _ _ _ h => h)
      obtain ⟨l2, hn2⟩ := hFr.node hT.root
      have hits := its_srt hs hsrt
      have hsl := hs.len
      have hse := find_any t x dp (HMA.out.chg hc (fun _ _ _ h => h)) hn2 (by rw [recOf_items]; exact hits) (by rw [recOf_items]; omega)
      rw [recOf_items] at hse
      unfold aggM at hse
      have HSE := Lib.hid hse
      have HFO := Lib.hid hfo
      have q0 := hc.cell (fun h => h) (cell_of_block hbk 0)
      have q1 := hc.cell (fun h => h) (cell_of_block hbk 1)
      have hbr2 : wr.heap[w.heap.size + 1]? = some (.cells #[.int .i64 0, .int .i64 0] 26 (0, 0)) := by rw [hc.block (heap_lt hbr) (fun _ h => h)]; exact hbr
      have HFR := Lib.hid hFr
      clear hse hfo hFr
      go_wp2_with fail
      refine HSE.out.mono ?_
      rintro e w3 ⟨i, f, rfl, hw3, hf⟩
      have hc3 : Chg (fun _ _ => False) wr w3 := hw3
      clear hw3 q0 q1
      have hc13 := hc.trans hc3
      have hn3 := hn2.chg hc3 (fun _ _ _ h => h)
      have cw0 := hc13.cell (fun h => h) c0
      have cw7 := hc13.cell (fun h => h) c7
      have cw8 := hc13.cell (fun h => h) c8
      have hbr3 : w3.heap[w.heap.size + 1]? = some (.cells #[.int .i64 0, .int .i64 0] 26 (0, 0)) := by rw [hc3.block (heap_lt hbr2) (fun _ h => h)]; exact hbr2
      have z0 := frozen_of_block hbr3 0
      have z1 := frozen_of_block hbr3 1
      have p0 := cell_of_block hbr3 0
      have p1 := cell_of_block hbr3 1
      simp only [List.getElem?_toArray, List.getElem?_cons_zero, List.getElem?_cons_succ] at p0 p1
      have HBR := Lib.hid hbr3
      clear hbr2 hbr3
      rcases hf with ⟨rfl, y, hy⟩ | ⟨rfl, hp⟩
      · have n2 := hn3.c2
        rw [recOf_items] at n2
        have hyi : (recOf h' T').items[i]? = some y := by rw [recOf_items]; exact hy.at_
        have hilt := (List.getElem?_eq_some_iff.1 hy.at_).1
        have iv := hn3.mval hyi
        have ik := hn3.mkey hyi
        have i0 : (0 : Int) ≤ (i : Int) := by omega
        have i1 : (i : Int) < ((its T').length : Int) := by omega
        have ho : o = some y := by rw [← HFO.out]; exact (toL_hit swoM hs hsrt hy).2
        clear hyi
        go_wp2_with fail
        refine name_prop (fun wl => Chg (fun b _ => b = w.heap.size + 1) w3 wl ∧ wl.heap[w.heap.size + 1]? = some (.cells #[.int .i64 y.1, .int .i64 y.2] 26 (0, 0))) ⟨?_, blk2 HBR.out _ _⟩ ?_
        · repeat (first | refine Chg.drew ?_ | refine Chg.drewN ?_ _ | refine Chg.setCell ?_ (.inl rfl) _ | exact Chg.refl _ _)
        clear p0 p1
        rintro wl ⟨hcl, hbl⟩
        have p0 := cell_of_block hbl 0
        have p1 := cell_of_block hbl 1
        simp only [List.getElem?_toArray, List.getElem?_cons_zero, List.getElem?_cons_succ] at p0 p1
        refine bodyPost_ret (v := .tuple #[.agg #[.int .i64 y.1, .int .i64 y.2], .bool true]) (by simp [results, Try.results104, go_sem, p0, p1]) rfl ?_
        exact ⟨by rw [ho]; rfl, (hc1.trans hc13).trans' hcl (fun _ _ _ h => h) (fun b o hb e => by omega)⟩
      · rcases h' with _ | h'
        · have n3 := hn3.c3n rfl
          have ho : o = none := by rw [← HFO.out]; exact (pos_gap swoM (xs := T'.2) hp).2
          go_wp2_with fail
          refine name_prop (fun wl => Chg (fun b _ => b = w.heap.size + 1) w3 wl ∧ wl.heap[w.heap.size + 1]? = some (.cells #[.int .i64 0, .int .i64 0] 26 (0, 0))) ⟨?_, blk2 HBR.out _ _⟩ ?_
          · repeat (first | refine Chg.drew ?_ | refine Chg.drewN ?_ _ | refine Chg.setCell ?_ (.inl rfl) _ | exact Chg.refl _ _)
          clear p0 p1
          rintro wl ⟨hcl, hbl⟩
          have p0 := cell_of_block hbl 0
          have p1 := cell_of_block hbl 1
          simp only [List.getElem?_toArray, List.getElem?_cons_zero, List.getElem?_cons_succ] at p0 p1
          refine bodyPost_ret (v := .tuple #[.agg #[.int .i64 0, .int .i64 0], .bool false]) (by simp [results, Try.results104, go_sem, p0, p1]) rfl ?_
          exact ⟨by rw [ho]; rfl, (hc1.trans hc13).trans' hcl (fun _ _ _ h => h) (fun b o hb e => by omega)⟩
        · have hple : i ≤ T'.2.1.length := hp.le
          have hkl : T'.2.2.length = T'.2.1.length + 1 := hs.2.1
          obtain ⟨c, hcj⟩ : ∃ c, T'.2.2[i]? = some c := ⟨_, List.getElem?_eq_getElem (by omega)⟩
          have hcm : c ∈ T'.2.2 := List.mem_of_getElem? hcj
          have hk : (recOf (h' + 1) T').kids = some (T'.2.2.map fun c => some (rid c)) := rfl
          have n3 := hn3.c3s hk
          have nc := hn3.cc hk
          rw [List.length_map] at nc
          have kc : w3.cell? ⟨l2.cb, l2.co + i, none⟩ = some (.pointer (some ⟨rid c, 0, none⟩)) := hn3.kidc hk (j := i) (o := some (rid c)) (by simp [hcj])
          have i0 : (0 : Int) ≤ (i : Int) := by omega
          have i1 : (i : Int) < (T'.2.2.length : Int) := by omega
          have hfk := fnd_kid swoM hs hcj hsrt hp
          have HFK : Hid (fndL ltM x (toL h' c) = o) := Lib.hid (by rw [← hfk]; exact HFO.out)
          have hgt := kid_lt hs hcm hit
          have hsub := sub_srt hs hcj hsrt
          obtain ⟨lc, hnc⟩ := (HFR.out.chg hc3 (fun _ _ _ h => h)).node (hT.kid hcm).root
          have nc0 := hnc.c0
          have m2 := mOf_root (hT.kid hcm)
          have m1 := mOf_root hT
          clear hkl hcj hfk hnc
          go_wp2_with fail
          refine (isoLoad_any t (rid c) k _ _ _ kc nc0 cw0).mono ?_
          rintro e w4 ⟨rfl, m4, hw4⟩
          have hc4 : Chg (fun _ _ => False) w3 w4 := by rw [hw4]; exact (Chg.refl _ _).drewN _
          clear hw4
          go_wp2_with fail
          go_roundw
          case rel => exact ⟨h', c, _, rfl, rfl, hT.kid hcm, (hs.2.2 c hcm).2, Nat.le_trans hmn (hs.2.2 c hcm).1, hsub, HFK.out, hc13.trans hc4⟩
          case measure => rw [m1, m2]; exact hgt
end Go.Proofs.Ytojplcbkiogcpaa

namespace Go.Proofs.Ytojplcbkiogcpaa
set_option linter.unusedSimpArgs false
set_option linter.unusedVariables false
open Go.RowKit

def OwnPostF (xs : List (Option (Int × Int))) (w : World) (e : Ending) (w' : World) : Prop := ∃ v, e = .returned v ∧ OwnE foundE w' v xs w.heap.size ∧ Chg (fun _ _ => False) w w'

set_option maxRecDepth 100000 in
theorem Get_any {ord : List Int} {k : Kc ord} {mn mx : Nat} {w : World} {F : Nat → Prop} {t : Nat} {l : List (It ord)} (x : It ord) (hM : MapIn k mn mx w F t l) (hmn : 1 ≤ mn) :
    Calls Try.prog 76 #[.pointer (some ⟨t, 0, none⟩), aggM x] w fun e w' => e = .returned (lastV (fndL ltM x l)) ∧ Chg (fun _ _ => False) w w' := by
  have HC := Lib.hid (fun w1 (c : Chg (fun _ _ => False) w w1) => getHint_any false x (hM.chg c) hmn)
  clear hM
  unfold aggM at HC ⊢
  generalize fndL ltM x l = o at HC ⊢
  go_enter Try.func76, Try.ntmps76
  go_wp2_with fail
  refine name_calls (fun w1 => Chg (fun _ _ => False) w w1 ∧ w1.heap[w.heap.size + 1]? = some (.cells #[.int .i64 0, .int .i64 0] 26 (0, 0))) ⟨((Chg.refl _ _).alloc _).alloc _, ha_at _ _ (by simp)⟩ ?_
  rintro w1 ⟨hc1, hb1⟩
  refine (HC.out w1 hc1).mono ?_
  rintro e w2 ⟨rfl, hc2⟩
  have hb2 : w2.heap[w.heap.size + 1]? = some (.cells #[.int .i64 0, .int .i64 0] 26 (0, 0)) := by rw [hc2.block (heap_lt hb1) (fun _ h => h)]; exact hb1
  have p0 := cell_of_block hb2 0
  have p1 := cell_of_block hb2 1
  have pf0 := frozen_of_block hb2 0
  have pf1 := frozen_of_block hb2 1
  simp only [List.getElem?_toArray, List.getElem?_cons_zero, List.getElem?_cons_succ] at p0 p1
  have HB2 := Lib.hid hb2
  have hc02 := hc1.trans hc2
  clear hb1 hb2 HC hc1 hc2
  rcases o with _ | y
  · unfold lastV
    go_wp2_with fail
    refine name_prop (fun wl => Chg (fun b _ => b = w.heap.size + 1) w2 wl ∧ wl.heap[w.heap.size + 1]? = some (.cells #[.int .i64 0, .int .i64 0] 26 (0, 0))) ⟨?_, blk2 HB2.out _ _⟩ ?_
    · repeat (first | refine Chg.drew ?_ | refine Chg.drewN ?_ _ | refine Chg.setCell ?_ (.inl rfl) _ | exact Chg.refl _ _)
    clear p0 p1 pf0 pf1
    rintro wl ⟨hcl, hbl⟩
    have p0 := cell_of_block hbl 0
    have p1 := cell_of_block hbl 1
    simp only [List.getElem?_toArray, List.getElem?_cons_zero, List.getElem?_cons_succ] at p0 p1
    refine bodyPost_ret (v := .tuple #[.agg #[.int .i64 0, .int .i64 0], .bool false]) (by simp [results, Try.results76, go_sem, p0, p1]) rfl ?_
    exact ⟨rfl, hc02.trans' hcl (fun _ _ _ h => h) (fun b o hb e => by omega)⟩
  · unfold lastV
    go_wp2_with fail
    refine name_prop (fun wl => Chg (fun b _ => b = w.heap.size + 1) w2 wl ∧ wl.heap[w.heap.size + 1]? = some (.cells #[.int .i64 y.1, .int .i64 y.2] 26 (0, 0))) ⟨?_, blk2 HB2.out _ _⟩ ?_
    · repeat (first | refine Chg.drew ?_ | refine Chg.drewN ?_ _ | refine Chg.setCell ?_ (.inl rfl) _ | exact Chg.refl _ _)
    clear p0 p1 pf0 pf1
    rintro wl ⟨hcl, hbl⟩
    have p0 := cell_of_block hbl 0
    have p1 := cell_of_block hbl 1
    simp only [List.getElem?_toArray, List.getElem?_cons_zero, List.getElem?_cons_succ] at p0 p1
    refine bodyPost_ret (v := .tuple #[.agg #[.int .i64 y.1, .int .i64 y.2], .bool true]) (by simp [results, Try.results76, go_sem, p0, p1]) rfl ?_
    exact ⟨rfl, hc02.trans' hcl (fun _ _ _ h => h) (fun b o hb e => by omega)⟩

theorem foundV_agg (o : Option (Int × Int)) : ∃ k v b, foundV o = .agg #[.int .i64 k, .int .i64 v, .bool b] ∧ foundL o = [.int .i64 k, .int .i64 v, .bool b] := by
  cases o with
  | none => exact ⟨0, 0, false, rfl, rfl⟩
  | some y => exact ⟨y.1, y.2, true, rfl, rfl⟩


set_option maxRecDepth 100000 in
set_option maxHeartbeats 1000000 in
theorem GGet_any {ord : List Int} (sv : Value) (d : Int) (nl : Bool) (p : Option Addr) (cap : Nat) (l : List (It ord)) (kv : Value) (ks : List (It ord)) (w : World) (hs : SlE intE w sv ord) (hol : ord.length ≤ 2147483647) (hd : FitD d) (hl : ItemsAt w p l) (hlen : l.length ≤ 2147483647) (hk : SlE itemE w kv ks) (hkl : ks.length ≤ 2147483647) :
    Calls Try.prog 46 #[.agg #[sv, .int .i64 d, .bool nl], .slice p l.length cap, kv] w (OwnPostF (ks.map fun x => fndL (ltM (ord := ord)) x (growL l)) w) := by
  have HGR := Lib.hid (fun w1 (c : Chg (fun _ _ => False) w w1) => grow_any (ord := ord) sv d nl p cap l w1 hd (hs.chg c) hol (hl.chg c) hlen)
  have hdim := hd.dims.1
  unfold GrowPost at HGR
  obtain ⟨sa, sc, rfl⟩ : ∃ a c, sv = .slice a ord.length c := hs.form
  obtain ⟨a, kcap, rfl⟩ := hk.form
  have HS := Lib.hid hk
  clear hk hs hl
  obtain ⟨i0, hi0, hz0, hz1, hz2⟩ := info_parts infoFound
  go_enter Try.func46, Try.ntmps46
  go_wp2_with fail
  refine (HGR.out _ ((Chg.refl _ _).alloc _)).mono ?_
  rintro e w1 ⟨k, t, F, rfl, hM, hc1', _, _⟩
  have hc1 := ((Chg.refl (fun _ _ => False) w).alloc (.cells #[.slice sa ord.length sc, .int .i64 d, .bool nl] 24)).trans hc1'
  clear hc1'
  go_wp2_with fail
  go_loopw [8, 16] (fun v i wr => ∃ (j : Nat), j ≤ ks.length ∧ i = .int .i64 j ∧ OwnE foundE wr v ((ks.map fun x => fndL (ltM (ord := ord)) x (growL l)).take j) w1.heap.size ∧ Chg (fun _ _ => False) w1 wr) (fun _ i _ => ks.length - (intOf i).toNat)
  case atStart => exact ⟨0, Nat.zero_le _, rfl, OwnE.nil _ _ _, Chg.refl _ _⟩
  case round =>
    obtain ⟨j, hj, rfl, how, hc⟩ := hrel
    have hsz := hc.size
    have hsz1 := hc1.size
    by_cases hlt : j < ks.length
    · obtain ⟨x, hx⟩ : ∃ x, ks[j]? = some x := ⟨_, List.getElem?_eq_getElem hlt⟩
      obtain ⟨b, o, rfl, g0, g1⟩ := (HS.out.chg (hc1.trans hc)).item hx
      have ht : (ks.map fun x => fndL (ltM (ord := ord)) x (growL l)).take (j + 1) = (ks.map fun x => fndL (ltM (ord := ord)) x (growL l)).take j ++ [fndL (ltM (ord := ord)) x (growL l)] := by rw [List.take_add_one, List.getElem?_map, hx]; rfl
      have hll : ((ks.map fun x => fndL (ltM (ord := ord)) x (growL l)).take j).length ≤ ks.length := by simp; omega
      have hca := (Chg.refl (fun _ _ => False) wr).alloc (.cells #[.int .i64 x.1, .int .i64 x.2] 26)
      have hg := Get_any x (hM.chg (hc.trans hca)) hdim
      unfold aggM at hg
      obtain ⟨y, q, hv, hf⟩ := lastV_found (fndL (ltM (ord := ord)) x (growL l))
      rw [hv] at hg
      obtain ⟨fk, fv, fb, hfv, hfl⟩ := foundV_agg (fndL (ltM (ord := ord)) x (growL l))
      have hp := fun w => found_any (fndL (ltM (ord := ord)) x (growL l)) y q w hf
      rw [hfv] at hp
      have HT := Lib.hid ht
      have HLL := Lib.hid hll
      have HG := Lib.hid hg
      have HP := Lib.hid hp
      have HOW0 := Lib.hid how
      clear hx ht hll hg hp hv hf how hfv
      have i0' : (0 : Int) ≤ (j : Int) := by omega
      have i1 : (j : Int) < (ks.length : Int) := by omega
      go_wp2_with fail
      refine HG.out.mono ?_
      rintro e w2 ⟨rfl, hc2'⟩
      have hc2 := hca.trans hc2'
      go_wp2_with fail
      refine (HP.out _).mono ?_
      rintro e w3 ⟨rfl, hc3⟩
      have hc13 := (hc.trans hc2).trans hc3
      have how := HOW0.out.keep (hc2.trans hc3)
      have hcb1 : Chg (fun _ _ => False) w3 (w3.alloc (.cells #[.int .i64 fk, .int .i64 fv, .bool fb] 38)) := (Chg.refl _ _).alloc _
      have HOW1 := Lib.hid (how.keep hcb1)
      clear how
      go_wp2_with (refine wpList_append_E foundE (by rfl) _ _ _ (by rfl) i0 _ 24 Try.underlying45 hi0 hz0 hz1 hz2 rfl _ (by rfl) _ w1.heap.size HOW1.out (Nat.le_trans hc13.size hcb1.size) ⟨w3.heap.size, 0, none⟩ 1 _ (by rfl) [fndL (ltM (ord := ord)) x (growL l)] rfl (by decide) ?_ ?_ ?_ ?_)
      · exact El.src1 foundE (c := #[.int .i64 fk, .int .i64 fv, .bool fb]) (ha_at _ _ (by simp)) _ hfl.symm
      · have := HLL.out; unfold maxLen; omega
      · have := HLL.out; omega
      intro v' w' h1 h2 _
      have hcz : Chg (fun _ _ => False) w1 w' := (hc13.trans hcb1).trans' h2 (fun _ _ _ h => h) (fun b o hb h => by omega)
      go_wp2
      go_roundw
      case rel => exact ⟨j + 1, by omega, by go_num, by rw [HT.out]; exact h1, hcz⟩
      case measure => simp [intOf]; omega
    · obtain rfl : j = ks.length := by omega
      go_wp2
      go_ret
      exact ⟨_, rfl, by rw [List.take_of_length_le (by simp)] at how; exact how.mono hsz1, hc1.trans hc⟩

theorem place_fnd {ord : List Int} {l : List (Int × Int)} {x : Int × Int} {i : Nat} {b : Bool} (h : PlaceIs (ltR (rkL ord)) l x i b) : (if b then atL l i else none) = fndL (ltR (rkL ord)) x l := by
  have h2 := (putL_ins h).2
  have e : fndL (ltR (rkL ord)) x l = fndL (ltR (rkL ord)) x l := rfl
  rw [e, ← h2]
  unfold putF atL
  split <;> simp

set_option maxRecDepth 100000 in
set_option maxHeartbeats 1000000 in
theorem specGGet_any {ord : List Int} (sv : Value) (d : Int) (nl : Bool) (p : Option Addr) (cap : Nat) (l : List (Int × Int)) (kv : Value) (ks : List (Int × Int)) (w : World) (hs : SlE intE w sv ord) (hol : ord.length ≤ 2147483647) (hl : ItemsAt w p l) (hk : SlE itemE w kv ks) (hlen : l.length ≤ 2147483647) (hkl : ks.length ≤ 2147483647) :
    Calls Try.prog 57 #[.agg #[sv, .int .i64 d, .bool nl], .slice p l.length cap, kv] w (OwnPostF (ks.map fun x => fndL (ltR (rkL ord)) x (treeL (ltR (rkL ord)) l)) w) := by
  obtain ⟨a, kcap, rfl⟩ := hk.form
  have HS := Lib.hid hk
  clear hk
  obtain ⟨i0, hi0, hz0, hz1, hz2⟩ := info_parts infoFound
  have HT := Lib.hid (fun w1 (c : Chg (fun _ _ => False) w w1) => tree_any sv (rkL ord) p cap l w1 (rank_list sv ord w1 (hs.chg c) hol) (hl.chg c) hlen)
  have hlen2 := treeL_len (ltR (rkL ord)) l
  have HR := Lib.hid (fun w1 (c : Chg (fun _ _ => False) w w1) => rank_list sv ord w1 (hs.chg c) hol)
  obtain ⟨sa, sc, rfl⟩ : ∃ a c, sv = .slice a ord.length c := hs.form
  clear hl hs
  go_enter Try.func57, Try.ntmps57
  go_wp2_with fail
  refine name_calls (fun w1 => Chg (fun _ _ => False) w w1 ∧ w1.heap[w.heap.size]? = some (.cells #[.slice sa ord.length sc, .int .i64 d, .bool nl] 24 (0, 0))) ⟨(Chg.refl _ _).alloc _, ha_at _ _ rfl⟩ ?_
  rintro w1 ⟨hc1, hb1⟩
  refine (HT.out _ hc1).mono ?_
  rintro e w2 ⟨v2, rfl, hv2, hc2⟩
  obtain ⟨q, cap2, rfl, hi, hcap⟩ := hv2.items
  have hc12 := hc1.trans hc2
  have hlt := heap_lt hb1
  have m0 := hc2.cell (fun h => h) (cell_of_block hb1 0)
  have HI := Lib.hid hi
  clear hb1 hi hv2
  go_wp2_with fail
  go_loopw [8, 20] (fun v i wr => ∃ (j : Nat), j ≤ ks.length ∧ i = .int .i64 j ∧ OwnE foundE wr v ((ks.map fun x => fndL (ltR (rkL ord)) x (treeL (ltR (rkL ord)) l)).take j) w2.heap.size ∧ Chg (fun _ _ => False) w2 wr) (fun _ i _ => ks.length - (intOf i).toNat)
  case atStart => exact ⟨0, Nat.zero_le _, rfl, OwnE.nil _ _ _, Chg.refl _ _⟩
  case round =>
    obtain ⟨j, hj, rfl, how, hc⟩ := hrel
    have hsz := hc.size
    have hsz2 := hc12.size
    by_cases hlt : j < ks.length
    · obtain ⟨x, hx⟩ : ∃ x, ks[j]? = some x := ⟨_, List.getElem?_eq_getElem hlt⟩
      obtain ⟨b, o, rfl, g0, g1⟩ := (HS.out.chg (hc12.trans hc)).item hx
      have ht : (ks.map fun x => fndL (ltR (rkL ord)) x (treeL (ltR (rkL ord)) l)).take (j + 1) = (ks.map fun x => fndL (ltR (rkL ord)) x (treeL (ltR (rkL ord)) l)).take j ++ [fndL (ltR (rkL ord)) x (treeL (ltR (rkL ord)) l)] := by rw [List.take_add_one, List.getElem?_map, hx]; rfl
      have hll : ((ks.map fun x => fndL (ltR (rkL ord)) x (treeL (ltR (rkL ord)) l)).take j).length ≤ ks.length := by simp; omega
      have HTT := Lib.hid ht
      have HLL := Lib.hid hll
      have HOW0 := Lib.hid how
      clear hx ht hll how
      have m1 := hc.cell (fun h => h) m0
      have m2 : ∀ o1 o2, ((wr.alloc o1).alloc o2).cell? ⟨w.heap.size, 0, none⟩ = some (.slice sa ord.length sc) := fun o1 o2 => (((Chg.refl (fun _ _ => False) wr).alloc o1).alloc o2).cell (fun h => h) m1
      have i0' : (0 : Int) ≤ (j : Int) := by omega
      have i1 : (j : Int) < (ks.length : Int) := by omega
      go_wp2_with fail
      refine name_calls (fun w3 => Chg (fun _ _ => False) wr w3 ∧ w3.heap[wr.heap.size]? = some (.cells #[.int .i64 x.1, .int .i64 x.2] 26 (0, 0)) ∧ w3.heap[wr.heap.size + 1]? = some (.cells #[.int .i64 0, .int .i64 0, .bool false] 38 (0, 0))) ⟨((Chg.refl _ _).alloc _).alloc _, ?_, ?_⟩ ?_
      · rw [ha_lt _ _ (by simp)]; exact ha_at _ _ rfl
      · exact ha_at _ _ (by simp)
      rintro w3 ⟨hc3, hb3, hb4⟩
      refine (place_any (.slice sa ord.length sc) (rkL ord) q cap2 (treeL (ltR (rkL ord)) l) x _ (HR.out _ (hc12.trans (hc.trans hc3))) (HI.out.chg (hc.trans hc3)) (by omega)).mono ?_
      rintro e w4 ⟨⟨i, f, rfl, hpl⟩, hc4⟩
      have hfd := place_fnd hpl
      have hb5 : w4.heap[wr.heap.size + 1]? = some (.cells #[.int .i64 0, .int .i64 0, .bool false] 38 (0, 0)) := by rw [hc4.block (heap_lt hb4) (fun _ h => h)]; exact hb4
      have hlt5 := heap_lt hb5
      clear hpl hb3 hb4 g0 g1
      cases f
      · have c0 := cell_of_block hb5 0
        have c1 := cell_of_block hb5 1
        have c2 := cell_of_block hb5 2
        simp only [List.getElem?_toArray, List.getElem?_cons_zero, List.getElem?_cons_succ] at c0 c1 c2
        have hfl : foundL (fndL (ltR (rkL ord)) x (treeL (ltR (rkL ord)) l)) = [.int .i64 0, .int .i64 0, .bool false] := by rw [← hfd]; rfl
        have HFL := Lib.hid hfl
        clear hb5 hfd hfl
        obtain ⟨fk, fv, fb, e1, e2, e3⟩ : ∃ (fk fv : Int) (fb : Bool), fk = 0 ∧ fv = 0 ∧ fb = false := ⟨0, 0, false, rfl, rfl, rfl⟩
        have hfl : foundL (fndL (ltR (rkL ord)) x (treeL (ltR (rkL ord)) l)) = [.int .i64 fk, .int .i64 fv, .bool fb] := by rw [HFL.out, e1, e2, e3]
        rw [← e1] at c0
        rw [← e2] at c1
        rw [← e3] at c2
        clear e1 e2 e3 HFL
        have hc24 := (hc.trans hc3).trans hc4
        have how := HOW0.out.keep (hc3.trans hc4)
        have hcb1 : Chg (fun _ _ => False) w4 (w4.alloc (.cells #[.int .i64 fk, .int .i64 fv, .bool fb] 38)) := (Chg.refl _ _).alloc _
        have HOW1 := Lib.hid (how.keep hcb1)
        clear how
        go_wp2_with (refine wpList_append_E foundE (by rfl) _ _ _ (by rfl) i0 _ 24 Try.underlying45 hi0 hz0 hz1 hz2 rfl _ (by rfl) _ w2.heap.size HOW1.out (Nat.le_trans hc24.size hcb1.size) ⟨w4.heap.size, 0, none⟩ 1 _ (by rfl) [fndL (ltR (rkL ord)) x (treeL (ltR (rkL ord)) l)] rfl (by decide) ?_ ?_ ?_ ?_)
        · exact El.src1 foundE (c := #[.int .i64 fk, .int .i64 fv, .bool fb]) (ha_at _ _ (by simp)) _ hfl.symm
        · have := HLL.out; unfold maxLen; omega
        · have := HLL.out; omega
        intro v' w' h1 h2 _
        have hcz : Chg (fun _ _ => False) w2 w' := (hc24.trans hcb1).trans' h2 (fun _ _ _ h => h) (fun b o hb h => by omega)
        go_wp2
        go_roundw
        case rel => exact ⟨j + 1, by omega, by go_num, by rw [HTT.out]; exact h1, hcz⟩
        case measure => simp [intOf]; omega
      · have hfd' : atL (treeL (ltR (rkL ord)) l) (i : Int) = fndL (ltR (rkL ord)) x (treeL (ltR (rkL ord)) l) := by rw [← hfd]; rfl
        have hat := at_any q cap2 (treeL (ltR (rkL ord)) l) i w4 (HI.out.chg ((hc.trans hc3).trans hc4)) (by omega) hcap
        rw [hfd'] at hat
        obtain ⟨fk, fv, fb, hfv, hfl⟩ := foundV_agg (fndL (ltR (rkL ord)) x (treeL (ltR (rkL ord)) l))
        rw [hfv] at hat
        have HAT := Lib.hid hat
        have HB5 := Lib.hid hb5
        clear hfd hfd' hat hfv hb5
        go_wp2_with fail
        refine HAT.out.mono ?_
        rintro e w5 ⟨rfl, hc5⟩
        have hb6 : w5.heap[wr.heap.size + 1]? = some (.cells #[.int .i64 0, .int .i64 0, .bool false] 38 (0, 0)) := by rw [hc5.block (heap_lt HB5.out) (fun _ h => h)]; exact HB5.out
        have c0 := cell_of_block hb6 0
        have c1 := cell_of_block hb6 1
        have c2 := cell_of_block hb6 2
        have z0 := frozen_of_block hb6 0
        have z1 := frozen_of_block hb6 1
        have z2 := frozen_of_block hb6 2
        simp only [List.getElem?_toArray, List.getElem?_cons_zero, List.getElem?_cons_succ] at c0 c1 c2
        clear hb6
        have hc25 := ((hc.trans hc3).trans hc4).trans hc5
        have how5 := HOW0.out.keep ((hc3.trans hc4).trans hc5)
        have hst : Chg (fun b _ => b = wr.heap.size + 1) w5 (((w5.setCell ⟨wr.heap.size + 1, 0, none⟩ (.int .i64 fk)).setCell ⟨wr.heap.size + 1, 1, none⟩ (.int .i64 fv)).setCell ⟨wr.heap.size + 1, 2, none⟩ (.bool fb)) := by
          repeat (first | refine Chg.setCell ?_ (.inl rfl) _ | exact Chg.refl _ _)
        have hcs : Chg (fun _ _ => False) w2 (((w5.setCell ⟨wr.heap.size + 1, 0, none⟩ (.int .i64 fk)).setCell ⟨wr.heap.size + 1, 1, none⟩ (.int .i64 fv)).setCell ⟨wr.heap.size + 1, 2, none⟩ (.bool fb)) := hc25.trans' hst (fun _ _ _ h => h) (fun b o hb h => by omega)
        have how := how5.chgOwn hst (fun b o hb h => by have := (HOW0.out.own_lt hb).2; omega)
        clear how5 hst
        have hcb1 : Chg (fun _ _ => False) (((w5.setCell ⟨wr.heap.size + 1, 0, none⟩ (.int .i64 fk)).setCell ⟨wr.heap.size + 1, 1, none⟩ (.int .i64 fv)).setCell ⟨wr.heap.size + 1, 2, none⟩ (.bool fb)) ((((w5.setCell ⟨wr.heap.size + 1, 0, none⟩ (.int .i64 fk)).setCell ⟨wr.heap.size + 1, 1, none⟩ (.int .i64 fv)).setCell ⟨wr.heap.size + 1, 2, none⟩ (.bool fb)).alloc (.cells #[.int .i64 fk, .int .i64 fv, .bool fb] 38)) := (Chg.refl _ _).alloc _
        have HOW1 := Lib.hid (how.keep hcb1)
        clear how
        go_wp2_with (refine wpList_append_E foundE (by rfl) _ _ _ (by rfl) i0 _ 24 Try.underlying45 hi0 hz0 hz1 hz2 rfl _ (by rfl) _ w2.heap.size HOW1.out (Nat.le_trans hcs.size hcb1.size) ⟨w5.heap.size, 0, none⟩ 1 _ (by rfl) [fndL (ltR (rkL ord)) x (treeL (ltR (rkL ord)) l)] rfl (by decide) ?_ ?_ ?_ ?_)
        · exact El.src1 foundE (c := #[.int .i64 fk, .int .i64 fv, .bool fb]) (ha_at _ _ (by simp)) _ hfl.symm
        · have := HLL.out; unfold maxLen; omega
        · have := HLL.out; omega
        intro v' w' h1 h2 _
        have hcz : Chg (fun _ _ => False) w2 w' := (hcs.trans hcb1).trans' h2 (fun _ _ _ h => h) (fun b o hb h => by omega)
        go_wp2
        go_roundw
        case rel => exact ⟨j + 1, by omega, by go_num, by rw [HTT.out]; exact h1, hcz⟩
        case measure => simp [intOf]; omega
    · obtain rfl : j = ks.length := by omega
      go_wp2
      go_ret
      exact ⟨_, rfl, by rw [List.take_of_length_le (by simp)] at how; exact how.mono hsz2, hc12.trans hc⟩

set_option maxRecDepth 100000 in
theorem gGet_any {ord : List Int} (sv : Value) (d : Int) (nl : Bool) (p : Option Addr) (cap : Nat) (l : List (It ord)) (kv : Value) (ks : List (It ord)) (w : World) (hs : SlE intE w sv ord) (hol : ord.length ≤ 2147483647) (hd : FitD d) (hl : ItemsAt w p l) (hlen : l.length ≤ 2147483647) (hk : SlE itemE w kv ks) (hkl : ks.length ≤ 2147483647) :
    Calls Try.prog 28 #[.agg #[sv, .int .i64 d, .bool nl], .slice p l.length cap, kv] w fun e w' => e = .returned (.bool true) ∧ Chg (fun _ _ => False) w w' := by
  have HM := Lib.hid (fun w1 (c : Chg (fun _ _ => False) w w1) => GGet_any sv d nl p cap l kv ks w1 (hs.chg c) hol hd (hl.chg c) hlen (hk.chg c) hkl)
  have HG := Lib.hid (fun w1 (c : Chg (fun _ _ => False) w w1) => specGGet_any sv d nl p cap l kv ks w1 (hs.chg c) hol (hl.chg c) (hk.chg c) hlen hkl)
  have e1 : (ks.map fun x => fndL (ltM (ord := ord)) x (growL l)) = ks.map fun x => fndL (ltR (rkL ord)) x (treeL (ltR (rkL ord)) l) := rfl
  rw [e1] at HM
  have hxl : (ks.map fun x => fndL (ltR (rkL ord)) x (treeL (ltR (rkL ord)) l)).length ≤ 9223372036854775806 := by simp; omega
  unfold OwnPostF at HM HG
  generalize (ks.map fun x => fndL (ltR (rkL ord)) x (treeL (ltR (rkL ord)) l)) = L at HM HG hxl
  obtain ⟨sa, sc, rfl⟩ : ∃ a c, sv = .slice a ord.length c := hs.form
  obtain ⟨a, kcap, rfl⟩ := hk.form
  clear hs hl hk e1
  go_enter Try.func28, Try.ntmps28
  go_wp2_with fail
  refine (HM.out _ ((Chg.refl _ _).alloc _)).mono ?_
  rintro e w1 ⟨v1, rfl, how1, hc1⟩
  have hb0 : w1.heap[w.heap.size]? = some (.cells #[.slice sa ord.length sc, .int .i64 d, .bool nl] 24 (0, 0)) := by rw [hc1.block (by simp) (fun _ h => h)]; exact ha_at _ _ rfl
  have m0 := cell_of_block hb0 0
  have m1 := cell_of_block hb0 1
  have m2 := cell_of_block hb0 2
  simp only [List.getElem?_toArray, List.getElem?_cons_zero, List.getElem?_cons_succ] at m0 m1 m2
  have hc01 := ((Chg.refl (fun _ _ => False) w).alloc (.cells #[.slice sa ord.length sc, .int .i64 d, .bool nl] 24)).trans hc1
  clear hb0
  go_wp2_with fail
  refine (HG.out _ hc01).mono ?_
  rintro e w2 ⟨v2, rfl, how2, hc2⟩
  go_wp2_with fail
  refine (equal_found _ _ _ _ (how1.sl.chg hc2) how2.sl hxl).mono ?_
  rintro e w3 ⟨rfl, hc3⟩
  go_wp2_with fail
  go_ret
  exact ⟨rfl, (hc01.trans hc2).trans hc3⟩
end Go.Proofs.Ytojplcbkiogcpaa

namespace Go.Proofs.Ytojplcbkiogcpaa
set_option linter.unusedSimpArgs false
set_option linter.unusedVariables false
open Go.RowKit

/-- What the items of l replace, one behind the other. -/
def outF {ord : List Int} (l : List (It ord)) : List (Option (It ord)) := (List.range l.length).map fun j => (l[j]?).bind fun x => fndL ltM x (growL (l.take j))

theorem outF_len {ord : List Int} (l : List (It ord)) : (outF l).length = l.length := by simp [outF]

theorem outF_take {ord : List Int} {l : List (It ord)} {j : Nat} {x : It ord} (hx : l[j]? = some x) : (outF l).take (j + 1) = (outF l).take j ++ [fndL ltM x (growL (l.take j))] := by
  have hj := (List.getElem?_eq_some_iff.1 hx).1
  rw [List.take_add_one]
  congr 1
  unfold outF
  rw [List.getElem?_map, List.getElem?_range hj]
  simp [hx]

set_option maxRecDepth 100000 in
set_option maxHeartbeats 2000000 in
theorem GSet_any {ord : List Int} (sv : Value) (d : Int) (nl : Bool) (p : Option Addr) (cap : Nat) (l : List (It ord)) (w : World) (hs : SlE intE w sv ord) (hol : ord.length ≤ 2147483647) (hd : FitD d) (hl : ItemsAt w p l) (hcapl : l.length ≤ cap) (hlen : l.length ≤ 2147483647) :
    Calls Try.prog 35 #[.agg #[sv, .int .i64 d, .bool nl], .slice p l.length cap] w fun e w' => ∃ v u, e = .returned (.tuple #[v, u]) ∧ SlE foundE w' v (outF l) ∧ SlE itemE w' u (growL l) ∧ Chg (fun _ _ => False) w w' := by
  have HGR := Lib.hid (fun w1 (c : Chg (fun _ _ => False) w w1) => grow_any (ord := ord) sv d nl none 0 [] w1 hd (hs.chg c) hol (.inl rfl) (by simp))
  obtain ⟨hdim1, hdim2, hdim3, hdim4, hdim5⟩ := hd.dims
  unfold GrowPost at HGR
  have hgl := growL_take_len l
  have HGL := Lib.hid hgl
  obtain ⟨sa, sc, rfl⟩ : ∃ a c, sv = .slice a ord.length c := hs.form
  have HKS := Lib.hid (hl.sl hcapl)
  clear hl hs hgl
  obtain ⟨i0, hi0, hz0, hz1, hz2⟩ := info_parts infoFound
  go_enter Try.func35, Try.ntmps35
  go_wp2_with fail
  refine (HGR.out _ ((Chg.refl _ _).alloc _)).mono ?_
  rintro e w1 ⟨k, t, F, rfl, hM, hc1', hF2', ho2'⟩
  have hca := (Chg.refl (fun _ _ => False) w).alloc (.cells #[.slice sa ord.length sc, .int .i64 d, .bool nl] 24)
  have hc1 := hca.trans hc1'
  have hF2 : ∀ b, F b → w.heap.size ≤ b := fun b hb => Nat.le_trans hca.size (hF2' b hb)
  have ho2 : ∀ b, MOwn k t b → w.heap.size ≤ b := fun b hb => Nat.le_trans hca.size (ho2' b hb)
  clear hc1' hF2' ho2'
  have hor : ∀ b, MOwn k t b → w.heap.size ≤ b := fun b hb => ho2 b hb
  have HOR := Lib.hid hor
  clear hor
  go_wp2_with fail
  go_loopw [7, 14] (fun v i wr => ∃ (j : Nat) (F' : Nat → Prop), j ≤ l.length ∧ i = .int .i64 j ∧ OwnE foundE wr v ((outF l).take j) w.heap.size ∧ MapIn k (mnD d) (mxD d) wr F' t (growL (l.take j)) ∧ (∀ b, v.ownBlock = some b → ¬ F' b ∧ ¬ MOwn k t b) ∧ (∀ b, F' b → w.heap.size ≤ b) ∧ Chg (fun _ _ => False) w wr) (fun _ i _ => l.length - (intOf i).toNat)
  case atStart => exact ⟨0, F, Nat.zero_le _, rfl, OwnE.nil _ _ _, by exact hM, (fun b hb => by cases hb), (fun b hb => hF2 b hb), hc1⟩
  case round =>
    obtain ⟨j, F', hj, rfl, how, hMr, hap, hFw, hc⟩ := hrel
    have hsz := hc.size
    by_cases hlt : j < l.length
    · obtain ⟨x, hx⟩ : ∃ x, l[j]? = some x := ⟨_, List.getElem?_eq_getElem hlt⟩
      obtain ⟨b, o, rfl, g0, g1⟩ := (HKS.out.chg hc).item hx
      have ht : (outF l).take (j + 1) = (outF l).take j ++ [fndL (ltM (ord := ord)) x (growL (l.take j))] := by exact outF_take hx
      have hnx : growL (l.take (j + 1)) = insL ltM x (growL (l.take j)) := by exact growL_take hx
      have hll : ((outF l).take j).length ≤ l.length := by rw [List.length_take]; omega
      have hca := (Chg.refl (fun _ _ => False) wr).alloc (.cells #[.int .i64 x.1, .int .i64 x.2] 26)
      have hg := Set_any (hMr.chg hca) x (by have := HGL.out j; omega) hdim1 hdim2 hdim3 hdim4 hdim5
      unfold aggM at hg
      have hap' : ∀ b, u7.ownBlock = some b → ¬ F' b ∧ ¬ MOwn k t b ∧ b < wr.heap.size := fun b hb => ⟨(hap b hb).1, (hap b hb).2, (how.own_lt hb).2⟩
      have HT := Lib.hid ht
      have HNX := Lib.hid hnx
      have HLL := Lib.hid hll
      have HG := Lib.hid hg
      have HOW0 := Lib.hid how
      have HAP := Lib.hid hap'
      have HFW := Lib.hid hFw
      have HC := Lib.hid hc
      have HMR := Lib.hid hMr
      clear hx ht hll hg how hap hap' hFw hc hnx hMr
      have i0' : (0 : Int) ≤ (j : Int) := by omega
      have i1 : (j : Int) < (l.length : Int) := by omega
      go_wp2_with fail
      refine HG.out.mono ?_
      rintro e w2 ⟨hret, F2, hM2, hc2', hF2'⟩
      have hszA := hca.size
      have hF2w : ∀ b, F2 b → w.heap.size ≤ b := fun b hb => by
        rcases hF2' b hb with h | h
        · exact HFW.out b h
        · omega
      have hapr : ∀ b, u7.ownBlock = some b → ¬ F2 b := fun b hb h => by
        obtain ⟨a1, a2, a3⟩ := HAP.out b hb
        rcases hF2' b h with h | h
        · exact a1 h
        · omega
      have how2 := HOW0.out.chgOwn (hca.trans' hc2' (B := fun b _ => F' b ∨ b = t) (fun _ _ _ h => h.elim) (fun _ _ _ h => h)) (fun b _ hb e => by
        obtain ⟨a1, a2, a3⟩ := HAP.out b hb
        rcases e with e | e
        · exact a1 e
        · exact a2 (e ▸ MOwn.self))
      have hcw2 : Chg (fun _ _ => False) w w2 := (HC.out.trans hca).trans' hc2' (fun _ _ _ h => h) (fun b o hb e => by
        rcases e with e | e
        · have := HFW.out b e; omega
        · have := HOR.out t MOwn.self; omega)
      obtain ⟨y, q, hv, hf⟩ : ∃ (y : Int × Int) (q : Bool), e = .returned (.tuple #[.agg #[.int .i64 y.1, .int .i64 y.2], .bool q]) ∧ FoundIs (fndL (ltM (ord := ord)) x (growL (l.take j))) y q := by
        rcases hret with ⟨y, e1, e2⟩ | ⟨e1, e2⟩
        · exact ⟨y, true, e2, by rw [e1]; exact ⟨rfl, rfl⟩⟩
        · exact ⟨(0, 0), false, e2, by rw [e1]; rfl⟩
      obtain ⟨fk, fv, fb, hfv, hfl⟩ := foundV_agg (fndL (ltM (ord := ord)) x (growL (l.take j)))
      have hp := fun w => found_any (fndL (ltM (ord := ord)) x (growL (l.take j))) y q w hf
      rw [hfv] at hp
      have HP := Lib.hid hp
      have hwr2 := hc2'.size
      have HM2 := Lib.hid hM2
      have HAR := Lib.hid hapr
      have HF2W := Lib.hid hF2w
      subst hv
      clear hp hf hret hc2' hF2' hfv hM2 hapr hF2w hca
      go_wp2_with fail
      refine (HP.out _).mono ?_
      rintro e w3 ⟨rfl, hc3⟩
      have hcb : Chg (fun _ _ => False) w3 (w3.alloc (.cells #[.int .i64 fk, .int .i64 fv, .bool fb] 38)) := (Chg.refl _ _).alloc _
      have hc3b := hc3.trans hcb
      have HOW := Lib.hid (how2.keep hc3b)
      have hs3 := hc3.size
      have hsb : (w3.alloc (.cells #[.int .i64 fk, .int .i64 fv, .bool fb] 38)).heap.size ≤ w3.heap.size + 1 := by simp
      have hsb2 : w3.heap.size + 1 ≤ (w3.alloc (.cells #[.int .i64 fk, .int .i64 fv, .bool fb] 38)).heap.size := by simp
      have hs2 := hcw2.size
      have HM3 := Lib.hid (HM2.out.chg hc3b)
      have hcw3 := hcw2.trans hc3b
      clear how2
      go_wp2_with (refine wpList_append_E2 foundE (by rfl) _ _ _ (by rfl) i0 _ 24 Try.underlying45 hi0 hz0 hz1 hz2 rfl _ (by rfl) _ w.heap.size HOW.out (Nat.le_trans hs2 (Nat.le_trans hs3 hcb.size)) ⟨w3.heap.size, 0, none⟩ 1 _ (by rfl) [fndL (ltM (ord := ord)) x (growL (l.take j))] rfl (by decide) ?_ ?_ ?_ ?_)
      · exact El.src1 foundE (c := #[.int .i64 fk, .int .i64 fv, .bool fb]) (ha_at _ _ (by simp)) _ hfl.symm
      · have := HLL.out; unfold maxLen; omega
      · have := HLL.out; omega
      intro v' w' h1 h2 h3
      have hMn : MapIn k (mnD d) (mxD d) w' F2 t _ := HM3.out.chgA h2 (fun b _ hb e => HAR.out b e hb) (fun b _ hb e => (HAP.out b e).2.1 hb)
      have hcw' : Chg (fun _ _ => False) w w' := hcw3.trans' h2 (fun _ _ _ h => h) (fun b o hb e => by have := (HOW.out.own_lt e).1; omega)
      have hapn : ∀ b, v'.ownBlock = some b → ¬ F2 b ∧ ¬ MOwn k t b := fun b hb => by
        rcases h3 with h3 | ⟨nb, h3, hn⟩
        · rw [h3] at hb
          exact ⟨HAR.out b hb, (HAP.out b hb).2.1⟩
        · rw [h3] at hb
          have e : nb = b := Option.some.inj hb
          subst e
          exact ⟨fun hf => by have := HM3.out.famLt hf; omega, fun ho => by have := HM3.out.own ho; omega⟩
      have HMN := Lib.hid hMn
      have HAPN := Lib.hid hapn
      have H1 := Lib.hid h1
      clear h1 h2 h3 hMn hapn
      go_wp2
      go_roundw
      case rel => exact ⟨j + 1, F2, by omega, by go_num, by rw [HT.out]; exact H1.out, by rw [HNX.out]; exact HMN.out, HAPN.out, HF2W.out, hcw'⟩
      case measure => simp [intOf]; omega
    · obtain rfl : j = l.length := by omega
      rw [List.take_of_length_le (by rw [outF_len]; exact Nat.le_refl _)] at how
      have HOW := Lib.hid how.sl
      have hit := Items_any hMr hdim1 (by have := HGL.out l.length; omega)
      have HIT := Lib.hid hit
      have hnlt : ¬ ((l.length : Nat) : Int) < (l.length : Int) := by omega
      clear how hit hMr hap hFw
      go_wp2_with fail
      refine HIT.out.mono ?_
      rintro e w4 ⟨v4, rfl, how4, hc4⟩
      go_wp2_with fail
      go_ret2
      exact ⟨_, _, rfl, HOW.out.chg hc4, by have := how4.sl; rw [List.take_length] at this; exact this, hc.trans hc4⟩

set_option maxRecDepth 100000 in
set_option maxHeartbeats 2000000 in
theorem GLoad_any {ord : List Int} (sv : Value) (d : Int) (nl : Bool) (p : Option Addr) (cap : Nat) (l : List (It ord)) (w : World) (hs : SlE intE w sv ord) (hol : ord.length ≤ 2147483647) (hd : FitD d) (hl : ItemsAt w p l) (hcapl : l.length ≤ cap) (hlen : l.length ≤ 2147483647) :
    Calls Try.prog 34 #[.agg #[sv, .int .i64 d, .bool nl], .slice p l.length cap] w fun e w' => ∃ v u, e = .returned (.tuple #[v, u]) ∧ SlE foundE w' v (outF l) ∧ SlE itemE w' u (growL l) ∧ Chg (fun _ _ => False) w w' := by
  have HGR := Lib.hid (fun w1 (c : Chg (fun _ _ => False) w w1) => grow_any (ord := ord) sv d nl none 0 [] w1 hd (hs.chg c) hol (.inl rfl) (by simp))
  obtain ⟨hdim1, hdim2, hdim3, hdim4, hdim5⟩ := hd.dims
  unfold GrowPost at HGR
  have hgl := growL_take_len l
  have HGL := Lib.hid hgl
  obtain ⟨sa, sc, rfl⟩ : ∃ a c, sv = .slice a ord.length c := hs.form
  have HKS := Lib.hid (hl.sl hcapl)
  clear hl hs hgl
  obtain ⟨i0, hi0, hz0, hz1, hz2⟩ := info_parts infoFound
  go_enter Try.func34, Try.ntmps34
  go_wp2_with fail
  refine (HGR.out _ ((Chg.refl _ _).alloc _)).mono ?_
  rintro e w1 ⟨k, t, F, rfl, hM, hc1', hF2', ho2'⟩
  have hca := (Chg.refl (fun _ _ => False) w).alloc (.cells #[.slice sa ord.length sc, .int .i64 d, .bool nl] 24)
  have hc1 := hca.trans hc1'
  have hF2 : ∀ b, F b → w.heap.size ≤ b := fun b hb => Nat.le_trans hca.size (hF2' b hb)
  have ho2 : ∀ b, MOwn k t b → w.heap.size ≤ b := fun b hb => Nat.le_trans hca.size (ho2' b hb)
  clear hc1' hF2' ho2'
  have hor : ∀ b, MOwn k t b → w.heap.size ≤ b := fun b hb => ho2 b hb
  have HOR := Lib.hid hor
  clear hor
  go_wp2_with fail
  go_loopw [7, 14] (fun v i wr => ∃ (j : Nat) (F' : Nat → Prop), j ≤ l.length ∧ i = .int .i64 j ∧ OwnE foundE wr v ((outF l).take j) w.heap.size ∧ MapIn k (mnD d) (mxD d) wr F' t (growL (l.take j)) ∧ (∀ b, v.ownBlock = some b → ¬ F' b ∧ ¬ MOwn k t b) ∧ (∀ b, F' b → w.heap.size ≤ b) ∧ Chg (fun _ _ => False) w wr) (fun _ i _ => l.length - (intOf i).toNat)
  case atStart => exact ⟨0, F, Nat.zero_le _, rfl, OwnE.nil _ _ _, by exact hM, (fun b hb => by cases hb), (fun b hb => hF2 b hb), hc1⟩
  case round =>
    obtain ⟨j, F', hj, rfl, how, hMr, hap, hFw, hc⟩ := hrel
    have hsz := hc.size
    by_cases hlt : j < l.length
    · obtain ⟨x, hx⟩ : ∃ x, l[j]? = some x := ⟨_, List.getElem?_eq_getElem hlt⟩
      obtain ⟨b, o, rfl, g0, g1⟩ := (HKS.out.chg hc).item hx
      have ht : (outF l).take (j + 1) = (outF l).take j ++ [fndL (ltM (ord := ord)) x (growL (l.take j))] := by exact outF_take hx
      have hnx : growL (l.take (j + 1)) = insL ltM x (growL (l.take j)) := by exact growL_take hx
      have hll : ((outF l).take j).length ≤ l.length := by rw [List.length_take]; omega
      have hca := (Chg.refl (fun _ _ => False) wr).alloc (.cells #[.int .i64 x.1, .int .i64 x.2] 26)
      have hg := load_any (hMr.chg hca) x (by have := HGL.out j; omega) hdim1 hdim2 hdim3 hdim4 hdim5
      unfold aggM at hg
      have hap' : ∀ b, u7.ownBlock = some b → ¬ F' b ∧ ¬ MOwn k t b ∧ b < wr.heap.size := fun b hb => ⟨(hap b hb).1, (hap b hb).2, (how.own_lt hb).2⟩
      have HT := Lib.hid ht
      have HNX := Lib.hid hnx
      have HLL := Lib.hid hll
      have HG := Lib.hid hg
      have HOW0 := Lib.hid how
      have HAP := Lib.hid hap'
      have HFW := Lib.hid hFw
      have HC := Lib.hid hc
      have HMR := Lib.hid hMr
      clear hx ht hll hg how hap hap' hFw hc hnx hMr
      have i0' : (0 : Int) ≤ (j : Int) := by omega
      have i1 : (j : Int) < (l.length : Int) := by omega
      go_wp2_with fail
      refine HG.out.mono ?_
      rintro e w2 ⟨hret, F2, hM2, hc2', hF2'⟩
      have hszA := hca.size
      have hF2w : ∀ b, F2 b → w.heap.size ≤ b := fun b hb => by
        rcases hF2' b hb with h | h
        · exact HFW.out b h
        · omega
      have hapr : ∀ b, u7.ownBlock = some b → ¬ F2 b := fun b hb h => by
        obtain ⟨a1, a2, a3⟩ := HAP.out b hb
        rcases hF2' b h with h | h
        · exact a1 h
        · omega
      have how2 := HOW0.out.chgOwn (hca.trans' hc2' (B := fun b _ => F' b ∨ b = t) (fun _ _ _ h => h.elim) (fun _ _ _ h => h)) (fun b _ hb e => by
        obtain ⟨a1, a2, a3⟩ := HAP.out b hb
        rcases e with e | e
        · exact a1 e
        · exact a2 (e ▸ MOwn.self))
      have hcw2 : Chg (fun _ _ => False) w w2 := (HC.out.trans hca).trans' hc2' (fun _ _ _ h => h) (fun b o hb e => by
        rcases e with e | e
        · have := HFW.out b e; omega
        · have := HOR.out t MOwn.self; omega)
      obtain ⟨y, q, hv, hf⟩ : ∃ (y : Int × Int) (q : Bool), e = .returned (.tuple #[.agg #[.int .i64 y.1, .int .i64 y.2], .bool q]) ∧ FoundIs (fndL (ltM (ord := ord)) x (growL (l.take j))) y q := by
        rcases hret with ⟨y, e1, e2⟩ | ⟨e1, e2⟩
        · exact ⟨y, true, e2, by rw [e1]; exact ⟨rfl, rfl⟩⟩
        · exact ⟨(0, 0), false, e2, by rw [e1]; rfl⟩
      obtain ⟨fk, fv, fb, hfv, hfl⟩ := foundV_agg (fndL (ltM (ord := ord)) x (growL (l.take j)))
      have hp := fun w => found_any (fndL (ltM (ord := ord)) x (growL (l.take j))) y q w hf
      rw [hfv] at hp
      have HP := Lib.hid hp
      have hwr2 := hc2'.size
      have HM2 := Lib.hid hM2
      have HAR := Lib.hid hapr
      have HF2W := Lib.hid hF2w
      subst hv
      clear hp hf hret hc2' hF2' hfv hM2 hapr hF2w hca
      go_wp2_with fail
      refine (HP.out _).mono ?_
      rintro e w3 ⟨rfl, hc3⟩
      have hcb : Chg (fun _ _ => False) w3 (w3.alloc (.cells #[.int .i64 fk, .int .i64 fv, .bool fb] 38)) := (Chg.refl _ _).alloc _
      have hc3b := hc3.trans hcb
      have HOW := Lib.hid (how2.keep hc3b)
      have hs3 := hc3.size
      have hsb : (w3.alloc (.cells #[.int .i64 fk, .int .i64 fv, .bool fb] 38)).heap.size ≤ w3.heap.size + 1 := by simp
      have hsb2 : w3.heap.size + 1 ≤ (w3.alloc (.cells #[.int .i64 fk, .int .i64 fv, .bool fb] 38)).heap.size := by simp
      have hs2 := hcw2.size
      have HM3 := Lib.hid (HM2.out.chg hc3b)
      have hcw3 := hcw2.trans hc3b
      clear how2
      go_wp2_with (refine wpList_append_E2 foundE (by rfl) _ _ _ (by rfl) i0 _ 24 Try.underlying45 hi0 hz0 hz1 hz2 rfl _ (by rfl) _ w.heap.size HOW.out (Nat.le_trans hs2 (Nat.le_trans hs3 hcb.size)) ⟨w3.heap.size, 0, none⟩ 1 _ (by rfl) [fndL (ltM (ord := ord)) x (growL (l.take j))] rfl (by decide) ?_ ?_ ?_ ?_)
      · exact El.src1 foundE (c := #[.int .i64 fk, .int .i64 fv, .bool fb]) (ha_at _ _ (by simp)) _ hfl.symm
      · have := HLL.out; unfold maxLen; omega
      · have := HLL.out; omega
      intro v' w' h1 h2 h3
      have hMn : MapIn k (mnD d) (mxD d) w' F2 t _ := HM3.out.chgA h2 (fun b _ hb e => HAR.out b e hb) (fun b _ hb e => (HAP.out b e).2.1 hb)
      have hcw' : Chg (fun _ _ => False) w w' := hcw3.trans' h2 (fun _ _ _ h => h) (fun b o hb e => by have := (HOW.out.own_lt e).1; omega)
      have hapn : ∀ b, v'.ownBlock = some b → ¬ F2 b ∧ ¬ MOwn k t b := fun b hb => by
        rcases h3 with h3 | ⟨nb, h3, hn⟩
        · rw [h3] at hb
          exact ⟨HAR.out b hb, (HAP.out b hb).2.1⟩
        · rw [h3] at hb
          have e : nb = b := Option.some.inj hb
          subst e
          exact ⟨fun hf => by have := HM3.out.famLt hf; omega, fun ho => by have := HM3.out.own ho; omega⟩
      have HMN := Lib.hid hMn
      have HAPN := Lib.hid hapn
      have H1 := Lib.hid h1
      clear h1 h2 h3 hMn hapn
      go_wp2
      go_roundw
      case rel => exact ⟨j + 1, F2, by omega, by go_num, by rw [HT.out]; exact H1.out, by rw [HNX.out]; exact HMN.out, HAPN.out, HF2W.out, hcw'⟩
      case measure => simp [intOf]; omega
    · obtain rfl : j = l.length := by omega
      rw [List.take_of_length_le (by rw [outF_len]; exact Nat.le_refl _)] at how
      have HOW := Lib.hid how.sl
      have hit := Items_any hMr hdim1 (by have := HGL.out l.length; omega)
      have HIT := Lib.hid hit
      have hnlt : ¬ ((l.length : Nat) : Int) < (l.length : Int) := by omega
      clear how hit hMr hap hFw
      go_wp2_with fail
      refine HIT.out.mono ?_
      rintro e w4 ⟨v4, rfl, how4, hc4⟩
      go_wp2_with fail
      go_ret2
      exact ⟨_, _, rfl, HOW.out.chg hc4, by have := how4.sl; rw [List.take_length] at this; exact this, hc.trans hc4⟩
end Go.Proofs.Ytojplcbkiogcpaa
