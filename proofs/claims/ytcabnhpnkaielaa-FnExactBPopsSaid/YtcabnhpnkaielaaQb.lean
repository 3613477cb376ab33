/- PopMin of a tree that holds something. -/
import Derived.Test.YtcabnhpnkaielaaQa
import Derived.Test.YtcabnhpnkaielaaEk
import Derived.Test.YtcabnhpnkaielaaCa
import Derived.Test.YtcabnhpnkaielaaBx
import Derived.Deep.Cut
import Derived.Deep.CutRange
import Derived.BigQuiet
import Derived.StillTailTactics
namespace Go.Proofs.Ytcabnhpnkaielaa
set_option linter.unusedSimpArgs false
set_option linter.unusedVariables false
open Go.RowKit
variable {ord : List Int} {k : Kc ord}

variable {ord : List Int}

/-- What is given and left when the first or the last item is taken. -/
def PopAns (k : Kc ord) (mn mx : Nat) (w : World) (F : Nat → Prop) (t : Nat) (d : Bool) (l : List (It ord)) (e : Ending) (w' : World) : Prop :=
  e = .returned (endV (popF d l)) ∧ ∃ F', MapIn k mn mx w' F' t (popL d l) ∧ Chg (fun b _ => F b ∨ b = t) w w' ∧ ∀ b, F' b → F b ∨ w.heap.size ≤ b

set_option maxRecDepth 100000 in
set_option maxHeartbeats 4000000 in
theorem popMin_tree {k : Kc ord} {mn mx : Nat} {w : World} {F : Nat → Prop} {H : Nat → Option (NodeR (It ord))} {t h : Nat} {T : BT (It ord) h} (hI : TreeIn k mn mx w F H t h T) (hB : MapBlk k mn mx w t (some (rid T)) (toL h T).length) (h1 : 1 ≤ (its T).length) (hmn : 1 ≤ mn) (hsz : (toL h T).length ≤ 1000000000000) :
    Calls Try.prog 100 #[.pointer (some ⟨t, 0, none⟩)] w (PopAns k mn mx w F t false (toL h T)) := by
  have hol : ∀ b, MOwn k t b → b < w.heap.size := fun b hb => hB.at_.lt hb
  have hfl : ∀ b, F b → b < w.heap.size := fun b hb => hI.fam.lt hb
  have htl := hol t MOwn.self
  have HOL := Lib.hid hol
  have HFL := Lib.hid hfl
  have hbig := hI.m1000
  have c2 : w.cell? ⟨t, 2, none⟩ = some (.pointer (some ⟨rid T, 0, none⟩)) := hB.c2
  have c0 := hB.at_.c0
  obtain ⟨l0, hn0⟩ := hI.fam.node hI.isT.root
  have n0 := hn0.c0
  have HB := Lib.hid hB
  have HI := Lib.hid hI
  have HOUT := Lib.hid hI.out
  clear hol hfl hB hI hn0
  go_enter Try.func100, Try.ntmps100
  go_wp2_with fail
  refine (lock_any t true _).mono ?_
  rintro e w' ⟨rfl, rfl⟩
  go_wp2_with fail
  refine (isoLoad_any t (rid T) k _ _ _ c2 n0 c0).mono ?_
  rintro e w1 ⟨rfl, m, hw1⟩
  have hc01 : Chg (fun _ _ => False) w w1 := by rw [hw1]; exact (Chg.refl _ _).drewN _
  clear hw1 n0 c0 c2
  go_wp2_with fail
  go_loopw [4, 5] (fun nv iv wr => ∃ (h' : Nat) (T' : BT (It ord) h') (off : Nat) (B P : List Nat), nv = .pointer (some ⟨rid T', 0, none⟩) ∧ iv = .nilIface ∧ Road h T B P off h' T' ∧ Side false h T P off h' T' ∧ 1 ≤ (its T').length ∧ Fam (parM k) wr F (bmp H P (-1)) ∧ Chg (fun b _ => F b) w wr) (fun nv _ _ => mOf H nv)
  case atStart => exact ⟨h, T, 0, [], [], rfl, rfl, .nil, Side.start _ _ _, h1, by rw [bmp_nil]; exact HI.out.fam.chg hc01 (fun _ _ _ h => h), hc01.mono (fun _ _ _ h => h.elim)⟩
  case round =>
    obtain ⟨h', T', off, B, P, rfl, rfl, hr, hsd, hit, hfam, hcr⟩ := hrel
    obtain ⟨hT', hs', hm', hn', A, C, hA, hL, hcl⟩ := hr.close (mn := mn) (mx := mx) HI.out.isT HI.out.nd HI.out.sh
    obtain ⟨hsub, hnd', hPo⟩ := hr.out HI.out.nd
    have hrP : rid T' ∉ P := fun hm => (hPo _ hm).1 (rid_mem _)
    have hrec : bmp H P (-1) (rid T') = some (recOf h' T') := (bmp_out hrP).trans hT'.root
    obtain ⟨l2, hn2⟩ := hfam.node hrec
    have n1 := hn2.c1
    have fz := hn2.fz 1
    rw [recOf_cnt] at n1
    have hsc := hfam.setCnt hrec ((recOf h' T').cnt + -1)
    rw [bmp_snoc hT'.root, recOf_cnt] at hsc
    have hbl : (toL h' T').length ≤ (toL h T).length := by rw [hL]; simp; omega
    have s1 : IntKind.i64.wrap (((toL h' T').length : Int) - 1) = ((toL h' T').length : Int) - 1 := IntWalk.i64_in _ (by omega)
    have HSC := Lib.hid hsc
    have HCL := Lib.hid hcl
    have HL := Lib.hid hL
    have HA := Lib.hid hA
    have HRD := Lib.hid hr
    have HSD := Lib.hid hsd
    have HCR := Lib.hid hcr
    clear hsc hn2 hfam hrec hcl hL hA hr hcr hsd
    go_wp2_with fail
    refine name_calls (fun w4 => Fam (parM k) w4 F (bmp H (P ++ [rid T']) (-1)) ∧ Chg (fun b _ => F b) wr w4) ⟨HSC.out.1, HSC.out.2⟩ ?_
    rintro w4 ⟨hf4, hc4⟩
    have hc04 := HCR.out.trans hc4
    have hrec4 : bmp H (P ++ [rid T']) (-1) (rid T') = some { recOf h' T' with cnt := (recOf h' T').cnt + -1 } := bmp_in (List.mem_append.2 (.inr (List.mem_singleton.2 rfl))) hT'.root
    clear n1 fz s1 HSC
    rcases h' with _ | h'
    · skip
      have hr4 : bmp H (P ++ [rid T']) (-1) (rid T') = some (⟨((T'.2.length : Nat) : Int) + -1, T'.2, none⟩ : NodeR (It ord)) := hrec4
      have hql : 1 ≤ T'.2.length := hit
      have hqm : T'.2.length ≤ mx := hs'
      obtain ⟨y, hyq⟩ : ∃ y, T'.2[0]? = some y := ⟨_, List.getElem?_eq_getElem (by omega)⟩
      have hoff : off + 0 = sideI false ((toL h T).length - 1) := by
        have h1 := HSD.out.lo
        have h2 := HSD.out.hi
        have h3 : (toL 0 T').length = T'.2.length := rfl
        simp [sideI, h1 rfl]
      have hyi : (toL h T)[off + 0]? = some y := by
        have h3 : (toL 0 T') = T'.2 := rfl
        rw [HL.out, ← HA.out, List.append_assoc, List.getElem?_append_right (by omega), Nat.add_sub_cancel_left, List.getElem?_append_left (by rw [h3]; omega), h3]
        exact hyq
      have hpf : popF false (toL h T) = some y := by unfold popF; rw [← hoff]; exact hyi
      have HOFF := Lib.hid hoff
      have HPF := Lib.hid hpf
      have HYI := Lib.hid hyi
      obtain ⟨l3, hn3⟩ := hf4.node hr4
      have n3 := hn3.c3n rfl
      have n2 : w4.cell? ⟨rid T', 2, none⟩ = some (.slice (some ⟨l3.ib, l3.io, none⟩) T'.2.length l3.ic) := hn3.c2
      have iv := hn3.mval (j := 0) hyq
      have q0 : (0 : Int) < (T'.2.length : Int) := by omega
      have HR4 := Lib.hid hr4
      have HF4 := Lib.hid hf4
      clear hn3 hf4 hrec4 hr4 hyq hoff hpf hyi
      rw [Nat.add_zero] at iv
      go_wp2_with (go_at_call 93; refine (leaf_any _ none _ n3).mono ?_; rintro e w' ⟨rfl, rfl⟩)
      have hc05 := hc04; have hf5 := HF4.out
      have e6 := (HI.out.map.chg hc05 (fun b _ hm h => HOUT.out b hm h)).c6
      by_cases hlm : T'.2.length = mn
      · have hcmp : ((T'.2.length : Int) == (mn : Int)) = true := by simp [hlm]
        have HLM := Lib.hid hlm
        clear hlm
        go_quiet (fail)
        refine name_prop (fun w6 => Chg (fun _ _ => False) w4 w6) ((Chg.refl _ _).drewN _) ?_
        intro w6 hc6
        clear n2 e6 iv
        have hc06 : Chg (fun b _ => F b) w w6 := hc05.trans (hc6.mono (fun _ _ _ h => h.elim))
        have hfx := hf5.chg hc6 (fun _ _ _ h => h)
        have hsp : spineD false h T = P ++ [rid T'] := HSD.out.sp
        rw [← hsp] at hfx
        have HFX := Lib.hid hfx
        have c2 : w6.cell? ⟨t, 2, none⟩ = some (.pointer (some ⟨rid T, 0, none⟩)) := (HB.out.chg hc06 (fun b _ hm h => HOUT.out b hm h)).c2
        clear hf5 hfx hsp
        go_wp2_with fail
        go_loopw [4] (fun nv wr => ∃ (h2 : Nat) (T2 : BT (It ord) h2), nv = .pointer (some ⟨rid T2, 0, none⟩) ∧ IsT H h2 T2 ∧ Sh mn mx h2 T2 ∧ (ids h2 T2).Nodup ∧ (toL h2 T2).length ≤ 1000000000000 ∧ 1 ≤ (its T2).length ∧ Fam (parM k) wr F (bmp H (spineD false h2 T2) (-1)) ∧ Chg (fun b _ => F b) w wr) (fun nv _ => mOf H nv)
        case atStart => exact ⟨h, T, rfl, HI.out.isT, HI.out.sh, HI.out.nd, hsz, h1, HFX.out, hc06⟩
        case round =>
          obtain ⟨h2, T2, rfl, hT2, hs2, hnd2, hbg2, hit2, hfm, hcw⟩ := hrel
          clear c2
          have hsp1 : ∃ S, spineD false h2 T2 = rid T2 :: S ∧ rid T2 ∉ S := by
            rcases h2 with _ | h2
            · exact ⟨[], rfl, by simp⟩
            · obtain ⟨c, hc⟩ := side_kid (d := false) hs2
              exact ⟨_, spineD_cons hc, spineD_head hnd2 hc⟩
          obtain ⟨S, hS1, hS2⟩ := hsp1
          rw [hS1] at hfm
          have hrec : bmp H (rid T2 :: S) (-1) (rid T2) = some { recOf h2 T2 with cnt := (recOf h2 T2).cnt + -1 } := bmp_in List.mem_cons_self hT2.root
          obtain ⟨ln, hnn⟩ := hfm.node hrec
          have n1 : wr.cell? ⟨rid T2, 1, none⟩ = some (.int .i64 ((recOf h2 T2).cnt + -1)) := hnn.c1
          rw [recOf_cnt] at n1
          replace n1 : wr.cell? ⟨rid T2, 1, none⟩ = some (.int .i64 (((toL h2 T2).length : Int) - 1)) := n1
          have fz := hnn.fz 1
          have s1 : IntKind.i64.wrap (((toL h2 T2).length : Int) - 1 + 1) = ((toL h2 T2).length : Int) := by rw [IntWalk.i64_in _ (by omega)]; omega
          have s2 : ((toL h2 T2).length : Int) - 1 + 1 = ((toL h2 T2).length : Int) := by omega
          have hrcs : ({ recOf h2 T2 with cnt := ((toL h2 T2).length : Int) } : NodeR (It ord)) = recOf h2 T2 := by rw [← recOf_cnt]
          have hback : upd (bmp H (rid T2 :: S) (-1)) (rid T2) { recOf h2 T2 with cnt := ((toL h2 T2).length : Int) } = bmp H S (-1) := by rw [hrcs]; exact bmp_cons hS2 hT2.root
          have h1x := hfm.setCnt hrec ((toL h2 T2).length : Int)
          have h1x2 : Fam (parM k) (wr.setCell ⟨rid T2, 1, none⟩ (.int .i64 ((toL h2 T2).length : Int))) F (bmp H S (-1)) ∧ Chg (fun b _ => F b) wr (wr.setCell ⟨rid T2, 1, none⟩ (.int .i64 ((toL h2 T2).length : Int))) := by rw [← hback]; exact h1x
          have HFIN := Lib.hid h1x2
          have HS1 := Lib.hid hS1
          have HS2 := Lib.hid hS2
          clear h1x h1x2 hback hrcs hrec hnn hfm hS1 hS2
          go_wp2_with fail
          try rw [s2]
          refine name_calls (fun wx => Fam (parM k) wx F (bmp H S (-1)) ∧ Chg (fun b _ => F b) wr wx) HFIN.out ?_
          clear n1 fz s1 s2 HFIN
          rintro wx ⟨hfx, hcx⟩
          rcases h2 with _ | h2
          · obtain rfl : S = [] := (List.cons.inj (show [T2.1] = rid T2 :: S from HS1.out)).2.symm
            rw [bmp_nil] at hfx
            obtain ⟨lx, hnx⟩ := hfx.node hT2.root
            have n3 := hnx.c3n rfl
            have hcr := hcw.trans hcx
            have hMX : MapIn k mn mx wx F t (toL h T) := .inr ⟨H, h, T, ⟨hfx, HI.out.map.chg hcr (fun b _ hm h => HOUT.out b hm h), HI.out.out, HI.out.isT, HI.out.nd, HI.out.sh, HI.out.srt, HI.out.big, HI.out.m3, HI.out.m1000, HI.out.mh, HI.out.mh2⟩, HB.out.chg hcr (fun b _ hm h => HOUT.out b hm h), rfl, h1⟩
            have hdel := deleteHint_any (hv := none) y hMX hmn (fun b e => by cases e) (fun b e => by cases e) (fun b e => by cases e) hsz
            unfold aggM hintV at hdel
            simp only [Option.map_none] at hdel
            have HDEL := Lib.hid hdel
            have HCRX := Lib.hid hcr
            clear hdel hMX hnx hfx hcr
            refine (leaf_any _ none _ n3).mono ?_
            rintro e w' ⟨rfl, rfl⟩
            go_wp2_with fail
            refine HDEL.out.mono ?_
            rintro e wd ⟨hret, F', hMd, hcd, hFd, _⟩
            have hy : fndL ltM y (toL h T) = some y := fnd_mem HI.out.srt (List.mem_of_getElem? HYI.out)
            have he : e = .returned (.tuple #[.iface 26 (.agg #[.int .i64 y.1, .int .i64 y.2]), .bool true]) := by
              rcases hret with ⟨z, hz, e1⟩ | ⟨hz, _⟩
              · rw [hy] at hz
                obtain rfl := Option.some.inj hz
                exact e1
              · rw [hy] at hz; cases hz
            subst he
            rw [delL_at HI.out.srt HYI.out, HOFF.out] at hMd
            have HMD := Lib.hid hMd
            have HCD := Lib.hid hcd
            have HFD := Lib.hid hFd
            clear hMd hcd hFd hret hy
            go_wp2_with fail
            refine bodyPost_ret (v := .tuple #[.iface 26 (.agg #[.int .i64 y.1, .int .i64 y.2]), .bool true]) (by simp [results, Try.results100, go_sem]) rfl ?_
            refine ⟨by rw [HPF.out]; rfl, F', HMD.out, (HCRX.out.mono (B := fun b _ => F b ∨ b = t) (fun _ _ _ h => .inl h)).trans' HCD.out (fun _ _ _ h => h) (fun b o hb h => ?_), fun b hb => ?_⟩
            · rcases h with h | h
              · exact h
              · cases h
            · rcases HFD.out b hb with h | h
              · exact .inl h
              · exact .inr (Nat.le_trans HCRX.out.size h)
          · obtain ⟨c, hc3⟩ := side_kid (d := false) hs2
            obtain rfl : S = spineD false h2 c := by
              have := HS1.out
              rw [spineD_cons hc3] at this
              exact (List.cons.inj this).2.symm
            have hcm3 : c ∈ T2.2.2 := List.mem_of_getElem? hc3
            have hk : (recOf (h2 + 1) T2).kids = some (T2.2.2.map fun c => some (rid c)) := rfl
            have hrr : bmp H (spineD false h2 c) (-1) (rid T2) = some (recOf (h2 + 1) T2) := (bmp_out HS2.out).trans hT2.root
            obtain ⟨lx, hnx⟩ := hfx.node hrr
            have n3 := hnx.c3s hk
            have nc := hnx.cc hk
            rw [List.length_map] at nc
            have hkl2 : T2.2.2.length = T2.2.1.length + 1 := hs2.2.1
            have kc : wx.cell? ⟨lx.cb, lx.co + sideI false T2.2.1.length, none⟩ = some (.pointer (some ⟨rid c, 0, none⟩)) := hnx.kidc hk (j := sideI false T2.2.1.length) (o := some (rid c)) (by simp [hc3])
            have hbg3 : (toL h2 c).length ≤ 1000000000000 := Nat.le_trans (kid_leD hs2 hcm3) hbg2
            have hgt2 := kid_lt hs2 hcm3 hit2
            have m1 := mOf_root hT2
            have m2 := mOf_root (hT2.kid hcm3)
            have hks : mn ≤ (its c).length := (hs2.2.2 c hcm3).1
            have b1 : (0 : Int) < (T2.2.2.length : Int) := by omega
            have b2 : 0 < T2.2.2.length := by omega
            have kc' : wx.cell? ⟨lx.cb, lx.co, none⟩ = some (.pointer (some ⟨rid c, 0, none⟩)) := kc
            have HFXX := Lib.hid hfx
            have HCX := Lib.hid (hcw.trans hcx)
            clear hnx hfx
            refine (leaf_any _ (some ⟨lx.cc, 0, none⟩) _ n3).mono ?_
            rintro e w' ⟨rfl, rfl⟩
            go_wp2_with fail
            skip
            go_roundw
            case rel => exact ⟨h2, c, rfl, hT2.kid hcm3, (hs2.2.2 c hcm3).2, nodup_kid hnd2 hcm3, hbg3, by omega, HFXX.out, HCX.out⟩
            case measure => rw [m1, m2]; exact hgt2
      · have hcmp : ((T'.2.length : Int) == (mn : Int)) = false := beq_eq_false_iff_ne.2 (by omega)
        have HLM := Lib.hid hlm
        clear hlm iv
        go_quiet (fail)
        refine name_prop (fun w6 => Chg (fun _ _ => False) w4 w6) ((Chg.refl _ _).drewN _) ?_
        intro w6 hc6
        go_wp2_with fail
        have hc06 := hc05.trans (hc6.mono (B := fun b _ => F b) (fun _ _ _ h => h.elim))
        have hf6 := hf5.chg hc6 (fun _ _ _ h => h)
        obtain ⟨r, hrd⟩ : ∃ r : NodeR (It ord), r = ⟨((T'.2.length : Nat) : Int) + -1, T'.2, none⟩ := ⟨_, rfl⟩
        have hr6 : bmp H (P ++ [rid T']) (-1) (rid T') = some r := by rw [hrd]; exact HR4.out
        have hri : r.items.length = T'.2.length := by rw [hrd]
        have hlr0 : 1 ≤ r.items.length := by omega
        have hlr1 : r.items.length ≤ 1000 := by omega
        have HRD0 := Lib.hid hrd
        obtain ⟨l, hna, hb, ho, cl⟩ := hf6.work hr6
        have HM := Lib.hid (HI.out.map.chg hc06 (fun b _ hm h => HOUT.out b hm h))
        have HRN := Lib.hid (Run.start hna)
        have HCL2 := Lib.hid cl
        have HBF := Lib.hid hb
        have HRI := Lib.hid hri
        clear hri hrd hna hb ho cl hf5 hf6 hr6 n2 e6 hcmp
        have N2 : w6.cell? ⟨rid T', 2, none⟩ = some (.slice (some ⟨l.ib, l.io, none⟩) r.items.length l.ic) := HRN.out.at_.c2
        have hlenc : r.items.length ≤ l.ic := HRN.out.at_.len
        have s4 : (1 : Int) ≤ (r.items.length : Int) := by omega
        have s5 : (0 : Int) < (r.items.length : Int) := by omega
        have hck2 : ¬ l.ic = 0 := by omega
        have s6 : 0 < r.items.length := by omega
        have s7 : ¬ ((r.items.length : Int) < 1) := by omega
        have s8 : (r.items.length : Int) ≤ (l.ic : Int) := by omega
        have s9 : ¬ r.items.length = 0 := by omega
        have s10 : ¬ r.items.length < 1 := by omega
        obtain ⟨sp, hif, hsp⟩ : ∃ sp, (if l.ic = 1 then some (⟨l.ib, l.io, none⟩ : Addr) else some ⟨l.ib, l.io + 1, none⟩) = some sp ∧ (0 + 1 < r.items.length → sp = ⟨l.ib, l.io + 1, none⟩) := by
          by_cases h : l.ic = 1
          · exact ⟨_, by rw [if_pos h], fun h2 => by omega⟩
          · exact ⟨_, by rw [if_neg h], fun _ => rfl⟩
        have HSP := Lib.hid hsp
        clear hsp
        go_still_tail 10, (by kernel_rfl)
        refine wpList_down (p := parM k) (by rfl) _ _ _ _ (by rfl) 20 (by kernel_rfl) infoPairSize (HRN.out.still ((Chg.refl _ _).drew)) 0 (l.io) _ _ _ _ (show 0 < r.items.length by omega) (by simp [parM]) (by rfl) sp (by rfl) (by simpa [parM] using HSP.out) (by first | rfl | simp) (by first | rfl | simp) ?_
        intro w8 ys r8 hys1 hys2
        replace hys1 := Lib.hid hys1
        replace hys2 := Lib.hid hys2
        clear s4 s5 s6 s7 s8 s9 s10 hck2 hif N2 hlenc HSP
        go_upto_region 12 with fail
        refine name_world (fun wz => ∃ ys, ys.length = r.items.length ∧ ys.take (r.items.length - 1) = r.items.take 0 ++ r.items.drop (0 + 1) ∧ Run (parM k) w6 (rid T') r l wz { r with items := ys } l) ⟨ys, hys1.out, hys2.out, r8⟩ ?_
        clear r8 hys1 hys2 HRN
        rintro w7 ⟨y3, hly3, hy3, hR⟩
        have hyb : 1 ≤ y3.length ∧ y3.length ≤ 1001 := by omega
        replace hly3 := Lib.hid hly3
        replace hy3 := Lib.hid hy3
        have HRN := Lib.hid hR
        clear hR
        have N2 : w7.cell? ⟨rid T', 2, none⟩ = some (.slice (some ⟨l.ib, l.io, none⟩) y3.length l.ic) := HRN.out.at_.c2
        have hm1 := HM.out.chg HRN.out.chg (fun b o hm h => HOUT.out b hm (HBF.out _ h.blk))
        have e4 := hm1.c4
        have hlenc : y3.length ≤ l.ic := HRN.out.at_.len
        have s0 : (0 : Int) ≤ (y3.length : Int) - 1 := by omega
        have s2 : (y3.length : Int) - 1 < (y3.length : Int) := by omega
        have s3 : ((y3.length : Int) - 1).toNat = y3.length - 1 := by omega
        have s1 : IntKind.i64.wrap ((y3.length : Int) - 1) = (y3.length : Int) - 1 := IntWalk.i64_in _ (by omega)
        have hlt : y3.length - 1 < y3.length := by omega
        have z0 := HRN.out.at_.ifz (l.io + (y3.length - 1))
        obtain ⟨y6, hy6⟩ : ∃ y, y3[y3.length - 1]? = some y := ⟨_, List.getElem?_eq_getElem hlt⟩
        have iv := HRN.out.at_.mval (j := y3.length - 1) hy6
        have r8 := ((Run.opt.1 HRN.out).still ((Chg.refl _ _).drew)).setItemO (y3.length - 1) none (show y3.length - 1 < (y3.map some).length by rw [List.length_map]; exact hlt)
        have HR8 := Lib.hid r8
        clear hm1 hy6 r8
        go_still_tail 14, (by kernel_rfl)
        go_upto_region 13 with fail
        refine name_world (fun wz => Run (parO k) w6 (rid T') r.opt l wz ⟨r.cnt, (y3.map some).set (y3.length - 1) none, r.kids⟩ l) HR8.out ?_
        clear N2 e4 hlenc s0 s1 s2 s3 hlt z0 iv HR8 HRN y6
        rintro wv hR
        have HRN := Lib.hid hR
        clear hR
        have hsl : ((y3.map some).set (y3.length - 1) none : List (Option (It ord))).length = y3.length := by simp
        have N2 : wv.cell? ⟨rid T', 2, none⟩ = some (.slice (some ⟨l.ib, l.io, none⟩) y3.length l.ic) := by
          have h := HRN.out.at_.c2
          simp only [List.length_set, List.length_map] at h
          exact h
        have z2 := HRN.out.at_.fz 2
        have hlenc : y3.length ≤ l.ic := by
          have h := HRN.out.at_.len
          simpa using h
        have s0 : (0 : Int) ≤ (y3.length : Int) - 1 := by omega
        have s2 : (y3.length : Int) - 1 ≤ (l.ic : Int) := by omega
        have s3 : ((y3.length : Int) - 1).toNat = y3.length - 1 := by omega
        have s1 : IntKind.i64.wrap ((y3.length : Int) - 1) = (y3.length : Int) - 1 := IntWalk.i64_in _ (by omega)
        have ck : ¬ l.ic = 0 := by omega
        have s6 : ¬ ((y3.length : Int) < 1) := by omega
        have s7 : (1 : Int) ≤ (y3.length : Int) := by omega
        have r8 := (HRN.out.still ((Chg.refl _ _).drew)).cut 0 (y3.length - 1) l.ic (by show 0 + (y3.length - 1) ≤ ((y3.map some).set (y3.length - 1) none).length; rw [hsl]; omega) (by omega) (by omega)
        simp only [Nat.zero_mul, Nat.add_zero, List.drop_zero] at r8
        have r9 := Run.back (r := ⟨r.cnt, y3.take (y3.length - 1), r.kids⟩) r8 (by simp [NodeR.opt, List.take_set_of_le, List.map_take])
        have HR8 := Lib.hid r9
        clear r8 r9 hsl
        go_still_tail 12, (by kernel_rfl)
        go_upto_region 14 with fail
        refine name_world (fun wz => Run (parM k) w6 (rid T') r l wz ⟨r.cnt, y3.take (y3.length - 1), r.kids⟩ l) HR8.out ?_
        clear N2 z2 hlenc s0 s1 s2 s3 s6 s7 ck HR8 HRN
        rintro w9 hR
        have HRN := Lib.hid hR
        clear hR
        have hit4 : y3.take (y3.length - 1) = T'.2.take 0 ++ T'.2.drop (0 + 1) := by
          have h1 := hy3.out
          rw [← hly3.out] at h1
          rw [h1, HRD0.out]
        have hR9 := HRN.out
        rw [hit4] at hR9
        have hre : (⟨r.cnt, T'.2.take (0) ++ T'.2.drop (0 + 1), r.kids⟩ : NodeR (It ord)) = ⟨((T'.2.length : Nat) : Int) + -1, T'.2.take (0) ++ T'.2.drop (0 + 1), none⟩ := by rw [HRD0.out]
        rw [hre] at hR9
        obtain ⟨f9, g9⟩ := HCL2.out _ _ _ hR9
        have hql2 : 0 < T'.2.length := by omega
        rw [leaf_fam hT' hrP hql2] at f9
        have hD := delIn_leaf (mn := mn) (mx := mx) (H := H) hnd' hs' hql2
        have hl2 : (T'.2.take (0) ++ T'.2.drop (0 + 1)).length + 1 = T'.2.length := by simp; omega
        obtain ⟨Tf, d1, d2, d3, d4⟩ := HCL.out _ _ hD (fun hp => by
          show mn ≤ (T'.2.take (0) ++ T'.2.drop (0 + 1)).length
          have h1 : mn ≤ T'.2.length := hm' hp
          have := HLM.out
          omega) hl2
        have hlist : toL h Tf = popL false (toL h T) := by
          unfold popL
          rw [← HOFF.out, d2, HL.out, ← HA.out]
          exact cut_mid A T'.2 C (0) hql2
        have hil := (List.getElem?_eq_some_iff.1 HYI.out).1
        have hlenf : (toL h Tf).length + 1 = (toL h T).length := by
          rw [hlist]; unfold popL; rw [← HOFF.out]; simp; omega
        have hone : 2 ≤ (toL h T).length → 1 ≤ (its Tf).length := by
          intro h2
          by_cases hp : P = []
          · rw [d3 hp]
            have h3 : (toL h T).length = T'.2.length := HRD.out.root hp
            show 1 ≤ (T'.2.take (0) ++ T'.2.drop (0 + 1)).length
            omega
          · rw [d4 hp]; exact h1
        have hc09 := hc06.trans g9
        have hB9 := HB.out.chg hc09 (fun b _ hm h => HOUT.out b hm h)
        have c3 := hB9.c3
        have z3 := hB9.fz 3
        have z2 := hB9.fz 2
        have c2 := hB9.c2
        have hszg := g9.size
        have s1 : IntKind.i64.wrap (((toL h T).length : Int) - 1) = ((toL h T).length : Int) - 1 := IntWalk.i64_in _ (by omega)
        have HF9 := Lib.hid f9
        have HB9 := Lib.hid hB9
        have HD1 := Lib.hid d1
        have HLIST := Lib.hid hlist
        have HONE := Lib.hid hone
        have HC09 := Lib.hid hc09
        have HC06 := Lib.hid hc06
        have HLF := Lib.hid hlenf
        have htF9 : ∀ b, MOwn k t b → ¬ grow F w6 w9 b := fun b hm h => by
          rcases h with h | h
          · exact HOUT.out b hm h
          · have := HOL.out b hm; have := hc06.size; have := h.1; omega
        have HT9 := Lib.hid htF9
        clear f9 hB9 d1 d2 d3 d4 hlist hone hD hR9 hre hit4 HRN htF9 hc09 hc06 hl2 hil hlenf
        by_cases hone1 : (toL h T).length = 1
        · have hz : (((toL h T).length : Int) - 1 == 0) = true := by rw [hone1]; rfl
          have HON := Lib.hid hone1
          clear hone1
          go_wp2_with fail
          refine bodyPost_ret (v := .tuple #[.iface 26 (.agg #[.int .i64 y.1, .int .i64 y.2]), .bool true]) (by simp [results, Try.results100, go_sem]) rfl ?_
          have hBz := (HB9.out.setCnt (((toL h T).length : Int) - 1)).setRoot none
          have ez : ((toL h T).length : Int) - 1 = 0 := by have := HON.out; omega
          refine ⟨by rw [HPF.out]; rfl, fun _ => False, .inl ⟨?_, fun _ h => h, ?_⟩, ?_, fun _ h => h.elim⟩
          · rw [← HLIST.out]; exact List.eq_nil_of_length_eq_zero (by have := HON.out; have := HLF.out; omega)
          · rw [ez] at hBz ⊢
            exact hBz
          · exact (HC09.out.mono (B := fun b _ => F b ∨ b = t) (fun _ _ _ h => .inl h)).trans' (((Chg.refl (fun b _ => b = t) w9).setCell (.inl rfl) _).setCell (.inl rfl) _) (B := fun b _ => F b ∨ b = t) (fun _ _ _ h => h) (fun _ _ _ h => .inr h)
        · have hz : (((toL h T).length : Int) - 1 == 0) = false := beq_eq_false_iff_ne.2 (by omega)
          go_wp2_with fail
          refine bodyPost_ret (v := .tuple #[.iface 26 (.agg #[.int .i64 y.1, .int .i64 y.2]), .bool true]) (by simp [results, Try.results100, go_sem]) rfl ?_
          have hBf := HB9.out.setCnt (((toL h T).length : Int) - 1)
          have ez : ((toL h T).length : Int) - 1 = ((toL h Tf).length : Int) := by have := HLF.out; omega
          rw [ez] at hBf ⊢
          have hcs : Chg (fun b _ => b = t) w9 (w9.setCell ⟨t, 3, none⟩ (.int .i64 ((toL h Tf).length : Int))) := (Chg.refl (fun b _ => b = t) w9).setCell (.inl rfl) _
          have hFf := HF9.out.chg hcs (fun b o hb e => HT9.out t MOwn.self (e ▸ hb))
          have hsl : (toL h Tf).Sublist (toL h T) := by
            rw [HLIST.out]
            unfold popL
            have := (List.drop_sublist 1 ((toL h T).drop (sideI false ((toL h T).length - 1))))
            rw [List.drop_drop] at this
            have h2 := (List.Sublist.refl ((toL h T).take (sideI false ((toL h T).length - 1)))).append this
            rw [List.take_append_drop] at h2
            exact h2
          refine ⟨by rw [HPF.out]; rfl, grow F w6 w9, .inr ⟨_, h, Tf, ⟨hFf, hBf.at_, HT9.out, HD1.out.isT, HD1.out.nd, HD1.out.sh, HI.out.srt.sublist hsl, Nat.le_trans hsl.length_le HI.out.big, HI.out.m3, HI.out.m1000, HI.out.mh, HI.out.mh2⟩, ?_, HLIST.out, HONE.out (by omega)⟩, ?_, fun b hb => ?_⟩
          · rw [HD1.out.rid']; exact hBf
          · exact (HC09.out.mono (B := fun b _ => F b ∨ b = t) (fun _ _ _ h => .inl h)).trans' hcs (fun _ _ _ h => h) (fun b o hb e => .inr e)
          · rcases hb with hb | hb
            · exact .inl hb
            · exact .inr (by have := hb.1; have := HC06.out.size; omega)
    · obtain ⟨l3, hn3⟩ := hf4.node hrec4
      obtain ⟨c, hcj⟩ := side_kid (d := false) hs'
      have hk : (recOf (h' + 1) T').kids = some (T'.2.2.map fun c => some (rid c)) := rfl
      have n3 := hn3.c3s hk
      have nc := hn3.cc hk
      rw [List.length_map] at nc
      have hkl : T'.2.2.length = T'.2.1.length + 1 := hs'.2.1
      have hcm : c ∈ T'.2.2 := List.mem_of_getElem? hcj
      have kc : w4.cell? ⟨l3.cb, l3.co, none⟩ = some (.pointer (some ⟨rid c, 0, none⟩)) := hn3.kidc hk (j := sideI false T'.2.1.length) (o := some (rid c)) (by simp [hcj])
      have hrc : bmp H (P ++ [rid T']) (-1) (rid c) = some (recOf h' c) := (bmp_out (fun hm => by
        rcases List.mem_append.1 hm with hm | hm
        · exact (hPo _ hm).1 (ids_kid hcm (rid_mem c))
        · rw [List.mem_singleton] at hm; exact nodup_root hnd' hcm (hm ▸ rid_mem c))).trans (hT'.kid hcm).root
      obtain ⟨lc, hnc⟩ := hf4.node hrc
      have nc0 := hnc.c0
      have cw0 := (HI.out.map.chg hc04 (fun b _ hm h => HOUT.out b hm h)).c0
      have hgt2 := kid_lt hs' hcm hit
      have m1 := mOf_root hT'
      have m2 := mOf_root (hT'.kid hcm)
      have b1 : (0 : Int) < (T'.2.2.length : Int) := by omega
      have b2 : 0 < T'.2.2.length := by omega
      have hks : mn ≤ (its c).length := (hs'.2.2 c hcm).1
      have HF4 := Lib.hid hf4
      have HSS := Lib.hid (HSD.out.step hs' hcj)
      have HRS := Lib.hid (HRD.out.snoc hcj)
      clear hn3 hnc hf4 hrec4 hrc hcj
      go_wp2_with (go_at_call 93; refine (leaf_any _ (some ⟨l3.cc, 0, none⟩) _ n3).mono ?_; rintro e w' ⟨rfl, rfl⟩)
      refine (isoLoad_any t (rid c) k _ _ _ kc nc0 cw0).mono ?_
      rintro e w5 ⟨rfl, m, hw5⟩
      have hc5 : Chg (fun _ _ => False) w4 w5 := by rw [hw5]; exact (Chg.refl _ _).drewN _
      clear hw5
      go_wp2_with fail
      go_roundw
      case rel => exact ⟨h', c, _, _, P ++ [rid T'], rfl, rfl, HRS.out, HSS.out, by omega, HF4.out.chg hc5 (fun _ _ _ h => h), hc04.trans (hc5.mono (fun _ _ _ h => h.elim))⟩
      case measure => rw [m1, m2]; exact hgt2
end Go.Proofs.Ytcabnhpnkaielaa
