/- Numbers, items and found items as elements; slices.Equal of equal lists. -/
import Derived.BigQuiet
import Derived.StillTailTactics
import Derived.Deep.AppendLies
import Derived.Test.YtnohimhihombmaaA1
import Derived.Test.YtnohimhihombmaaA2
import Derived.Test.YtnohimhihombmaaA3
namespace Go.Proofs.Ytnohimhihombmaa
set_option linter.unusedSimpArgs false
set_option linter.unusedVariables false
set_option maxRecDepth 100000
set_option maxHeartbeats 40000000
open Value renaming int → Ii, pointer → Ip, slice → Is, tuple → Iu
open IntKind renaming i64 → Ij
open Obj renaming cells → Ic
open Ending renaming returned → Ir
open Option.some renaming inj → Iq
open _root_.Go.Proofs.Try renaming prog → Tp
open List renaming setIfInBounds_toArray → zA, set_cons_zero → zB, set_cons_succ → zC, getElem?_cons_zero → zD, getElem?_cons_succ → zE, getElem?_toArray → zF, getElem?_eq_some_iff → zG, getElem?_eq_getElem → zH, length_take → zV, filterMap_cons → zX, filterMap_nil → zY
open Region renaming wanted → zI
open Act renaming put → zJ
open Chg renaming refl → zK, setCell → zd, drew → ze
open Lib renaming hid → zL
open Nat renaming le_refl → zi
section
open Go.RowKit
def RankOk (ordv:Value) (rk:Int→Int) (w:World):Prop :=
 ∀w',Chg (fun _ _=>False) w w'→∀key,Calls Tp 33 #[ordv,Ii Ij key] w' fun e w2=>e=Ir (Ii Ij (rk key))∧w2=w'
theorem RankOk.chg {ordv:Value} {rk:Int→Int} {w w':World} (h:RankOk ordv rk w) (c:Chg (fun _ _=>False) w w'):RankOk ordv rk w':=fun w2 c2 key=>h w2 (c.trans c2) key
def ltR (rk:Int→Int) (a b:Int×Int):Bool:=decide (rk a.1 < rk b.1)
def itemV (x:Int×Int):Value:=.agg #[Ii Ij x.1,Ii Ij x.2]
theorem before_any (ordv:Value) (rk:Int→Int) (a b:Int×Int) (w:World) (hR:RankOk ordv rk w) :
  Calls Tp 18 #[ordv,itemV a,itemV b] w fun e w'=>e=Ir (.bool (ltR rk a b))∧Chg (fun _ _=>False) w w':=by
 have HR:=zL hR
 clear hR
 unfold itemV
 go_enter Try.func18,Try.ntmps18
 go_wp2_with fail
 refine kbD (fun w1=>Chg (fun _ _=>False) w w1∧w1.cell? ⟨w.heap.size,0,none⟩=some (Ii Ij a.1)∧w1.cell? ⟨w.heap.size+1,0,none⟩=some (Ii Ij b.1)) ⟨((zK _ _).alloc _).alloc _,?_,?_⟩ ?_
 ·rw [World.cell?_alloc_lt _ _ _ (by simp)];exact kbB (kbT _ _ rfl) 0
 ·exact kbB (kbT _ _ (by simp)) 0
 rintro w1 ⟨hc,c0,c1⟩
 go_quiet (first | (go_at_call 33;refine Calls.quiet_of_same (HR.out _ (hc.drewN _) _)))
 go_wp2
 go_ret
 exact ⟨rfl,hc.drewN _⟩
end
section
open Go.RowKit
def ItemsAt (w:World) (p:Option Addr) (l:List (Int×Int)):Prop :=
 l=[]∨∃b o,p=some ⟨b,o,none⟩∧∀i x,l[i]?=some x→w.cell? ⟨b,o+i * 2,none⟩=some (Ii Ij x.1)∧w.cell? ⟨b,o+i * 2+1,none⟩=some (Ii Ij x.2)
theorem ItemsAt.chg {w w':World} {p:Option Addr} {l:List (Int×Int)} (h:ItemsAt w p l) (c:Chg (fun _ _=>False) w w'):ItemsAt w' p l:=by
 rcases h with h | ⟨b,o,h1,h2⟩
 ·exact .inl h
 ·exact .inr ⟨b,o,h1,fun i x hx=>⟨c.q (h2 i x hx).1,c.q (h2 i x hx).2⟩⟩
def PlaceIs (lt:Int×Int→Int×Int→Bool) (l:List (Int×Int)) (x:Int×Int) (i:Nat) (b:Bool):Prop :=
 i≤l.length∧(∀j y,j < i→l[j]?=some y→lt y x=true)∧(∀y,l[i]?=some y→lt y x=false)∧((∃y,l[i]?=some y∧lt x y=false∧b=true)∨((∀y,l[i]?=some y→lt x y=true)∧b=false))
theorem place_big (ordv:Value) (rk:Int→Int) (p:Option Addr) (cap:Nat) (l:List (Int×Int)) (x:Int×Int) (w:World) (hR:RankOk ordv rk w) (hl:ItemsAt w p l) (hlen:l.length≤8589934593) :
  Calls Tp 59 #[ordv,.slice p l.length cap,itemV x] w fun e w'=>(∃(i:Nat) (b:Bool),e=Ir (Iu #[Ii Ij i,.bool b])∧PlaceIs (ltR rk) l x i b)∧Chg (fun _ _=>False) w w':=by
 have HR:=zL hR
 have HL:=zL hl
 clear hR hl
 unfold itemV
 go_enter Try.func59,Try.ntmps59
 go_wp2_with fail
 refine kbD (fun w1=>Chg (fun _ _=>False) w w1∧w1.heap[w.heap.size]?=some (Ic #[Ii Ij x.1,Ii Ij x.2] 27 (0,0))) ⟨(zK _ _).alloc _,kbT _ _ rfl⟩ ?_
 rintro w1 ⟨hc1,hb1⟩
 have HB1:=zL hb1
 clear hb1
 go_loopw [8] (fun i wr=>∃(j:Nat),j≤l.length∧i=Ii Ij j∧Chg (fun _ _=>False) w1 wr∧(∀q y,q < j→l[q]?=some y→ltR rk y x=true)) (fun i _=>l.length - (intOf i).toNat)
 case atStart=>exact ⟨0,Nat.zero_le _,rfl,zK _ _,fun q y h=>by omega⟩
 case round =>
  obtain ⟨j,hj,rfl,hc,hq⟩:=hrel
  have HQ:=zL hq
  clear hq
  have hbr:wr.heap[w.heap.size]?=some (Ic #[Ii Ij x.1,Ii Ij x.2] 27 (0,0)):=by rw [hc.block (kbF HB1.out) (fun _ h=>h)];exact HB1.out
  have q0:=kbB hbr 0
  have q1:=kbB hbr 1
  simp only [zF,zD,zE] at q0 q1
  have HBR:=zL hbr
  clear hbr
  by_cases hlt:j < l.length
  ·obtain ⟨y,hy⟩:∃y,l[j]?=some y:=⟨_,zH hlt⟩
   rcases HL.out with hl0 | ⟨b,o,rfl,hcell⟩
   ·subst hl0;simp at hlt
   have g0:=(hc1.trans hc).q (hcell j y hy).1
   have g1:=(hc1.trans hc).q (hcell j y hy).2
   clear hcell
   have HY:=zL hy
   clear hy
   have i0:(0:Int)≤(j:Int):=by omega
   have i1:(j:Int) < (l.length:Int):=by omega
   go_wp2_with fail
   refine wp_region_callg (fun w'=>w'.cell? ⟨w.heap.size,0,none⟩=some (Ii Ij x.1)∧w'.cell? ⟨w.heap.size,1,none⟩=some (Ii Ij x.2)∧w'.cell? ⟨b,o+j * 2,none⟩=some (Ii Ij y.1)∧w'.cell? ⟨b,o+j * 2+1,none⟩=some (Ii Ij y.2))
    11 [0,1,2,3,4,5,6,7,8,9,10] _ [12] (by kernel_rfl) (by kernel_rfl) (fun _ _ _ _ _ h=>h) rfl rfl rfl ⟨q0,q1,g0,g1⟩ ?_
   simp only [kbK,zX,zY,zD,zE]
   iterate 5
    refine kbR ?_ rfl ?_ ?_
    rotate_left
    ·intro w' hS
     try obtain ⟨s0,s1,s2,s3⟩:=hS
     go_simp
     try with_reducible rfl
    simp only [zJ,zA,zB,zC]
   iterate 6
    refine wpSoft_guard ?_ (by simp [zI,yielded]) ?_ ?_
    rotate_left
    ·intro w' hS
     obtain ⟨s0,s1,s2,s3⟩:=hS
     go_simp
     try with_reducible rfl
    simp only [zJ,zA,zB,zC]
   refine kbS (.inl ⟨by simp [zI,yielded],?_⟩)
   refine wp_hide (fun K hK=>?_)
   go_simp
   have hcw:=(hc1.trans hc).drew
   refine (before_any ordv rk y x _ (HR.out.chg hcw)).mono ?_
   rintro e w2 ⟨rfl,hc2⟩
   refine hK _ _ ?_
   clear hK K
   refine kbR ?_ rfl ?_ ?_
   rotate_left
   ·intro w' hS
    try obtain ⟨s0,s1,s2,s3⟩:=hS
    go_simp
    try with_reducible rfl
   simp only [zJ,zA,zB,zC]
   refine kbS ?_
   replace hc2:Chg (fun _ _=>False) wr w2:=(zK _ _).drew.trans hc2
   cases hb:ltR rk y x
   ·go_wp2_with fail
    replace q0:=hc2.q q0
    replace q1:=hc2.q q1
    replace g0:=hc2.q g0
    replace g1:=hc2.q g1
    refine wp_region_keepg (fun w'=>w'.cell? ⟨w.heap.size,0,none⟩=some (Ii Ij x.1)∧w'.cell? ⟨w.heap.size,1,none⟩=some (Ii Ij x.2)∧w'.cell? ⟨b,o+j * 2,none⟩=some (Ii Ij y.1)∧w'.cell? ⟨b,o+j * 2+1,none⟩=some (Ii Ij y.2))
     12 [0,1,2,3,4,5,6,7,8,9,10,11] _ [13,14,15,16] (by kernel_rfl) (by kernel_rfl) (fun _ _ _ _ _ h=>h) rfl rfl rfl ⟨q0,q1,g0,g1⟩ ?_
    simp only [kbK,zX,zY,zD,zE]
    iterate 6
     refine kbR ?_ rfl ?_ ?_
     rotate_left
     ·intro w' hS
      try obtain ⟨s0,s1,s2,s3⟩:=hS
      go_simp
      try with_reducible rfl
     simp only [zJ,zA,zB,zC]
    iterate 6
     refine wpSoft_guard ?_ (by simp [zI,yielded]) ?_ ?_
     rotate_left
     ·intro w' hS
      obtain ⟨s0,s1,s2,s3⟩:=hS
      go_simp
      try with_reducible rfl
     simp only [zJ,zA,zB,zC]
    refine kbS (.inl ⟨by simp [zI,yielded],?_⟩)
    refine wp_hide (fun K hK=>?_)
    go_simp
    refine (before_any ordv rk x y _ (HR.out.chg ((hc1.trans hc).trans hc2).drew)).mono ?_
    rintro e w3 ⟨rfl,hc3⟩
    refine hK _ _ ⟨⟨hc3.q q0,hc3.q q1,hc3.q g0,hc3.q g1⟩,?_⟩
    clear hK K
    refine wpSoft_guard ?_ (by simp [zI,yielded]) ?_ ?_
    rotate_left
    ·intro w' hS
     go_simp
     try with_reducible rfl
    iterate 3
     simp only [zJ,zA,zB,zC]
     refine kbR ?_ rfl ?_ ?_
     rotate_left
     ·intro w' hS
      try obtain ⟨s0,s1,s2,s3⟩:=hS
      go_simp
      try with_reducible rfl
    simp only [zJ,zA,zB,zC]
    refine kbS ?_
    go_wp2_with fail
    go_ret2
    refine ⟨⟨j,!ltR rk x y,rfl,hj,HQ.out,fun z hz=>?_,?_⟩,?_⟩
    ·rw [HY.out] at hz;obtain rfl:=Iq hz;exact hb
    ·cases h:ltR rk x y
     ·exact .inl ⟨y,HY.out,h,rfl⟩
     ·exact .inr ⟨fun z hz=>by rw [HY.out] at hz;obtain rfl:=Iq hz;exact h,rfl⟩
    ·exact ((hc1.trans hc).trans hc2).drew.trans hc3
   ·go_wp2_with fail
    go_roundw
    case rel =>
     refine ⟨j+1,by omega,by go_num,hc.trans hc2,fun q z h1 h2=>?_⟩
     rcases Nat.lt_or_ge q j with h | h
     ·exact HQ.out q z h h2
     ·obtain rfl:q=j:=by omega
      rw [HY.out] at h2
      obtain rfl:=Iq h2
      exact hb
    case measure=>simp [intOf];omega
  ·obtain rfl:j=l.length:=by omega
   have i1:¬((l.length:Nat):Int) < (l.length:Int):=by omega
   go_wp2_with fail
   refine wp_region_keepg (fun _=>True) 11 [0,1,2,3,4,5,6,7,8,9,10] _ [12] (by kernel_rfl) (by kernel_rfl) (fun _ _ _ _ _ h=>h) rfl rfl rfl trivial ?_
   simp only [kbK,zX,zY,zD,zE]
   iterate 5
    refine kbR ?_ rfl ?_ ?_
    rotate_left
    ·intro w' hS
     try obtain ⟨s0⟩:=hS
     go_simp
     try with_reducible rfl
    simp only [zJ,zA,zB,zC]
   iterate 6
    refine wpSoft_skip (by simp [zI,yielded]) ?_
    simp only [zJ,zA,zB,zC]
   refine kbS (.inr ⟨by simp [zI,yielded],?_⟩)
   simp only [zJ,zA,zB,zC]
   refine kbR ?_ rfl ?_ ?_
   rotate_left
   ·intro w' hS
    try obtain ⟨s0⟩:=hS
    go_simp
    try with_reducible rfl
   simp only [zJ,zA,zB,zC]
   refine kbS ?_
   go_wp2_with fail
   refine wp_region_keepg (fun _=>True) 12 [0,1,2,3,4,5,6,7,8,9,10,11] _ [13,14,15,16] (by kernel_rfl) (by kernel_rfl) (fun _ _ _ _ _ h=>h) rfl rfl rfl trivial ?_
   simp only [kbK,zX,zY,zD,zE]
   iterate 6
    refine kbR ?_ rfl ?_ ?_
    rotate_left
    ·intro w' hS
     try obtain ⟨s0⟩:=hS
     go_simp
     try with_reducible rfl
    simp only [zJ,zA,zB,zC]
   iterate 6
    refine wpSoft_skip (by simp [zI,yielded]) ?_
    simp only [zJ,zA,zB,zC]
   refine kbS (.inr ⟨by simp [zI,yielded],?_⟩)
   simp only [zJ,zA,zB,zC]
   refine wpSoft_skip (by simp [zI,yielded]) ?_
   iterate 3
    simp only [zJ,zA,zB,zC]
    refine kbR ?_ rfl ?_ ?_
    rotate_left
    ·intro w' hS
     try obtain ⟨s0⟩:=hS
     go_simp
     try with_reducible rfl
   simp only [zJ,zA,zB,zC]
   refine kbS ?_
   go_wp2_with fail
   go_ret2
   refine ⟨⟨l.length,false,rfl,zi _,HQ.out,fun z hz=>by simp at hz,.inr ⟨fun z hz=>by simp at hz,rfl⟩⟩,(hc1.trans hc).drew.drew⟩
end
section
open Go.RowKit
structure El (α:Type) where
 es:Nat
 enc:α→List Value
 T:TypeId
 epos:0 < es
 elen:∀x,(enc x).length=es
 eone:∀x,∀v∈enc x,v.oneCell'=true
def El.par {α:Type} (p:El α):Par α:=⟨p.es,p.enc,0,p.T,0,0,0,p.epos,p.elen,p.eone⟩
variable {α:Type}
def SlE (p:El α) (w:World) (v:Value) (xs:List α):Prop:=∃a cap,v=.slice a xs.length cap∧xs.length≤cap∧(xs=[]∨∃b o,a=some ⟨b,o,none⟩∧∀j u,(flat p.par xs)[j]?=some u→w.cell? ⟨b,o+j,none⟩=some u)
def OwnE (p:El α) (w:World) (v:Value) (xs:List α) (base:Nat):Prop:=(xs=[]∧v=Is none 0 0)∨∃b o cap,v=Is (some ⟨b,o,none⟩) xs.length cap∧xs.length≤cap∧base≤b∧RowAt w p.T b o (cap * p.es) (flat p.par xs)
theorem OwnE.nil (p:El α) (w:World) (base:Nat):OwnE p w (Is none 0 0) [] base:=.inl ⟨rfl,rfl⟩
variable {xs:List α} {p:El α} {v:Value} {base:Nat}
theorem OwnE.chg {w w':World} {A:Nat→Nat→Prop} (h:OwnE p w v xs base) (c:Chg A w w') (hA:∀b o,base≤b→¬A b o):OwnE p w' v xs base:=by
 rcases h with h | ⟨b,o,cap,h1,h2,h3,h4⟩
 ·exact .inl h
 ·exact .inr ⟨b,o,cap,h1,h2,h3,h4.chg c (fun j _=>hA _ _ h3)⟩
theorem OwnE.keep {w w':World} (h:OwnE p w v xs base) (c:Chg (fun _ _=>False) w w'):OwnE p w' v xs base:=h.chg c i3
variable {w:World}
theorem OwnE.mono {base base':Nat} (h:OwnE p w v xs base) (hb:base'≤base):OwnE p w v xs base':=by
 rcases h with h | ⟨b,o,cap,h1,h2,h3,h4⟩
 ·exact .inl h
 ·exact .inr ⟨b,o,cap,h1,h2,by omega,h4⟩
theorem OwnE.sl (h:OwnE p w v xs base):SlE p w v xs:=by
 rcases h with ⟨rfl,rfl⟩ | ⟨b,o,cap,rfl,h2,h3,h4⟩
 ·exact ⟨none,0,rfl,zi _,.inl rfl⟩
 ·exact ⟨_,cap,rfl,h2,.inr ⟨b,o,rfl,fun j u hj=>h4.cell hj⟩⟩
theorem SlE.chg {w w':World} (h:SlE p w v xs) (c:Chg (fun _ _=>False) w w'):SlE p w' v xs:=by
 obtain ⟨a,cap,h1,h2,h3⟩:=h
 refine ⟨a,cap,h1,h2,h3.imp id ?_⟩
 rintro ⟨b,o,g1,g2⟩
 exact ⟨b,o,g1,fun j u hj=>c.q (g2 j u hj)⟩
theorem SlE.form (h:SlE p w v xs):∃a cap,v=.slice a xs.length cap:=by
 obtain ⟨a,cap,h1,_⟩:=h
 exact ⟨a,cap,h1⟩
theorem SlE.cell {a:Option Addr} {n cap:Nat} (h:SlE p w (.slice a n cap) xs) {j:Nat} {x:α} (hj:xs[j]?=some x):∃b o,a=some ⟨b,o,none⟩∧∀q u,(p.enc x)[q]?=some u→w.cell? ⟨b,o+(j * p.es+q),none⟩=some u:=by
 obtain ⟨a',cap',h1,h2,h3⟩:=h
 injection h1 with e1 e2 e3
 subst e1
 rcases h3 with rfl | ⟨b,o,rfl,h4⟩
 ·simp at hj
 ·exact ⟨b,o,rfl,fun q u hq=>h4 _ u (flat_get p.par hj hq)⟩
section
variable {P:Program}
theorem run_append_E (p:El α) (w:World) (t ty:TypeId) (i:TypeInfo) (z:Value) (bytes:Nat) (ht:P.underlying t=some (.slice p.T)) (hi:P.info? p.T=some i) (hz:i.zero=some z)
  (hsize:i.size=p.es) (hby:i.bytes=bytes) (hzs:z.cells.size=p.es) (v:Value) (xs:List α) (base:Nat) (how:OwnE p w v xs base) (hbase:base≤w.heap.size)
  (ad:Addr) (m c:Nat) (ys:List α) (hm:ys.length=m) (hm0:0 < m) (hsrc:∀j u,(flat p.par ys)[j]?=some u→w.cell? (ad.add j)=some u) (h63:xs.length+m≤maxLen) (hbytes:(xs.length+m) * bytes≤140737488355328) :
  ∃v' w',(Builtin.append_ #[t,t] ty #[v,Is (some ad) m c]).run P w=.ok v' w'∧OwnE p w' v' (xs++ys) base∧Chg (fun b _=>base≤b) w w'∧v'≠Is none 0 0:=by
 have hfl:(flat p.par ys).length=m * p.es:=by rw [kcW,hm];rfl
 have hone:∀u∈flat p.par ys,u.oneCell'=true:=flat_one p.par ys
 rcases how with ⟨rfl,rfl⟩ | ⟨b,o,cap,rfl,h2,h3,h4⟩
 ·simp only [List.length_nil,Nat.zero_add] at h63 hbytes
  have hr:=run_append_nil (P:=P) w t ty p.T i z ht hi hz ad m c (flat p.par ys) (by rw [hfl,hsize]) hsrc hm0 (by simp only [maxLen] at h63;omega) (by rw [hby];omega)
  have hge:m≤grownCap w m 0 p.T:=by have:=grownCap_ge w (0+m) 0 p.T;simpa using this
  refine ⟨_,_,hr,.inr ⟨w.heap.size,0,grownCap w m 0 p.T,by simp [hm],by simpa [hm] using hge,hbase,?_⟩,((zK _ _).drew).alloc _,by simp⟩
  have hs:((flat p.par ys).toArray++Builtin.zeroCells z.cells (grownCap w m 0 p.T - m)).size=grownCap w m 0 p.T * p.es:=by
   simp only [Array.size_append,List.size_toArray,size_zeroCells,hzs,hfl,←Nat.add_mul]
   congr 1
   omega
  refine RowAt.of_block (heap_alloc_new w.drew _) _ _ ?_ ?_ ?_
  ·rw [List.nil_append,hfl];exact Nat.mul_le_mul_right _ hge
  ·omega
  ·intro j hj
   rw [List.nil_append] at hj ⊢
   rw [Nat.zero_add,Array.getElem?_append_left (by simpa using hj)]
   simp
 ·obtain ⟨b',o',cap',w',hr,hA⟩:=kfH (P:=P) w t ty p.T i z p.es bytes ht hi hz hsize hby hzs b o xs.length cap (flat p.par xs) h4 (kcW p.par xs) ad m c (flat p.par ys) hfl hsrc hone h63 hbytes
  have hlen:(xs++ys).length=xs.length+m:=by simp [hm]
  refine ⟨_,w',hr,.inr ⟨b',o',cap',by rw [hlen],by rw [hlen];exact hA.room,?_,by rw [flat_append];exact hA.row⟩,hA.chg.mono (fun b1 _ _ h=>by rw [h.1];exact h3),by simp⟩
  rcases hA.place with h | h
  ·rw [h.1];exact h3
  ·exact Nat.le_trans hbase h.1
theorem wp_append_E (p:El α) {o':Oper} {a:Act} {w:World} {K:Act→World→Prop} {Q:Exit→Act→World→Prop} (s x:Operand) (t:TypeId)
  (ho:o'.op=.call { callee:=.builtin .append,args:=#[s,x],argTypes:=#[t,t] }) (i:TypeInfo) (z:Value) (bytes:Nat) (ht:P.underlying t=some (.slice p.T)) (hi:P.info? p.T=some i) (hz:i.zero=some z)
  (hsize:i.size=p.es) (hby:i.bytes=bytes) (hzs:z.cells.size=p.es) (v:Value) (hs:a.eval s=v) (xs:List α) (base:Nat) (how:OwnE p w v xs base) (hbase:base≤w.heap.size)
  (ad:Addr) (m c:Nat) (hx:a.eval x=Is (some ad) m c) (ys:List α) (hm:ys.length=m) (hm0:0 < m) (hsrc:∀j u,(flat p.par ys)[j]?=some u→w.cell? (ad.add j)=some u) (h63:xs.length+m≤maxLen) (hbytes:(xs.length+m) * bytes≤140737488355328)
  (h:∀v' w',OwnE p w' v' (xs++ys) base→Chg (fun b _=>base≤b) w w'→v'≠Is none 0 0→K (a.put o'.dst v') w'):o'.wp P a w K Q:=by
 obtain ⟨v',w',hr,h2,h3,h4⟩:=run_append_E (P:=P) p w t o'.type i z bytes ht hi hz hsize hby hzs v xs base how hbase ad m c ys hm hm0 hsrc h63 hbytes
 unfold Oper.wp execOp
 simp only [ho,resolve,invoke,builtin,Sem.run_bind,Sem.run_pure,Result.andThen_ok,List.map_toArray,List.map_cons,List.map_nil,hs,hx,hr]
 exact h v' w' h2 h3 h4
theorem wpList_append_E (p:El α) {ops:Array Oper} {rest:List Oper} {o':Oper} {a:Act} {w:World} {Q:Exit→Act→World→Prop} (hgd:o'.guard=none) (s x:Operand) (t:TypeId)
  (ho:o'.op=.call { callee:=.builtin .append,args:=#[s,x],argTypes:=#[t,t] }) (i:TypeInfo) (z:Value) (bytes:Nat) (ht:P.underlying t=some (.slice p.T)) (hi:P.info? p.T=some i) (hz:i.zero=some z)
  (hsize:i.size=p.es) (hby:i.bytes=bytes) (hzs:z.cells.size=p.es) (v:Value) (hs:a.eval s=v) (xs:List α) (base:Nat) (how:OwnE p w v xs base) (hbase:base≤w.heap.size)
  (ad:Addr) (m c:Nat) (hx:a.eval x=Is (some ad) m c) (ys:List α) (hm:ys.length=m) (hm0:0 < m) (hsrc:∀j u,(flat p.par ys)[j]?=some u→w.cell? (ad.add j)=some u) (h63:xs.length+m≤maxLen) (hbytes:(xs.length+m) * bytes≤140737488355328)
  (h:∀v' w',OwnE p w' v' (xs++ys) base→Chg (fun b _=>base≤b) w w'→v'≠Is none 0 0→wpList P ops Q rest (a.put o'.dst v') w'):wpList P ops Q (o'::rest) a w :=
 wpList_plain hgd fun _ hK=>wp_append_E p s x t ho i z bytes ht hi hz hsize hby hzs v hs xs base how hbase ad m c hx ys hm hm0 hsrc h63 hbytes fun v' w' h2 h3 h4=>hK _ _ (h v' w' h2 h3 h4)
end
theorem OwnE.chgOwn {w w':World} {A:Nat→Nat→Prop} (h:OwnE p w v xs base) (c:Chg A w w') (hA:∀b o,v.ownBlock=some b→¬A b o):OwnE p w' v xs base:=by
 rcases h with h | ⟨b,o,cap,rfl,h2,h3,h4⟩
 ·exact .inl h
 ·exact .inr ⟨b,o,cap,rfl,h2,h3,h4.chg c (fun j _=>hA _ _ rfl)⟩
theorem OwnE.own_lt {base b:Nat} (h:OwnE p w v xs base) (hb:v.ownBlock=some b):base≤b∧b < w.heap.size:=by
 rcases h with ⟨_,rfl⟩ | ⟨b',o,cap,rfl,h2,h3,h4⟩
 ·cases hb
 ·have e:b'=b:=Iq hb
  subst e
  exact ⟨h3,h4.lt⟩
section
variable {P:Program}
theorem run_append_E2 (p:El α) (w:World) (t ty:TypeId) (i:TypeInfo) (z:Value) (bytes:Nat) (ht:P.underlying t=some (.slice p.T)) (hi:P.info? p.T=some i) (hz:i.zero=some z)
  (hsize:i.size=p.es) (hby:i.bytes=bytes) (hzs:z.cells.size=p.es) (v:Value) (xs:List α) (base:Nat) (how:OwnE p w v xs base) (hbase:base≤w.heap.size)
  (ad:Addr) (m c:Nat) (ys:List α) (hm:ys.length=m) (hm0:0 < m) (hsrc:∀j u,(flat p.par ys)[j]?=some u→w.cell? (ad.add j)=some u) (h63:xs.length+m≤maxLen) (hbytes:(xs.length+m) * bytes≤140737488355328) :
  ∃v' w',(Builtin.append_ #[t,t] ty #[v,Is (some ad) m c]).run P w=.ok v' w'∧OwnE p w' v' (xs++ys) base∧Chg (fun b _=>v.ownBlock=some b) w w'∧(v'.ownBlock=v.ownBlock∨∃nb,v'.ownBlock=some nb∧w.heap.size≤nb)∧v'≠Is none 0 0:=by
 have hfl:(flat p.par ys).length=m * p.es:=by rw [kcW,hm];rfl
 have hone:∀u∈flat p.par ys,u.oneCell'=true:=flat_one p.par ys
 obtain ⟨v1,w1,hr1,h1,_,h4⟩:=run_append_E (P:=P) p w t ty i z bytes ht hi hz hsize hby hzs v xs base how hbase ad m c ys hm hm0 hsrc h63 hbytes
 refine ⟨v1,w1,hr1,h1,?_,?_,h4⟩
 ·rcases how with ⟨rfl,rfl⟩ | ⟨b,o,cap,rfl,h2,h3,h4⟩
  ·simp only [List.length_nil,Nat.zero_add] at h63 hbytes
   have hr:=run_append_nil (P:=P) w t ty p.T i z ht hi hz ad m c (flat p.par ys) (by rw [hfl,hsize]) hsrc hm0 (by simp only [maxLen] at h63;omega) (by rw [hby];omega)
   rw [hr] at hr1
   injection hr1 with e1 e2
   rw [←e2]
   exact ((zK _ _).drew).alloc _
  ·obtain ⟨b',o',cap',w',hr,hA⟩:=kfH (P:=P) w t ty p.T i z p.es bytes ht hi hz hsize hby hzs b o xs.length cap (flat p.par xs) h4 (kcW p.par xs) ad m c (flat p.par ys) hfl hsrc hone h63 hbytes
   rw [hr] at hr1
   injection hr1 with e1 e2
   rw [←e2]
   exact hA.chg.mono fun b1 _ _ h=>by rw [h.1];rfl
 ·rcases how with ⟨rfl,rfl⟩ | ⟨b,o,cap,rfl,h2,h3,h4⟩
  ·simp only [List.length_nil,Nat.zero_add] at h63 hbytes
   have hr:=run_append_nil (P:=P) w t ty p.T i z ht hi hz ad m c (flat p.par ys) (by rw [hfl,hsize]) hsrc hm0 (by simp only [maxLen] at h63;omega) (by rw [hby];omega)
   rw [hr] at hr1
   injection hr1 with e1 e2
   exact .inr ⟨w.heap.size,by rw [←e1];rfl,zi _⟩
  ·obtain ⟨b',o',cap',w',hr,hA⟩:=kfH (P:=P) w t ty p.T i z p.es bytes ht hi hz hsize hby hzs b o xs.length cap (flat p.par xs) h4 (kcW p.par xs) ad m c (flat p.par ys) hfl hsrc hone h63 hbytes
   rw [hr] at hr1
   injection hr1 with e1 e2
   rcases hA.place with h | h
   ·exact .inl (by rw [←e1,h.1];rfl)
   ·exact .inr ⟨b',by rw [←e1];rfl,h.1⟩
theorem wp_append_E2 (p:El α) {o':Oper} {a:Act} {w:World} {K:Act→World→Prop} {Q:Exit→Act→World→Prop} (s x:Operand) (t:TypeId)
  (ho:o'.op=.call { callee:=.builtin .append,args:=#[s,x],argTypes:=#[t,t] }) (i:TypeInfo) (z:Value) (bytes:Nat) (ht:P.underlying t=some (.slice p.T)) (hi:P.info? p.T=some i) (hz:i.zero=some z)
  (hsize:i.size=p.es) (hby:i.bytes=bytes) (hzs:z.cells.size=p.es) (v:Value) (hs:a.eval s=v) (xs:List α) (base:Nat) (how:OwnE p w v xs base) (hbase:base≤w.heap.size)
  (ad:Addr) (m c:Nat) (hx:a.eval x=Is (some ad) m c) (ys:List α) (hm:ys.length=m) (hm0:0 < m) (hsrc:∀j u,(flat p.par ys)[j]?=some u→w.cell? (ad.add j)=some u) (h63:xs.length+m≤maxLen) (hbytes:(xs.length+m) * bytes≤140737488355328)
  (h:∀v' w',OwnE p w' v' (xs++ys) base→Chg (fun b _=>v.ownBlock=some b) w w'→(v'.ownBlock=v.ownBlock∨∃nb,v'.ownBlock=some nb∧w.heap.size≤nb)→K (a.put o'.dst v') w'):o'.wp P a w K Q:=by
 obtain ⟨v',w',hr,h2,h3,h4,_⟩:=run_append_E2 (P:=P) p w t o'.type i z bytes ht hi hz hsize hby hzs v xs base how hbase ad m c ys hm hm0 hsrc h63 hbytes
 unfold Oper.wp execOp
 simp only [ho,resolve,invoke,builtin,Sem.run_bind,Sem.run_pure,Result.andThen_ok,List.map_toArray,List.map_cons,List.map_nil,hs,hx,hr]
 exact h v' w' h2 h3 h4
theorem wpList_append_E2 (p:El α) {ops:Array Oper} {rest:List Oper} {o':Oper} {a:Act} {w:World} {Q:Exit→Act→World→Prop} (hgd:o'.guard=none) (s x:Operand) (t:TypeId)
  (ho:o'.op=.call { callee:=.builtin .append,args:=#[s,x],argTypes:=#[t,t] }) (i:TypeInfo) (z:Value) (bytes:Nat) (ht:P.underlying t=some (.slice p.T)) (hi:P.info? p.T=some i) (hz:i.zero=some z)
  (hsize:i.size=p.es) (hby:i.bytes=bytes) (hzs:z.cells.size=p.es) (v:Value) (hs:a.eval s=v) (xs:List α) (base:Nat) (how:OwnE p w v xs base) (hbase:base≤w.heap.size)
  (ad:Addr) (m c:Nat) (hx:a.eval x=Is (some ad) m c) (ys:List α) (hm:ys.length=m) (hm0:0 < m) (hsrc:∀j u,(flat p.par ys)[j]?=some u→w.cell? (ad.add j)=some u) (h63:xs.length+m≤maxLen) (hbytes:(xs.length+m) * bytes≤140737488355328)
  (h:∀v' w',OwnE p w' v' (xs++ys) base→Chg (fun b _=>v.ownBlock=some b) w w'→(v'.ownBlock=v.ownBlock∨∃nb,v'.ownBlock=some nb∧w.heap.size≤nb)→wpList P ops Q rest (a.put o'.dst v') w'):wpList P ops Q (o'::rest) a w:=by
 refine wpList_plain hgd fun K hK=>?_
 obtain ⟨v',w',hr,h2,h3,h4,_⟩:=run_append_E2 (P:=P) p w t o'.type i z bytes ht hi hz hsize hby hzs v xs base how hbase ad m c ys hm hm0 hsrc h63 hbytes
 unfold Oper.wp execOp
 simp only [ho,resolve,invoke,builtin,Sem.run_bind,Sem.run_pure,Result.andThen_ok,List.map_toArray,List.map_cons,List.map_nil,hs,hx,hr]
 exact hK _ _ (h v' w' h2 h3 h4)
end
theorem El.src1 (p:El α) {b:Nat} {c:Array Value} {T:TypeId} {fr:Nat×Nat} (h:w.heap[b]?=some (.cells c T fr)) (x:α) (hc:c.toList=p.enc x):∀j u,(flat p.par [x])[j]?=some u→w.cell? ((⟨b,0,none⟩:Addr).add j)=some u:=by
 intro j u hj
 rw [flat_single] at hj
 have hj':c[j]?=some u:=by rw [←Array.getElem?_toList,hc];exact hj
 rw [kdS]
 simp [World.cell?,h,hj']
end
section
open Go.RowKit
variable {P:Program}
theorem run_append_opt (w:World) (t ty e:TypeId) (i:TypeInfo) (z:Value) (size bytes:Nat) (ht:P.underlying t=some (.slice e)) (hi:P.info? e=some i) (hz:i.zero=some z)
  (hsize:i.size=size) (hby:i.bytes=bytes) (hzs:z.cells.size=size)
  (b o len cap:Nat) (xs:List Value) (hrow:RowAt w e b o (cap * size) xs) (hxs:xs.length=len * size) (hcap:len≤cap)
  (p:Option Addr) (m c:Nat) (news:List Value) (hl:news.length=m * size) (hsrc:(∃ad,p=some ad∧∀j u,news[j]?=some u→w.cell? (ad.add j)=some u)∨(m=0∧news=[])) (h1:∀u∈news,u.oneCell'=true)
  (h63:len+m≤maxLen) (hbytes:(len+m) * bytes≤140737488355328) :
  ∃b' o' cap' w',(Builtin.append_ #[t,t] ty #[Is (some ⟨b,o,none⟩) len cap,.slice p m c]).run P w=.ok (Is (some ⟨b',o',none⟩) (len+m) cap') w'∧Appd e size w b o len cap xs news m b' o' cap' w':=by
 cases p with
 | some ad =>
  refine kfH w t ty e i z size bytes ht hi hz hsize hby hzs b o len cap xs hrow hxs ad m c news hl ?_ h1 h63 hbytes
  rcases hsrc with ⟨ad',h,hc⟩ | ⟨_,rfl⟩
  ·obtain rfl:=Iq h;exact hc
  ·intro j u h;simp at h
 | none =>
  rcases hsrc with ⟨ad',h,_⟩ | ⟨rfl,rfl⟩
  ·cases h
  refine ⟨b,o,cap,w,?_,by rw [List.append_nil];exact hrow,zK _ _,by omega,.inl ⟨rfl,rfl,rfl⟩⟩
  subst hsize
  simp [Builtin.append_,run_underlying ht,sizeOf,typeInfo,hi,Builtin.lenOf,hcap,Builtin.firstCells,storeCells]
theorem wp_append_opt {o':Oper} {a:Act} {w:World} {K:Act→World→Prop} {Q:Exit→Act→World→Prop} (s x:Operand) (t:TypeId)
  (ho:o'.op=.call { callee:=.builtin .append,args:=#[s,x],argTypes:=#[t,t] })
  (e:TypeId) (i:TypeInfo) (z:Value) (size bytes:Nat) (ht:P.underlying t=some (.slice e)) (hi:P.info? e=some i) (hz:i.zero=some z)
  (hsize:i.size=size) (hby:i.bytes=bytes) (hzs:z.cells.size=size)
  (b o len cap:Nat) (hs:a.eval s=Is (some ⟨b,o,none⟩) len cap) (xs:List Value) (hrow:RowAt w e b o (cap * size) xs) (hxs:xs.length=len * size) (hcap:len≤cap)
  (p:Option Addr) (m c:Nat) (hx:a.eval x=.slice p m c) (news:List Value) (hl:news.length=m * size) (hsrc:(∃ad,p=some ad∧∀j u,news[j]?=some u→w.cell? (ad.add j)=some u)∨(m=0∧news=[])) (h1:∀u∈news,u.oneCell'=true)
  (h63:len+m≤maxLen) (hbytes:(len+m) * bytes≤140737488355328)
  (h:∀b' o1 cap' w',Appd e size w b o len cap xs news m b' o1 cap' w'→K (a.put o'.dst (Is (some ⟨b',o1,none⟩) (len+m) cap')) w'):o'.wp P a w K Q:=by
 obtain ⟨b',o1,cap',w',hr,h2⟩:=run_append_opt (P:=P) w t o'.type e i z size bytes ht hi hz hsize hby hzs b o len cap xs hrow hxs hcap p m c news hl hsrc h1 h63 hbytes
 unfold Oper.wp execOp
 simp only [ho,resolve,invoke,builtin,Sem.run_bind,Sem.run_pure,Result.andThen_ok,List.map_toArray,List.map_cons,List.map_nil,hs,hx,hr]
 exact h b' o1 cap' w' h2
theorem kdH {ops:Array Oper} {rest:List Oper} {o':Oper} {a:Act} {w:World} {Q:Exit→Act→World→Prop} (hgd:o'.guard=none) (s x:Operand) (t:TypeId)
  (ho:o'.op=.call { callee:=.builtin .append,args:=#[s,x],argTypes:=#[t,t] })
  (e:TypeId) (i:TypeInfo) (z:Value) (size bytes:Nat) (ht:P.underlying t=some (.slice e)) (hi:P.info? e=some i) (hz:i.zero=some z)
  (hsize:i.size=size) (hby:i.bytes=bytes) (hzs:z.cells.size=size)
  (b o len cap:Nat) (hs:a.eval s=Is (some ⟨b,o,none⟩) len cap) (xs:List Value) (hrow:RowAt w e b o (cap * size) xs) (hxs:xs.length=len * size) (hcap:len≤cap)
  (p:Option Addr) (m c:Nat) (hx:a.eval x=.slice p m c) (news:List Value) (hl:news.length=m * size) (hsrc:(∃ad,p=some ad∧∀j u,news[j]?=some u→w.cell? (ad.add j)=some u)∨(m=0∧news=[])) (h1:∀u∈news,u.oneCell'=true)
  (h63:len+m≤maxLen) (hbytes:(len+m) * bytes≤140737488355328)
  (h:∀b' o1 cap' w',Appd e size w b o len cap xs news m b' o1 cap' w'→wpList P ops Q rest (a.put o'.dst (Is (some ⟨b',o1,none⟩) (len+m) cap')) w'):wpList P ops Q (o'::rest) a w:=by
 refine wpList_plain hgd fun K hK=>?_
 obtain ⟨b',o1,cap',w',hr,h2⟩:=run_append_opt (P:=P) w t o'.type e i z size bytes ht hi hz hsize hby hzs b o len cap xs hrow hxs hcap p m c news hl hsrc h1 h63 hbytes
 unfold Oper.wp execOp
 simp only [ho,resolve,invoke,builtin,Sem.run_bind,Sem.run_pure,Result.andThen_ok,List.map_toArray,List.map_cons,List.map_nil,hs,hx,hr]
 exact hK _ _ (h b' o1 cap' w' h2)
end
section
open Go.RowKit
def kgN (l:List (Int×Int)):List Value:=l.flatMap fun x=>[Ii Ij x.1,Ii Ij x.2]
theorem flatI_len:∀l:List (Int×Int),(kgN l).length=l.length * 2
 | []=>rfl
 | x::l=>by simp only [kgN,List.flatMap_cons,List.length_append,List.length_cons,List.length_nil];have:=flatI_len l;simp only [kgN] at this;omega
theorem flatI_app (a b:List (Int×Int)):kgN (a++b)=kgN a++kgN b:=by simp [kgN]
theorem flatI_get:∀(l:List (Int×Int)) (j:Nat) (u:Value),(kgN l)[j]?=some u→∃x,l[j / 2]?=some x∧((j % 2=0∧u=Ii Ij x.1)∨(j % 2=1∧u=Ii Ij x.2))
 | [],j,u,h=>by simp [kgN] at h
 | x::l,0,u,h=>by simp [kgN] at h;exact ⟨x,by simp,.inl ⟨rfl,h.symm⟩⟩
 | x::l,1,u,h=>by simp [kgN] at h;exact ⟨x,by simp,.inr ⟨rfl,h.symm⟩⟩
 | x::l,j+2,u,h=>by
  have h':(kgN l)[j]?=some u:=by simpa [kgN] using h
  obtain ⟨y,h1,h2⟩:=flatI_get l j u h'
  refine ⟨y,?_,?_⟩
  ·rw [show (j+2) / 2=j / 2+1 by omega];simpa using h1
  ·rw [show (j+2) % 2=j % 2 by omega];exact h2
theorem flatI_one (l:List (Int×Int)):∀u∈kgN l,u.oneCell'=true:=by
 intro u hu
 obtain ⟨x,_,h⟩:=List.mem_flatMap.1 hu
 simp at h
 rcases h with rfl | rfl<;>rfl
theorem ItemsAt.src {w:World} {b o:Nat} {l:List (Int×Int)} (h:∀i x,l[i]?=some x→w.cell? ⟨b,o+i * 2,none⟩=some (Ii Ij x.1)∧w.cell? ⟨b,o+i * 2+1,none⟩=some (Ii Ij x.2)) (s:Nat) (n:Nat) :
  ∀j u,(kgN ((l.drop s).take n))[j]?=some u→w.cell? ((⟨b,o+s * 2,none⟩:Addr).add j)=some u:=by
 intro j u hj
 rw [kdS]
 obtain ⟨x,h1,h2⟩:=flatI_get _ j u hj
 have h3:l[s+j / 2]?=some x:=by
  have hlt:=(zG.1 h1).1
  simp only [zV,List.length_drop] at hlt
  rw [List.getElem?_take_of_lt (by omega),List.getElem?_drop] at h1
  exact h1
 obtain ⟨g1,g2⟩:=h _ x h3
 rcases h2 with ⟨h2,rfl⟩ | ⟨h2,rfl⟩
 ·rw [show o+s * 2+j=o+(s+j / 2) * 2 by omega];exact g1
 ·rw [show o+s * 2+j=o+(s+j / 2) * 2+1 by omega];exact g2
theorem infoItem:(Try.prog.info? 27).map (fun i=>(i.zero,i.size,i.bytes))=some (some (.agg #[Ii Ij 0,Ii Ij 0]),2,16):=by kernel_rfl
def RowI (w:World) (v:Value) (l:List (Int×Int)) (base:Nat):Prop:=∃b o cap,v=Is (some ⟨b,o,none⟩) l.length cap∧l.length≤cap∧base≤b∧RowAt w 27 b o (cap * 2) (kgN l)
theorem RowI.items {w:World} {v:Value} {l:List (Int×Int)} {base:Nat} (h:RowI w v l base):∃p cap,v=.slice p l.length cap∧ItemsAt w p l:=by
 obtain ⟨b,o,cap,rfl,_,_,hr⟩:=h
 refine ⟨_,cap,rfl,.inr ⟨b,o,rfl,fun i x hx=>?_⟩⟩
 have hs:∀(l:List (Int×Int)) (i:Nat) (x:Int×Int),l[i]?=some x→(kgN l)[i * 2]?=some (Ii Ij x.1)∧(kgN l)[i * 2+1]?=some (Ii Ij x.2):=by
  intro l
  induction l with
  | nil=>intro i x h;simp at h
  | cons y l ih =>
   intro i x h
   cases i with
   | zero =>
    obtain rfl:y=x:=by simpa using h
    simp [kgN]
   | succ i =>
    obtain ⟨h1,h2⟩:=ih i x (by simpa using h)
    rw [show (i+1) * 2=i * 2+2 by omega]
    simp only [kgN] at h1 h2 ⊢
    simp [h1,h2]
 obtain ⟨g1,g2⟩:=hs l i x hx
 exact ⟨hr.cell g1,by have:=hr.cell g2;rw [Nat.add_assoc];exact this⟩
end
section
open Go.RowKit
def CellsAt (w:World) (b o:Nat) (l:List (Int×Int)):Prop:=∀i x,l[i]?=some x→w.cell? ⟨b,o+i * 2,none⟩=some (Ii Ij x.1)∧w.cell? ⟨b,o+i * 2+1,none⟩=some (Ii Ij x.2)
theorem CellsAt.chg {w w':World} {b o:Nat} {l:List (Int×Int)} (h:CellsAt w b o l) (c:Chg (fun _ _=>False) w w'):CellsAt w' b o l:=fun i x hx=>⟨c.q (h i x hx).1,c.q (h i x hx).2⟩
def foundV (o:Option (Int×Int)):Value:=match o with
 | some x=>.agg #[Ii Ij x.1,Ii Ij x.2,.bool true]
 | none=>.agg #[Ii Ij 0,Ii Ij 0,.bool false]
def putL (l:List (Int×Int)) (x:Int×Int) (i:Nat) (b:Bool):List (Int×Int):=l.take i++x::(if b then l.drop (i+1) else l.drop i)
def putF (l:List (Int×Int)) (i:Nat) (b:Bool):Option (Int×Int):=if b then l[i]? else none
def PutPost (rk:Int→Int) (l:List (Int×Int)) (x:Int×Int) (w:World) (e:Ending) (w':World):Prop :=
 ∃v i b,PlaceIs (ltR rk) l x i b∧e=Ir (Iu #[v,foundV (putF l i b)])∧RowI w' v (putL l x i b) w.heap.size∧Chg (fun _ _=>False) w w'
theorem put_some_big (ordv:Value) (rk:Int→Int) (b' o':Nat) (cap:Nat) (l:List (Int×Int)) (x:Int×Int) (w:World) (hR:RankOk ordv rk w) (hl:CellsAt w b' o' l) (hlen:l.length≤8589934593) (hcap:l.length≤cap) :
  Calls Tp 39 #[ordv,Is (some ⟨b',o',none⟩) l.length cap,itemV x] w (PutPost rk l x w):=by
 have HR:=zL hR
 have HL:=zL hl
 clear hR hl
 obtain ⟨i0,hi0,hz0,hz1,hz2⟩:=info_parts infoItem
 unfold itemV
 go_enter Try.func39,Try.ntmps39
 go_wp2_with fail
 refine kbW (fun w1=>Chg (fun _ _=>False) w w1∧w1.heap[w.heap.size]?=some (Ic #[Ii Ij x.1,Ii Ij x.2] 27 (0,0))∧w1.heap[w.heap.size+1]?=some (Ic #[Ii Ij 0,Ii Ij 0,.bool false] 75 (0,0))) ⟨((zK _ _).alloc _).alloc _,?_,?_⟩ ?_
 ·rw [kcZ _ _ (by simp)];exact kbT _ _ rfl
 ·exact kbT _ _ (by simp)
 rintro w1 ⟨hc1,hb1,hb2⟩
 refine (place_big ordv rk _ cap l x w1 (HR.out.chg hc1) (.inr ⟨b',o',rfl,HL.out.chg hc1⟩) hlen).mono ?_
 rintro e w2 ⟨⟨i,b,rfl,hpl⟩,hc2⟩
 have HB1:=zL hb1
 have HB2:=zL hb2
 have HP:=zL hpl
 clear hb1 hb2 hpl
 have hile:=HP.out.1
 have j0:(0:Int)≤(i:Int):=by omega
 have j1:(i:Int)≤(cap:Int):=by omega
 have j2:i≤cap:=by omega
 go_wp2_with (refine kdH (by rfl) _ _ _ (by rfl) 27 i0 _ 2 16 Try.underlying25 hi0 hz0 hz1 hz2 rfl w2.heap.size 0 0 0 (by rfl) [] ?_ rfl (zi _) (some ⟨b',o',none⟩) i _ (by rfl) (kgN (l.take i)) ?_ ?_ (flatI_one _) ?_ ?_ ?_)
 ·exact RowAt.of_block (c:=#[]) (kbT _ _ rfl) _ _ (by simp) (by simp) (by simp)
 ·rw [flatI_len,zV];omega
 ·have hsz2:∀o,Chg (fun _ _=>False) w (w2.alloc o):=fun o=>((hc1.trans hc2).alloc o)
  refine .inl ⟨_,rfl,fun j u hj=>?_⟩
  have:=ItemsAt.src (HL.out.chg (hsz2 (Ic #[] 27))) 0 i j u (by rw [List.drop_zero];exact hj)
  simpa using this
 ·unfold maxLen;omega
 ·omega
 intro b1 o1 cap1 w3 h3
 have hc3:Chg (fun _ _=>False) w2 w3:=((zK _ _).alloc _).trans (h3.chg.mono (fun _ o _ h=>by have:=h.2;omega))
 have hcc:=(hc1.trans hc2).trans hc3
 have q3:w3.heap[w.heap.size]?=some (Ic #[Ii Ij x.1,Ii Ij x.2] 27 (0,0)):=by rw [(hc2.trans hc3).block (kbF HB1.out) (fun _ h=>h)];exact HB1.out
 have q0:=kbB q3 0
 have q1:=kbB q3 1
 simp only [zF,zD,zE] at q0 q1
 clear q3
 have r3:=h3.row
 rw [List.nil_append] at r3
 have room3:=h3.room
 have pl3:w2.heap.size≤b1:=by
  rcases h3.place with h | h
  ·have:=h.1;omega
  ·have h2:=h.1
   simp at h2
   omega
 clear h3
 simp only [Nat.zero_add] at room3
 go_wp2_with (refine kdH (by rfl) _ _ _ (by rfl) 27 i0 _ 2 16 Try.underlying25 hi0 hz0 hz1 hz2 rfl b1 o1 i cap1 (by rfl) (kgN (l.take i)) ?_ ?_ ?_ (some ⟨w3.heap.size,0,none⟩) 1 _ (by rfl) [Ii Ij x.1,Ii Ij x.2] (by rfl) ?_ (by simp [Value.oneCell']) ?_ ?_ ?_)
 ·exact r3.alloc _
 ·rw [flatI_len,zV];omega
 ·exact room3
 ·exact .inl ⟨_,rfl,World.news_of_block (cs:=#[Ii Ij x.1,Ii Ij x.2]) (t:=27) (fr:=(0,0)) (kbT _ _ rfl)⟩
 ·unfold maxLen;omega
 ·omega
 intro b2 o2 cap2 w4 h4
 have hsz2:=(hc1.trans hc2).size
 have hsz23:=hc3.size
 have hc4:Chg (fun b _=>w2.heap.size≤b) w3 w4:=((zK _ _).alloc _).trans (h4.chg.mono (fun b o _ h=>by have:=h.1;show w2.heap.size≤b;omega))
 have hc24:Chg (fun _ _=>False) w2 w4:=hc3.trans' hc4 i3 (fun b o hb h=>by omega)
 have hcw4:=(hc1.trans hc2).trans hc24
 have r4:=h4.row
 rw [show kgN (l.take i)++[Ii Ij x.1,Ii Ij x.2]=kgN (l.take i++[x]) by rw [flatI_app];rfl] at r4
 have room4:=h4.room
 have pl4:w2.heap.size≤b2:=by
  rcases h4.place with h | h
  ·have:=h.1;omega
  ·have h2:=h.1
   simp at h2
   omega
 have q2:w4.heap[w.heap.size+1]?=some (Ic #[Ii Ij 0,Ii Ij 0,.bool false] 75 (0,0)):=by rw [(hc2.trans hc24).block (kbF HB2.out) (fun _ h=>h)];exact HB2.out
 have HQ2:=zL q2
 clear q2 h4 hc4 r3 room3 pl3 q0 q1 hc3 hcc
 have j3:(i:Int)≤(l.length:Int):=by omega
 have hmin:l.length - i+i=l.length:=by omega
 cases b
 ·obtain ⟨od,hif,hod⟩:∃od,(if cap=i then some (⟨b',o',none⟩:Addr) else some ⟨b',o'+i * 2,none⟩)=some ⟨b',od,none⟩∧(i < l.length→od=o'+i * 2):=by
   by_cases h:cap=i
   ·exact ⟨o',by rw [if_pos h],fun h2=>by omega⟩
   ·exact ⟨_,by rw [if_neg h],fun _=>rfl⟩
  go_wp2_with (refine kdH (by rfl) _ _ _ (by rfl) 27 i0 _ 2 16 Try.underlying25 hi0 hz0 hz1 hz2 rfl b2 o2 (i+1) cap2 (by rfl) (kgN (l.take i++[x])) r4 ?_ room4 (some ⟨b',od,none⟩) (l.length - i) _ (by rfl) (kgN (l.drop i)) ?_ ?_ (flatI_one _) ?_ ?_ ?_)
  ·rw [flatI_len];simp;omega
  ·rw [flatI_len,List.length_drop]
  ·rcases Nat.lt_or_ge i l.length with hlt | hge
   ·refine .inl ⟨_,rfl,fun j u hj=>?_⟩
    rw [hod hlt]
    exact ItemsAt.src (HL.out.chg hcw4) i l.length j u (by rw [List.take_of_length_le (by simp)];exact hj)
   ·exact .inr ⟨by omega,by rw [List.drop_eq_nil_of_le hge];rfl⟩
  ·unfold maxLen;omega
  ·omega
  intro b5 o5 cap5 w5 h5
  have hc5:Chg (fun b _=>w2.heap.size≤b) w4 w5:= (h5.chg.mono (fun b o _ h=>by have:=h.1;show w2.heap.size≤b;omega))
  have hsz4:=hc24.size
  have hcw5:Chg (fun _ _=>False) w w5:=hcw4.trans' hc5 i3 (fun b o hb h=>by omega)
  have hlt2:=kbF HB2.out
  have hsz12:=hc2.size
  have q5:w5.heap[w.heap.size+1]?=some (Ic #[Ii Ij 0,Ii Ij 0,.bool false] 75 (0,0)):=by rw [hc5.block (kbF HQ2.out) (fun _ h=>by omega)];exact HQ2.out
  have k0:=kbB q5 0
  have k1:=kbB q5 1
  have k2:=kbB q5 2
  have z0:=kbC q5 0
  have z1:=kbC q5 1
  have z2:=kbC q5 2
  simp only [zF,zD,zE] at k0 k1 k2
  have r5:=h5.row
  have room5:=h5.room
  have pl5:w2.heap.size≤b5:=by
   rcases h5.place with h | h
   ·have:=h.1;omega
   ·have h2:w4.heap.size≤b5:=h.1
    omega
  clear q5 h5
  go_wp2_with fail
  have hpl:putL l x i false=l.take i++[x]++l.drop i:=by simp [putL]
  have hpn:(putL l x i false).length=i+1+(l.length - i):=by rw [hpl];simp;omega
  refine bodyPost_ret (v:=Iu #[Is (some ⟨b5,o5,none⟩) (i+1+(l.length - i)) cap5,foundV none]) (by simp [results,Try.results39,go_sem,foundV,k0,k1,k2]) rfl ?_
  refine ⟨_,i,false,HP.out,rfl,⟨b5,o5,cap5,by rw [hpn],by rw [hpn];exact room5,by omega,?_⟩,?_⟩
  ·rw [hpl,flatI_app]
   refine r5.chg (A:=fun b _=>b=w.heap.size+1) ?_ (fun j _ h=>by omega)
   repeat (first | refine ze ?_ | refine zd ?_ (.inl rfl) _ | exact zK _ _)
  ·refine hcw5.trans' (A':=fun b _=>b=w.heap.size+1) ?_ i3 (fun b o hb h=>by omega)
   repeat (first | refine ze ?_ | refine zd ?_ (.inl rfl) _ | exact zK _ _)
 ·obtain ⟨y,hy,hyx⟩:∃y,l[i]?=some y∧ltR rk x y=false:=by
   rcases HP.out.2.2.2 with ⟨y,h1,h2,_⟩ | ⟨_,h⟩
   ·exact ⟨y,h1,h2⟩
   ·cases h
  have hilt:=(zG.1 hy).1
  obtain ⟨g0,g1⟩:=HL.out.chg hcw4 i y hy
  have HY:=zL hy
  clear hy
  have i1:(i:Int) < (l.length:Int):=by omega
  have s2:(0:Int)≤(i:Int)+1:=by omega
  have s3:((i:Int)+1).toNat=i+1:=by omega
  have s4:(i:Int)+1≤(l.length:Int):=by omega
  obtain ⟨od,hif,hod⟩:∃od,(if cap=i+1 then some (⟨b',o',none⟩:Addr) else some ⟨b',o'+(i+1) * 2,none⟩)=some ⟨b',od,none⟩∧(i+1 < l.length→od=o'+(i+1) * 2):=by
   by_cases h:cap=i+1
   ·exact ⟨o',by rw [if_pos h],fun h2=>by omega⟩
   ·exact ⟨_,by rw [if_neg h],fun _=>rfl⟩
  have s1:Ij.wrap ((i:Int)+1)=(i:Int)+1:=IntWalk.i64_in _ (by omega)
  go_wp2_with fail
  refine kfD (fun w'=>w'.cell? ⟨b',o'+i * 2,none⟩=some (Ii Ij y.1)∧w'.cell? ⟨b',o'+i * 2+1,none⟩=some (Ii Ij y.2)) 12 [(0,true),(1,true),(2,true),(3,true),(4,true),(6,true),(7,true),(8,true),(9,true),(10,true),(5,false),(11,true),(12,false)] (by kernel_rfl) (by kernel_rfl) (fun _ _ _ _ _ h=>h) ⟨g0,g1⟩ ?_
  iterate 10
   refine kcN (by rfl) ?_ (by simp [zI,yielded]) ?_ ?_
   rotate_left
   ·intro w' hS
    try obtain ⟨a1,a2⟩:=hS
    go_simp
    try with_reducible rfl
   simp only [zJ,zA,zB,zC]
  refine kcR (by rfl) (by simp [zI,yielded]) (fun K hK=>?_)
  refine wp_append_opt _ _ _ (by rfl) 27 i0 _ 2 16 Try.underlying25 hi0 hz0 hz1 hz2 rfl b2 o2 (i+1) cap2 (by rfl) (kgN (l.take i++[x])) r4 ?_ room4 (some ⟨b',od,none⟩) (l.length - (i+1)) _ (by rfl) (kgN (l.drop (i+1))) ?_ ?_ (flatI_one _) ?_ ?_ ?_
  ·rw [flatI_len];simp;omega
  ·rw [flatI_len,List.length_drop]
  ·rcases Nat.lt_or_ge (i+1) l.length with hlt | hge
   ·refine .inl ⟨_,rfl,fun j u hj=>?_⟩
    rw [hod hlt]
    exact ItemsAt.src (HL.out.chg hcw4.drew) (i+1) l.length j u (by rw [List.take_of_length_le (by simp)];exact hj)
   ·exact .inr ⟨by omega,by rw [List.drop_eq_nil_of_le hge];rfl⟩
  ·unfold maxLen;omega
  ·omega
  intro b5 o5 cap5 w5 h5
  have h5c:=h5.chg
  have hkp:∀o,¬(b'=b2∧o2+(i+1) * 2≤o∧o < o2+cap2 * 2):=fun o h=>by
   have h1:=World.block_lt_of_cell? w _ (HL.out i y HY.out).1
   have h2:=h.1
   have h3:b' < w.heap.size:=h1
   omega
  have g0':=h5c.cell (hkp _) g0
  have g1':=h5c.cell (hkp _) g1
  refine hK _ _ (fun _=>⟨g0',g1'⟩) ?_
  clear hK K
  have hc5:Chg (fun b _=>w2.heap.size≤b) w4 w5:=(zK _ _).drew.trans (h5.chg.mono (fun b o _ h=>by have:=h.1;show w2.heap.size≤b;omega))
  have hsz4:=hc24.size
  have hcw5:Chg (fun _ _=>False) w w5:=hcw4.trans' hc5 i3 (fun b o hb h=>by omega)
  have hlt2:=kbF HB2.out
  have hsz12:=hc2.size
  have q5:w5.heap[w.heap.size+1]?=some (Ic #[Ii Ij 0,Ii Ij 0,.bool false] 75 (0,0)):=by rw [hc5.block (kbF HQ2.out) (fun _ h=>by omega)];exact HQ2.out
  have k0:=kbB q5 0
  have k1:=kbB q5 1
  have k2:=kbB q5 2
  have z0:=kbC q5 0
  have z1:=kbC q5 1
  have z2:=kbC q5 2
  simp only [zF,zD,zE] at k0 k1 k2
  have r5:=h5.row
  have room5:=h5.room
  have pl5:w2.heap.size≤b5:=by
   rcases h5.place with h | h
   ·have:=h.1;omega
   ·have h2:w4.heap.size≤b5:=h.1
    omega
  clear q5 h5
  refine kcN (by rfl) ?_ (by simp [zI,yielded]) ?_ ?_
  rotate_left
  ·intro w' hS
   try obtain ⟨a1,a2⟩:=hS
   go_simp
   try with_reducible rfl
  simp only [zJ,zA,zB,zC]
  refine kcR (by rfl) (by simp [zI,yielded]) (fun K hK=>?_)
  go_simp
  refine hK _ _ (fun h=>absurd h (by decide)) (kdQ ?_)
  clear hK K
  go_wp2_with fail
  have hpl:putL l x i true=l.take i++[x]++l.drop (i+1):=by simp [putL]
  have hpn:(putL l x i true).length=i+1+(l.length - (i+1)):=by rw [hpl];simp;omega
  have hpf:putF l i true=some y:=by show l[i]?=_;exact HY.out
  refine bodyPost_ret (v:=Iu #[Is (some ⟨b5,o5,none⟩) (i+1+(l.length - (i+1))) cap5,foundV (some y)]) (by simp [results,Try.results39,go_sem,foundV,k0,k1,k2]) rfl ?_
  refine ⟨_,i,true,HP.out,by rw [hpf],⟨b5,o5,cap5,by rw [hpn],by rw [hpn];exact room5,by omega,?_⟩,?_⟩
  ·rw [hpl,flatI_app]
   refine r5.chg (A:=fun b _=>b=w.heap.size+1) ?_ (fun j _ h=>by omega)
   repeat (first | refine ze ?_ | refine zd ?_ (.inl rfl) _ | exact zK _ _)
  ·refine hcw5.trans' (A':=fun b _=>b=w.heap.size+1) ?_ i3 (fun b o hb h=>by omega)
   repeat (first | refine ze ?_ | refine zd ?_ (.inl rfl) _ | exact zK _ _)
theorem put_none (ordv:Value) (rk:Int→Int) (x:Int×Int) (w:World) (hR:RankOk ordv rk w) :
  Calls Tp 39 #[ordv,Is none 0 0,itemV x] w (PutPost rk [] x w):=by
 have HR:=zL hR
 clear hR
 obtain ⟨i0,hi0,hz0,hz1,hz2⟩:=info_parts infoItem
 unfold itemV
 go_enter Try.func39,Try.ntmps39
 go_wp2_with fail
 refine kbW (fun w1=>Chg (fun _ _=>False) w w1∧w1.heap[w.heap.size]?=some (Ic #[Ii Ij x.1,Ii Ij x.2] 27 (0,0))∧w1.heap[w.heap.size+1]?=some (Ic #[Ii Ij 0,Ii Ij 0,.bool false] 75 (0,0))) ⟨((zK _ _).alloc _).alloc _,?_,?_⟩ ?_
 ·rw [kcZ _ _ (by simp)];exact kbT _ _ rfl
 ·exact kbT _ _ (by simp)
 rintro w1 ⟨hc1,hb1,hb2⟩
 refine (place_big ordv rk none 0 [] x w1 (HR.out.chg hc1) (.inl rfl) (by simp)).mono ?_
 rintro e w2 ⟨⟨i,b,rfl,hpl⟩,hc2⟩
 obtain rfl:i=0:=by have:=hpl.1;simpa using this
 obtain rfl:b=false:=by
  rcases hpl.2.2.2 with ⟨y,h1,_⟩ | ⟨_,h⟩
  ·simp at h1
  ·exact h
 have HB1:=zL hb1
 have HB2:=zL hb2
 have HP:=zL hpl
 clear hb1 hb2 hpl
 go_wp2_with (refine kdH (by rfl) _ _ _ (by rfl) 27 i0 _ 2 16 Try.underlying25 hi0 hz0 hz1 hz2 rfl w2.heap.size 0 0 0 (by rfl) [] ?_ rfl (zi _) none 0 _ (by rfl) [] ?_ (.inr ⟨rfl,rfl⟩) ?_ ?_ ?_ ?_)
 ·exact RowAt.of_block (c:=#[]) (kbT _ _ rfl) _ _ (by simp) (by simp) (by simp)
 ·rfl
 ·simp
 ·unfold maxLen;omega
 ·omega
 intro b1 o1 cap1 w3 h3
 have hc3:Chg (fun _ _=>False) w2 w3:=((zK _ _).alloc _).trans (h3.chg.mono (fun _ o _ h=>by have:=h.2;omega))
 have q3:w3.heap[w.heap.size]?=some (Ic #[Ii Ij x.1,Ii Ij x.2] 27 (0,0)):=by rw [(hc2.trans hc3).block (kbF HB1.out) (fun _ h=>h)];exact HB1.out
 have q0:=kbB q3 0
 have q1:=kbB q3 1
 simp only [zF,zD,zE] at q0 q1
 clear q3
 have r3:=h3.row
 rw [List.nil_append] at r3
 have room3:=h3.room
 have pl3:w2.heap.size≤b1:=by
  rcases h3.place with h | h
  ·have:=h.1;omega
  ·have h2:=h.1
   simp at h2
   omega
 clear h3
 simp only [Nat.zero_add] at room3
 go_wp2_with (refine kdH (by rfl) _ _ _ (by rfl) 27 i0 _ 2 16 Try.underlying25 hi0 hz0 hz1 hz2 rfl b1 o1 0 cap1 (by rfl) [] ?_ ?_ ?_ (some ⟨w3.heap.size,0,none⟩) 1 _ (by rfl) [Ii Ij x.1,Ii Ij x.2] (by rfl) ?_ (by simp [Value.oneCell']) ?_ ?_ ?_)
 ·exact r3.alloc _
 ·rfl
 ·exact room3
 ·exact .inl ⟨_,rfl,World.news_of_block (cs:=#[Ii Ij x.1,Ii Ij x.2]) (t:=27) (fr:=(0,0)) (kbT _ _ rfl)⟩
 ·unfold maxLen;omega
 ·omega
 intro b2 o2 cap2 w4 h4
 have hsz2:=(hc1.trans hc2).size
 have hsz23:=hc3.size
 have hc4:Chg (fun b _=>w2.heap.size≤b) w3 w4:=((zK _ _).alloc _).trans (h4.chg.mono (fun b o _ h=>by have:=h.1;show w2.heap.size≤b;omega))
 have hc24:Chg (fun _ _=>False) w2 w4:=hc3.trans' hc4 i3 (fun b o hb h=>by omega)
 have hcw4:=(hc1.trans hc2).trans hc24
 have r4:=h4.row
 rw [List.nil_append] at r4
 have room4:=h4.room
 have pl4:w2.heap.size≤b2:=by
  rcases h4.place with h | h
  ·have:=h.1;omega
  ·have h2:=h.1
   simp at h2
   omega
 have q2:w4.heap[w.heap.size+1]?=some (Ic #[Ii Ij 0,Ii Ij 0,.bool false] 75 (0,0)):=by rw [(hc2.trans hc24).block (kbF HB2.out) (fun _ h=>h)];exact HB2.out
 have HQ2:=zL q2
 clear q2 h4 hc4 r3 room3 pl3 q0 q1 hc3
 go_wp2_with (refine kdH (by rfl) _ _ _ (by rfl) 27 i0 _ 2 16 Try.underlying25 hi0 hz0 hz1 hz2 rfl b2 o2 (0+1) cap2 (by rfl) [Ii Ij x.1,Ii Ij x.2] r4 ?_ room4 none 0 _ (by rfl) [] ?_ (.inr ⟨rfl,rfl⟩) ?_ ?_ ?_ ?_)
 ·rfl
 ·rfl
 ·simp
 ·unfold maxLen;omega
 ·omega
 intro b5 o5 cap5 w5 h5
 have hc5:Chg (fun b _=>w2.heap.size≤b) w4 w5:= (h5.chg.mono (fun b o _ h=>by have:=h.1;show w2.heap.size≤b;omega))
 have hsz4:=hc24.size
 have hcw5:Chg (fun _ _=>False) w w5:=hcw4.trans' hc5 i3 (fun b o hb h=>by omega)
 have hlt2:=kbF HB2.out
 have hsz12:=hc2.size
 have q5:w5.heap[w.heap.size+1]?=some (Ic #[Ii Ij 0,Ii Ij 0,.bool false] 75 (0,0)):=by rw [hc5.block (kbF HQ2.out) (fun _ h=>by omega)];exact HQ2.out
 have k0:=kbB q5 0
 have k1:=kbB q5 1
 have k2:=kbB q5 2
 have z0:=kbC q5 0
 have z1:=kbC q5 1
 have z2:=kbC q5 2
 simp only [zF,zD,zE] at k0 k1 k2
 have r5:=h5.row
 have room5:=h5.room
 have pl5:w2.heap.size≤b5:=by
  rcases h5.place with h | h
  ·have:=h.1;omega
  ·have h2:w4.heap.size≤b5:=h.1
   omega
 clear q5 h5
 go_wp2_with fail
 refine bodyPost_ret (v:=Iu #[Is (some ⟨b5,o5,none⟩) (0+1+0) cap5,foundV none]) (by simp [results,Try.results39,go_sem,foundV,k0,k1,k2]) rfl ?_
 refine ⟨_,0,false,HP.out,rfl,⟨b5,o5,cap5,rfl,room5,by omega,?_⟩,?_⟩
 ·rw [List.append_nil] at r5
  refine r5.chg (A:=fun b _=>b=w.heap.size+1) ?_ (fun j _ h=>by omega)
  repeat (first | refine ze ?_ | refine zd ?_ (.inl rfl) _ | exact zK _ _)
 ·refine hcw5.trans' (A':=fun b _=>b=w.heap.size+1) ?_ i3 (fun b o hb h=>by omega)
  repeat (first | refine ze ?_ | refine zd ?_ (.inl rfl) _ | exact zK _ _)
end
section
open Go.RowKit
def intE:El Int where
 es:=1
 enc:=fun x=>[Ii Ij x]
 T:=3
 epos:=by omega
 elen:=fun _=>rfl
 eone:=by intro x v hv;simp at hv;subst hv;rfl
def itemE:El (Int×Int) where
 es:=2
 enc:=fun x=>[Ii Ij x.1,Ii Ij x.2]
 T:=27
 epos:=by omega
 elen:=fun _=>rfl
 eone:=by intro x v hv;simp at hv;rcases hv with rfl | rfl<;>rfl
theorem infoInt:(Try.prog.info? 3).map (fun i=>(i.zero,i.size,i.bytes))=some (some (Ii Ij 0),1,8):=by kernel_rfl
variable {a:Option Addr} {w:World}
theorem SlE.int {n cap:Nat} {xs:List Int} (h:SlE intE w (.slice a n cap) xs) {j:Nat} {x:Int} (hj:xs[j]?=some x):∃b o,a=some ⟨b,o,none⟩∧w.cell? ⟨b,o+j,none⟩=some (Ii Ij x):=by
 obtain ⟨b,o,h1,h2⟩:=h.cell hj
 exact ⟨b,o,h1,by have:=h2 0 _ rfl;simpa [intE] using this⟩
variable {xs:List (Int×Int)}
theorem SlE.item {n cap:Nat} (h:SlE itemE w (.slice a n cap) xs) {j:Nat} {x:Int×Int} (hj:xs[j]?=some x):∃b o,a=some ⟨b,o,none⟩∧w.cell? ⟨b,o+j * 2,none⟩=some (Ii Ij x.1)∧w.cell? ⟨b,o+j * 2+1,none⟩=some (Ii Ij x.2):=by
 obtain ⟨b,o,h1,h2⟩:=h.cell hj
 exact ⟨b,o,h1,by have:=h2 0 _ rfl;simpa [itemE] using this,by have:=h2 1 _ rfl;rw [Nat.add_assoc];simpa [itemE] using this⟩
theorem SlE.itemsAt {v:Value} (h:SlE itemE w v xs):∃a cap,v=.slice a xs.length cap∧ItemsAt w a xs∧xs.length≤cap:=by
 obtain ⟨a,cap,rfl,h2,h3⟩:=id h
 refine ⟨a,cap,rfl,?_,h2⟩
 rcases h3 with rfl | ⟨b,o,rfl,_⟩
 ·exact .inl rfl
 ·refine .inr ⟨b,o,rfl,fun i x hx=>?_⟩
  obtain ⟨b',o',e,g0,g1⟩:=h.item hx
  obtain ⟨rfl,rfl⟩:b=b'∧o=o':=by simpa using e
  exact ⟨g0,g1⟩
theorem flatI_flat:∀xs:List (Int×Int),flat itemE.par xs=kgN xs
 | []=>rfl
 | x::xs=>by rw [flat_cons];have:=flatI_flat xs;simp only [kgN,List.flatMap_cons] at this ⊢;rw [this];rfl
theorem ItemsAt.sl {cap:Nat} (h:ItemsAt w a xs) (hc:xs.length≤cap):SlE itemE w (.slice a xs.length cap) xs:=by
 refine ⟨a,cap,rfl,hc,h.imp id ?_⟩
 rintro ⟨b,o,rfl,hcell⟩
 refine ⟨b,o,rfl,fun j u hj=>?_⟩
 rw [flatI_flat] at hj
 have:=ItemsAt.src (l:=xs) hcell 0 xs.length j u (by simpa using hj)
 rw [kdS] at this
 simpa using this
theorem equal_item (v v':Value) (xs:List (Int×Int)) (w:World) (h:SlE itemE w v xs) (h':SlE itemE w v' xs) (hlen:xs.length≤9223372036854775806) :
  Calls Tp 12 #[v,v'] w fun e w'=>e=Ir (.bool true)∧Chg (fun _ _=>False) w w':=by
 obtain ⟨a,cap,rfl⟩:=h.form
 obtain ⟨a',cap',rfl⟩:=h'.form
 have HS:=zL h
 have HS':=zL h'
 clear h h'
 go_enter Try.func12,Try.ntmps12
 go_wp2
 go_loopw [13] (fun i wr=>∃(j:Nat),j≤xs.length∧i=Ii Ij j∧Chg (fun _ _=>False) w wr) (fun i _=>xs.length - (intOf i).toNat)
 case atStart=>exact ⟨0,Nat.zero_le _,rfl,zK _ _⟩
 case round =>
  obtain ⟨j,hj,rfl,hc⟩:=hrel
  by_cases hlt:j < xs.length
  ·obtain ⟨x,hx⟩:∃x,xs[j]?=some x:=⟨_,zH hlt⟩
   obtain ⟨b,o,rfl,g0,g1⟩:=(HS.out.chg hc).item hx
   obtain ⟨b',o',rfl,g0',g1'⟩:=(HS'.out.chg hc).item hx
   skip
   clear hx
   have i0:(0:Int)≤(j:Int):=by omega
   have i1:(j:Int) < (xs.length:Int):=by omega
   go_wp2
   go_quiet (fail)
   go_wp2
   go_roundw
   case rel=>exact ⟨j+1,by omega,by go_num,hc.drewN _⟩
   case measure=>simp [intOf];omega
  ·obtain rfl:j=xs.length:=by omega
   go_wp2
   go_ret
   exact ⟨rfl,hc⟩
end
end Go.Proofs.Ytnohimhihombmaa
