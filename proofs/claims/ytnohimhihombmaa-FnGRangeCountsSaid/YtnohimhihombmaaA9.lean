/- Numbers, items and found items as elements; slices.Equal of equal lists. -/
import Derived.BigQuiet
import Derived.StillTailTactics
import Derived.Deep.AppendLies
import Derived.Test.YtnohimhihombmaaA1
import Derived.Test.YtnohimhihombmaaA2
import Derived.Test.YtnohimhihombmaaA3
namespace Go.Proofs.Ytnohimhihombmaa
set_option linter.unusedSimpArgs false
set_option linter.unusedVariables false
set_option maxRecDepth 100000
set_option maxHeartbeats 40000000
section
open Go.RowKit
def RankOk (ordv:Value) (rk:Int→Int) (w:World):Prop :=
 ∀w',Chg (fun _ _=>False) w w'→∀key,Calls Try.prog 33 #[ordv,.int .i64 key] w' fun e w2=>e=.returned (.int .i64 (rk key))∧w2=w'
def ltR (rk:Int→Int) (a b:Int×Int):Bool:=decide (rk a.1 < rk b.1)
def itemV (x:Int×Int):Value:=.agg #[.int .i64 x.1,.int .i64 x.2]
theorem before_any (ordv:Value) (rk:Int→Int) (a b:Int×Int) (w:World) (hR:RankOk ordv rk w) :
  Calls Try.prog 18 #[ordv,itemV a,itemV b] w fun e w'=>e=.returned (.bool (ltR rk a b))∧Chg (fun _ _=>False) w w':=by
 have HR:=Lib.hid hR
 clear hR
 unfold itemV
 go_enter Try.func18,Try.ntmps18
 go_wp2_with fail
 refine kbD (fun w1=>Chg (fun _ _=>False) w w1∧w1.cell? ⟨w.heap.size,0,none⟩=some (.int .i64 a.1)∧w1.cell? ⟨w.heap.size+1,0,none⟩=some (.int .i64 b.1)) ⟨((Chg.refl _ _).alloc _).alloc _,?_,?_⟩ ?_
 ·rw [World.cell?_alloc_lt _ _ _ (by simp)];exact kbB (kbR _ _ rfl) 0
 ·exact kbB (kbR _ _ (by simp)) 0
 rintro w1 ⟨hc,c0,c1⟩
 go_quiet (first | (go_at_call 33;refine Calls.quiet_of_same (HR.out _ (hc.drewN _) _)))
 go_wp2
 go_ret
 exact ⟨rfl,hc.drewN _⟩
end
section
open Go.RowKit
def ItemsAt (w:World) (p:Option Addr) (l:List (Int×Int)):Prop :=
 l=[]∨∃b o,p=some ⟨b,o,none⟩∧∀i x,l[i]?=some x→w.cell? ⟨b,o+i * 2,none⟩=some (.int .i64 x.1)∧w.cell? ⟨b,o+i * 2+1,none⟩=some (.int .i64 x.2)
theorem ItemsAt.chg {w w':World} {p:Option Addr} {l:List (Int×Int)} (h:ItemsAt w p l) (c:Chg (fun _ _=>False) w w'):ItemsAt w' p l:=by
 rcases h with h | ⟨b,o,h1,h2⟩
 ·exact .inl h
 ·exact .inr ⟨b,o,h1,fun i x hx=>⟨c.q (h2 i x hx).1,c.q (h2 i x hx).2⟩⟩
end
section
open Go.RowKit
structure El (α:Type) where
 es:Nat
 enc:α→List Value
 T:TypeId
 epos:0 < es
 elen:∀x,(enc x).length=es
 eone:∀x,∀v∈enc x,v.oneCell'=true
def El.par {α:Type} (p:El α):Par α:=⟨p.es,p.enc,0,p.T,0,0,0,p.epos,p.elen,p.eone⟩
variable {α:Type}
def SlE (p:El α) (w:World) (v:Value) (xs:List α):Prop:=∃a cap,v=.slice a xs.length cap∧xs.length≤cap∧(xs=[]∨∃b o,a=some ⟨b,o,none⟩∧∀j u,(flat p.par xs)[j]?=some u→w.cell? ⟨b,o+j,none⟩=some u)
def OwnE (p:El α) (w:World) (v:Value) (xs:List α) (base:Nat):Prop:=(xs=[]∧v=.slice none 0 0)∨∃b o cap,v=.slice (some ⟨b,o,none⟩) xs.length cap∧xs.length≤cap∧base≤b∧RowAt w p.T b o (cap * p.es) (flat p.par xs)
theorem OwnE.nil (p:El α) (w:World) (base:Nat):OwnE p w (.slice none 0 0) [] base:=.inl ⟨rfl,rfl⟩
theorem OwnE.chg {p:El α} {w w':World} {v:Value} {xs:List α} {base:Nat} {A:Nat→Nat→Prop} (h:OwnE p w v xs base) (c:Chg A w w') (hA:∀b o,base≤b→¬A b o):OwnE p w' v xs base:=by
 rcases h with h | ⟨b,o,cap,h1,h2,h3,h4⟩
 ·exact .inl h
 ·exact .inr ⟨b,o,cap,h1,h2,h3,h4.chg c (fun j _=>hA _ _ h3)⟩
theorem OwnE.keep {p:El α} {w w':World} {v:Value} {xs:List α} {base:Nat} (h:OwnE p w v xs base) (c:Chg (fun _ _=>False) w w'):OwnE p w' v xs base:=h.chg c (fun _ _ _ h=>h)
theorem OwnE.mono {p:El α} {w:World} {v:Value} {xs:List α} {base base':Nat} (h:OwnE p w v xs base) (hb:base'≤base):OwnE p w v xs base':=by
 rcases h with h | ⟨b,o,cap,h1,h2,h3,h4⟩
 ·exact .inl h
 ·exact .inr ⟨b,o,cap,h1,h2,by omega,h4⟩
theorem OwnE.sl {p:El α} {w:World} {v:Value} {xs:List α} {base:Nat} (h:OwnE p w v xs base):SlE p w v xs:=by
 rcases h with ⟨rfl,rfl⟩ | ⟨b,o,cap,rfl,h2,h3,h4⟩
 ·exact ⟨none,0,rfl,Nat.le_refl _,.inl rfl⟩
 ·exact ⟨_,cap,rfl,h2,.inr ⟨b,o,rfl,fun j u hj=>h4.cell hj⟩⟩
theorem SlE.chg {p:El α} {w w':World} {v:Value} {xs:List α} (h:SlE p w v xs) (c:Chg (fun _ _=>False) w w'):SlE p w' v xs:=by
 obtain ⟨a,cap,h1,h2,h3⟩:=h
 refine ⟨a,cap,h1,h2,h3.imp id ?_⟩
 rintro ⟨b,o,g1,g2⟩
 exact ⟨b,o,g1,fun j u hj=>c.q (g2 j u hj)⟩
theorem SlE.form {p:El α} {w:World} {v:Value} {xs:List α} (h:SlE p w v xs):∃a cap,v=.slice a xs.length cap:=by
 obtain ⟨a,cap,h1,_⟩:=h
 exact ⟨a,cap,h1⟩
theorem SlE.cell {p:El α} {w:World} {a:Option Addr} {n cap:Nat} {xs:List α} (h:SlE p w (.slice a n cap) xs) {j:Nat} {x:α} (hj:xs[j]?=some x):∃b o,a=some ⟨b,o,none⟩∧∀q u,(p.enc x)[q]?=some u→w.cell? ⟨b,o+(j * p.es+q),none⟩=some u:=by
 obtain ⟨a',cap',h1,h2,h3⟩:=h
 injection h1 with e1 e2 e3
 subst e1
 rcases h3 with rfl | ⟨b,o,rfl,h4⟩
 ·simp at hj
 ·exact ⟨b,o,rfl,fun q u hq=>h4 _ u (flat_get p.par hj hq)⟩
section
variable {P:Program}
theorem run_append_E (p:El α) (w:World) (t ty:TypeId) (i:TypeInfo) (z:Value) (bytes:Nat) (ht:P.underlying t=some (.slice p.T)) (hi:P.info? p.T=some i) (hz:i.zero=some z)
  (hsize:i.size=p.es) (hby:i.bytes=bytes) (hzs:z.cells.size=p.es) (v:Value) (xs:List α) (base:Nat) (how:OwnE p w v xs base) (hbase:base≤w.heap.size)
  (ad:Addr) (m c:Nat) (ys:List α) (hm:ys.length=m) (hm0:0 < m) (hsrc:∀j u,(flat p.par ys)[j]?=some u→w.cell? (ad.add j)=some u) (h63:xs.length+m≤maxLen) (hbytes:(xs.length+m) * bytes≤140737488355328) :
  ∃v' w',(Builtin.append_ #[t,t] ty #[v,.slice (some ad) m c]).run P w=.ok v' w'∧OwnE p w' v' (xs++ys) base∧Chg (fun b _=>base≤b) w w'∧v'≠.slice none 0 0:=by
 have hfl:(flat p.par ys).length=m * p.es:=by rw [kcT,hm];rfl
 have hone:∀u∈flat p.par ys,u.oneCell'=true:=flat_one p.par ys
 rcases how with ⟨rfl,rfl⟩ | ⟨b,o,cap,rfl,h2,h3,h4⟩
 ·simp only [List.length_nil,Nat.zero_add] at h63 hbytes
  have hr:=run_append_nil (P:=P) w t ty p.T i z ht hi hz ad m c (flat p.par ys) (by rw [hfl,hsize]) hsrc hm0 (by simp only [maxLen] at h63;omega) (by rw [hby];omega)
  have hge:m≤grownCap w m 0 p.T:=by have:=grownCap_ge w (0+m) 0 p.T;simpa using this
  refine ⟨_,_,hr,.inr ⟨w.heap.size,0,grownCap w m 0 p.T,by simp [hm],by simpa [hm] using hge,hbase,?_⟩,((Chg.refl _ _).drew).alloc _,by simp⟩
  have hs:((flat p.par ys).toArray++Builtin.zeroCells z.cells (grownCap w m 0 p.T - m)).size=grownCap w m 0 p.T * p.es:=by
   simp only [Array.size_append,List.size_toArray,size_zeroCells,hzs,hfl,←Nat.add_mul]
   congr 1
   omega
  refine RowAt.of_block (heap_alloc_new w.drew _) _ _ ?_ ?_ ?_
  ·rw [List.nil_append,hfl];exact Nat.mul_le_mul_right _ hge
  ·omega
  ·intro j hj
   rw [List.nil_append] at hj ⊢
   rw [Nat.zero_add,Array.getElem?_append_left (by simpa using hj)]
   simp
 ·obtain ⟨b',o',cap',w',hr,hA⟩:=kfB (P:=P) w t ty p.T i z p.es bytes ht hi hz hsize hby hzs b o xs.length cap (flat p.par xs) h4 (kcT p.par xs) ad m c (flat p.par ys) hfl hsrc hone h63 hbytes
  have hlen:(xs++ys).length=xs.length+m:=by simp [hm]
  refine ⟨_,w',hr,.inr ⟨b',o',cap',by rw [hlen],by rw [hlen];exact hA.room,?_,by rw [flat_append];exact hA.row⟩,hA.chg.mono (fun b1 _ _ h=>by rw [h.1];exact h3),by simp⟩
  rcases hA.place with h | h
  ·rw [h.1];exact h3
  ·exact Nat.le_trans hbase h.1
theorem wp_append_E (p:El α) {o':Oper} {a:Act} {w:World} {K:Act→World→Prop} {Q:Exit→Act→World→Prop} (s x:Operand) (t:TypeId)
  (ho:o'.op=.call { callee:=.builtin .append,args:=#[s,x],argTypes:=#[t,t] }) (i:TypeInfo) (z:Value) (bytes:Nat) (ht:P.underlying t=some (.slice p.T)) (hi:P.info? p.T=some i) (hz:i.zero=some z)
  (hsize:i.size=p.es) (hby:i.bytes=bytes) (hzs:z.cells.size=p.es) (v:Value) (hs:a.eval s=v) (xs:List α) (base:Nat) (how:OwnE p w v xs base) (hbase:base≤w.heap.size)
  (ad:Addr) (m c:Nat) (hx:a.eval x=.slice (some ad) m c) (ys:List α) (hm:ys.length=m) (hm0:0 < m) (hsrc:∀j u,(flat p.par ys)[j]?=some u→w.cell? (ad.add j)=some u) (h63:xs.length+m≤maxLen) (hbytes:(xs.length+m) * bytes≤140737488355328)
  (h:∀v' w',OwnE p w' v' (xs++ys) base→Chg (fun b _=>base≤b) w w'→v'≠.slice none 0 0→K (a.put o'.dst v') w'):o'.wp P a w K Q:=by
 obtain ⟨v',w',hr,h2,h3,h4⟩:=run_append_E (P:=P) p w t o'.type i z bytes ht hi hz hsize hby hzs v xs base how hbase ad m c ys hm hm0 hsrc h63 hbytes
 unfold Oper.wp execOp
 simp only [ho,resolve,invoke,builtin,Sem.run_bind,Sem.run_pure,Result.andThen_ok,List.map_toArray,List.map_cons,List.map_nil,hs,hx,hr]
 exact h v' w' h2 h3 h4
theorem wpList_append_E (p:El α) {ops:Array Oper} {rest:List Oper} {o':Oper} {a:Act} {w:World} {Q:Exit→Act→World→Prop} (hgd:o'.guard=none) (s x:Operand) (t:TypeId)
  (ho:o'.op=.call { callee:=.builtin .append,args:=#[s,x],argTypes:=#[t,t] }) (i:TypeInfo) (z:Value) (bytes:Nat) (ht:P.underlying t=some (.slice p.T)) (hi:P.info? p.T=some i) (hz:i.zero=some z)
  (hsize:i.size=p.es) (hby:i.bytes=bytes) (hzs:z.cells.size=p.es) (v:Value) (hs:a.eval s=v) (xs:List α) (base:Nat) (how:OwnE p w v xs base) (hbase:base≤w.heap.size)
  (ad:Addr) (m c:Nat) (hx:a.eval x=.slice (some ad) m c) (ys:List α) (hm:ys.length=m) (hm0:0 < m) (hsrc:∀j u,(flat p.par ys)[j]?=some u→w.cell? (ad.add j)=some u) (h63:xs.length+m≤maxLen) (hbytes:(xs.length+m) * bytes≤140737488355328)
  (h:∀v' w',OwnE p w' v' (xs++ys) base→Chg (fun b _=>base≤b) w w'→v'≠.slice none 0 0→wpList P ops Q rest (a.put o'.dst v') w'):wpList P ops Q (o'::rest) a w :=
 wpList_plain hgd fun _ hK=>wp_append_E p s x t ho i z bytes ht hi hz hsize hby hzs v hs xs base how hbase ad m c hx ys hm hm0 hsrc h63 hbytes fun v' w' h2 h3 h4=>hK _ _ (h v' w' h2 h3 h4)
end
theorem OwnE.chgOwn {p:El α} {w w':World} {v:Value} {xs:List α} {base:Nat} {A:Nat→Nat→Prop} (h:OwnE p w v xs base) (c:Chg A w w') (hA:∀b o,v.ownBlock=some b→¬A b o):OwnE p w' v xs base:=by
 rcases h with h | ⟨b,o,cap,rfl,h2,h3,h4⟩
 ·exact .inl h
 ·exact .inr ⟨b,o,cap,rfl,h2,h3,h4.chg c (fun j _=>hA _ _ rfl)⟩
theorem OwnE.own_lt {p:El α} {w:World} {v:Value} {xs:List α} {base b:Nat} (h:OwnE p w v xs base) (hb:v.ownBlock=some b):base≤b∧b < w.heap.size:=by
 rcases h with ⟨_,rfl⟩ | ⟨b',o,cap,rfl,h2,h3,h4⟩
 ·cases hb
 ·have e:b'=b:=Option.some.inj hb
  subst e
  exact ⟨h3,h4.lt⟩
section
variable {P:Program}
theorem run_append_E2 (p:El α) (w:World) (t ty:TypeId) (i:TypeInfo) (z:Value) (bytes:Nat) (ht:P.underlying t=some (.slice p.T)) (hi:P.info? p.T=some i) (hz:i.zero=some z)
  (hsize:i.size=p.es) (hby:i.bytes=bytes) (hzs:z.cells.size=p.es) (v:Value) (xs:List α) (base:Nat) (how:OwnE p w v xs base) (hbase:base≤w.heap.size)
  (ad:Addr) (m c:Nat) (ys:List α) (hm:ys.length=m) (hm0:0 < m) (hsrc:∀j u,(flat p.par ys)[j]?=some u→w.cell? (ad.add j)=some u) (h63:xs.length+m≤maxLen) (hbytes:(xs.length+m) * bytes≤140737488355328) :
  ∃v' w',(Builtin.append_ #[t,t] ty #[v,.slice (some ad) m c]).run P w=.ok v' w'∧OwnE p w' v' (xs++ys) base∧Chg (fun b _=>v.ownBlock=some b) w w'∧(v'.ownBlock=v.ownBlock∨∃nb,v'.ownBlock=some nb∧w.heap.size≤nb)∧v'≠.slice none 0 0:=by
 have hfl:(flat p.par ys).length=m * p.es:=by rw [kcT,hm];rfl
 have hone:∀u∈flat p.par ys,u.oneCell'=true:=flat_one p.par ys
 obtain ⟨v1,w1,hr1,h1,_,h4⟩:=run_append_E (P:=P) p w t ty i z bytes ht hi hz hsize hby hzs v xs base how hbase ad m c ys hm hm0 hsrc h63 hbytes
 refine ⟨v1,w1,hr1,h1,?_,?_,h4⟩
 ·rcases how with ⟨rfl,rfl⟩ | ⟨b,o,cap,rfl,h2,h3,h4⟩
  ·simp only [List.length_nil,Nat.zero_add] at h63 hbytes
   have hr:=run_append_nil (P:=P) w t ty p.T i z ht hi hz ad m c (flat p.par ys) (by rw [hfl,hsize]) hsrc hm0 (by simp only [maxLen] at h63;omega) (by rw [hby];omega)
   rw [hr] at hr1
   injection hr1 with e1 e2
   rw [←e2]
   exact ((Chg.refl _ _).drew).alloc _
  ·obtain ⟨b',o',cap',w',hr,hA⟩:=kfB (P:=P) w t ty p.T i z p.es bytes ht hi hz hsize hby hzs b o xs.length cap (flat p.par xs) h4 (kcT p.par xs) ad m c (flat p.par ys) hfl hsrc hone h63 hbytes
   rw [hr] at hr1
   injection hr1 with e1 e2
   rw [←e2]
   exact hA.chg.mono fun b1 _ _ h=>by rw [h.1];rfl
 ·rcases how with ⟨rfl,rfl⟩ | ⟨b,o,cap,rfl,h2,h3,h4⟩
  ·simp only [List.length_nil,Nat.zero_add] at h63 hbytes
   have hr:=run_append_nil (P:=P) w t ty p.T i z ht hi hz ad m c (flat p.par ys) (by rw [hfl,hsize]) hsrc hm0 (by simp only [maxLen] at h63;omega) (by rw [hby];omega)
   rw [hr] at hr1
   injection hr1 with e1 e2
   exact .inr ⟨w.heap.size,by rw [←e1];rfl,Nat.le_refl _⟩
  ·obtain ⟨b',o',cap',w',hr,hA⟩:=kfB (P:=P) w t ty p.T i z p.es bytes ht hi hz hsize hby hzs b o xs.length cap (flat p.par xs) h4 (kcT p.par xs) ad m c (flat p.par ys) hfl hsrc hone h63 hbytes
   rw [hr] at hr1
   injection hr1 with e1 e2
   rcases hA.place with h | h
   ·exact .inl (by rw [←e1,h.1];rfl)
   ·exact .inr ⟨b',by rw [←e1];rfl,h.1⟩
theorem wp_append_E2 (p:El α) {o':Oper} {a:Act} {w:World} {K:Act→World→Prop} {Q:Exit→Act→World→Prop} (s x:Operand) (t:TypeId)
  (ho:o'.op=.call { callee:=.builtin .append,args:=#[s,x],argTypes:=#[t,t] }) (i:TypeInfo) (z:Value) (bytes:Nat) (ht:P.underlying t=some (.slice p.T)) (hi:P.info? p.T=some i) (hz:i.zero=some z)
  (hsize:i.size=p.es) (hby:i.bytes=bytes) (hzs:z.cells.size=p.es) (v:Value) (hs:a.eval s=v) (xs:List α) (base:Nat) (how:OwnE p w v xs base) (hbase:base≤w.heap.size)
  (ad:Addr) (m c:Nat) (hx:a.eval x=.slice (some ad) m c) (ys:List α) (hm:ys.length=m) (hm0:0 < m) (hsrc:∀j u,(flat p.par ys)[j]?=some u→w.cell? (ad.add j)=some u) (h63:xs.length+m≤maxLen) (hbytes:(xs.length+m) * bytes≤140737488355328)
  (h:∀v' w',OwnE p w' v' (xs++ys) base→Chg (fun b _=>v.ownBlock=some b) w w'→(v'.ownBlock=v.ownBlock∨∃nb,v'.ownBlock=some nb∧w.heap.size≤nb)→K (a.put o'.dst v') w'):o'.wp P a w K Q:=by
 obtain ⟨v',w',hr,h2,h3,h4,_⟩:=run_append_E2 (P:=P) p w t o'.type i z bytes ht hi hz hsize hby hzs v xs base how hbase ad m c ys hm hm0 hsrc h63 hbytes
 unfold Oper.wp execOp
 simp only [ho,resolve,invoke,builtin,Sem.run_bind,Sem.run_pure,Result.andThen_ok,List.map_toArray,List.map_cons,List.map_nil,hs,hx,hr]
 exact h v' w' h2 h3 h4
theorem kfV (p:El α) {ops:Array Oper} {rest:List Oper} {o':Oper} {a:Act} {w:World} {Q:Exit→Act→World→Prop} (hgd:o'.guard=none) (s x:Operand) (t:TypeId)
  (ho:o'.op=.call { callee:=.builtin .append,args:=#[s,x],argTypes:=#[t,t] }) (i:TypeInfo) (z:Value) (bytes:Nat) (ht:P.underlying t=some (.slice p.T)) (hi:P.info? p.T=some i) (hz:i.zero=some z)
  (hsize:i.size=p.es) (hby:i.bytes=bytes) (hzs:z.cells.size=p.es) (v:Value) (hs:a.eval s=v) (xs:List α) (base:Nat) (how:OwnE p w v xs base) (hbase:base≤w.heap.size)
  (ad:Addr) (m c:Nat) (hx:a.eval x=.slice (some ad) m c) (ys:List α) (hm:ys.length=m) (hm0:0 < m) (hsrc:∀j u,(flat p.par ys)[j]?=some u→w.cell? (ad.add j)=some u) (h63:xs.length+m≤maxLen) (hbytes:(xs.length+m) * bytes≤140737488355328)
  (h:∀v' w',OwnE p w' v' (xs++ys) base→Chg (fun b _=>v.ownBlock=some b) w w'→(v'.ownBlock=v.ownBlock∨∃nb,v'.ownBlock=some nb∧w.heap.size≤nb)→wpList P ops Q rest (a.put o'.dst v') w'):wpList P ops Q (o'::rest) a w:=by
 refine wpList_plain hgd fun K hK=>?_
 obtain ⟨v',w',hr,h2,h3,h4,_⟩:=run_append_E2 (P:=P) p w t o'.type i z bytes ht hi hz hsize hby hzs v xs base how hbase ad m c ys hm hm0 hsrc h63 hbytes
 unfold Oper.wp execOp
 simp only [ho,resolve,invoke,builtin,Sem.run_bind,Sem.run_pure,Result.andThen_ok,List.map_toArray,List.map_cons,List.map_nil,hs,hx,hr]
 exact hK _ _ (h v' w' h2 h3 h4)
end
theorem El.src1 (p:El α) {w:World} {b:Nat} {c:Array Value} {T:TypeId} {fr:Nat×Nat} (h:w.heap[b]?=some (.cells c T fr)) (x:α) (hc:c.toList=p.enc x):∀j u,(flat p.par [x])[j]?=some u→w.cell? ((⟨b,0,none⟩:Addr).add j)=some u:=by
 intro j u hj
 rw [flat_single] at hj
 have hj':c[j]?=some u:=by rw [←Array.getElem?_toList,hc];exact hj
 rw [kdS]
 simp [World.cell?,h,hj']
end
section
open Go.RowKit
variable {P:Program}
theorem run_append_opt (w:World) (t ty e:TypeId) (i:TypeInfo) (z:Value) (size bytes:Nat) (ht:P.underlying t=some (.slice e)) (hi:P.info? e=some i) (hz:i.zero=some z)
  (hsize:i.size=size) (hby:i.bytes=bytes) (hzs:z.cells.size=size)
  (b o len cap:Nat) (xs:List Value) (hrow:RowAt w e b o (cap * size) xs) (hxs:xs.length=len * size) (hcap:len≤cap)
  (p:Option Addr) (m c:Nat) (news:List Value) (hl:news.length=m * size) (hsrc:(∃ad,p=some ad∧∀j u,news[j]?=some u→w.cell? (ad.add j)=some u)∨(m=0∧news=[])) (h1:∀u∈news,u.oneCell'=true)
  (h63:len+m≤maxLen) (hbytes:(len+m) * bytes≤140737488355328) :
  ∃b' o' cap' w',(Builtin.append_ #[t,t] ty #[.slice (some ⟨b,o,none⟩) len cap,.slice p m c]).run P w=.ok (.slice (some ⟨b',o',none⟩) (len+m) cap') w'∧Appd e size w b o len cap xs news m b' o' cap' w':=by
 cases p with
 | some ad =>
  refine kfB w t ty e i z size bytes ht hi hz hsize hby hzs b o len cap xs hrow hxs ad m c news hl ?_ h1 h63 hbytes
  rcases hsrc with ⟨ad',h,hc⟩ | ⟨_,rfl⟩
  ·obtain rfl:=Option.some.inj h;exact hc
  ·intro j u h;simp at h
 | none =>
  rcases hsrc with ⟨ad',h,_⟩ | ⟨rfl,rfl⟩
  ·cases h
  refine ⟨b,o,cap,w,?_,by rw [List.append_nil];exact hrow,Chg.refl _ _,by omega,.inl ⟨rfl,rfl,rfl⟩⟩
  subst hsize
  simp [Builtin.append_,run_underlying ht,sizeOf,typeInfo,hi,Builtin.lenOf,hcap,Builtin.firstCells,storeCells]
theorem kdG {ops:Array Oper} {rest:List Oper} {o':Oper} {a:Act} {w:World} {Q:Exit→Act→World→Prop} (hgd:o'.guard=none) (s x:Operand) (t:TypeId)
  (ho:o'.op=.call { callee:=.builtin .append,args:=#[s,x],argTypes:=#[t,t] })
  (e:TypeId) (i:TypeInfo) (z:Value) (size bytes:Nat) (ht:P.underlying t=some (.slice e)) (hi:P.info? e=some i) (hz:i.zero=some z)
  (hsize:i.size=size) (hby:i.bytes=bytes) (hzs:z.cells.size=size)
  (b o len cap:Nat) (hs:a.eval s=.slice (some ⟨b,o,none⟩) len cap) (xs:List Value) (hrow:RowAt w e b o (cap * size) xs) (hxs:xs.length=len * size) (hcap:len≤cap)
  (p:Option Addr) (m c:Nat) (hx:a.eval x=.slice p m c) (news:List Value) (hl:news.length=m * size) (hsrc:(∃ad,p=some ad∧∀j u,news[j]?=some u→w.cell? (ad.add j)=some u)∨(m=0∧news=[])) (h1:∀u∈news,u.oneCell'=true)
  (h63:len+m≤maxLen) (hbytes:(len+m) * bytes≤140737488355328)
  (h:∀b' o1 cap' w',Appd e size w b o len cap xs news m b' o1 cap' w'→wpList P ops Q rest (a.put o'.dst (.slice (some ⟨b',o1,none⟩) (len+m) cap')) w'):wpList P ops Q (o'::rest) a w:=by
 refine wpList_plain hgd fun K hK=>?_
 obtain ⟨b',o1,cap',w',hr,h2⟩:=run_append_opt (P:=P) w t o'.type e i z size bytes ht hi hz hsize hby hzs b o len cap xs hrow hxs hcap p m c news hl hsrc h1 h63 hbytes
 unfold Oper.wp execOp
 simp only [ho,resolve,invoke,builtin,Sem.run_bind,Sem.run_pure,Result.andThen_ok,List.map_toArray,List.map_cons,List.map_nil,hs,hx,hr]
 exact hK _ _ (h b' o1 cap' w' h2)
end
section
open Go.RowKit
theorem infoItem:(Try.prog.info? 27).map (fun i=>(i.zero,i.size,i.bytes))=some (some (.agg #[.int .i64 0,.int .i64 0]),2,16):=by kernel_rfl
end
section
open Go.RowKit
end
section
open Go.RowKit
def intE:El Int where
 es:=1
 enc:=fun x=>[.int .i64 x]
 T:=3
 epos:=by omega
 elen:=fun _=>rfl
 eone:=by intro x v hv;simp at hv;subst hv;rfl
def itemE:El (Int×Int) where
 es:=2
 enc:=fun x=>[.int .i64 x.1,.int .i64 x.2]
 T:=27
 epos:=by omega
 elen:=fun _=>rfl
 eone:=by intro x v hv;simp at hv;rcases hv with rfl | rfl<;>rfl
theorem infoInt:(Try.prog.info? 3).map (fun i=>(i.zero,i.size,i.bytes))=some (some (.int .i64 0),1,8):=by kernel_rfl
theorem SlE.int {w:World} {a:Option Addr} {n cap:Nat} {xs:List Int} (h:SlE intE w (.slice a n cap) xs) {j:Nat} {x:Int} (hj:xs[j]?=some x):∃b o,a=some ⟨b,o,none⟩∧w.cell? ⟨b,o+j,none⟩=some (.int .i64 x):=by
 obtain ⟨b,o,h1,h2⟩:=h.cell hj
 exact ⟨b,o,h1,by have:=h2 0 _ rfl;simpa [intE] using this⟩
end
end Go.Proofs.Ytnohimhihombmaa
