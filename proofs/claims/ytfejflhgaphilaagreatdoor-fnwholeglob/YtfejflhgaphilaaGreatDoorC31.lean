/- How the parser's stacks lie in memory, and what its steps make of them. The sorted map's iterator is made, and its pairs are taken. -/
import Derived.Test.YtfejflhgaphilaaGreatDoorC16
import Derived.Test.YtfejflhgaphilaaGreatDoorC30
set_option linter.all false
set_option maxRecDepth 100000
set_option maxHeartbeats 64000000
open Go.Proofs.Tryz
namespace Go.Proofs.YtfejflhgaphilaaGreatDoor
open Go.RowKit Gm
variable {w1 w:World} {v:Value} {g n cap I:Nat} {t:T} {l:List (List UInt8)}
def ob (v:Value):List Nat:=v.ownBlock.toList
theorem f' {x:Nat}:x∈ob v↔v.ownBlock=some x:=by unfold ob;cases v.ownBlock<;>simp[eq_comm]
theorem Ah (v:Value):(ob v).Nodup:=by unfold ob;cases v.ownBlock<;>simp
theorem jY {c:Nat}:ob (.slice (some ⟨g,0,none⟩) n c)=[g]:=rfl
theorem d' {B e size:Nat} {xs:List Value} (h:w.ownsRow B e size v n xs):∃a c,v=.slice a n c/\n<=c/\c<=maxLen:=by
 rcases h.2 with⟨rfl,e⟩|⟨g,cap,cur,rfl,_,_,h1,h2,_⟩
 ·exact⟨none,0,by rw[e],by omega,by simp[maxLen]⟩
 ·exact⟨_,_,rfl,h1,h2⟩
def fa:List (Bool×Nat)->List Value
 | []=>[]
 |(b,i)::o=>fa o++[.int .i64 (if b then 0 else 1),.int .i64 (i:Nat)]
theorem en:∀(o:List (Bool×Nat)),(fa o).length=o.length*2
 | []=>rfl
 |(b,i)::o=>by simp[fa,en o];omega
structure rU (w wr:World) (B L:Nat) (txt rest:List dE) (tl:Nat) (q:List Tok) (vq:Value) (lr gI:Int) (hr:Bool) (st:List T) (ops:List (Bool×Nat)) (o5 qE:Value) (us:List Value) (G:List Nat):Prop where
 lex:er wr B L txt rest tl q vq lr gI hr
 BD:wr.ownsRow B 153 1 o5 us.length us
 tr:eW wr B st us G
 Jj:wr.ownsRow B 259 2 qE ops.length (fa ops)
 below:Below B w wr
 base:B=w.heap.size
 nodup:(L::(ob vq++(ob o5++(ob qE++G)))).Nodup
 lt:∀x∈G,x<wr.heap.size
 ge:∀x∈G,B<=x
section
variable {w wr:World} {B L tl:Nat} {txt rest:List dE} {q:List Tok} {vq:Value} {lr gI:Int} {hr:Bool} {st:List T} {ops:List (Bool×Nat)} {o5 qE:Value} {us:List Value} {G:List Nat}
theorem rU.all (h:rU w wr B L txt rest tl q vq lr gI hr st ops o5 qE us G):∀x∈(L::(ob vq++(ob o5++(ob qE++G)))),B<=x/\x<wr.heap.size:=by
 intro x hx;simp only[az,ar,f']at hx;rcases hx with rfl|hx|hx|hx|hx
 ·exact⟨h.lex.base,h.lex.lt.1⟩
 ·exact h.lex.lt.2 x hx
 ·exact h.BD.lt x hx
 ·exact h.Jj.lt x hx
 ·exact⟨h.ge x hx,h.lt x hx⟩
theorem rU.len (h:rU w wr B L txt rest tl q vq lr gI hr st ops o5 qE us G):us.length=st.length:=eW.length st us G h.tr
theorem rU.rq (h:rU w wr B L txt rest tl q vq lr gI hr st ops o5 qE us G) {R:List dE} {tl':Nat} {q':List Tok} {fb:Value} {lr' lsz':Int} {hr':Bool} (hl:er w1 B L txt R tl' q' fb lr' lsz' hr') (hf:kA wr w1 L vq fb):rU w w1 B L txt R tl' q' fb lr' lsz' hr' st ops o5 qE us G:=by
 have jh:=h.all;have lI:=h.nodup;have gY:∀b,b<wr.heap.size->b≠L->vq.ownBlock≠some b->w1.heap[b]? =wr.heap[b]? :=λb hb h1 h2=>hf.fo.same b hb λe=>e.elim h1 h2;have eK:∀x∈ob o5++(ob qE++G),x≠L/\vq.ownBlock≠some x:=by intro x hx;simp only[dA,aZ]at lI;refine⟨λe=>lI.1 (by rw[<-e];exact bg _ hx),λe=>lI.2.2.2 x (f'.2 e) x hx rfl⟩
 have hltx:∀x∈ob o5++(ob qE++G),x<wr.heap.size:=λx hx=>(jh x (bJ _ (bg _ hx))).2;have fH:∀x∈ob o5++(ob qE++G),w1.heap[x]? =wr.heap[x]? :=λx hx=>gY x (hltx x hx) (eK x hx).1 (eK x hx).2;have Kk:=h.lex.base;have hBs:B<=wr.heap.size:=ao Kk (Nat.le_of_lt h.lex.lt.1);have gE:∀b,b<B->w1.heap[b]? =wr.heap[b]? :=λb hb=>gY b (by omega) (by omega) λe=>by have:=(h.lex.lt.2 b e).1;omega
 refine⟨hl,dI h.BD λg hg=>fH g (by simp[f'.2 hg]),eW.keep gE st us G h.tr λb hb=>fH b (by simp[hb]),dI h.Jj λg hg=>fH g (by simp[f'.2 hg]),?_,h.base,?_,λx hx=>ai (h.lt x hx) hf.fo.size,h.ge⟩
 ·have hb:=h.below;exact⟨hf.fo.os.trans hb.os,hf.fo.tape.trans hb.tape,hf.fo.output.trans hb.output,ao hb.size hf.fo.size,λb uK=>(gE b uK).trans (hb.block b uK)⟩
 ·exact qf (G1:=[L]) (F1:=ob vq) (n:=wr.heap.size) lI (λx hx=>(jh x hx).2) (Ah _) λx hx=>by
   rcases hf.own x (f'.1 hx)with h1|h1
   ·exact .inl (f'.2 h1)
   ·exact .inr h1
theorem rU.grown (h:rU w wr B L txt rest tl q vq lr gI hr st ops o5 qE us G) (hb:Below wr.heap.size wr w1):rU w w1 B L txt rest tl q vq lr gI hr st ops o5 qE us G:=h.rq (h.lex.below hb) (kA.ft hb)
theorem rU.Xb (h:rU w wr B L txt rest tl q vq lr gI hr st ops o5 qE us G) {st':List T} {JB:Value} {fV:List Value} {G':List Nat} (hs:wr.heap.size<=w1.heap.size) (hos:w1.os=wr.os/\w1.tape=wr.tape/\w1.output=wr.output) (hc:∀b,b<wr.heap.size->b∉ob o5->w1.heap[b]? =wr.heap[b]?) (ho:w1.ownsRow B 153 1 JB fV.length fV) (ht:eW w1 B st' fV G') (hn:(ob JB++G').Nodup) (jn:∀x∈ob JB++G',x∈ob o5++G\/(x∉(L::(ob vq++(ob o5++(ob qE++G))))/\B<=x/\x<w1.heap.size)):rU w w1 B L txt rest tl q vq lr gI hr st' ops JB qE fV G':=by
 have jh:=h.all;have lI:=h.nodup;simp only[dA,aZ,ar,not_or]at lI;obtain⟨⟨n1,n2,n3,n4⟩,n5,⟨n6,⟨n7,n8,n9⟩,Rf⟩,Vf⟩:=lI;have hsB:∀x∈ob o5,B<=x:=λx hx=>(jh x (by simp[hx])).1;have gE:∀b,b<B->w1.heap[b]? =wr.heap[b]? :=λb hb=>hc b (by have:=h.lex.base;have:=h.lex.lt.1;omega) λe=>by have:=hsB b e;omega
 have sL:∀x∈ob JB++G',B<=x/\x<w1.heap.size:=λx hx=>by
  rcases jn x hx with h1|h1
  ·have:=jh x (by rcases ar.1 h1 with h2|h2<;>simp[h2]);exact⟨this.1,by omega⟩
  ·exact h1.2
 have hfar:∀x∈ob JB++G',x≠L/\x∉ob vq/\x∉ob qE:=λx hx=>by
  rcases jn x hx with h1|h1
  ·rcases ar.1 h1 with h2|h2
   ·exact⟨λe=>n2 (e▸h2),λe=>Vf x e x (.inl h2) rfl,λe=>Rf x h2 x (.inl e) rfl⟩
   ·exact⟨λe=>n4 (e▸h2),λe=>Vf x e x (.inr (.inr h2)) rfl,λe=>n9 x e x h2 rfl⟩
  ·have:=h1.1;simp only[az,ar,not_or]at this;exact⟨this.1,this.2.1,this.2.2.2.1⟩
 refine⟨h.lex.keep λb hb=> ?_,ho,ht,dI h.Jj λg hg=> ?_,?_,h.base,?_,λx hx=>(sL x (by simp[hx])).2,λx hx=>(sL x (by simp[hx])).1⟩
 ·rcases hb with rfl|hb
  ·exact hc b (jh b (by simp)).2 n2
  ·exact hc b (jh b (by simp[f'.2 hb])).2 λe=>Vf b (f'.2 hb) b (.inl e) rfl
 ·exact hc g (jh g (by simp[f'.2 hg])).2 λe=>Rf g e g (.inl (f'.2 hg)) rfl
 ·have hb:=h.below;exact⟨hos.1.trans hb.os,hos.2.1.trans hb.tape,hos.2.2.trans hb.output,ao hb.size hs,λb uK=>(gE b uK).trans (hb.block b uK)⟩
 ·rw[aZ]at hn;simp only[dA,aZ,ar,not_or];have f:=λx (hx:x∈ob JB)=>hfar x (bu _ hx);have f2:=λx (hx:x∈G')=>hfar x (bg _ hx);refine⟨⟨n1,λe=>(f L e).1 rfl,n3,λe=>(f2 L e).1 rfl⟩,n5,⟨hn.1,⟨n7,hn.2.1,λa ha b hb e=>(f2 b hb).2.2 (e▸ha)⟩,λa ha b hb e=> ?_⟩,λa ha b hb e=> ?_⟩
  ·rcases hb with hb|hb
   ·exact(f a ha).2.2 (e▸hb)
   ·exact hn.2.2 a ha b hb e
  ·rcases hb with hb|hb|hb
   ·exact(f b hb).2.1 (e▸ha)
   ·exact Vf a ha b (.inr (.inl hb)) e
   ·exact(f2 b hb).2.1 (e▸ha)
theorem rU.push (h:rU w wr B L txt rest tl q vq lr gI hr st ops o5 qE us G) {wa:World} {F:List Nat} (hW:Below wr.heap.size wr wa) (ht:Tr wa B t v F) (hF:F.Nodup) (Z8:∀x∈F,x∉(L::(ob vq++(ob o5++(ob qE++G))))/\B<=x/\x<wa.heap.size) (ho:w1.ownsRow B 153 1 (.slice (some ⟨g,0,none⟩) (us.length+1) cap) (us.length+1) (us++[v])) (hg:wa.grownBy w1 o5.ownBlock) (xX:o5.ownBlock=some g\/g=wa.heap.size) (hl:g<w1.heap.size):rU w w1 B L txt rest tl q vq lr gI hr (st++[t]) ops (.slice (some ⟨g,0,none⟩) (us.length+1) cap) qE (us++[v]) (G++F):=by
 have h0:=h.grown hW;have lI:=h.nodup;simp only[dA,aZ,ar,not_or]at lI;obtain⟨⟨n1,n2,n3,n4⟩,n5,⟨n6,⟨n7,n8,n9⟩,Rf⟩,Vf⟩:=lI;have gY:∀b,b<wa.heap.size->o5.ownBlock≠some b->w1.heap[b]? =wa.heap[b]? :=λb hb hn=>hg.block b hb λe=>hn e.symm;have jh:=h0.all;have hFo:∀x∈F,x∉ob o5/\x∉G:=λx hx=>by have:=(Z8 x hx).1;simp only[az,ar,not_or]at this;exact⟨this.2.2.1,this.2.2.2.2⟩
 have gE:∀b,b<B->w1.heap[b]? =wa.heap[b]? :=λb hb=>gY b (by have:=h0.lex.base;have:=h0.lex.lt.1;omega) λe=>by have:=(h0.BD.lt b e).1;omega
 have Qg:∀x,x∈ob (.slice (some ⟨g,0,none⟩) (us.length+1) cap)->x∈ob o5\/(wa.heap.size<=x/\x<w1.heap.size):=λx hx=>by
  simp only[jY,aE]at hx;subst hx;rcases xX with e|e
  ·exact .inl (f'.2 e)
  ·exact .inr ⟨by omega,hl⟩
 have gJ:=hW.size;have pG:∀x,wr.heap.size<=x->x∉(L::(ob vq++(ob o5++(ob qE++G))))/\B<=x:=λx hx=>⟨λe=>by have:=(h.all x e).2;omega,by have:=h.lex.base;have:=h.lex.lt.1;omega⟩;refine h.Xb (ao hW.size hg.size) ⟨hg.os.trans hW.os,hg.tape.trans hW.tape,hg.output.trans hW.output⟩ (λb hb hn=> ?_) (by rw[aj];exact ho) ?_ ?_ ?_
 ·exact(gY b (by omega) λe=>hn (f'.2 e)).trans (hW.block b hb)
 ·refine eW.append st [t] us [v] G F (eW.keep gE st us G h0.tr λb hb=> ?_) (eW.one.2 ⟨v,rfl,Tr.keep gE t v F ht λb hb=> ?_⟩)
  ·exact gY b (h0.lt b hb) λe=>Rf b (f'.2 e) b (.inr hb) rfl
  ·exact gY b (Z8 b hb).2.2 λe=>(hFo b hb).1 (f'.2 e)
 ·rw[aZ,aZ];refine⟨Ah _,⟨n8,hF,λa ha b hb e=>(hFo b hb).2 (e▸ha)⟩,λa ha b hb e=> ?_⟩;subst e;rcases Qg a ha with h1|h1
  ·rcases ar.1 hb with h2|h2
   ·exact Rf a h1 a (.inr h2) rfl
   ·exact(hFo a h2).1 h1
  ·rcases ar.1 hb with h2|h2
   ·have:=h0.lt a h2;omega
   ·have:=(Z8 a h2).2.2;omega
 ·intro x hx;rcases ar.1 hx with hx|hx
  ·rcases Qg x hx with h1|h1
   ·exact .inl (bu _ h1)
   ·exact .inr ⟨(pG x (by omega)).1,(pG x (by omega)).2,h1.2⟩
  ·rcases ar.1 hx with hx|hx
   ·exact .inl (bg _ hx)
   ·have:=hg.size;have h2:=Z8 x hx;exact .inr ⟨h2.1,h2.2.1,by omega⟩
theorem rU.Lq (h:rU w wr B L txt rest tl q vq lr gI hr st ops o5 qE us G) {o o2:Obj} (ll:∀wx,Below wr.heap.size wr wx->wx.heap[wr.heap.size]? =some o->Tr wx B t v [wr.heap.size]) (ho:w1.ownsRow B 153 1 (.slice (some ⟨g,0,none⟩) (us.length+1) cap) (us.length+1) (us++[v])) (hg:((wr.alloc o).alloc o2).grownBy w1 o5.ownBlock) (xX:o5.ownBlock=some g\/g=wr.heap.size+1+1) (hl:g<w1.heap.size):rU w w1 B L txt rest tl q vq lr gI hr (st++[t]) ops (.slice (some ⟨g,0,none⟩) (us.length+1) cap) qE (us++[v]) (G++[wr.heap.size]):=by
 have hb:Below wr.heap.size wr ((wr.alloc o).alloc o2):=by go_grown
 refine h.push hb (ll _ hb ?_) (by simp) (λx hx=> ?_) ho hg (by rw[ab,ab];exact xX) hl
 ·rw[heap_alloc_old _ _ (by rw[ab];omega)];exact heap_alloc_new wr o
 ·simp only[aE]at hx;subst hx;refine⟨λe=>by have:=(h.all _ e).2;omega,by have:=h.lex.base;have:=h.lex.lt.1;omega,by rw[ab,ab];omega⟩
theorem rU.QY (h:rU w wr B L txt rest tl q vq lr gI hr st ops o5 qE us G) {ops':List (Bool×Nat)} {vop':Value} (hg:wr.grownBy w1 qE.ownBlock) (ho:w1.ownsRow B 259 2 vop' ops'.length (fa ops')) (jn:∀x∈ob vop',x∈ob qE\/wr.heap.size<=x):rU w w1 B L txt rest tl q vq lr gI hr st ops' o5 vop' us G:=by
 have jh:=h.all;have lI:=h.nodup;have hnd0:=lI;simp only[dA,aZ,ar,not_or]at lI;obtain⟨⟨n1,n2,n3,n4⟩,n5,⟨n6,⟨n7,n8,n9⟩,Rf⟩,Vf⟩:=lI;have gY:∀b,b<wr.heap.size->qE.ownBlock≠some b->w1.heap[b]? =wr.heap[b]? :=λb hb hn=>hg.block b hb λe=>hn e.symm;have gE:∀b,b<B->w1.heap[b]? =wr.heap[b]? :=λb hb=>gY b (by have:=h.lex.base;have:=h.lex.lt.1;omega) λe=>by have:=(h.Jj.lt b e).1;omega
 refine⟨h.lex.keep λb hb=> ?_,dI h.BD λg hg=> ?_,eW.keep gE st us G h.tr λb hb=> ?_,ho,?_,h.base,?_,λx hx=>ai (h.lt x hx) hg.size,h.ge⟩
 ·rcases hb with rfl|hb
  ·exact gY b (jh b (by simp)).2 λe=>n3 (f'.2 e)
  ·exact gY b (jh b (by simp[f'.2 hb])).2 λe=>Vf b (f'.2 hb) b (.inr (.inl (f'.2 e))) rfl
 ·exact gY g (jh g (by simp[f'.2 hg])).2 λe=>Rf g (f'.2 hg) g (.inl (f'.2 e)) rfl
 ·exact gY b (h.lt b hb) λe=>n9 b (f'.2 e) b hb rfl
 ·have hb:=h.below;exact⟨hg.os.trans hb.os,hg.tape.trans hb.tape,hg.output.trans hb.output,ao hb.size hg.size,λb uK=>(gE b uK).trans (hb.block b uK)⟩
 ·have:=qf (G1:=L::(ob vq++ob o5)) (F1:=ob qE) (F1':=ob vop') (G2:=G) (n:=wr.heap.size) (by simpa using hnd0) (λx hx=>(jh x (by simpa using hx)).2) (Ah _) jn;simpa using this
end
def Bx (w:World) (I:Nat) (l:List (List UInt8)):Prop:=(l=[]/\w.cell? ⟨I,65,none⟩=some (.int .i64 (-1)))\/(l≠[]/\∃L E c,jQ w L E l c/\Iter w I L 0 0/\L<I/\E<I)
theorem f98 (I M:Nat) (l:List (List UInt8)) (cs:Array Value) (w0 w:World) (h:SMap w0 M l) (mQ:Below w0.heap.size w0 w) (X0:w0.heap.size<=I) (hI:w.heap[I]? =some (.cells cs 206 (0,0))) (gJ:cs.size=66) (h0:cs[0]? =some (.pointer (some ⟨M,0,none⟩))):Calls prog 98 #[.pointer (some ⟨I,0,none⟩)] w λe w'=>e=.returned (.tuple #[])/\Bx w' I l/\ei (λb=>b=I) w w':=by
 have XY:I<w.heap.size:=by
  rcases aV I w.heap.size with e|e
  ·exact e
  ·rw[aO e]at hI;cases hI
 have c0:w.cell? ⟨I,0,none⟩=some (.pointer (some ⟨M,0,none⟩)):=cell_of hI h0;have c1:∃v,w.cell? ⟨I,1,none⟩=some v:=⟨_,cell_of hI (bW (by omega))⟩;have c2:∃v,w.cell? ⟨I,2,none⟩=some v:=⟨_,cell_of hI (bW (by omega))⟩;have Ym:∃v,w.cell? ⟨I,65,none⟩=some v:=⟨_,cell_of hI (bW (by omega))⟩;obtain⟨v1,c1⟩:=c1;obtain⟨v2,c2⟩:=c2;obtain⟨v65,Ym⟩:=Ym;have z65:=el (i:=65) hI;have z1:=el (i:=1) hI;have z2:=el (i:=2) hI;rcases h.body with⟨hl,hM⟩|⟨hl,L,E,c,q,hM,hL⟩
 ·have m1:w.cell? ⟨M,1,none⟩=some .nilIface:=dF mQ _ _ (cell_of hM rfl);have H:=jS hl hI gJ;clear hl hM h hI gJ mQ;go_enter func98,ntmps98;go_wp2_with fail;refine bodyPost_ret (results_none rfl _ _ _) rfl ?_;have hx:=dG H.2.1 (i:=65) (v:=.int .i64 (-1));exact⟨rfl,.inl ⟨H.1,cell_of hx (by have:=H.2.2;simp[this])⟩,ei.cell rfl⟩
 ·have m1:w.cell? ⟨M,1,none⟩=some (.iface 208 (.pointer (some ⟨L,0,none⟩))):=dF mQ _ _ (cell_of hM rfl);have f1:L<I:=ai hL.lt X0;have f2:E<I:=ai hL.gu X0;replace hL:=hL.below mQ;have H:=Fp hl hI gJ hL f1 f2;clear hl hM h hI hL f1 f2 gJ mQ;go_enter func98,ntmps98;go_wp2_with fail;refine dP (λw'=>w'=w.drew) [(true,0),(true,1),(true,2),(true,3),(true,4),(true,5),(true,6),(true,7),(true,8),(true,9),(true,10),(true,11)] (by kernel_rfl) (by kernel_rfl) rfl (λhHeld=> ?_);iterate 12
   refine dL (v:= ?_) rfl (λ_ _ _ h=>h) (by rfl) ?_ hHeld ?_;rotate_left
   ·rintro _ rfl;go_simp
    try with_reducible rfl
   simp only[Act.put,iX]
  refine dX rfl ?_;clear hHeld;go_upto_region 4 with fail
  have kY:=dG (dG (dG H.2.1 (i:=1) (v:=.iface 208 (.pointer (some ⟨L,0,none⟩)))) (i:=2) (v:=.int .i64 0)) (i:=65) (v:=.int .i64 0);have gP:ei (λb=>b=I) w (((w.setCell ⟨I,1,none⟩ (.iface 208 (.pointer (some ⟨L,0,none⟩)))).setCell ⟨I,2,none⟩ (.int .i64 0)).setCell ⟨I,65,none⟩ (.int .i64 0)).drew:=(((ei.cell (S:=λb=>b=I) rfl).store _ rfl).store _ rfl).then (ei.grown (by go_grown))
  have hit:Iter (((w.setCell ⟨I,1,none⟩ (.iface 208 (.pointer (some ⟨L,0,none⟩)))).setCell ⟨I,2,none⟩ (.int .i64 0)).setCell ⟨I,65,none⟩ (.int .i64 0)).drew I L 0 0:=⟨_,kY,by simp[H.2.2.1],by simp[H.2.2.1],by simp[H.2.2.1]⟩;obtain⟨W3,kl⟩:=dS (((w.setCell ⟨I,1,none⟩ (.iface 208 (.pointer (some ⟨L,0,none⟩)))).setCell ⟨I,2,none⟩ (.int .i64 0)).setCell ⟨I,65,none⟩ (.int .i64 0)).drew;rw[<-kl]at gP hit⊢;have HC:=eo (f139 I L 0 W3 hit) gP;clear gP hit kY kl;go_wp2_with fail;refine HC.1.mono ?_;rintro e w4 ⟨rfl,h1,h2⟩;have H4:=eo h1 h2;clear h1 h2;go_wp2_with fail
  first|(go_end0;skip)|refine bodyPost_ret (results_none rfl _ _ _) rfl ?_
  have hc:=HC.2.then H4.2;have a1:=H.2.2.2.2.1;have a2:=H.2.2.2.2.2;exact⟨rfl,.inr ⟨H.1,L,E,c,H.2.2.2.1.fo hc (by omega) (by omega),H4.1,by omega,by omega⟩,hc⟩
theorem f48 (M:Nat) (l:List (List UInt8)) (w:World) (h:SMap w M l):Calls prog 48 #[.pointer (some ⟨M,0,none⟩)] w λe w'=>e=.returned (.pointer (some ⟨w.heap.size,0,none⟩))/\Bx w' w.heap.size l/\Below w.heap.size w w':=by
 have hz:(Tryz.zeroCells206.setIfInBounds 0 (Value.pointer (some ⟨M,0,none⟩))).size=66:=by rw[cT];kernel_rfl
 have gD:(Tryz.zeroCells206.setIfInBounds 0 (Value.pointer (some ⟨M,0,none⟩)))[0]? =some (.pointer (some ⟨M,0,none⟩)):=by rw[cn,if_pos rfl,if_pos (by rw[cT]at hz;omega)]
 have hC:=f98 w.heap.size M l (Tryz.zeroCells206.setIfInBounds 0 (.pointer (some ⟨M,0,none⟩))) w (w.alloc (.cells (Tryz.zeroCells206.setIfInBounds 0 (.pointer (some ⟨M,0,none⟩))) 206)) h (by go_grown) (af _) (heap_alloc_new _ _) hz gD;have jq:Below w.heap.size w (w.alloc (.cells (Tryz.zeroCells206.setIfInBounds 0 (.pointer (some ⟨M,0,none⟩))) 206)):=by go_grown
 have HC:=eo hC jq;clear hC jq hz gD h;go_enter func48,ntmps48;go_wp2_with fail;refine HC.1.mono ?_;rintro e w2 ⟨rfl,h1,h2⟩;have H2:=eo h1 h2;clear h1 h2;go_wp2_with fail;go_ret;exact⟨rfl,H2.1,HC.2.trans (H2.2.below HC.2.size λb e=>by rw[e];exact af _)⟩
def sp:List (List UInt8)->List Value
 | []=>[]
 |k::l=>.int .i64 0:: .string (sk k):: .int .i64 0::sp l
theorem C2:∀a b,sp (a++b)=sp a++sp b
 | [],b=>rfl
 |k::a,b=>by simp only[aJ,sp,C2 a b]
theorem C1:∀l,(sp l).length=l.length*3
 | []=>rfl
 |k::l=>by simp only[sp,aH,C1 l];omega
theorem Tryz.Rx:(prog.info? 39).map (λi=>(i.zero,i.size,i.bytes))=some (some (.agg #[.int .i64 0,.string ⟨#[]⟩,.int .i64 0]),3,32):=by kernel_rfl
def Left (w:World) (I j:Nat) (l:List (List UInt8)):Prop:=(l.length<=j/\w.cell? ⟨I,65,none⟩=some (.int .i64 (-1)))\/(j<l.length/\∃L E c,jQ w L E l c/\Iter w I L j 0/\L<I/\E<I)
theorem Bx.left (h:Bx w I l):Left w I 0 l:=by
 rcases h with⟨rfl,h⟩|⟨h0,h⟩
 ·exact .inl ⟨af _,h⟩
 ·exact .inr ⟨bG.2 h0,h⟩
theorem Left.below {w':World} {j:Nat} (h:Left w I j l) (hI:I<w.heap.size) (hb:Below w.heap.size w w'):Left w' I j l:=by
 rcases h with⟨h1,h2⟩|⟨h1,L,E,c,h2,h3,h4⟩
 ·exact .inl ⟨h1,dF hb _ _ h2⟩
 ·exact .inr ⟨h1,L,E,c,h2.below hb,h3.same (hb.block I hI),h4⟩
theorem f47 (I:Nat) (l:List (List UInt8)) (w:World) (h:Bx w I l) (hI:I<w.heap.size) (hlen:l.length<=1000):Calls prog 47 #[.agg #[.func (.func 53) #[] #[],.func (.func 54) #[] #[],.func (.func 56) #[] #[]],.pointer (some ⟨I,0,none⟩)] w λe w'=>∃v B,e=.returned v/\w.heap.size<=B/\w'.ownsRow B 39 3 v l.length (sp l)/\ei (λb=>b=I) w w':=by
 obtain⟨i0,hi,gD,gB,gF⟩:=info_parts Tryz.Rx;obtain⟨n,hn⟩:=dS l.length;rw[<-hn]at hlen⊢;have H:=jS h hI hn;have HZ:=sW hi gD gB gF;clear h hI hn hi gD gB gF;go_enter func47,ntmps47;go_wp2_with fail;obtain⟨W0,pV⟩:=dS (w.alloc (.cells #[.func (.func 53) #[] #[],.func (.func 54) #[] #[],.func (.func 56) #[] #[]] 73));have Fq:W0.heap[w.heap.size]? =some (.cells #[.func (.func 53) #[] #[],.func (.func 54) #[] #[],.func (.func 56) #[] #[]] 73):=by rw[pV];exact heap_alloc_new _ _
 have mQ:Below w.heap.size w W0:=by rw[pV];go_grown
 have qQ:W0.heap.size=w.heap.size+1:=by rw[pV,ab]
 rw[<-pV];have H0:=jS Fq mQ qQ;clear Fq mQ qQ pV;obtain⟨X,hX⟩:=dS w.heap.size;rw[<-hX]at H0⊢;have TU:=aa hX;clear hX;go_loopg [5] n (λk s5 wr=>∃j:Nat,k=n-j/\j<=n/\Hid (ei (λb=>b=I) W0 wr/\wr.ownsRow W0.heap.size 39 3 s5 j (sp (l.take j))/\Left wr I j l))
 case atStart=>exact⟨0,rfl,aU _,aa ⟨ei.refl _ _,⟨rfl,.inl ⟨rfl,rfl⟩⟩,H.1.left.below H.2.1 (by have:=H0.out;rw[TU.out]at this;exact this.2.1)⟩⟩
 case round=>
  obtain⟨j,rfl,hj,HJ⟩:=hrel;by_cases gM:j<n
  ·obtain⟨L,E,c,hL,hit,XV,X4⟩:∃L E c,jQ wr L E l c/\Iter wr I L j 0/\L<I/\E<I:=by
    rcases HJ.2.2 with⟨h1,_⟩|⟨_,h2⟩
    ·have:=H.2.2;omega
    ·exact h2
   obtain⟨k,hk⟩:∃k,l[j]? =some k:=⟨_,ah (by rw[<-H.2.2];exact gM)⟩;have Co:=aa (f51 I 0 wr hit.cells.2.2.1);have jx:=aa (f97 I L E c j l k wr hit hL hk (by omega) (by omega));have hIw:I<W0.heap.size:=ai H.2.1 (by have:=H0.2.2;have:=TU.out;omega);have SH:X≠I:=(by have:=H.2.1;have:=TU.out;omega);have HL:=Fp hL hk XV X4 hIw SH;obtain⟨a5,c5,Jn,_,_⟩:=d' HJ.2.1;subst Jn;clear hL hit hk XV X4 hIw SH;go_wp2_with fail;refine Co.mono ?_;rintro e w1 ⟨rfl,rfl⟩;go_wp2_with fail;refine jx.mono ?_;rintro e w2 ⟨rfl,h1,h2⟩;have qI:w2.heap[X]? =some (.cells #[.func (.func 53) #[] #[],.func (.func 54) #[] #[],.func (.func 56) #[] #[]] 73):=((HJ.1.then h2).same X (by have:=H0.2.2;omega) HL.2.2.2.2.2).trans H0.1;have y2:w2.cell? ⟨X,2,none⟩=some (.func (.func 56) #[] #[]):=cell_of qI rfl;have qC:=aa (f56 (sk k) 0 w2);obtain⟨K,hK⟩:=dS (sk k);rw[<-hK]at qC⊢;have H2:=jS h1 h2 hK;clear h1 h2 qI hK;go_wp2_with fail;refine qC.mono ?_;rintro e w3 ⟨rfl,gQ⟩;have H3:=aa gQ;clear gQ;have gO:(w3.alloc (.cells #[.int .i64 0,.string K,.int .i64 0] 39)).ownsRow W0.heap.size 39 3 (.slice a5 j c5) j (sp (l.take j)):=by have eR:=HJ.2.1.lt;refine(dI HJ.2.1 λg hg=> ?_).alloc _;have gT:=eR g hg;exact(H3.block g (ai gT.2 H2.2.1.size)).trans (H2.2.1.same g gT.2 (by have:=HL.2.2.2.2.1;omega))
   have xC:=aa gO;clear gO;go_wp2_with (at_builtin;refine wpList_append_own _ rfl (.tmp 18) (.tmp 24) 35 rfl W0.heap.size 39 i0 (.agg #[.int .i64 0,.string ⟨#[]⟩,.int .i64 0]) 3 32 underlying35 HZ.1 HZ.2.1 HZ.2.2.1 HZ.2.2.2 rfl (by decide) (.slice a5 j c5) j _ rfl xC.out ⟨w3.heap.size,0,none⟩ 1 1 [.int .i64 0,.string K,.int .i64 0] rfl rfl ?c1 ?c2 ?c3 ?c4 ?c5 ?c6)
   case c1=>
    intro i v hv
    match i,hv with
    |0,hv=>simp at hv;subst hv;exact cell_of (heap_alloc_new w3 _) rfl
    |1,hv=>simp at hv;subst hv;exact cell_of (heap_alloc_new w3 _) rfl
    |2,hv=>simp at hv;subst hv;exact cell_of (heap_alloc_new w3 _) rfl
    |i+3,hv=>simp at hv
   case c2=>intro v hv;simp only[az,ba,or_false]at hv;rcases hv with rfl|rfl|rfl<;>rfl
   case c3=>unfold maxLen;omega
   case c4=>omega
   case c5=>rw[ab];have:=H3.size;have:=H2.2.1.size;have:=HJ.1.size;omega
   case c6=>
    intro v' w5 ho hg _;have jF:Below w3.heap.size w3 (w3.alloc (.cells #[.int .i64 0,.string K,.int .i64 0] 39)):=by go_grown
    have hIg:∀g,(Value.slice a5 j c5).ownBlock=some g->g≠I:=λg hg=>by have:=(HJ.2.1.lt g hg).1;have:=HL.2.2.2.2.1;omega
    have h3s:w2.heap.size<=w3.heap.size:=H3.size;have Z7:I<w2.heap.size:=ai HL.2.2.2.2.1 (ao HJ.1.size H2.2.1.size);obtain⟨q1,q2,q3,q4,q5⟩:=hg;have gP:ei (λb=>b=I) W0 w5:=by
     have sw:ei (λb=>b=I) W0 (w3.alloc (.cells #[.int .i64 0,.string K,.int .i64 0] 39)):=((HJ.1.then H2.2.1).then (ei.grown H3.out)).then (ei.grown jF)
     refine⟨q1.trans sw.os,q2.trans sw.tape,q3.trans sw.output,ao sw.size q4,λb hb hn=> ?_⟩;refine(q5 b (ai hb sw.size) λe=> ?_).trans (sw.same b hb hn);have:=(HJ.2.1.lt b e.symm).1;omega
    have xS:Left w5 I (j+1) l:=by
     have Dp:=H2.1;unfold I6 at Dp;have Sz:w5.heap[I]? =w2.heap[I]? :=(q5 I (by rw[ab];omega) λe=>hIg I e.symm rfl).trans ((jF.block I (by omega)).trans (H3.block I Z7));split at Dp
     ·rename_i eR;refine .inr ⟨eR,L,E,c,?_,Dp.same Sz,HL.2.2.1,HL.2.2.2.1⟩;have Qc:jQ w2 L E l c:=HL.1.fo H2.2.1 (by have:=HL.2.2.1;omega) (by have:=HL.2.2.2.1;omega);have EH:=(Qc.below H3.out).below jF;have SK:=q5 E EH.gu λe=>by have:=(HJ.2.1.lt E e.symm).1;have:=HL.2.2.2.1;have:=HL.2.2.2.2.1;omega
      exact⟨(q5 L EH.lt λe=>by have:=(HJ.2.1.lt L e.symm).1;have:=HL.2.2.1;have:=HL.2.2.2.2.1;omega).trans EH.head,λi kk tG=>⟨(aF SK).trans (EH.ir i kk tG).1,(aF SK).trans (EH.ir i kk tG).2⟩,EH.cap,EH.small,ai EH.gu q4⟩
     ·rename_i eR;obtain⟨x,hx⟩:=Dp;exact .inl ⟨by omega,(hx.same Sz).cells.2.2.1⟩
    have HO:=jS ho gP xS;clear ho gP xS q1 q2 q3 q4 q5 jF hIg;go_wp2_with fail;go_roundg (n- (j+1))
    case measure=>omega
    case rel=>exact⟨j+1,rfl,by omega,aa ⟨HO.2.1,by have h1:=HO.1;rw[H2.2.2]at h1;rw[ca,HL.2.1,C2];exact h1,HO.2.2⟩⟩
  ·have iT:wr.cell? ⟨I,65,none⟩=some (.int .i64 (-1)):=by
    rcases HJ.2.2 with⟨_,h1⟩|⟨h1,_⟩
    ·exact h1
    ·have:=H.2.2;omega
   have Co:=aa (f51 I (-1) wr iT);clear iT;go_wp2_with fail;refine Co.mono ?_;rintro e w1 ⟨rfl,rfl⟩;go_wp2_with fail;go_ret;have AB:j=n:=by omega
   have h2:=HJ.2.1;rw[AB,aP (by rw[H.2.2];exact af _)]at h2;exact⟨_,W0.heap.size,rfl,by have:=H0.2.2;have:=TU.out;omega,h2,(ei.grown (by have:=H0.out;rw[TU.out]at this;exact this.2.1)).then HJ.1⟩
end Go.Proofs.YtfejflhgaphilaaGreatDoor
