/- A star matches. A set of characters matches. How a tree of a pattern lies in memory, and what keeps it. How a tree of a pattern lies in memory while it is made: each block belongs to one item. -/
import Derived.Test.YtfejflhgaphilaaGreatDoorC07
import Derived.Test.YtfejflhgaphilaaGreatDoorC03
import Derived.Maps.OwnSet
import Derived.Maps.OwnOps
import Derived.Handy
set_option linter.all false
set_option maxRecDepth 100000
set_option maxHeartbeats 64000000
open Go.Proofs.Tryz
namespace Go.Proofs.YtfejflhgaphilaaGreatDoor
open Go.RowKit Gm
theorem Oo (r:List dE):gC r (some r)=.tuple #[.int .i64 0,.bool true]:=by
 simp only[gC];have:((enc r).length:Int)- ((enc r).length:Int)=0:=by omega
 rw[this]
theorem Oa (sep r:List dE):((enc r).length:Int)- ((enc (r.dropWhile λc=> !sep.contains c)).length:Int)=(enc (iy sep r)).length:=by
 have:enc r=enc (iy sep r)++enc (r.dropWhile λc=> !sep.contains c):=by rw[<-dR,iy,List.takeWhile_append_dropWhile]
 rw[this,aj];omega
section
variable {w:World} {B sp tot:Nat} {S:SV} {txt:List dE} {st:St}
theorem X7 (b:Nat) (vs:Value) (sep nx r:List dE) (c0 c1 c2 c3 c4 c5:Value) (w:World) (hS:tQ w b vs sep nx true) (zi:dV sep) (hr:dV r) (hl:(enc r).length<=1000000):Calls prog 253 #[.pointer (some ⟨b,0,none⟩),.agg #[c0,c1,c2,c3,c4,c5],.string (bs r)] w λe w'=>e=.returned (gC r (some (r.dropWhile λc=> !sep.contains c)))/\Below w.heap.size w w':=by have Mf:=hS.below ((ay w.heap.size w).alloc (af _) (.cells #[c0,c1,c2,c3,c4,c5] 151)) (af _);have h3:=Mf.c3;simp only[gC];rw[Oa];go_enter func253,ntmps253;go_wp2_with fail;refine(f255 b sep r _ zi hr hl Mf.c1).mono ?_;rintro e w1 ⟨rfl,eu⟩;go_wp2_with fail;go_ret2;exact⟨rfl,((ay _ _).alloc (af _) _).trans (eu.mono (by simp))⟩
def nQ (x:Ctx) (st:St) (sep nx:List dE):List dE->St
 | []=>st
 |c::r'=>if nx.isEmpty then(if sep.contains c then st else eJ x st r' sep.isEmpty)else qm x st sep nx (c::r')
theorem KQ (x:Ctx) (st:St) (sep nx r:List dE):M (.star sep nx false) x r st=(some r,nQ x st sep nx r):=by
 cases r with
 |nil=>simp[M,nQ]
 |cons c r=>simp only[M,nQ,qm];cases h:nx.isEmpty<;>simp<;>rfl
theorem f253 (b:Nat) (vs:Value) (sep nx r:List dE) (x:Ctx) (vp:Value) (kd:Int) (hT:fE w) (hs:eY w B sp S txt tot st) (hp:eF w vp x.path) (nG:PL sp S vp) (kT:x.floor<=st.stars.length) (ht:tot+x.depth+1<=1000000000000) (hS:tQ w b vs sep nx false) (ez:dV txt) (hr:r<:+txt) (zi:dV sep) (Mg:sep.length<=100000) (hn:dV nx) (hl:(enc txt).length<=1000000) (q7:(enc nx).length<=1000000):Calls prog 253 #[.pointer (some ⟨b,0,none⟩),.agg #[.int .i64 (off txt r),vp,.int .i64 x.depth,.pointer (some ⟨sp,0,none⟩),.int .i64 kd,.int .i64 x.floor],.string (bs r)] w λe w'=>e=.returned (gC r (some r))/\∃S',eY w' B sp S' txt (tot+x.depth+1) (nQ x st sep nx r)/\Fr w w' sp S S':=by
 have oc:dV r:=eM ez hr;have oa:(enc r).length<=(enc txt).length:=by obtain⟨u,hu⟩:=hr;rw[<-hu];simp
 obtain⟨pa,pc,rfl⟩:∃pa pc,vp=.slice pa x.path.length pc:=by obtain⟨a,c,h,_⟩:=hp;exact⟨a,c,h⟩
 have HB:Below w.heap.size w (w.alloc (.cells #[.int .i64 (off txt r),.slice pa x.path.length pc,.int .i64 x.depth,.pointer (some ⟨sp,0,none⟩),.int .i64 kd,.int .i64 x.floor] 151)):=by go_grown
 have Mf:=hS.below HB (af _);obtain⟨q0,q1,q2,q3,q4⟩:=Mf;rw[Oo];cases r with
 |nil=>have h0:(((bs []).size:Int)==0)=true:=rfl;clear q0 q1 q2 q4;go_enter func253,ntmps253;go_wp2_with fail;go_ret2;exact⟨rfl,_,(hs.keep HB).more (show tot<=tot+x.depth+1 by omega),hs.below HB⟩
 |cons c r=>
  have h0:(((bs (c::r)).size:Int)==0)=false:=by rw[beq_eq_false_iff_ne,dQ,et,aj];have:=(ec c).1;omega
  by_cases eK:nx=[]
  ·subst eK;have hnt:(bs []).toList.isEmpty=true:=by rw[ib];rfl
   have hd:=iC (r:=r) (fg oc);have mQ:b<w.heap.size:=bp w _ hS.c0;have hw:=Ly (txt:=txt) (r:=c::r) (r1:=r) (z:=off txt (c::r)) (k:=((e1 c).length:Int)) rfl (by simp) (by simp) oa hl;have HS:=aa hS;have HW:=aa hw;have oK:=aa hs;have zt:=eo hp nG;have HC:=eo kT ht;have jo:(w.alloc (.cells #[.int .i64 (off txt (c::r)),.slice pa x.path.length pc,.int .i64 x.depth,.pointer (some ⟨sp,0,none⟩),.int .i64 kd,.int .i64 x.floor] 151)).heap[w.heap.size]? =some (.cells #[.int .i64 (off txt (c::r)),.slice pa x.path.length pc,.int .i64 x.depth,.pointer (some ⟨sp,0,none⟩),.int .i64 kd,.int .i64 x.floor] 151):=heap_alloc_new _ _;have qZ:=aa jo;clear hp nG hs kT ht hS hw oa hr ez hl q7 hn zi jo q0 q1 q4;go_enter func253,ntmps253;go_wp2_with fail;refine(Tryz.utf8_DecodeRuneInString _ _ (hT.alloc _).qN).mono ?_;rintro e w1 ⟨rfl,eu⟩;rw[hd];have hB1:Below w.heap.size w w1:=HB.trans (eu.mono (by rw[ab];omega));have qV:=HS.below hB1 (af _);have q0:=qV.c0;have HBX1:=aa ((eu.block w.heap.size (by rw[ab];omega)).trans qZ.out);have Xr:=qV.rs;have o4:=aa hB1;clear hB1 qV q2 q3 eu;go_wp2_with fail;refine(f158 sep c _ _ Xr Mg).mono ?_;rintro e w2 ⟨rfl,rfl⟩;have Fa:=aa (oK.below o4.out);by_cases hm:sep.contains c=true
   ·have HJS:Hid (nQ x st sep [] (c::r)=st):=aa (by simp only[nQ,cy,if_true];exact if_pos hm);rw[hm];clear hm;go_wp2_with fail;go_ret2;exact⟨rfl,S,by rw[HJS.out];exact(oK.keep o4.out).more (show tot<=tot+x.depth+1 by omega),Fa.out⟩
   ·have HJS:Hid (nQ x st sep [] (c::r)=eJ x st r sep.isEmpty):=aa (by simp only[nQ,cy,if_true];exact if_neg hm);rw[bF.2 hm];obtain⟨y0,y1,y2,y3,y4,y5⟩:=eA HBX1.out;obtain⟨va,vc,tC⟩:∃va vc,vs=.slice va sep.length vc:=by
     rcases HS.rs with⟨h,h2⟩|⟨bb,o,cap,h,_⟩
     ·exact⟨none,0,by rw[h,h2];rfl⟩
     ·exact⟨_,_,h⟩
    rw[tC]at q0 Xr⊢;clear hm tC;go_wp2_with fail;refine ev (λw'=>w'.cell? ⟨w.heap.size,0,none⟩=some (.int .i64 (off txt (c::r)))/\w'.cell? ⟨w.heap.size,1,none⟩=some (.slice pa x.path.length pc)/\w'.cell? ⟨w.heap.size,2,none⟩=some (.int .i64 x.depth)/\w'.cell? ⟨w.heap.size,3,none⟩=some (.pointer (some ⟨sp,0,none⟩))/\w'.cell? ⟨w.heap.size,4,none⟩=some (.int .i64 kd)/\w'.cell? ⟨w.heap.size,5,none⟩=some (.int .i64 x.floor)/\w'.cell? ⟨b,0,none⟩=some (.slice va sep.length vc)) [0,1,2,3,4,5,6,7] [] (by kernel_rfl) (by kernel_rfl) ⟨y0,y1,y2,y3,y4,y5,q0⟩ (λhHeld=> ?_);iterate 8
     refine fc (v:= ?_) rfl (λ_ _ _ h=>h) (by rfl) ?_ hHeld ?_;rotate_left
     ·intro w hSw;(try dsimp only at hSw);go_simp
      try with_reducible rfl
     simp only[Act.put,iX]
    refine fe ?_;refine ff rfl ?_;go_wp2_with fail;have hse:((sep.length:Int)==0)=sep.isEmpty:=by cases sep<;>simp;omega
    rw[hse];have hP2:=zt.1.fr zt.2 Fa.out;refine(f225 x _ r _ ((e1 c).length:Int) kd sep.isEmpty (oK.keep o4.out).drew (hP2.1.lk (by go_grown)) hP2.2 HC.1 HW.out HC.2).mono ?_;rintro e w3 ⟨rfl,S',e1,e2⟩;have q8:=aa e1;have yS:=aa (oK.trans (oK.trans Fa.out ((oK.keep o4.out).below (by go_grown))) e2);clear e1 e2 hse hHeld y0 y1 y2 y3 y4 y5 q0 Xr hP2;go_wp2_with fail;go_ret2;exact⟨rfl,S',by rw[HJS.out];exact q8.out,yS.out⟩
  ·have hnt:(bs nx).toList.isEmpty=false:=(by rw[ib];cases nx with|nil=>exact(eK rfl).elim|cons d n=>rfl);have HJ:Hid (nQ x st sep nx (c::r)=qm x st sep nx (c::r)):=aa (by cases nx with|nil=>exact(eK rfl).elim|cons d n=>rfl);have F:=λwx jo=>f256 (w:=wx) (B:=B) (sp:=sp) (tot:=tot) (S:=S) (txt:=txt) (st:=st) b vs sep nx (c::r) false x (.slice pa x.path.length pc) kd (hs.keep jo) (hp.fr nG (hs.below jo)).1 nG kT ht (hS.below jo (af _)) ez hr (by simp) zi hn eK hl q7;have HF:=aa F;clear F q0 q1 q4 oc oa ez hr;go_enter func253,ntmps253;go_wp2_with fail;refine(HF.out _ HB).mono ?_;rintro e w1 ⟨rfl,S',e1,e2⟩;rw[<-HJ.out]at e1;have q8:=aa e1;have yS:=aa (hs.trans (hs.below HB) e2);clear e1 e2;go_wp2_with fail;go_ret2;exact⟨rfl,S',q8.out,yS.out⟩
end
end Go.Proofs.YtfejflhgaphilaaGreatDoor
namespace Go.Proofs.YtfejflhgaphilaaGreatDoor
open Go.RowKit Go.Maps Gm
theorem Xe:Keyed prog 21:=int_keyed underlying21
theorem UM (w:World):(zeroValue 261).run prog w=.ok (.agg #[]) w:=by kernel_rfl
def yj (w:World) (mb:Nat) (cs:List dE):Prop:=∃(n:Nat) (D:DataW Unit),w.ownsMap prog 21 unitElem mb n D/\∀c:Nat,mz c->Maps.has D (.int .i32 (c:Int))=cs.contains c
theorem yj.keep {w w':World} {mb:Nat} {cs:List dE} (h:yj w mb cs) (hb:w'.heap[mb]? =w.heap[mb]?):yj w' mb cs:=by obtain⟨n,D,⟨es,ck,h1,h2⟩,h3⟩:=h;exact⟨n,D,⟨es,ck,hb.trans h1,h2⟩,h3⟩
theorem yj.lt {w:World} {mb:Nat} {cs:List dE} (h:yj w mb cs):mb<w.heap.size:=by obtain⟨n,D,h1,_⟩:=h;exact h1.lt
theorem Xf {c:Nat} (h:mz c):keyOf prog 21 (.int .i32 (c:Int))=some (.int .i32 (c:Int)):=by
 have h0:=underlying21;have hw:(Lit.int .i32 (c:Int)).wf=true:=by
  unfold mz at h;have e1:IntKind.i32.min= -2147483648:=by decide
  have e2:IntKind.i32.max=2147483647:=by decide
  simp only[Lit.wf,e1,e2,al,decide_eq_true_eq];omega
 exact keyOf_int_mk h0 hw
theorem f299 (b mb:Nat) (cs r:List dE) (neg:Bool) (c0 c1 c2 c3 c4 c5:Value) (w:World) (hT:fE w) (hr:dV r) (hc:w.cell? ⟨b,0,none⟩=some (.map (some mb))) (j7:w.cell? ⟨b,1,none⟩=some (.bool neg)) (hs:yj w mb cs):Calls prog 299 #[.pointer (some ⟨b,0,none⟩),.agg #[c0,c1,c2,c3,c4,c5],.string (bs r)] w λe w'=>e=.returned (gC r (res (.set cs neg) r))/\Below w.heap.size w w':=by
 have eR:=bp w _ hc;cases r with
 |nil=>rw[fK rfl];have hd:=uX;go_enter func299,ntmps299;go_wp2_with fail;refine(Tryz.utf8_DecodeRuneInString _ _ (hT.alloc _).qN).mono ?_;rintro e w1 ⟨rfl,eu⟩;rw[hd];go_wp2_with fail;go_ret2;exact⟨rfl,((ay _ _).alloc (af _) _).trans (eu.mono (by simp))⟩
 |cons c r=>
  have hd:=iC (r:=r) (fg hr);have VR:=Xf (fg hr);obtain⟨x,hx⟩:=dS (gC (c::r) (res (.set cs neg) (c::r)));rw[<-hx];have HX:Hid (x=if(cs.contains c != neg)=true then .tuple #[.int .i64 ((e1 c).length:Int),.bool true]else .tuple #[.int .i64 0,.bool false]):=aa (by
   rw[hx];by_cases h:(cs.contains c != neg)=true
   ·rw[if_pos h];exact rp (by simp only[res,M];rw[if_pos h])
   ·rw[if_neg h];exact fK (by simp only[res,M];rw[if_neg h]))
  clear hx;go_enter func299,ntmps299;go_wp2_with fail;refine(Tryz.utf8_DecodeRuneInString _ _ (hT.alloc _).qN).mono ?_;rintro e w1 ⟨rfl,eu⟩;rw[hd];have q0:=dY (dJ hc _) eu (by rw[ab];omega);have q1:=dY (dJ j7 _) eu (by rw[ab];omega);have qo:=hs.lt;obtain⟨n,D,gh,hD⟩:=(hs.keep (heap_alloc_old w (.cells #[c0,c1,c2,c3,c4,c5] 151) qo)).keep (eu.block mb (by rw[ab];omega));have HD:=aa (hD c (fg hr));have he:(((e1 c).length:Int)==0)=false:=by rw[beq_eq_false_iff_ne];have:=(ec c).1;omega
  have q2:=dJ q1 (.cells #[] 261);have HB:=aa (((ay w.heap.size w).alloc (af _) (.cells #[c0,c1,c2,c3,c4,c5] 151)).trans (eu.mono (by simp)));have hle:=HB.size;clear hD eu hc j7 hs;obtain⟨m,hm⟩:=dS (cs.contains c);rw[<-hm]at HD HX;clear hm
  cases m<;>cases neg<;>(go_wp2_with (at_lookup;refine wpList_lookup_own_unit _ rfl _ _ 328 rfl 21 261 Xe underlying328 (UM _) mb n D rfl gh _ _ rfl VR ?_;rw[HD.out])
                         go_ret2;exact⟨by rw[HX.out];rfl,HB.trans ((ay w1.heap.size w1).alloc (af _) _ |>.mono hle)⟩)
end Go.Proofs.YtfejflhgaphilaaGreatDoor
namespace Go.Proofs.YtfejflhgaphilaaGreatDoor
open Go.RowKit Gm
def At (t:TypeId) (B b:Nat) (v:Value):Prop:=v=.iface t (.pointer (some ⟨b,0,none⟩))/\b<B
def lx (B:Nat) (v:Value):Prop:=∀b,v.ownBlock=some b->b<B
mutual
def Rp (w:World) (B:Nat):T->Value->Prop
 |.text t,v=>∃b,At 250 B b v/\w.cell? ⟨b,0,none⟩=some (.string (bs t))/\dV t/\(enc t).length<=1000000
 |.char sep,v=>∃b vs,At 247 B b v/\w.cell? ⟨b,0,none⟩=some vs/\ek w vs sep/\lx B vs/\sep.length<=100000
 |.star sep nx tm,v=>∃b vs,At 255 B b v/\tQ w b vs sep nx tm/\lx B vs/\dV sep/\sep.length<=100000/\dV nx/\(enc nx).length<=1000000
 |.range lo hi neg,v=>∃b,At 331 B b v/\w.cell? ⟨b,0,none⟩=some (.int .i32 lo)/\w.cell? ⟨b,1,none⟩=some (.int .i32 hi)/\w.cell? ⟨b,2,none⟩=some (.bool neg)
 |.set cs neg,v=>∃b mb,At 334 B b v/\w.cell? ⟨b,0,none⟩=some (.map (some mb))/\w.cell? ⟨b,1,none⟩=some (.bool neg)/\yj w mb cs/\mb<B
 |.void,v=>∃u,v=.iface 260 u
 |.pre t sep,v=>∃b,At 344 B b v/\w.cell? ⟨b,0,none⟩=some (.string (bs t))/\w.cell? ⟨b,1,none⟩=some (.string (bs sep))/\dV t/\dV sep
 |.eP t sep,v=>∃b,At 347 B b v/\w.cell? ⟨b,0,none⟩=some (.string (bs t))/\w.cell? ⟨b,1,none⟩=some (.string (bs sep))/\dV t/\dV sep
 |.dN p q sep,v=>∃b,At 349 B b v/\w.cell? ⟨b,0,none⟩=some (.string (bs p))/\w.cell? ⟨b,1,none⟩=some (.string (bs q))/\w.cell? ⟨b,2,none⟩=some (.string (bs sep))/\dV p/\dV q/\dV sep/\(enc p).length<=1000000/\(enc q).length<=1000000
 |.cont t,v=>∃b,At 352 B b v/\w.cell? ⟨b,0,none⟩=some (.string (bs t))/\dV t/\t≠[]/\(enc t).length<=1000000
 |.dH l,v=>∃b o cap,v=.iface 263 (.slice (some ⟨b,o,none⟩) l.length cap)/\b<B/\l.length<=1000000/\rT w B b l o
 |.alt l,v=>∃b o cap,v=.iface 265 (.slice (some ⟨b,o,none⟩) l.length cap)/\b<B/\l.length<=1000000/\rT w B b l o
 |.eh l,v=>∃b o cap,v=.iface 342 (.slice (some ⟨b,o,none⟩) l.length cap)/\b<B/\l.length<=1000000/\rT w B b l o
def rT (w:World) (B b:Nat):List T->Nat->Prop
 | [],_=>True
 |t::l,o=>(∃u,w.cell? ⟨b,o,none⟩=some u/\Rp w B t u)/\rT w B b l (o+1)
end
theorem rT.at {w:World} {B b:Nat}:∀(l:List T) (o i:Nat) (t:T),rT w B b l o->l[i]? =some t->∃u,w.cell? ⟨b,o+i,none⟩=some u/\Rp w B t u
 | [],_,_,_,_,h=>by simp at h
 |t::l,o,0,t',h,ht=>by simp only[aN,ae]at ht;subst ht;exact h.1
 |t::l,o,i+1,t',h,ht=>by
  have:=rT.at l (o+1) i t' h.2 (by simpa using ht)
  rwa [show o+1+i=o+(i+1)by omega]at this
structure Old (B:Nat) (w w':World):Prop where
 same:∀b,b<B->w'.heap[b]? =w.heap[b]?
theorem Old.cell {B:Nat} {w w':World} (h:Old B w w') {b o:Nat} (hb:b<B):w'.cell? ⟨b,o,none⟩=w.cell? ⟨b,o,none⟩:=aF (w:=w) (a:=⟨b,o,none⟩) (h.same b hb)
theorem Old.QV {B:Nat} {w w':World} (h:Old B w w') {v:Value} {rs:List dE} (hr:ek w v rs) (hv:lx B v):ek w' v rs:=by
 refine hr.keep λb hb=>⟨?_,h.same b (hv b hb)⟩;rcases hr with⟨rfl,_⟩|⟨b',o,cap,rfl,_,_,h3,_⟩
 ·simp[Value.ownBlock]at hb
 ·simp only[Value.ownBlock,ae]at hb;subst hb;have:=h.same b' (hv b' rfl);rcases aV b' w'.heap.size with h4|h4
  ·exact h4
  ·rw[aO h4,bW h3]at this;cases this
mutual
theorem Rp.keep {w w':World} {B:Nat} (h:Old B w w'):∀(t:T) (v:Value),Rp w B t v->Rp w' B t v
 |.text t,v,hp=>by obtain⟨b,h1,h2,h3⟩:=hp;exact⟨b,h1,(h.cell h1.2).trans h2,h3⟩
 |.char sep,v,hp=>by obtain⟨b,vs,h1,h2,h3,h4,h5⟩:=hp;exact⟨b,vs,h1,(h.cell h1.2).trans h2,h.QV h3 h4,h4,h5⟩
 |.star sep nx tm,v,hp=>by obtain⟨b,vs,h1,h2,h3,h4⟩:=hp;exact⟨b,vs,h1,⟨(h.cell h1.2).trans h2.c0,(h.cell h1.2).trans h2.c1,(h.cell h1.2).trans h2.c2,(h.cell h1.2).trans h2.c3,h.QV h2.rs h3⟩,h3,h4⟩
 |.range lo hi neg,v,hp=>by obtain⟨b,h1,h2,h3,h4⟩:=hp;exact⟨b,h1,(h.cell h1.2).trans h2,(h.cell h1.2).trans h3,(h.cell h1.2).trans h4⟩
 |.set cs neg,v,hp=>by obtain⟨b,mb,h1,h2,h3,h4,h5⟩:=hp;exact⟨b,mb,h1,(h.cell h1.2).trans h2,(h.cell h1.2).trans h3,h4.keep (h.same mb h5),h5⟩
 |.void,v,hp=>hp
 |.pre t sep,v,hp=>by obtain⟨b,h1,h2,h3,h4⟩:=hp;exact⟨b,h1,(h.cell h1.2).trans h2,(h.cell h1.2).trans h3,h4⟩
 |.eP t sep,v,hp=>by obtain⟨b,h1,h2,h3,h4⟩:=hp;exact⟨b,h1,(h.cell h1.2).trans h2,(h.cell h1.2).trans h3,h4⟩
 |.dN p q sep,v,hp=>by obtain⟨b,h1,h2,h3,h4,h5⟩:=hp;exact⟨b,h1,(h.cell h1.2).trans h2,(h.cell h1.2).trans h3,(h.cell h1.2).trans h4,h5⟩
 |.cont t,v,hp=>by obtain⟨b,h1,h2,h3⟩:=hp;exact⟨b,h1,(h.cell h1.2).trans h2,h3⟩
 |.dH l,v,hp=>by obtain⟨b,o,cap,h1,h2,h3,h4⟩:=hp;exact⟨b,o,cap,h1,h2,h3,rT.keep h b h2 l o h4⟩
 |.alt l,v,hp=>by obtain⟨b,o,cap,h1,h2,h3,h4⟩:=hp;exact⟨b,o,cap,h1,h2,h3,rT.keep h b h2 l o h4⟩
 |.eh l,v,hp=>by obtain⟨b,o,cap,h1,h2,h3,h4⟩:=hp;exact⟨b,o,cap,h1,h2,h3,rT.keep h b h2 l o h4⟩
theorem rT.keep {w w':World} {B:Nat} (h:Old B w w') (b:Nat) (hb:b<B):∀(l:List T) (o:Nat),rT w B b l o->rT w' B b l o
 | [],_,_=>trivial
 |t::l,o,hp=>by obtain⟨⟨u,h1,h2⟩,h3⟩:=hp;exact⟨⟨u,(h.cell hb).trans h1,Rp.keep h t u h2⟩,rT.keep h b hb l (o+1) h3⟩
end
theorem Old.ft {B:Nat} {w w':World} {n:Nat} (h:Below n w w') (hB:B<=n):Old B w w':=⟨λb hb=>h.block b (by omega)⟩
theorem Old.xM {w w':World} {B sp tot:Nat} {S S':SV} {txt:List dE} {st:St} (hs:eY w B sp S txt tot st) (h:Fr w w' sp S S'):Old B w w':=by obtain⟨l1,l2,l3,l4⟩:=hs.lt;have hB:=hs.base;exact⟨λb hb=>h.other b (by omega) (by omega) (λe=>by have:=(l2 b e).2;omega) (λe=>by have:=(l3 b e).2;omega) (λe=>by have:=(l4 b e).2;omega)⟩
structure yT (c sp:Nat) (S:SV):Prop where
 sp:c≠sp
 s:S.vs.ownBlock≠some c
 k:S.vk.ownBlock≠some c
 a:S.va.ownBlock≠some c
theorem yT.keep {c sp:Nat} {S S':SV} {w w':World} (h:yT c sp S) (hc:c<w.heap.size) (hf:Fr w w' sp S S'):yT c sp S'/\w'.heap[c]? =w.heap[c]? :=by
 refine⟨⟨h.sp,λe=> ?_,λe=> ?_,λe=> ?_⟩,hf.other c hc h.sp h.s h.k h.a⟩
 ·rcases hf.rM c e with e|e
  ·exact h.s e
  ·omega
 ·rcases hf.rN c e with e|e
  ·exact h.k e
  ·omega
 ·rcases hf.tM c e with⟨e,_⟩|e
  ·exact h.a e
  ·omega
theorem eY.free {w:World} {B sp tot:Nat} {S:SV} {txt:List dE} {st:St} (hs:eY w B sp S txt tot st) {c:Nat} (hc:w.heap.size<=c):yT c sp S:=by obtain⟨l1,l2,l3,l4⟩:=hs.lt;exact⟨by omega,λe=>by have:=(l2 c e).1;omega,λe=>by have:=(l3 c e).1;omega,λe=>by have:=(l4 c e).1;omega⟩
theorem eF.boxed {w:World} {v:Value} {p:List Nat} (h:eF w v p) {c i:Nat} {cs0:Array Value} {t:TypeId} (hb:w.heap[c]? =some (.cells cs0 t (0,0))) (ht:t≠3) (u:Value):eF (w.setCell ⟨c,i,none⟩ u) v p:=by
 obtain⟨a,cap,rfl,h1,h2,h3⟩:=h;refine⟨a,cap,rfl,h1,h2,λeK=> ?_⟩;obtain⟨b,o,rfl,hc,cs,hk⟩:=h3 eK;have OP:b≠c:=by rintro rfl;rw[hk]at hb;simp only[ae,Obj.cells.injEq]at hb;exact ht hb.2.1.symm
 have hs:=aq w ⟨c,i,none⟩ u b OP;exact⟨b,o,rfl,λj hj=>(aF (w:=w) (a:=⟨b,o+j,none⟩) hs).trans (hc j hj),cs,hs.trans hk⟩
theorem eY.boxed {w:World} {B sp tot:Nat} {S:SV} {txt:List dE} {st:St} (hs:eY w B sp S txt tot st) {c i:Nat} (hf:yT c sp S) {cs0:Array Value} {t:TypeId} (hb:w.heap[c]? =some (.cells cs0 t (0,0))) (ht:t≠3) (u:Value):eY (w.setCell ⟨c,i,none⟩ u) B sp S txt tot st:=by
 have fH:∀b,b≠c->(w.setCell ⟨c,i,none⟩ u).heap[b]? =w.heap[b]? :=λb OP=>aq w ⟨c,i,none⟩ u b OP;have gO:∀(v:Value) (ld:List Ck),(∀b,v.ownBlock=some b->b≠c)->oq w B sp S txt v ld->oq (w.setCell ⟨c,i,none⟩ u) B sp S txt v ld:=by rintro v ld hv ⟨qH,h1,h2,h3⟩;exact⟨qH,h1,dI h2 λg hg=>fH g (hv g hg),λj d pv hd hp=>⟨(h3 j d pv hd hp).1.boxed hb ht u,(h3 j d pv hd hp).2⟩⟩
 refine{hs with gu:=(fH sp (cE hf.sp)).trans hs.gu,stars:=gO _ _ (λb e OP=>hf.s (OP▸e)) hs.stars,stack:=gO _ _ (λb e OP=>hf.k (OP▸e)) hs.stack,arena:= ?_};rcases hs.arena with h|⟨b,un,cap,cs,h1,h2,h3,h4⟩
 ·exact .inl h
 ·exact .inr ⟨b,un,cap,cs,h1,h2,(fH b (λe=>hf.a (by rw[h1,<-e];rfl))).trans h3,h4⟩
theorem Fr.boxed {w w':World} {sp:Nat} {S S':SV} (h:Fr w w' sp S S') (ha:∀b,S.va.ownBlock=some b->b<w.heap.size) {c i:Nat} (hc:w.heap.size<=c) (u:Value):Fr w (w'.setCell ⟨c,i,none⟩ u) sp S S':=by have fH:∀b,b<w.heap.size->(w'.setCell ⟨c,i,none⟩ u).heap[b]? =w'.heap[b]? :=λb hb=>aq w' ⟨c,i,none⟩ u b (show b≠c by omega);refine⟨h.os,h.tape,h.output,by rw[aK];exact h.size,λb hb h1 h2 h3 h4=>(fH b hb).trans (h.other b hb h1 h2 h3 h4),λb j hb hj=>(aF (w:=w') (a:=⟨b,j,none⟩) (fH b (ha b hb))).trans (h.arena b j hb hj),λb cs hb hk=> ?_,h.rM,h.rN,h.tM⟩;obtain⟨tN,h1⟩:=h.kind b cs hb hk;exact⟨tN,(fH b (ha b hb)).trans h1⟩
mutual
def fT:T->Nat->Nat
 |.star _ _ _,d=>d+1
 |.dH l,d=>om l d
 |.alt l,d=>(d+2)+yc l d
 |.eh l,d=>rQ l d
 |_,_=>0
def om:List T->Nat->Nat
 | [],_=>0
 |t::l,d=>(d+1)+fT t (d+1)+om l d
def yc:List T->Nat->Nat
 | [],_=>0
 |t::l,d=>fT t (d+1)+yc l d
def rQ:List T->Nat->Nat
 | [],_=>0
 |t::l,d=>fT t d+rQ l d
end
mutual
def uH:T->Nat
 |.dH l=>1+uG l
 |.alt l=>1+uG l
 |.eh l=>uG l
 |_=>0
def uG:List T->Nat
 | []=>0
 |t::l=>uH t+uG l
end
theorem su:∀{l:List T} {j:Nat} {t:T},l[j]? =some t->uH t<=uG l
 | [],_,_,h=>by simp at h
 |t::l,0,t',h=>by simp only[aN,ae]at h;subst h;rw[uG];omega
 |t::l,j+1,t',h=>by have:=su (l:=l) (j:=j) (t:=t') (by simpa using h);rw[uG];omega
structure ei (S:Nat->Prop) (w w':World):Prop where
 os:w'.os=w.os
 tape:w'.tape=w.tape
 output:w'.output=w.output
 size:w.heap.size<=w'.heap.size
 same:∀b,b<w.heap.size->¬S b->w'.heap[b]? =w.heap[b]?
theorem ei.refl (S:Nat->Prop) (w:World):ei S w w:=⟨rfl,rfl,rfl,af _,λ_ _ _=>rfl⟩
theorem ei.trans {S T U:Nat->Prop} {w w1 w2:World} (h:ei S w w1) (k:ei T w1 w2) (hS:∀b,b<w.heap.size->S b->U b) (hT:∀b,b<w.heap.size->T b->U b):ei U w w2:=⟨k.os.trans h.os,k.tape.trans h.tape,k.output.trans h.output,ao h.size k.size,λb hb hn=>
                                                                                                                                                             (k.same b (ai hb h.size) λe=>hn (hT b hb e)).trans (h.same b hb λe=>hn (hS b hb e))⟩
theorem ei.mono {S T:Nat->Prop} {w w':World} (h:ei S w w') (hS:∀b,b<w.heap.size->S b->T b):ei T w w':=⟨h.os,h.tape,h.output,h.size,λb hb hn=>h.same b hb λe=>hn (hS b hb e)⟩
theorem ei.ft {S:Nat->Prop} {w w':World} {n:Nat} (h:Below n w w') (hn:∀b,b<w.heap.size->¬S b->b<n) (hz:w.heap.size<=w'.heap.size):ei S w w':=⟨h.os,h.tape,h.output,hz,λb hb hs=>h.block b (hn b hb hs)⟩
theorem ei.below {S:Nat->Prop} {w w':World} {n:Nat} (h:ei S w w') (hn:n<=w.heap.size) (hS:∀b,S b->n<=b):Below n w w':=⟨h.os,h.tape,h.output,h.size,λb hb=>h.same b (ai hb hn) λe=>by have:=hS b e;omega⟩
theorem ei.grown {S:Nat->Prop} {w w':World} (h:Below w.heap.size w w'):ei S w w':=⟨h.os,h.tape,h.output,h.size,λb hb _=>h.block b hb⟩
theorem ei.cell {S:Nat->Prop} {w:World} {b i:Nat} {v:Value} (hb:S b):ei S w (w.setCell ⟨b,i,none⟩ v):=⟨rfl,rfl,rfl,by rw[aK];exact af _,λc _ hn=>aq w ⟨b,i,none⟩ v c (λe=>hn (by subst e;exact hb))⟩
def oI (w:World) (v:Value) (us:List Value) (bl:List Nat):Prop:=(us=[]/\bl=[]/\∃a c,v=.slice a 0 c)\/∃b o cap cs,v=.slice (some ⟨b,o,none⟩) us.length cap/\bl=[b]/\w.heap[b]? =some (.cells cs 153 (0,0))/\(∀i (h:i<us.length),cs[o+i]? =some us[i])/\us.length<=cap/\cap<=maxLen
theorem oI.keep {w w':World} {v:Value} {us:List Value} {bl:List Nat} (h:oI w v us bl) (hs:∀b∈bl,w'.heap[b]? =w.heap[b]?):oI w' v us bl:=by
 rcases h with h|⟨b,o,cap,cs,h1,rfl,h3,h4⟩
 ·exact .inl h
 ·exact .inr ⟨b,o,cap,cs,h1,rfl,(hs b (by simp)).trans h3,h4⟩
theorem oI.len {w:World} {v:Value} {us:List Value} {bl:List Nat} (h:oI w v us bl):∃a c,v=.slice a us.length c:=by
 rcases h with⟨rfl,_,a,c,rfl⟩|⟨b,o,cap,cs,rfl,_⟩
 ·exact⟨a,c,rfl⟩
 ·exact⟨_,_,rfl⟩
mutual
def Tr (w:World) (B:Nat):T->Value->List Nat->Prop
 |.text t,v,F=>∃b,v=.iface 250 (.pointer (some ⟨b,0,none⟩))/\F=[b]/\w.heap[b]? =some (.cells #[.string (bs t)] 252 (0,0))
 |.char sep,v,F=>∃b vs,v=.iface 247 (.pointer (some ⟨b,0,none⟩))/\F=[b]/\w.heap[b]? =some (.cells #[vs] 249 (0,0))/\ek w vs sep/\lx B vs
 |.star sep nx tm,v,F=>∃b vs,v=.iface 255 (.pointer (some ⟨b,0,none⟩))/\F=[b]/\w.heap[b]? =some (.cells #[vs,.string (bs sep),.string (bs nx),.bool tm] 257 (0,0))/\ek w vs sep/\lx B vs
 |.range lo hi neg,v,F=>∃b,v=.iface 331 (.pointer (some ⟨b,0,none⟩))/\F=[b]/\w.heap[b]? =some (.cells #[.int .i32 lo,.int .i32 hi,.bool neg] 333 (0,0))
 |.set cs neg,v,F=>∃b mb,v=.iface 334 (.pointer (some ⟨b,0,none⟩))/\F=[b,mb]/\w.heap[b]? =some (.cells #[.map (some mb),.bool neg] 336 (0,0))/\yj w mb cs
 |.void,v,F=>∃u,v=.iface 260 u/\F=[]
 |.pre t sep,v,F=>∃b,v=.iface 344 (.pointer (some ⟨b,0,none⟩))/\F=[b]/\w.heap[b]? =some (.cells #[.string (bs t),.string (bs sep)] 346 (0,0))
 |.eP t sep,v,F=>∃b,v=.iface 347 (.pointer (some ⟨b,0,none⟩))/\F=[b]/\w.heap[b]? =some (.cells #[.string (bs t),.string (bs sep)] 348 (0,0))
 |.dN p q sep,v,F=>∃b,v=.iface 349 (.pointer (some ⟨b,0,none⟩))/\F=[b]/\w.heap[b]? =some (.cells #[.string (bs p),.string (bs q),.string (bs sep)] 351 (0,0))
 |.cont t,v,F=>∃b,v=.iface 352 (.pointer (some ⟨b,0,none⟩))/\F=[b]/\w.heap[b]? =some (.cells #[.string (bs t)] 353 (0,0))
 |.dH l,v,F=>∃sv us bl G,v=.iface 263 sv/\F=bl++G/\oI w sv us bl/\eW w B l us G
 |.alt l,v,F=>∃sv us bl G,v=.iface 265 sv/\F=bl++G/\oI w sv us bl/\eW w B l us G
 |.eh l,v,F=>∃sv us bl G,v=.iface 342 sv/\F=bl++G/\oI w sv us bl/\eW w B l us G
def eW (w:World) (B:Nat):List T->List Value->List Nat->Prop
 | [],us,F=>us=[]/\F=[]
 |t::l,us,F=>∃u fV F1 F2,us=u::fV/\F=F1++F2/\Tr w B t u F1/\eW w B l fV F2
end
theorem ek.low {w w':World} {B:Nat} {vs:Value} {sep:List dE} (h:ek w vs sep) (hB:lx B vs) (hs:∀b,b<B->w'.heap[b]? =w.heap[b]?):ek w' vs sep:=Old.QV (B:=B) ⟨hs⟩ h hB
mutual
theorem Tr.keep {w w':World} {B:Nat} (gE:∀b,b<B->w'.heap[b]? =w.heap[b]?):∀(t:T) (v:Value) (F:List Nat),Tr w B t v F->(∀b∈F,w'.heap[b]? =w.heap[b]?)->Tr w' B t v F
 |.text _,v,F,h,hs=>by simp only[Tr]at h⊢;obtain⟨b,h1,rfl,h2⟩:=h;exact⟨b,h1,rfl,(hs b (by simp)).trans h2⟩
 |.range _ _ _,v,F,h,hs=>by simp only[Tr]at h⊢;obtain⟨b,h1,rfl,h2⟩:=h;exact⟨b,h1,rfl,(hs b (by simp)).trans h2⟩
 |.pre _ _,v,F,h,hs=>by simp only[Tr]at h⊢;obtain⟨b,h1,rfl,h2⟩:=h;exact⟨b,h1,rfl,(hs b (by simp)).trans h2⟩
 |.eP _ _,v,F,h,hs=>by simp only[Tr]at h⊢;obtain⟨b,h1,rfl,h2⟩:=h;exact⟨b,h1,rfl,(hs b (by simp)).trans h2⟩
 |.dN _ _ _,v,F,h,hs=>by simp only[Tr]at h⊢;obtain⟨b,h1,rfl,h2⟩:=h;exact⟨b,h1,rfl,(hs b (by simp)).trans h2⟩
 |.cont _,v,F,h,hs=>by simp only[Tr]at h⊢;obtain⟨b,h1,rfl,h2⟩:=h;exact⟨b,h1,rfl,(hs b (by simp)).trans h2⟩
 |.char _,v,F,h,hs=>by simp only[Tr]at h⊢;obtain⟨b,vs,h1,rfl,h2,h3,h4⟩:=h;exact⟨b,vs,h1,rfl,(hs b (by simp)).trans h2,h3.low h4 gE,h4⟩
 |.star _ _ _,v,F,h,hs=>by simp only[Tr]at h⊢;obtain⟨b,vs,h1,rfl,h2,h3,h4⟩:=h;exact⟨b,vs,h1,rfl,(hs b (by simp)).trans h2,h3.low h4 gE,h4⟩
 |.set _ _,v,F,h,hs=>by simp only[Tr]at h⊢;obtain⟨b,mb,h1,rfl,h2,h3⟩:=h;exact⟨b,mb,h1,rfl,(hs b (by simp)).trans h2,h3.keep (hs mb (by simp))⟩
 |.void,v,F,h,hs=>by simpa only[Tr]using h
 |.dH l,v,F,h,hs=>by simp only[Tr]at h⊢;obtain⟨sv,us,bl,G,h1,rfl,h2,h3⟩:=h;exact⟨sv,us,bl,G,h1,rfl,h2.keep λb hb=>hs b (bu _ hb),eW.keep gE l us G h3 λb hb=>hs b (bg _ hb)⟩
 |.alt l,v,F,h,hs=>by simp only[Tr]at h⊢;obtain⟨sv,us,bl,G,h1,rfl,h2,h3⟩:=h;exact⟨sv,us,bl,G,h1,rfl,h2.keep λb hb=>hs b (bu _ hb),eW.keep gE l us G h3 λb hb=>hs b (bg _ hb)⟩
 |.eh l,v,F,h,hs=>by simp only[Tr]at h⊢;obtain⟨sv,us,bl,G,h1,rfl,h2,h3⟩:=h;exact⟨sv,us,bl,G,h1,rfl,h2.keep λb hb=>hs b (bu _ hb),eW.keep gE l us G h3 λb hb=>hs b (bg _ hb)⟩
theorem eW.keep {w w':World} {B:Nat} (gE:∀b,b<B->w'.heap[b]? =w.heap[b]?):∀(l:List T) (us:List Value) (F:List Nat),eW w B l us F->(∀b∈F,w'.heap[b]? =w.heap[b]?)->eW w' B l us F
 | [],us,F,h,hs=>by simpa only[eW]using h
 |t::l,us,F,h,hs=>by simp only[eW]at h⊢;obtain⟨u,fV,F1,F2,rfl,rfl,h1,h2⟩:=h;exact⟨u,fV,F1,F2,rfl,rfl,Tr.keep gE t u F1 h1 λb hb=>hs b (bu _ hb),eW.keep gE l fV F2 h2 λb hb=>hs b (bg _ hb)⟩
end
theorem eW.length {w:World} {B:Nat}:∀(l:List T) (us:List Value) (F:List Nat),eW w B l us F->us.length=l.length
 | [],us,F,h=>by simp only[eW]at h;rw[h.1];rfl
 |t::l,us,F,h=>by simp only[eW]at h;obtain⟨u,fV,F1,F2,rfl,rfl,h1,h2⟩:=h;simp[eW.length l fV F2 h2]
theorem eW.append {w:World} {B:Nat}:∀(a b:List T) (us vs:List Value) (F G:List Nat),eW w B a us F->eW w B b vs G->eW w B (a++b) (us++vs) (F++G)
 | [],b,us,vs,F,G,h,k=>by simp only[eW]at h;obtain⟨rfl,rfl⟩:=h;exact k
 |t::a,b,us,vs,F,G,h,k=>by simp only[eW]at h;obtain⟨u,fV,F1,F2,rfl,rfl,h1,h2⟩:=h;simp only[aJ,eW];exact⟨u,fV++vs,F1,F2++G,rfl,by rw[aD],h1,eW.append a b fV vs F2 G h2 k⟩
theorem eW.split {w:World} {B:Nat}:∀(a b:List T) (us:List Value) (F:List Nat),eW w B (a++b) us F->∃kB lP F1 F2,us=kB++lP/\F=F1++F2/\eW w B a kB F1/\eW w B b lP F2
 | [],b,us,F,h=>⟨[],us,[],F,rfl,rfl,by simp[eW],h⟩
 |t::a,b,us,F,h=>by simp only[aJ,eW]at h;obtain⟨u,fV,F1,F2,rfl,rfl,h1,h2⟩:=h;obtain⟨kB,lP,G1,G2,rfl,rfl,h3,h4⟩:=eW.split a b fV F2 h2;refine⟨u::kB,lP,F1++G1,G2,rfl,by rw[aD],?_,h4⟩;simp only[eW];exact⟨u,kB,F1,G1,rfl,rfl,h1,h3⟩
theorem eW.one {w:World} {B:Nat} {t:T} {us:List Value} {F:List Nat}:eW w B [t] us F↔∃u,us=[u]/\Tr w B t u F:=by
 simp only[eW];constructor
 ·rintro⟨u,fV,F1,F2,rfl,rfl,h1,rfl,rfl⟩;exact⟨u,rfl,by simpa using h1⟩
 ·rintro⟨u,rfl,h⟩;exact⟨u,[],F,[],rfl,by simp,h,rfl,rfl⟩
theorem qf {G1 F1 F1' G2:List Nat} {n:Nat} (h:(G1++(F1++G2)).Nodup) (eR:∀x∈G1++(F1++G2),x<n) (hn:F1'.Nodup) (hF:∀x∈F1',x∈F1\/n<=x):(G1++(F1'++G2)).Nodup:=by
 rw[aZ]at h⊢;obtain⟨h1,h2,h3⟩:=h;rw[aZ]at h2⊢;obtain⟨h4,h5,h6⟩:=h2;refine⟨h1,⟨hn,h5,λa ha b hb e=> ?_⟩,λa ha b hb e=> ?_⟩
 ·subst e;rcases hF a ha with h|h
  ·exact h6 a h a hb rfl
  ·have:=eR a (by simp[hb]);omega
 ·subst e;rcases ar.1 hb with hb|hb
  ·rcases hF a hb with h|h
   ·exact h3 a ha a (by simp[h]) rfl
   ·have:=eR a (by simp[ha]);omega
  ·exact h3 a ha a (by simp[hb]) rfl
theorem oI.set {w:World} {v:Value} {kB lP:List Value} {u:Value} {bl:List Nat} (h:oI w v (kB++u::lP) bl) (u':Value):∃b o cap,v=.slice (some ⟨b,o,none⟩) (kB++u::lP).length cap/\bl=[b]/\cap<=maxLen/\w.cell? ⟨b,o+kB.length,none⟩=some u/\w.frozen? ⟨b,o+kB.length,none⟩=false/\oI (w.setCell ⟨b,o+kB.length,none⟩ u') v (kB++u'::lP) bl:=by
 rcases h with⟨h,_⟩|⟨b,o,cap,cs,rfl,rfl,h3,h4,h5,h6⟩
 ·simp at h
 ·have hk:kB.length<(kB++u::lP).length:=by simp
  have Qd:=h4 kB.length hk;rw[di (af _)]at Qd;simp only[cO,List.getElem_cons_zero]at Qd;have eR:o+kB.length<cs.size:=(bc.1 Qd).1;refine⟨b,o,cap,rfl,rfl,h6,by simp[World.cell?,h3,Qd],by simp[World.frozen?,h3],.inr ⟨b,o,cap,_,by simp,rfl,dG h3 u',λi hi=> ?_,by simpa using h5,h6⟩⟩;rw[cn];by_cases e:i=kB.length
  ·subst e;rw[di (af _)];simp[eR]
  ·rw[if_neg (by omega)];have Sf:i<(kB++u::lP).length:=by simpa using hi
   rw[h4 i Sf];congr 1;rcases aV i kB.length with h|h
   ·rw[List.getElem_append_left h,List.getElem_append_left h]
   ·rw[di h,di h];obtain⟨j,hj⟩:∃j,i-kB.length=j+1:=⟨i-kB.length-1,by omega⟩;simp only[hj,List.getElem_cons_succ]
structure fy (w wr:World) (B:Nat) (sv:Value) (bl G0:List Nat) (done rest:List T) (us:List Value) (G:List Nat):Prop where
 row:oI wr sv us bl
 tr:eW wr B (done++rest) us G
 nodup:(bl++G).Nodup
 own:∀x∈G,x∈G0\/w.heap.size<=x
 lt:∀x∈bl++G,x<wr.heap.size
 ge:∀x∈bl++G,B<=x
 fo:ei (λb=>b∈bl\/b∈G0) w wr
theorem fy.start {w:World} {B:Nat} {sv:Value} {bl G:List Nat} {l:List T} {us:List Value} (h1:oI w sv us bl) (h2:eW w B l us G) (h3:(bl++G).Nodup) (h4:∀x∈bl++G,x<w.heap.size) (h5:∀x∈bl++G,B<=x):fy w w B sv bl G [] l us G:=⟨h1,h2,h3,λ_ hx=>.inl hx,h4,h5,ei.refl _ _⟩
theorem fy.step {w wr:World} {B:Nat} {sv:Value} {bl G0:List Nat} {done rest:List T} {t:T} {us:List Value} {G:List Nat} (h:fy w wr B sv bl G0 done (t::rest) us G) (hB:B<=w.heap.size):∃b o cap u F1,sv=.slice (some ⟨b,o,none⟩) (done.length+(rest.length+1)) cap/\cap<=maxLen/\Tr wr B t u F1/\F1.Nodup/\(∀x∈F1,x<wr.heap.size)/\(∀x∈F1,B<=x)/\b<wr.heap.size/\b∉F1/\(∀x∈F1,x∈G0\/w.heap.size<=x)/\wr.cell? ⟨b,o+done.length,none⟩=some u/\wr.frozen? ⟨b,o+done.length,none⟩=false/\∀(w':World) (t':T) (u':Value) (F':List Nat),ei (·∈F1) wr w'->Tr w' B t' u' F'->F'.Nodup->(∀x∈F',x∈F1\/wr.heap.size<=x)->(∀x∈F',x<w'.heap.size)->w'.cell? ⟨b,o+done.length,none⟩=some u/\w'.frozen? ⟨b,o+done.length,none⟩=false/\∃fV G',fy w (w'.setCell ⟨b,o+done.length,none⟩ u') B sv bl G0 (done++[t']) rest fV G':=by
 obtain⟨kB,lP,G1,G2,rfl,rfl,h1,h2⟩:=eW.split done (t::rest) us G h.tr;simp only[eW]at h2;obtain⟨u,sG,F1,F2,rfl,rfl,h3,h4⟩:=h2;have jg:=eW.length done kB G1 h1;have EH:=eW.length rest sG F2 h4;obtain⟨b,o,cap,rfl,rfl,nj,eB,vD,_⟩:=h.row.set u;have lI:=h.nodup;have eR:=h.lt;have rB:=h.ge;have R5:=lI;rw[aZ]at R5;obtain⟨_,XG,EF⟩:=R5;have hn2':=XG;rw[aZ]at hn2';obtain⟨gT,hn4,Qb⟩:=hn2';have hn4':=hn4;rw[aZ]at hn4';obtain⟨hf1,hf2,hn6⟩:=hn4';have SA:b∉F1:=λe=>EF b (by simp) b (by simp[e]) rfl;rw[jg]at eB vD;refine⟨b,o,cap,u,F1,by simp[jg,EH],nj,h3,hf1,λx hx=>eR x (by simp[hx]),λx hx=>rB x (by simp[hx]),eR b (by simp),SA,λx hx=>h.own x (by simp[hx]),eB,vD,?_⟩;intro w' t' u' F' hc mS yA V6 Sa;have gJ:wr.heap.size<=w'.heap.size:=hc.size;have xe:w'.heap[b]? =wr.heap[b]? :=hc.same b (eR b (by simp)) SA;have H':B<=wr.heap.size:=ao hB h.fo.size;refine⟨(aF (w:=wr) (a:=⟨b,o+done.length,none⟩) xe).trans eB,(dt (w:=wr) (a:=⟨b,o+done.length,none⟩) xe).trans vD,kB++u'::sG,G1++(F'++F2),?_⟩;have gO:oI w' (.slice (some ⟨b,o,none⟩) (kB++u::sG).length cap) (kB++u::sG) [b]:=h.row.keep λc pU=>by simp only[aE]at pU;subst pU;exact xe
 obtain⟨b',o',oY,e,e2,_,_,_,ni⟩:=gO.set u';simp only[au,ae,aY,and_true,true_and]at e;obtain⟨⟨rfl,rfl⟩,rfl⟩:=e;rw[jg]at ni;have gE:∀c,c<B->(w'.setCell ⟨b,o+done.length,none⟩ u').heap[c]? =wr.heap[c]? :=λc hcB=>by rw[aq _ _ _ c (show c≠b by have:=rB b (by simp);omega)];exact hc.same c (by omega) λe=>by have:=rB c (by simp[e]);omega
 have He:∀c,c<wr.heap.size->c∉F1->c≠b->(w'.setCell ⟨b,o+done.length,none⟩ u').heap[c]? =wr.heap[c]? :=λc h1 h2 h3=>by rw[aq _ _ _ c h3];exact hc.same c h1 h2
 refine⟨ni,?_,?_,?_,?_,?_,?_⟩
 ·rw[aD];refine eW.append done (t'::rest) kB (u'::sG) G1 (F'++F2) (eW.keep gE done kB G1 h1 λc mX=> ?_) ?_
  ·exact He c (eR c (by simp[mX])) (λe=>Qb c mX c (by simp[e]) rfl) (λe=>EF b (by simp) c (by simp[mX]) e.symm)
  ·simp only[eW];refine⟨u',sG,F',F2,rfl,rfl,?_,eW.keep gE rest sG F2 h4 λc mX=> ?_⟩
   ·refine Tr.keep (w:=w') (λc hcB=> ?_) t' u' F' mS λc mX=> ?_
    ·exact aq _ _ _ c (show c≠b by have:=rB b (by simp);omega)
    ·refine aq _ _ _ c (show c≠b fromλe=> ?_);subst e;rcases V6 c mX with h|h
     ·exact SA h
     ·have:=eR c (by simp);omega
   ·exact He c (eR c (by simp[mX])) (λe=>hn6 c e c mX rfl) (λe=>EF b (by simp) c (by simp[mX]) e.symm)
 ·rw[<-aD];refine qf (G1:=[b]++G1) (F1:=F1) (n:=wr.heap.size) ?_ ?_ yA V6
  ·rw[aD];exact lI
  ·rw[aD];exact eR
 ·intro x hx;rcases ar.1 hx with hx|hx
  ·exact h.own x (by simp[hx])
  ·rcases ar.1 hx with hx|hx
   ·rcases V6 x hx with h1|h1
    ·exact h.own x (by simp[h1])
    ·right;have:=h.fo.size;omega
   ·exact h.own x (by simp[hx])
 ·intro x hx;rw[aK];simp only[ar,aE]at hx;rcases hx with hx|hx|hx|hx
  ·subst hx;have:=eR x (by simp);omega
  ·have:=eR x (by simp[hx]);omega
  ·exact Sa x hx
  ·have:=eR x (by simp[hx]);omega
 ·intro x hx;simp only[ar,aE]at hx;rcases hx with hx|hx|hx|hx
  ·subst hx;exact rB x (by simp)
  ·exact rB x (by simp[hx])
  ·rcases V6 x hx with h1|h1
   ·exact rB x (by simp[h1])
   ·omega
  ·exact rB x (by simp[hx])
 ·have h5:ei (λc=>c∈F1\/c=b) wr (w'.setCell ⟨b,o+done.length,none⟩ u'):=hc.trans (ei.cell (S:=(·=b)) rfl) (λ_ _ h=>.inl h) (λ_ _ h=>.inr h);refine h.fo.trans h5 (λ_ _ h=>h) (λc ka mX=> ?_);rcases mX with mX|mX
  ·rcases h.own c (by simp[mX])with h1|h1
   ·exact .inr h1
   ·omega
  ·subst mX;left;simp
structure Rw (w w':World) (B:Nat) (F:List Nat) (t':T) (v':Value) (F':List Nat):Prop where
 tr:Tr w' B t' v' F'
 nodup:F'.Nodup
 own:∀x∈F',x∈F\/w.heap.size<=x
 lt:∀x∈F',x<w'.heap.size
 fo:ei (·∈F) w w'
structure jP (w:World) (B:Nat) (t:T) (v:Value) (F:List Nat):Prop where
 tr:Tr w B t v F
 nodup:F.Nodup
 lt:∀x∈F,x<w.heap.size
 ge:∀x∈F,B<=x
 base:B<=w.heap.size
theorem jP.rw {w:World} {B:Nat} {t:T} {v:Value} {F:List Nat} (h:jP w B t v F):Rw w w B F t v F:=⟨h.tr,h.nodup,λ_ hx=>.inl hx,h.lt,ei.refl _ _⟩
theorem fy.step' {w wr:World} {B:Nat} {sv:Value} {bl G0:List Nat} {done rest:List T} {t:T} {us:List Value} {G:List Nat} (h:fy w wr B sv bl G0 done (t::rest) us G) (hB:B<=w.heap.size):∃b o cap u F1,sv=.slice (some ⟨b,o,none⟩) (done.length+(rest.length+1)) cap/\cap<=maxLen/\jP wr B t u F1/\wr.cell? ⟨b,o+done.length,none⟩=some u/\wr.frozen? ⟨b,o+done.length,none⟩=false/\∀(w':World) (t':T) (u':Value) (F':List Nat),Rw wr w' B F1 t' u' F'->w'.cell? ⟨b,o+done.length,none⟩=some u/\w'.frozen? ⟨b,o+done.length,none⟩=false/\∃fV G',fy w (w'.setCell ⟨b,o+done.length,none⟩ u') B sv bl G0 (done++[t']) rest fV G':=by obtain⟨b,o,cap,u,F1,h1,h2,h3,h4,h5,h6,h7,h8,h9,UE,h11,Ql⟩:=h.step hB;exact⟨b,o,cap,u,F1,h1,h2,⟨h3,h4,h5,h6,ao hB h.fo.size⟩,UE,h11,λw' t' u' F' hr=>Ql w' t' u' F' hr.fo hr.tr hr.nodup hr.own hr.lt⟩
theorem fy.done {w wr:World} {B:Nat} {sv:Value} {bl G0:List Nat} {l:List T} {us:List Value} {G:List Nat} (h:fy w wr B sv bl G0 l [] us G):oI wr sv us bl/\eW wr B l us G:=by have:=h.tr;rw[bd]at this;exact⟨h.row,this⟩
end Go.Proofs.YtfejflhgaphilaaGreatDoor
