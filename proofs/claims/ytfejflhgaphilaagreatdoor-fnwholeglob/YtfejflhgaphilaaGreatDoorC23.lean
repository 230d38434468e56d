/- The least length of what a tree matches, and the text that it must end with. The least length of what a tree matches, read off memory. The longest common end of two texts, walked. -/
import Derived.Test.YtfejflhgaphilaaGreatDoorC15
import Derived.Test.YtfejflhgaphilaaGreatDoorC03
import Derived.Test.YtfejflhgaphilaaGreatDoorC22
import Derived.Test.YtfejflhgaphilaaGreatDoorC09
import Derived.Test.YtfejflhgaphilaaGreatDoorC00
import Derived.Test.YtfejflhgaphilaaGreatDoorC10
set_option linter.all false
set_option maxRecDepth 100000
set_option maxHeartbeats 64000000
open Go.Proofs.Tryz
namespace Go.Proofs.YtfejflhgaphilaaGreatDoor
open Gm
mutual
def ed:T->Nat
 |.text t=>(enc t).length
 |.char _=>1
 |.range _ _ _=>1
 |.set _ _=>1
 |.pre t _=>(enc t).length
 |.eP t _=>(enc t).length
 |.dN p q _=>(enc p).length+(enc q).length
 |.cont t=>(enc t).length
 |.dH l=>qi 0 l
 |.alt l=>Gx l
 |.eh l=>Gx l
 |_=>0
def qi:Nat->List T->Nat
 |n,[]=>n
 |n,t::ts=>qi (n+ed t) ts
def Gx:List T->Nat
 | []=>0
 |t::ts=>wX (ed t) ts
def wX:Nat->List T->Nat
 |n,[]=>n
 |n,t::ts=>wX (min n (ed t)) ts
end
theorem Er:∀(l:List T) (n:Nat),wX n l<=n/\∀t∈l,wX n l<=ed t
 | [],n=>by simp[wX]
 |t::ts,n=>by
  obtain⟨h1,h2⟩:=Er ts (min n (ed t));simp only[wX];refine⟨by omega,λu hu=> ?_⟩;rcases az.1 hu with rfl|hu
  ·omega
  ·exact h2 u hu
theorem LJ (l:List T) (t:T) (h:t∈l):Gx l<=ed t:=by
 cases l with
 |nil=>simp at h
 |cons u us=>
  simp only[Gx];obtain⟨h1,h2⟩:=Er us (ed u);rcases az.1 h with rfl|h
  ·exact h1
  ·exact h2 t h
theorem KJ (c:Nat):1<=(e1 c).length:=(ec c).1
theorem rP (c:dE) (b:List dE):(enc (c::b)).length=(e1 c).length+(enc b).length:=by simp[enc]
mutual
theorem wY:∀(t:T) (r r':List dE),D t r r'->ed t+(enc r').length<=(enc r).length
 |.text t,r,r',h=>by simp only[D]at h;subst h;simp[ed]
 |.char _,r,r',h=>by simp only[D]at h;obtain⟨c,rfl,_⟩:=h;have:=KJ c;rw[rP];simp only[ed];omega
 |.range _ _ _,r,r',h=>by simp only[D]at h;obtain⟨c,rfl,_⟩:=h;have:=KJ c;rw[rP];simp only[ed];omega
 |.set _ _,r,r',h=>by simp only[D]at h;obtain⟨c,rfl,_⟩:=h;have:=KJ c;rw[rP];simp only[ed];omega
 |.star _ _ _,r,r',h=>by simp only[D]at h;obtain⟨u,rfl,_⟩:=h;simp[ed]
 |.void,r,r',h=>by simp only[D]at h;subst h;simp[ed]
 |.pre t _,r,r',h=>by simp only[D]at h;obtain⟨rfl,u,rfl,_⟩:=h;simp[ed,enc]
 |.eP t _,r,r',h=>by simp only[D]at h;obtain⟨rfl,u,rfl,_⟩:=h;simp[ed,enc]
 |.dN p q _,r,r',h=>by simp only[D]at h;obtain⟨rfl,u,rfl,_⟩:=h;simp[ed,enc]
 |.cont t,r,r',h=>by simp only[D]at h;obtain⟨rfl,u,v,rfl⟩:=h;simp[ed,enc];omega
 |.dH l,r,r',h=>by simp only[D]at h;simp only[ed];have:=LH l 0 r r' h;omega
 |.alt l,r,r',h=>by simp only[D]at h;simp only[ed];exact Am l r r' (λt ht=>LJ l t ht) h
 |.eh l,r,r',h=>by simp only[D]at h;obtain⟨rfl,h⟩:=h;simp only[ed];exact Am l r [] (λt ht=>LJ l t ht) h
theorem LH:∀(l:List T) (n:Nat) (r r':List dE),Ds l r r'->qi n l+(enc r').length<=n+(enc r).length
 | [],n,r,r',h=>by simp only[Ds]at h;subst h;simp[qi]
 |t::ts,n,r,r',h=>by simp only[Ds]at h;obtain⟨m,h1,h2⟩:=h;have:=wY t r m h1;have:=LH ts (n+ed t) m r' h2;simp only[qi];omega
theorem Am:∀(l:List T) (r r':List dE) {k:Nat},(∀t∈l,k<=ed t)->Da l r r'->k+(enc r').length<=(enc r).length
 | [],r,r',_,_,h=>by simp[Da]at h
 |t::ts,r,r',k,hk,h=>by
  simp only[Da]at h;rcases h with h|h
  ·have:=wY t r r' h;have:=hk t (cd ..);omega
  ·exact Am ts r r' (λu hu=>hk u (bJ _ hu)) h
end
def jv:List dE->List dE->List dE
 |a::av,b::bs=>if a=b then a::jv av bs else[]
 |_,_=>[]
theorem pQ:∀(a b:List dE),jv a b<+:a/\jv a b<+:b
 | [],b=>by simp[jv]
 |_::_,[]=>by simp[jv]
 |a::av,b::bs=>by
  simp only[jv];split
  ·rename_i h;subst h;obtain⟨h1,h2⟩:=pQ av bs;exact⟨List.cons_prefix_cons.2 ⟨rfl,h1⟩,List.cons_prefix_cons.2 ⟨rfl,h2⟩⟩
  ·simp
def common (a b:List dE):List dE:=(jv a.reverse b.reverse).reverse
theorem oW (a b:List dE):common a b<:+a/\common a b<:+b:=by
 obtain⟨h1,h2⟩:=pQ a.reverse b.reverse;constructor
 ·rw[<-List.reverse_prefix];simpa[common]using h1
 ·rw[<-List.reverse_prefix];simpa[common]using h2
theorem Bb (b:List dE):common [] b=[]:=by simp[common,jv]
mutual
def gv:T->List dE
 |.text t=>t
 |.eP t _=>t
 |.dN _ q _=>q
 |.dH l=>jc l
 |.alt l=>DU l
 |.eh l=>DU l
 |_=>[]
def jc:List T->List dE
 | []=>[]
 |t::ts=>if ts.isEmpty then gv t else jc ts
def DU:List T->List dE
 | []=>[]
 |t::ts=>ph (gv t) ts
def ph:List dE->List T->List dE
 |s,[]=>s
 |s,t::ts=>ph (common s (gv t)) ts
end
theorem FG:∀(l:List T),ph [] l=[]
 | []=>by simp[ph]
 |t::ts=>by simp only[ph,Bb];exact FG ts
theorem xG:∀(l:List T) (s:List dE),ph s l<:+s/\∀t∈l,ph s l<:+gv t
 | [],s=>by simp[ph]
 |t::ts,s=>by
  obtain⟨h1,h2⟩:=xG ts (common s (gv t));obtain⟨c1,c2⟩:=oW s (gv t);simp only[ph];refine⟨h1.trans c1,λu hu=> ?_⟩;rcases az.1 hu with rfl|hu
  ·exact h1.trans c2
  ·exact h2 u hu
theorem xH (l:List T) (t:T) (h:t∈l):DU l<:+gv t:=by
 cases l with
 |nil=>simp at h
 |cons u us=>
  simp only[DU];obtain⟨h1,h2⟩:=xG us (gv u);rcases az.1 h with rfl|h
  ·exact h1
  ·exact h2 t h
mutual
theorem ra:∀(t:T) (r:List dE),D t r []->gv t<:+r
 |.text t,r,h=>by simp only[D]at h;subst h;simp[gv]
 |.eP t _,r,h=>by simp only[D]at h;obtain⟨_,u,rfl,_⟩:=h;exact List.suffix_append _ _
 |.dN p q _,r,h=>by simp only[D]at h;obtain⟨_,u,rfl,_⟩:=h;simp only[gv];exact⟨p++u,by simp⟩
 |.dH l,r,h=>by simp only[D]at h;simp only[gv];exact rb l r h
 |.alt l,r,h=>by simp only[D]at h;simp only[gv];exact pY l r (λt ht=>xH l t ht) h
 |.eh l,r,h=>by simp only[D,true_and]at h;simp only[gv];exact pY l r (λt ht=>xH l t ht) h
 |.char _,r,_|.range _ _ _,r,_|.set _ _,r,_|.star _ _ _,r,_|.void,r,_|.pre _ _,r,_|.cont _,r,_=>by simp[gv]
theorem rb:∀(l:List T) (r:List dE),Ds l r []->jc l<:+r
 | [],r,_=>by simp[jc]
 | [t],r,h=>by rw[ou]at h;simp only[jc,cy,if_true];exact ra t r h
 |t::u::ts,r,h=>by have ih:=rb (u::ts);rw[Ds]at h;obtain⟨m,h1,h2⟩:=h;rw[jc];simp only[cZ,aM,if_false];exact(ih m h2).trans (gL t r m h1)
theorem pY:∀(l:List T) (r:List dE) {s:List dE},(∀t∈l,s<:+gv t)->Da l r []->s<:+r
 | [],r,_,_,h=>by simp[Da]at h
 |t::ts,r,s,hs,h=>by
  simp only[Da]at h;rcases h with h|h
  ·exact(hs t (cd ..)).trans (ra t r h)
  ·exact pY ts r (λu hu=>hs u (bJ _ hu)) h
end
theorem Re (t:T) (s:List dE) (h:D t s []):ed t<=(enc s).length/\(gv t).isSuffixOf s=true:=by
 refine⟨?_,?_⟩
 ·have:=wY t s [] h;simp[enc]at this⊢;omega
 ·rw[cY];exact ra t s h
end Go.Proofs.YtfejflhgaphilaaGreatDoor
namespace Go.Proofs.YtfejflhgaphilaaGreatDoor
open Go.RowKit Gm
mutual
def iJ:T->Nat
 |.text t=>(enc t).length+1
 |.pre t _=>(enc t).length+1
 |.eP t _=>(enc t).length+1
 |.dN p q _=>(enc p).length+(enc q).length+1
 |.cont t=>(enc t).length+1
 |.dH l=>fF l+1
 |.alt l=>fF l+1
 |.eh l=>fF l+1
 |_=>1
def fF:List T->Nat
 | []=>0
 |t::l=>iJ t+fF l
end
mutual
def TJ:T->Prop
 |.dH l=>I3 l
 |.alt l=>l≠[]/\I3 l
 |.eh l=>l≠[]/\I3 l
 |_=>True
def I3:List T->Prop
 | []=>True
 |t::l=>TJ t/\I3 l
end
theorem u6:∀(l:List T) (t:T),I3 l->t∈l->TJ t
 | [],t,_,h=>by simp at h
 |u::l,t,hn,h=>by
  simp only[I3]at hn;rcases az.1 h with e|h
  ·rw[e];exact hn.1
  ·exact u6 l t hn.2 h
theorem nK:∀(l:List T) (t:T),t∈l->iJ t<=fF l
 | [],t,h=>by simp at h
 |u::l,t,h=>by
  simp only[fF];rcases az.1 h with e|h
  ·rw[e];omega
  ·have:=nK l t h;omega
theorem Ep:∀(l:List T) (n:Nat),qi n l=n+qi 0 l
 | [],n=>by simp[qi]
 |t::l,n=>by simp only[qi];rw[Ep l (n+ed t),Ep l (0+ed t)];omega
mutual
theorem qj:∀(t:T),ed t<=iJ t
 |.text t=>by simp[ed,iJ]
 |.char _=>by simp[ed,iJ]
 |.star _ _ _=>by simp[ed,iJ]
 |.range _ _ _=>by simp[ed,iJ]
 |.set _ _=>by simp[ed,iJ]
 |.void=>by simp[ed,iJ]
 |.pre t _=>by simp[ed,iJ]
 |.eP t _=>by simp[ed,iJ]
 |.dN p q _=>by simp[ed,iJ]
 |.cont t=>by simp[ed,iJ]
 |.dH l=>by simp only[ed,iJ];have:=Gv l;omega
 |.alt l=>by simp only[ed,iJ];have:=Gw l;omega
 |.eh l=>by simp only[ed,iJ];have:=Gw l;omega
theorem Gv:∀(l:List T),qi 0 l<=fF l
 | []=>by simp[qi,fF]
 |t::l=>by simp only[qi,fF];rw[Ep];have:=qj t;have:=Gv l;omega
theorem Gw:∀(l:List T),Gx l<=fF l
 | []=>by simp[Gx,fF]
 |t::l=>by simp only[Gx,fF];have:=qj t;have:=(Er l (ed t)).1;omega
end
theorem Oq {l:List T} {j a:Nat} {t:T} (h:l[j]? =some t):qi a (l.drop j)=qi (a+ed t) (l.drop (j+1)):=by rw[iu h,qi]
theorem Ot {l:List T} {j a:Nat} {t:T} (h:l[j]? =some t):wX a (l.drop j)=wX (min a (ed t)) (l.drop (j+1)):=by rw[iu h,wX]
theorem Cq {l:List T} {j:Nat} {t:T} (h:l[j]? =some t):fF (l.drop j)=iJ t+fF (l.drop (j+1)):=by rw[iu h,fF]
structure lK (w w':World):Prop where
 heap:w'.heap=w.heap
 below:Below w.heap.size w w'
theorem lK.refl (w:World):lK w w:=⟨rfl,ay _ _⟩
theorem lK.trans {w w1 w2:World} (h:lK w w1) (k:lK w1 w2):lK w w2:=⟨k.heap.trans h.heap,h.below.trans (by have:=k.below;rw[h.heap]at this;exact this)⟩
theorem lK.drew (w:World):lK w w.drew:=⟨rfl,by go_grown⟩
theorem lK.tr {w w':World} (h:lK w w') {B:Nat} {t:T} {v:Value} {F:List Nat} (k:Tr w B t v F):Tr w' B t v F:=Tr.keep (λb _=>by rw[h.heap]) t v F k λb _=>by rw[h.heap]
theorem lK.trl {w w':World} (h:lK w w') {B:Nat} {l:List T} {us:List Value} {F:List Nat} (k:eW w B l us F):eW w' B l us F:=eW.keep (λb _=>by rw[h.heap]) l us F k λb _=>by rw[h.heap]
theorem lK.isl {w w':World} (h:lK w w') {v:Value} {us:List Value} {bl:List Nat} (k:oI w v us bl):oI w' v us bl:=k.keep λb _=>by rw[h.heap]
def lO (t:T):Prop:=∀(w:World) (B:Nat) (v:Value) (F:List Nat),Tr w B t v F->iJ t<=4000000000000000000->TJ t->Calls prog 121 #[v] w λe w'=>e=.returned (.int .i64 (ed t:Nat))/\lK w w'
theorem Pf (t:List dE):lO (.text t):=by
 intro w B v F h hw ha;simp only[Tr]at h;obtain⟨b,rfl,_,hb⟩:=h;simp only[iJ]at hw;have c0:w.cell? ⟨b,0,none⟩=some (.string (bs t)):=by simp[World.cell?,hb]
 have z0:=dQ t;obtain⟨n0,xb⟩:=dS (enc t).length;rw[<-xb]at z0;have HN:=aa (xb);clear hb hw ha xb;have gw:=il (.pointer (some ⟨b,0,none⟩));go_enter func121,ntmps121;go_wp2_with fail;go_ret;exact⟨by simp only[ed];rw[<-HN.out,<-z0];rfl,lK.refl _⟩
theorem Pk (sep:List dE):lO (.char sep):=by intro w B v F h hw ha;simp only[Tr]at h;obtain⟨b,vs,rfl,dU⟩:=h;clear dU hw ha;have gw:=kQ (.pointer (some ⟨b,0,none⟩));have t247:=NZ (.pointer (some ⟨b,0,none⟩));have zF:=NY (.pointer (some ⟨b,0,none⟩));have zE:=NW (.pointer (some ⟨b,0,none⟩));go_enter func121,ntmps121;go_wp2_with fail;go_ret;exact⟨rfl,lK.refl _⟩
theorem Ph (sep nx:List dE) (tm:Bool):lO (.star sep nx tm):=by intro w B v F h hw ha;simp only[Tr]at h;obtain⟨b,vs,rfl,dU⟩:=h;clear dU hw ha;have gw:=iQ (.pointer (some ⟨b,0,none⟩));have t247:=NT (.pointer (some ⟨b,0,none⟩));have zF:=NS (.pointer (some ⟨b,0,none⟩));have zE:=NR (.pointer (some ⟨b,0,none⟩));have pg:=CV (.pointer (some ⟨b,0,none⟩));have pX:=CU (.pointer (some ⟨b,0,none⟩));have lA:=wq (.pointer (some ⟨b,0,none⟩));have QI:=NQ (.pointer (some ⟨b,0,none⟩));have eH:=iP (.pointer (some ⟨b,0,none⟩));have yn:=CW (.pointer (some ⟨b,0,none⟩));have fu:=l7 (.pointer (some ⟨b,0,none⟩));go_enter func121,ntmps121;go_wp2_with fail;go_ret;exact⟨rfl,lK.refl _⟩
theorem Kz (lo hi:Int) (neg:Bool):lO (.range lo hi neg):=by intro w B v F h hw ha;simp only[Tr]at h;obtain⟨b,rfl,dU⟩:=h;clear dU hw ha;have gw:=kM (.pointer (some ⟨b,0,none⟩));have t247:=ND (.pointer (some ⟨b,0,none⟩));have zF:=NC (.pointer (some ⟨b,0,none⟩));have zE:=NB (.pointer (some ⟨b,0,none⟩));go_enter func121,ntmps121;go_wp2_with fail;go_ret;exact⟨rfl,lK.refl _⟩
theorem Ta (cs:List dE) (neg:Bool):lO (.set cs neg):=by intro w B v F h hw ha;simp only[Tr]at h;obtain⟨b,mb,rfl,dU⟩:=h;clear dU hw ha;have gw:=kK (.pointer (some ⟨b,0,none⟩));have t247:=Ny (.pointer (some ⟨b,0,none⟩));have zF:=Nx (.pointer (some ⟨b,0,none⟩));have zE:=Nw (.pointer (some ⟨b,0,none⟩));go_enter func121,ntmps121;go_wp2_with fail;go_ret;exact⟨rfl,lK.refl _⟩
theorem Pe:lO (.void):=by intro w B v F h hw ha;simp only[Tr]at h;obtain⟨u,rfl,dU⟩:=h;clear dU hw ha;have gw:=l6 u;have t247:=NP u;have zF:=NN u;have zE:=NM u;have pg:=wm u;have pX:=wk u;have lA:=wj u;have QI:=CR u;have eH:=jW u;have yn:=CS u;have fu:=l5 u;go_enter func121,ntmps121;go_wp2_with fail;go_ret;exact⟨rfl,lK.refl _⟩
theorem Tb (t sep:List dE):lO (.pre t sep):=by
 intro w B v F h hw ha;simp only[Tr]at h;obtain⟨b,rfl,_,hb⟩:=h;simp only[iJ]at hw;have c0:w.cell? ⟨b,0,none⟩=some (.string (bs t)):=by simp[World.cell?,hb]
 have z0:=dQ t;obtain⟨n0,xb⟩:=dS (enc t).length;rw[<-xb]at z0;have HN:=aa (xb);clear hb hw ha xb;have gw:=kH (.pointer (some ⟨b,0,none⟩));have t247:=Nq (.pointer (some ⟨b,0,none⟩));have zF:=Np (.pointer (some ⟨b,0,none⟩));have zE:=Nn (.pointer (some ⟨b,0,none⟩));have pg:=vU (.pointer (some ⟨b,0,none⟩));go_enter func121,ntmps121;go_wp2_with fail;go_ret;exact⟨by simp only[ed];rw[<-HN.out,<-z0];rfl,lK.refl _⟩
theorem S9 (t sep:List dE):lO (.eP t sep):=by
 intro w B v F h hw ha;simp only[Tr]at h;obtain⟨b,rfl,_,hb⟩:=h;simp only[iJ]at hw;have c0:w.cell? ⟨b,0,none⟩=some (.string (bs t)):=by simp[World.cell?,hb]
 have z0:=dQ t;obtain⟨n0,xb⟩:=dS (enc t).length;rw[<-xb]at z0;have HN:=aa (xb);clear hb hw ha xb;have gw:=kF (.pointer (some ⟨b,0,none⟩));have t247:=Ni (.pointer (some ⟨b,0,none⟩));have zF:=Nh (.pointer (some ⟨b,0,none⟩));have zE:=Ng (.pointer (some ⟨b,0,none⟩));have pg:=vS (.pointer (some ⟨b,0,none⟩));have pX:=vR (.pointer (some ⟨b,0,none⟩));go_enter func121,ntmps121;go_wp2_with fail;go_ret;exact⟨by simp only[ed];rw[<-HN.out,<-z0];rfl,lK.refl _⟩
theorem Iy (p q sep:List dE):lO (.dN p q sep):=by
 intro w B v F h hw ha;simp only[Tr]at h;obtain⟨b,rfl,_,hb⟩:=h;simp only[iJ]at hw;have c0:w.cell? ⟨b,0,none⟩=some (.string (bs p)):=by simp[World.cell?,hb]
 have z0:=dQ p;have c1:w.cell? ⟨b,1,none⟩=some (.string (bs q)):=by simp[World.cell?,hb]
 have z1:=dQ q;obtain⟨n0,xb⟩:=dS (enc p).length;rw[<-xb]at z0;obtain⟨n1,tF⟩:=dS (enc q).length;rw[<-tF]at z1;have nZ:IntKind.i64.wrap ((n0:Int)+(n1:Int))=((n0+n1:Nat):Int):=by rw[aW]<;>omega
 have HN:=eo xb tF;clear hb hw ha xb tF;have gw:=kE (.pointer (some ⟨b,0,none⟩));have t247:=Nd (.pointer (some ⟨b,0,none⟩));have zF:=Nc (.pointer (some ⟨b,0,none⟩));have zE:=Nb (.pointer (some ⟨b,0,none⟩));have pg:=vQ (.pointer (some ⟨b,0,none⟩));have pX:=vP (.pointer (some ⟨b,0,none⟩));have lA:=vO (.pointer (some ⟨b,0,none⟩));go_enter func121,ntmps121;go_wp2_with fail;refine dP (λw'=>w'.cell? ⟨b,0,none⟩=some (.string (bs p))/\w'.cell? ⟨b,1,none⟩=some (.string (bs q))) [(true,0),(true,1),(true,2),(true,3),(true,4),(true,5),(true,6),(true,7),(true,8),(true,9),(true,10)] (by kernel_rfl) (by kernel_rfl) ⟨c0,c1⟩ (λhHeld=> ?_);iterate 11
  refine dL (v:= ?_) rfl (λ_ _ _ h=>h) (by rfl) ?_ hHeld ?_;rotate_left
  ·intro w hSw;(try dsimp only at hSw);go_simp
   try with_reducible rfl
  simp only[Act.put,iX]
 refine dX rfl ?_;clear hHeld;go_wp2_with fail;go_ret;exact⟨by simp only[ed];rw[<-HN.1,<-HN.2];rfl,lK.drew _⟩
theorem Pj (t:List dE):lO (.cont t):=by
 intro w B v F h hw ha;simp only[Tr]at h;obtain⟨b,rfl,_,hb⟩:=h;simp only[iJ]at hw;have c0:w.cell? ⟨b,0,none⟩=some (.string (bs t)):=by simp[World.cell?,hb]
 have z0:=dQ t;obtain⟨n0,xb⟩:=dS (enc t).length;rw[<-xb]at z0;have HN:=aa (xb);clear hb hw ha xb;have gw:=kD (.pointer (some ⟨b,0,none⟩));have t247:=M9 (.pointer (some ⟨b,0,none⟩));have zF:=M8 (.pointer (some ⟨b,0,none⟩));have zE:=M7 (.pointer (some ⟨b,0,none⟩));have pg:=vN (.pointer (some ⟨b,0,none⟩));have pX:=vM (.pointer (some ⟨b,0,none⟩));have lA:=vK (.pointer (some ⟨b,0,none⟩));have QI:=Cw (.pointer (some ⟨b,0,none⟩));go_enter func121,ntmps121;go_wp2_with fail;go_ret;exact⟨by simp only[ed];rw[<-HN.out,<-z0];rfl,lK.refl _⟩
theorem KA (l:List T) (hM:∀t∈l,lO t):lO (.dH l):=by
 intro w B v F h hw ha;simp only[Tr]at h;obtain⟨sv,us,bl,G,rfl,_,h1,h2⟩:=h;obtain⟨a,c,rfl⟩:=h1.len;have ic:=eW.length l us G h2;obtain⟨n,hn⟩:=dS us.length;have kr:=h1.small;rw[<-hn]at kr h1⊢;have sq:n<=9223372036854775807:=by unfold maxLen at kr;omega
 simp only[iJ]at hw;simp only[TJ]at ha;have HM:=aa hM;have HN:=eo hn ic;have HH:=eo h1 h2;have HW:=eo hw ha;have HZ0:Hid (qi 0 (l.drop 0)=ed (.dH l)/\0+fF (l.drop 0)<=4000000000000000000):=aa ⟨by simp[ed],by simp;omega⟩;have gw:=l0 (.slice a n c);have t247:=NL (.slice a n c);have zF:=NJ (.slice a n c);have zE:=NI (.slice a n c);have pg:=wi (.slice a n c);have pX:=wg (.slice a n c);have lA:=we (.slice a n c);have QI:=CQ (.slice a n c);have eH:=ij (.slice a n c);clear hn ic hM h1 h2 kr hw ha;go_enter func121,ntmps121;go_wp2_with fail;go_loopg [2,79] n (λk s2 s79 wr=>∃j m:Nat,k=n-j/\s2=.int .i64 m/\s79=.int .i64 j/\j<=n/\Hid (lK w wr)/\Hid (qi m (l.drop j)=ed (.dH l)/\m+fF (l.drop j)<=4000000000000000000))
 case atStart=>exact⟨0,0,rfl,rfl,rfl,aU _,aa (lK.refl _),HZ0⟩
 case round=>
  obtain⟨j,m,rfl,rfl,rfl,hj,Fv,HJ⟩:=hrel;by_cases gM:j<n
  ·have kY:=gW ((j:Int)+1) (by omega);have jA:decide ((j:Int)<(n:Int))=true:=by simp;omega
   have Dt:=Fv.trl HH.2;obtain⟨u,hu⟩:∃u,us[j]? =some u:=⟨us[j]'(by rw[<-HN.1];exact gM),ah _⟩;obtain⟨t,F1,ht,ll,_⟩:=eW.at l us G j u Dt hu;obtain⟨b,o,cap,he,_,eB⟩:=(Fv.isl HH.1).cell hu;simp only[au]at he;obtain⟨rfl,qJ,rfl⟩:=he;clear qJ;have i1:(0:Int)<=(j:Int):=by omega
   have i2:(j:Int)<(n:Int):=(by omega);have kt:=bm ht;have HC:=aa (HM.out t kt wr B u F1 ll (by have:=nK l t kt;have:=HW.1;omega) (u6 l t HW.2 kt));have hd:=HJ.out;rw[Oq ht,Cq ht]at hd;have Uy:=qj t;obtain⟨q,hq⟩:=dS (ed t);rw[<-hq]at HC hd Uy;have mN:IntKind.i64.wrap ((m:Int)+(q:Int))=((m+q:Nat):Int):=(by rw[aW]<;>omega);have HD:Hid (qi (m+q) (l.drop (j+1))=ed (.dH l)/\(m+q)+fF (l.drop (j+1))<=4000000000000000000):=aa ⟨hd.1,by omega⟩;obtain⟨m2,VP⟩:=dS (m+q);rw[<-VP]at mN HD;clear ht hu ll Dt kt hd Uy hq VP;go_wp2_with fail;refine HC.mono ?_;rintro e w1 ⟨rfl,kR⟩;have oL:=aa kR;clear kR;go_wp2_with fail;go_roundg (n- (j+1))
   case measure=>omega
   case rel=>exact⟨j+1,m2,rfl,rfl,rfl,by omega,aa (Fv.trans oL.out),HD⟩
  ·have jA:decide ((j:Int)<(n:Int))=false:=(by simp;omega);have HD:Hid (m=ed (.dH l)):=aa (by
    have:=HJ.1;rw[aL (by rw[<-HN.2,<-HN.1];omega)]at this;simpa[qi]using this)
   go_wp2_with fail;go_ret;exact⟨by rw[<-HD.out];rfl,Fv.out⟩
theorem Iz (l:List T) (hM:∀t∈l,lO t):lO (.alt l):=by
 intro w B v F h hw ha;simp only[Tr]at h;obtain⟨sv,us,bl,G,rfl,_,h1,h2⟩:=h;obtain⟨a,c,rfl⟩:=h1.len;have ic:=eW.length l us G h2;obtain⟨n,hn⟩:=dS us.length;have kr:=h1.small;rw[<-hn]at kr h1⊢;have sq:n<=9223372036854775807:=by unfold maxLen at kr;omega
 simp only[iJ]at hw;simp only[TJ]at ha;have xb:0<n:=by rw[hn,ic];exact bG.2 ha.1
 obtain⟨u0,Y9⟩:∃u,us[0]? =some u:=⟨us[0]'(by omega),ah _⟩;obtain⟨t0,F0,Zb,nh,_⟩:=eW.at l us G 0 u0 h2 Y9;rw[hn]at h1;obtain⟨b,o,cap,he,_,Kf⟩:=h1.cell Y9;have Ht:n<=c:=by
  rcases h1 with⟨e,_⟩|⟨b',o',oY,cs,e,_,_,_,h5,_⟩
  ·rw[e]at hn;simp at hn;omega
  ·simp only[au]at e;rw[hn];omega
 rw[<-hn]at h1 he;simp only[au]at he;obtain⟨rfl,_,rfl⟩:=he;rw[bL]at Kf;have rz:=bm Zb;have HC0:=aa (hM t0 rz w B u0 F0 nh (by have:=nK l t0 rz;omega) (u6 l t0 ha.2 rz));have UH:=eo Zb (qj t0);have HM:=aa hM;have HN:=eo hn ic;have HH:=eo h1 h2;have HW:=eo hw ha.2;have i7:(1:Int)<=(n:Int):=by omega
 have i8:(n:Int)<=(c:Int):=by omega
 have i9:(0:Int)<(n:Int):=by omega
 obtain⟨k1,uF⟩:=dS (n-1);have HK1:=aa uF;have Hh:k1<=9223372036854775807:=by omega
 have sY:n-1=k1:=uF.symm;have gw:=kO (.slice (some ⟨b,o,none⟩) n c);have t247:=NH (.slice (some ⟨b,o,none⟩) n c);have zF:=NG (.slice (some ⟨b,o,none⟩) n c);have zE:=NF (.slice (some ⟨b,o,none⟩) n c);have pg:=wb (.slice (some ⟨b,o,none⟩) n c);have pX:=vZ (.slice (some ⟨b,o,none⟩) n c);have lA:=vY (.slice (some ⟨b,o,none⟩) n c);have QI:=CN (.slice (some ⟨b,o,none⟩) n c);have eH:=kN (.slice (some ⟨b,o,none⟩) n c);have yn:=CO (.slice (some ⟨b,o,none⟩) n c);have fu:=jV (.slice (some ⟨b,o,none⟩) n c);have j7:c=1\/c≠1:=by omega
 clear hn ic hM h1 h2 kr hw ha Zb Y9 nh rz uF;obtain⟨m0,hm0⟩:=dS (ed t0);rw[<-hm0]at HC0 UH;have HM0:=aa hm0;clear hm0;have HA:Hid (wX m0 (l.drop 1)=ed (.alt l)):=aa (by
  have e:l=t0::l.drop 1:=by have:=iu UH.1;simpa using this
  rw[ed];generalize hd:l.drop 1=r at e⊢;rw[e,Gx,HM0.out])
 have HL:Hid (l.length=n):=aa (by rw[<-HN.2,<-HN.1]);have HMB:Hid (m0<=4000000000000000000):=aa (by have:=UH.2;have:=nK l t0 (bm UH.1);have:=HW.1;omega);rcases j7 with j7|j7
 ·have tF:n=1:=by omega
  have vC:k1=0:=by omega
  subst j7 tF vC;go_enter func121,ntmps121;go_wp2_with fail;refine HC0.mono ?_;rintro e w0 ⟨rfl,qQ⟩;have KT:=aa qQ;clear qQ;go_wp2_with fail;go_loopg [2,105] 0 (λk s2 YH wr=>k=0/\s2=.int .i64 m0/\YH=.int .i64 0/\wr=w0)
  case atStart=>exact⟨rfl,rfl,rfl,rfl⟩
  case round=>obtain⟨rfl,rfl,rfl,rfl⟩:=hrel;have HD:Hid (m0=ed (.alt l)):=aa (by have:=HA.out;rw[aL (by rw[HL.out];omega)]at this;simpa[wX]using this);go_wp2_with fail;go_ret;exact⟨by rw[<-HD.out];rfl,KT.out⟩
 ·go_enter func121,ntmps121;go_wp2_with fail;refine HC0.mono ?_;rintro e w0 ⟨rfl,qQ⟩;have KT:=aa qQ;clear qQ;go_wp2_with fail;go_loopg [2,105] k1 (λk s2 YH wr=>∃j m:Nat,k=k1-j/\s2=.int .i64 m/\YH=.int .i64 j/\j<=k1/\Hid (lK w wr)/\Hid (wX m (l.drop (j+1))=ed (.alt l)/\m<=4000000000000000000))
  case atStart=>exact⟨0,m0,rfl,rfl,rfl,aU _,KT,aa ⟨HA.out,HMB.out⟩⟩
  case round=>
   obtain⟨j,m,rfl,rfl,rfl,hj,Fv,HJ⟩:=hrel;by_cases gM:j<k1
   ·have kY:=gW ((j:Int)+1) (by omega);have jA:decide ((j:Int)<(k1:Int))=true:=by simp;omega
    have Dt:=Fv.trl HH.2;have Se:j+1<n:=by have:=HK1.out;omega
    obtain⟨u,hu⟩:∃u,us[j+1]? =some u:=⟨us[j+1]'(by rw[<-HN.1];exact Se),ah _⟩;obtain⟨t,F1,ht,ll,_⟩:=eW.at l us G (j+1) u Dt hu;obtain⟨b',o',oY,he,_,eB⟩:=(Fv.isl HH.1).cell hu;simp only[au,ae,aY,and_true]at he;obtain⟨⟨rfl,rfl⟩,qJ,rfl⟩:=he;rw[show o+(j+1)=o+1+j by omega]at eB;clear qJ;have i1:(0:Int)<=(j:Int):=by omega
    have i2:(j:Int)<(k1:Int):=(by omega);have kt:=bm ht;have HC:=aa (HM.out t kt wr B u F1 ll (by have:=nK l t kt;have:=HW.1;omega) (u6 l t HW.2 kt));have hd:=HJ.out;rw[Ot ht]at hd;obtain⟨q,hq⟩:=dS (ed t);rw[<-hq]at HC hd;have HMQ:=aa hd;clear ht hu ll Dt kt hd hq Se;go_wp2_with fail;refine HC.mono ?_;rintro e w1 ⟨rfl,kR⟩;have oL:=aa kR;clear kR;go_wp2_with fail;go_roundg (k1- (j+1))
    case measure=>omega
    case rel=>exact⟨j+1,min m q,rfl,congrArg (Value.int .i64) (by omega),rfl,by omega,aa (Fv.trans oL.out),aa ⟨HMQ.1,by have:=HMQ.2;omega⟩⟩
   ·have jA:decide ((j:Int)<(k1:Int))=false:=(by simp;omega);have HD:Hid (m=ed (.alt l)):=aa (by
     have:=HJ.1;rw[aL (by rw[HL.out];have:=HK1.out;omega)]at this;simpa[wX]using this)
    go_wp2_with fail;go_ret;exact⟨by rw[<-HD.out];rfl,Fv.out⟩
theorem Pg (l:List T) (hM:∀t∈l,lO t):lO (.eh l):=by intro w B v F h hw ha;simp only[Tr]at h;obtain⟨sv,us,bl,G,rfl,hF,h1,h2⟩:=h;have HC:=aa (Iz l hM w B (.iface 265 sv) F (by simp only[Tr];exact⟨sv,us,bl,G,rfl,hF,h1,h2⟩) (by simpa[iJ]using hw) (by simpa[TJ]using ha));have gw:=kI sv;have t247:=Nt sv;have zF:=Ns sv;have zE:=Nr sv;have pg:=vX sv;have pX:=vW sv;have lA:=vV sv;have QI:=CC sv;have eH:=jU sv;have yn:=CD sv;clear hF h1 h2 hw ha;go_enter func121,ntmps121;go_wp2_with fail;refine HC.mono ?_;rintro e w1 ⟨rfl,kR⟩;have oL:=aa kR;clear kR;go_wp2_with fail;go_ret;exact⟨rfl,oL.out⟩
mutual
theorem Ro:∀(t:T),lO t
 |.text t=>Pf t
 |.char sep=>Pk sep
 |.star sep nx tm=>Ph sep nx tm
 |.range lo hi neg=>Kz lo hi neg
 |.set cs neg=>Ta cs neg
 |.void=>Pe
 |.pre t sep=>Tb t sep
 |.eP t sep=>S9 t sep
 |.dN p q sep=>Iy p q sep
 |.cont t=>Pj t
 |.dH l=>KA l (zd l)
 |.alt l=>Iz l (zd l)
 |.eh l=>Pg l (zd l)
theorem zd:∀(l:List T),∀t∈l,lO t
 | [],t,h=>by simp at h
 |u::l,t,h=>by
  rcases az.1 h with e|h
  ·rw[e];exact Ro u
  ·exact zd l t h
end
theorem oo {x:UInt8} (h:ru x):Lib.runeStartB x=false:=by unfold ru at h;unfold Lib.runeStartB;rw[h];rfl
theorem QN {x:UInt8} (h:¬ru x):Lib.runeStartB x=true:=by unfold ru at h;unfold Lib.runeStartB;simpa using h
theorem kU (a l:List UInt8) (i:Nat):(a++l).getD (a.length+i) 0=l.getD i 0:=by rw[bI,bI,aR (by omega)];congr 2;omega
theorem Tz {c:Nat} (hc:¬c<0x80):2<=(e1 c).length:=by
 unfold e1;rw[if_neg hc];split
 ·simp
 split<;>simp
theorem BU (a:List UInt8) {c:Nat} (h:mz c) (hc:¬c<0x80):Lib.lastStart (a++e1 c)=a.length:=by
 obtain⟨b,l,he,hb,hl⟩:=zo h;have h1:=Tz hc;have h2:=(ec c).2;rw[he]at h1 h2⊢;have hs:=QN hb
 match l,hl,h1,h2 with
 | [x],hl,_,_=>have e:(a++[b,x]).length=a.length+2:=(by simp);unfold Lib.lastStart;simp only[e];rw[if_neg (by omega),show a.length+2-2=a.length+0 by omega,kU,dg,if_pos hs];omega
 | [x,y],hl,_,_=>have e:(a++[b,x,y]).length=a.length+3:=(by simp);have hx:=oo (hl x (by simp));unfold Lib.lastStart;simp only[e];rw[if_neg (by omega),show a.length+3-2=a.length+1 by omega,kU];simp only[List.getD_cons_succ,dg,hx,aM,if_false];rw[if_neg (by omega),show a.length+3-3=a.length+0 by omega,kU,dg,if_pos hs];omega
 | [x,y,z],hl,_,_=>have e:(a++[b,x,y,z]).length=a.length+4:=(by simp);have hx:=oo (hl x (by simp));have hy:=oo (hl y (by simp));unfold Lib.lastStart;simp only[e];rw[if_neg (by omega),show a.length+4-2=a.length+2 by omega,kU];simp only[List.getD_cons_succ,dg,hy,aM,if_false];rw[if_neg (by omega),show a.length+4-3=a.length+1 by omega,kU];simp only[List.getD_cons_succ,dg,hx,aM,if_false];rw[if_neg (by omega),show a.length+4-4=a.length+0 by omega,kU,dg,if_pos hs];omega
 | [],_,h1,_=>simp at h1
 |_::_::_::_::_,_,_,h2=>simp at h2
theorem Ba (a:List UInt8) {c:Nat} (h:mz c):Lib.decodeLastL (a++e1 c)=(c,(e1 c).length):=by
 have eK:a++e1 c≠[]:=by intro e;exact X' c (List.append_eq_nil_iff.1 e).2
 unfold Lib.decodeLastL;rw[if_neg eK];by_cases hc:c<0x80
 ·have e:e1 c=[UInt8.ofNat c]:=by unfold e1;rw[if_pos hc]
  have hl:(a++e1 c).length-1=a.length+0:=by rw[e];simp
  rw[hl,kU,e,dg,ofNat_toNat (by omega),if_pos (by omega)];rfl
 ·obtain⟨b,l,he,hb,hl⟩:=zo h;have h1:=Tz hc;have gG:∃x∈l,(a++e1 c).getD ((a++e1 c).length-1) 0=x:=by
   rw[he]at h1⊢;simp only[aH]at h1;obtain⟨n,hn⟩:∃n,l.length=n+1:=⟨l.length-1,by omega⟩;refine⟨l[n]'(by omega),List.getElem_mem _,?_⟩;rw[show(a++b::l).length-1=a.length+(n+1)by simp;omega,kU,List.getD_cons_succ,bI,ah (by omega)];rfl
  obtain⟨x,hx,hxe⟩:=gG;have hxc:=hl x hx;unfold ru at hxc;rw[hxe,if_neg (by omega),BU a h hc];have hd:(a++e1 c).drop a.length=e1 c:=by simp
  rw[hd];have:=nJ h (e1 c) [] 0 (by simp);unfold Lib.decodeL;simp only[this];rw[if_pos (by simp)]
theorem IU (c d:dE) (a b:List dE):common (a++[c]) (b++[d])=if c=d then common a b++[c]else[]:=by simp only[common,List.reverse_append,List.reverse_cons,List.reverse_nil,bw,aJ,jv];split<;>simp
theorem xu (a:List dE):common a []=[]:=by unfold common;cases a.reverse<;>simp[jv]
theorem Below.less {m n:Nat} {w w':World} (h:Below n w w') (hm:m<=n):Below m w w':=⟨h.os,h.tape,h.output,h.size,λb hb=>h.block b (ai hb hm)⟩
theorem MD (p s:List dE):(bs (p++s)).extract 0 ((enc p).length)=bs p:=by apply fC;rw[Lib.extract_data,eE,eE,dR];simp
theorem Wj (p s:List dE):(bs (p++s)).extract ((enc p).length) ((enc (p++s)).length)=bs s:=by apply fC;rw[Lib.extract_data,eE,eE,dR];simp
theorem DY {p:List dE} (h:p≠[]):∃q c,p=q++[c]:=⟨p.dropLast,p.getLast h,(cV h).symm⟩
theorem Mz {p:List dE} (h:p≠[]):0<(enc p).length:=by obtain⟨q,c,rfl⟩:=DY h;have:=(ec c).1;simp;omega
theorem f157 (p:List dE) (c:dE) (w:World) (hc:mz c) (hl:(enc (p++[c])).length<=9223372036854775807) (hT:fE w):Calls prog 157 #[.string (bs (p++[c]))] w λe w'=>e=.returned (.tuple #[.int .i32 (c:Nat),.int .i64 ((e1 c).length:Nat)])/\Below w.heap.size w w':=by
 have h:=Tryz.utf8_DecodeLastRuneInString (bs (p++[c])) w (by rw[dQ];exact hl) hT.qN;rw[eE,dR]at h;have e:enc [c]=e1 c:=by simp
 rw[e,Ba _ hc]at h;exact h
theorem f163 (a b:List dE) (w:World) (hT:fE w) (ha:dV a) (hb:dV b) (hla:(enc a).length<=4000000000000000000) (OM:(enc b).length<=4000000000000000000):Calls prog 163 #[.string (bs a),.string (bs b)] w λe w'=>e=.returned (.string (bs (common a b)))/\Below w.heap.size w w':=by
 obtain⟨na,Qa⟩:=dS (enc a).length;obtain⟨nb,XF⟩:=dS (enc b).length;obtain⟨Z,hZ⟩:=dS (common a b);rw[<-hZ];have za:(bs a).size=na:=by rw[dQ,Qa]
 have zb:(bs b).size=nb:=by rw[dQ,XF]
 have hla':na<=4000000000000000000:=by omega
 have hlb':nb<=4000000000000000000:=by omega
 have HA:=rr ha hb Qa XF hT;have H0:Hid (a=a++[]/\b=b++[]/\Z=common a b++[]/\(enc ([]:List dE)).length=0):=aa ⟨by simp,by simp,by simp[hZ],rfl⟩;clear ha hb Qa XF hT hla OM hZ;go_enter func163,ntmps163;go_wp2_with fail;go_loopg [5] a.length (λk s5 wr=>∃(pa pb s:List dE) (z:Nat),k=pa.length/\s5=.int .i64 z/\Hid (Below w.heap.size w wr)/\Hid (a=pa++s/\b=pb++s/\Z=common pa pb++s/\(enc s).length=z))
 case atStart=>exact⟨a,b,[],0,rfl,rfl,aa (ay _ _),H0⟩
 case round=>
  obtain⟨pa,pb,s,z,hk,rfl,HB,HJ⟩:=hrel;subst hk;obtain⟨da,UA⟩:=dS (enc pa).length;obtain⟨db,XR⟩:=dS (enc pb).length;have hsa:na=da+z:=by rw[HA.2.2.1,HJ.1,dR,aj,<-UA,HJ.2.2.2]
  have Mi:nb=db+z:=by rw[HA.2.2.2.1,HJ.2.1,dR,aj,<-XR,HJ.2.2.2]
  have ea:(bs a).extract 0 da=bs pa:=by rw[HJ.1,UA,MD]
  have es:(bs a).extract da na=bs s:=by have:=Wj pa s;rw[<-HJ.1,<-HA.2.2.1,<-UA]at this;exact this
  have eb:(bs b).extract 0 db=bs pb:=by rw[HJ.2.1,XR,MD]
  have hwa:IntKind.i64.wrap ((na:Int)- (z:Int))=(da:Int):=by rw[aW]<;>omega
  have hwb:IntKind.i64.wrap ((nb:Int)- (z:Int))=(db:Int):=by rw[aW]<;>omega
  have i1:(0:Int)<=(da:Int):=by omega
  have i2:(da:Int)<=(na:Int):=by omega
  have i3:(0:Int)<=(db:Int):=by omega
  have i4:(db:Int)<=(nb:Int):=by omega
  have HD:=sW UA XR hsa Mi;by_cases ow:pa=[]
  ·have Ho:da=0:=(by rw[UA,ow];rfl);have eR:decide (z<na)=false:=decide_eq_false (by omega);have HZ:Hid (Z=s):=aa (by rw[HJ.2.2.1,ow,Bb];rfl);clear ow Ho UA XR hsa Mi;go_wp2_with fail;go_ret;exact⟨by rw[HZ.out];try rfl,HB.out⟩
  ·have eR:decide (z<na)=true:=decide_eq_true (by have:=Mz ow;omega);by_cases Zt:pb=[]
   ·have Ho:db=0:=(by rw[XR,Zt];rfl);have hlt2:decide (z<nb)=false:=decide_eq_false (by omega);have HZ:Hid (Z=s):=aa (by rw[HJ.2.2.1,Zt,xu];rfl);clear ow Zt Ho UA XR hsa Mi;go_wp2_with fail;go_ret;exact⟨by rw[HZ.out];try rfl,HB.out⟩
   ·have hlt2:decide (z<nb)=true:=decide_eq_true (by have:=Mz Zt;omega);obtain⟨qa,c,rfl⟩:=DY ow;obtain⟨qb,d,rfl⟩:=DY Zt;have hoc:mz c:=HA.1 c (by rw[HJ.1];simp);have hod:mz d:=HA.2.1 d (by rw[HJ.2.1];simp);have hTw:fE wr:=HA.2.2.2.2.below (B:=w.heap.size) HB.out (af _);have HC:=aa (f157 qa c wr hoc (by omega) hTw);have jx:=aa (λw1 (h:Below wr.heap.size wr w1)=>f157 qb d w1 hod (by omega) (hTw.below (B:=wr.heap.size) h (af _)));have mX:=HJ.2.2.1;rw[IU]at mX;obtain⟨wc,hwc⟩:=dS (e1 c).length;have Mc:wc+z<=na:=by
     rw[dR,aj]at UA;have:(enc [c]).length=wc:=by rw[hwc];simp
     omega
    rw[<-hwc]at HC;by_cases XS:c=d
    ·subst XS;rw[if_pos rfl]at mX;rw[<-hwc]at jx;have hww:IntKind.i64.wrap ((z:Int)+(wc:Int))=((z+wc:Nat):Int):=by rw[aW]<;>omega
     have HN:Hid (a=qa++(c::s)/\b=qb++(c::s)/\Z=common qa qb++(c::s)/\(enc (c::s)).length=z+wc):=aa ⟨by rw[HJ.1];simp,by rw[HJ.2.1];simp,by rw[mX];simp,by rw[et,aj,HJ.2.2.2,hwc];omega⟩;obtain⟨z2,gF⟩:=dS (z+wc);rw[<-gF]at hww HN;clear ow Zt UA XR hsa Mi hoc hod hTw mX hwc Mc gF;go_wp2_with fail;refine HC.mono ?_;rintro e w1 ⟨rfl,eu⟩;have qC:=aa (jx.out w1 eu);have o4:=aa (HB.trans (Below.less eu HB.size));clear eu;go_wp2_with fail;refine qC.mono ?_;rintro e w2 ⟨rfl,eT⟩;have jR:=aa (o4.trans (Below.less eT o4.size));clear eT;go_wp2_with fail;go_roundg qa.length
     case measure=>simp
     case rel=>exact⟨qa,qb,c::s,z2,rfl,rfl,jR,HN⟩
    ·rw[if_neg XS]at mX;have eK:(((c:Nat):Int)==((d:Nat):Int))=false:=by
      rw[beq_eq_false_iff_ne];intro e;exact XS (dC e)
     have HZ:Hid (Z=s):=aa (by rw[mX];rfl);obtain⟨wd',hwd'⟩:=dS (e1 d).length;rw[<-hwd']at jx;clear ow Zt UA XR hsa Mi hoc hod hTw mX hwc Mc hwd';go_wp2_with fail;refine HC.mono ?_;rintro e w1 ⟨rfl,eu⟩;have qC:=aa (jx.out w1 eu);have o4:=aa (HB.trans (Below.less eu HB.size));clear eu;go_wp2_with fail;refine qC.mono ?_;rintro e w2 ⟨rfl,eT⟩;have jR:=aa (o4.trans (Below.less eT o4.size));clear eT;go_wp2_with fail;go_ret;exact⟨by rw[HZ.out];try rfl,jR.out⟩
end Go.Proofs.YtfejflhgaphilaaGreatDoor
