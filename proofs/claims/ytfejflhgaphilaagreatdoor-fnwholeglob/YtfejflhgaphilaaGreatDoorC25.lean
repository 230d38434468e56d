/- How big a pattern is that passes the guard, and all that the walks over its tree ask. Patterns as they lie in memory, read off what a parameter is. Texts turned into characters, and the reference's small functions on them. slices. -/
import Derived.Test.YtfejflhgaphilaaGreatDoorC18
import Derived.Test.YtfejflhgaphilaaGreatDoorC24
import Derived.Deep.Slices
import Derived.Deep.Strs
import Derived.Test.YtfejflhgaphilaaGreatDoorC06
import Derived.Laws.IdiomStrings
import Derived.Lib.MapLaws
import Derived.Lib.RuneCountTail
import Derived.Lib.QuoteLoop
import Derived.BigQuiet
import Derived.Deep.QuietTactic
import Derived.Test.YtfejflhgaphilaaGreatDoorC08
import Derived.KernelRfl
import Derived.Handy
import Derived.Lib.SliceRun
import Derived.Shelf.Slices.Clone
set_option linter.all false
set_option maxRecDepth 100000
set_option maxHeartbeats 64000000
open Go.Proofs.Tryz
namespace Go.Proofs.YtfejflhgaphilaaGreatDoor
open Go.RowKit Gm
variable {w w':World}
structure N3 where
 st:Nat
 gr:Nat
 pr:Nat
def N3.star (n:N3):N3:=⟨n.st+1,n.gr,n.pr⟩
def N3.alt (n:N3) (k:Nat):N3:=if 1<k then⟨n.st,n.gr+1,min 1000 ((if 3<k then 1000 else n.pr)*k)⟩else n
mutual
def mj:Gb->N3->N3
 |.any,n=>n.star
 |.fq,n=>n.star
 |.alt ks,n=>iG ks (n.alt ks.length)
 |.text _,n=>n
 |.one,n=>n
 |.set _ _,n=>n
 |.range _ _ _,n=>n
def fx:List Gb->N3->N3
 | [],n=>n
 |g::l,n=>fx l (mj g n)
def iG:List (List Gb)->N3->N3
 | [],n=>n
 |k::ks,n=>iG ks (fx k n)
end
mutual
def gq:Gb->Nat
 |.alt ks=>1+eU ks
 |.text _=>1
 |.any=>1
 |.fq=>1
 |.one=>1
 |.set _ _=>1
 |.range _ _ _=>1
def ey:List Gb->Nat
 | []=>0
 |g::l=>gq g+ey l
def eU:List (List Gb)->Nat
 | []=>0
 |k::ks=>ey k+eU ks
end
mutual
def kc:Gb->Prop
 |.alt ks=>iL ks
 |.text t=>(enc t).length<=100
 |.set s _=>(enc s).length<=100
 |.any=>True
 |.fq=>True
 |.one=>True
 |.range _ _ _=>True
def fU:List Gb->Prop
 | []=>True
 |g::l=>kc g/\fU l
def iL:List (List Gb)->Prop
 | []=>True
 |k::ks=>fU k/\iL ks
end
theorem N3.KL (n:N3) (k:Nat) (h1:1<=n.pr):1<=(n.alt k).pr/\((n.alt k).pr<=16->n.pr<=16/\k<=3):=by
 unfold N3.alt;split
 ·rename_i hk;simp only;split
  ·constructor
   ·have:1000<=1000*k:=cW _ (by omega);omega
   ·intro h;have:1000<=1000*k:=cW _ (by omega);omega
  ·have:n.pr<=n.pr*k:=cW _ (by omega);exact⟨by omega,λh=>⟨by omega,by omega⟩⟩
 ·exact⟨h1,λh=>⟨h,by omega⟩⟩
section
variable {S:List dE}
structure WI (n n':N3) (m:N4) (p:Nat):Prop where
 st:n'.st=n.st+m.st
 gr:n.gr<=n'.gr
 pr:1<=n'.pr
 small:n'.pr<=16->n.pr<=16/\m.pr*4^n.gr<=4^n'.gr/\m.sz<=4*p
theorem WI.add {n n1 n2:N3} {m1 m2:N4} {p1 p2:Nat} (h:WI n n1 m1 p1) (k:WI n1 n2 m2 p2):WI n n2 (m1.add m2) (p1+p2):=by
 refine⟨by have:=h.st;have:=k.st;simp only[N4.add];omega,ao h.gr k.gr,k.pr,λhs=> ?_⟩;obtain⟨k1,k2,k3⟩:=k.small hs;obtain⟨h1,h2,h3⟩:=h.small k1;refine⟨h1,?_,by simp only[N4.add];omega⟩;simp only[N4.add]
 calc m1.pr*m2.pr*4^n.gr=m2.pr*(m1.pr*4^n.gr):=by rw[Nat.mul_comm m1.pr,bQ]
  _<=m2.pr*4^n1.gr:=bP _ h2
  _<=4^n2.gr:=k2
theorem WI.leaf {n:N3} {m:N4} (h1:1<=n.pr) (hs:m.st=0) (hp:m.pr=1) (hz:m.sz=1):WI n n m 1:=⟨by rw[hs];rfl,af _,h1,λh=>⟨h,by rw[hp,cz];exact af _,by omega⟩⟩
theorem Rh (l:List T) (b:Bool):(ms (if b then .dH l else lH l)).st=(fJ l).st/\(ms (if b then .dH l else lH l)).pr=(fJ l).pr/\(ms (if b then .dH l else lH l)).sz<=1+(fJ l).sz/\(ms (if b then .dH l else lH l)).tx=(fJ l).tx:=by
 cases b with
 |true=>simp[ms,N4.node]
 |false=>cases l with
  |nil=>simp[lH,ms,fJ,N4.zero]
  |cons a l=>simp[lH,ms,N4.node]
mutual
theorem TB:∀(g:Gb) (n:N3),1<=n.pr->WI n (mj g n) (ms (gt S g)) (gq g)
 |.alt ks,n,h=>by
  obtain⟨a1,a2⟩:=n.KL ks.length h;obtain⟨k1,k2,k3,k4⟩:=uY ks (n.alt ks.length) a1;have iW:(n.alt ks.length).st=n.st:=by unfold N3.alt;split<;>rfl
  have hgr:n.gr<=(n.alt ks.length).gr:=by unfold N3.alt;split<;>simp
  simp only[mj,gt,ms,gq];refine⟨by simp only[N4.node];omega,ao hgr k2,k3,λhs=> ?_⟩;obtain⟨j1,j2,j3⟩:=k4 hs;obtain⟨b1,b2⟩:=a2 j1;refine⟨b1,?_,by simp only[N4.node];omega⟩;simp only[N4.node,qt];have Hr:ck ks.length*4^n.gr<=4^(n.alt ks.length).gr:=by
   unfold ck N3.alt;split
   ·rw[if_neg (by omega)];simp
   ·rw[if_pos (by omega),Nat.pow_succ,Nat.mul_comm (4^n.gr)];exact bB _ (by omega)
  calc ck ks.length*(fJ (rG S ks)).pr*4^n.gr=(fJ (rG S ks)).pr*(ck ks.length*4^n.gr):=by rw[Nat.mul_comm (ck _),bQ]
   _<=(fJ (rG S ks)).pr*4^(n.alt ks.length).gr:=bP _ Hr
   _<=_:=j2
 |.any,n,h=>by simp only[mj,gt,ms,gq];exact⟨rfl,af _,h,λhs=>⟨hs,by simp[N3.star],by decide⟩⟩
 |.fq,n,h=>by simp only[mj,gt,ms,gq];exact⟨rfl,af _,h,λhs=>⟨hs,by simp[N3.star],by decide⟩⟩
 |.text _,n,h|.one,n,h|.set _ _,n,h|.range _ _ _,n,h=>by simp only[mj,gt,gq];exact WI.leaf h (by simp[ms]) (by simp[ms]) (by simp[ms])
theorem sB:∀(l:List Gb) (n:N3),1<=n.pr->WI n (fx l n) (fJ (j8 S l)) (ey l)
 | [],n,h=>by simp only[fx,j8,fJ,ey];exact⟨rfl,af _,h,λhs=>⟨hs,by simp[N4.zero],by simp[N4.zero]⟩⟩
 |g::l,n,h=>by simp only[fx,j8,fJ,ey];have h1:=TB g n h;exact h1.add (sB l _ h1.pr)
theorem uY:∀(ks:List (List Gb)) (n:N3),1<=n.pr->(iG ks n).st=n.st+(fJ (rG S ks)).st/\n.gr<=(iG ks n).gr/\1<=(iG ks n).pr/\((iG ks n).pr<=16->n.pr<=16/\(fJ (rG S ks)).pr*4^n.gr<=4^(iG ks n).gr/\(fJ (rG S ks)).sz<=ks.length+4*eU ks)
 | [],n,h=>by simp only[iG,rG,fJ,eU];exact⟨rfl,af _,h,λhs=>⟨hs,by simp[N4.zero],by simp[N4.zero]⟩⟩
 |k::ks,n,h=>by
  have h1:=sB k n h;obtain⟨j1,j2,j3,j4⟩:=uY ks (fx k n) h1.pr;obtain⟨m1,m2,m3,_⟩:=Rh (j8 S k) ks.isEmpty;simp only[iG,rG,fJ,eU];refine⟨by have:=h1.st;simp only[N4.add,m1];omega,ao h1.gr j2,j3,λhs=> ?_⟩;obtain⟨i1,i2,i3⟩:=j4 hs;obtain⟨l1,l2,l3⟩:=h1.small i1;refine⟨l1,?_,by simp only[N4.add,aH];omega⟩;simp only[N4.add,m2]
  calc (fJ (j8 S k)).pr*(fJ (rG S ks)).pr*4^n.gr=(fJ (rG S ks)).pr*((fJ (j8 S k)).pr*4^n.gr):=by rw[Nat.mul_comm (fJ (j8 S k)).pr,bQ]
   _<=(fJ (rG S ks)).pr*4^(fx k n).gr:=bP _ l2
   _<=_:=i2
end
mutual
theorem tx_gt:∀(g:Gb),kc g->(ms (gt S g)).tx<=100*gq g
 |.alt ks,h=>by simp only[kc]at h;simp only[gt,ms,N4.node,gq];have:=Qu ks h;omega
 |.text t,h=>by simp only[kc]at h;simp only[gt,ms,gq];have:=(eI t).1;omega
 |.any,_|.fq,_|.one,_|.set _ _,_|.range _ _ _,_=>by simp[gt,ms]
theorem JC:∀(l:List Gb),fU l->(fJ (j8 S l)).tx<=100*ey l
 | [],_=>by simp[j8,fJ,N4.zero]
 |g::l,h=>by simp only[fU]at h;simp only[j8,fJ,N4.add,ey];have:=tx_gt g h.1;have:=JC l h.2;omega
theorem Qu:∀(ks:List (List Gb)),iL ks->(fJ (rG S ks)).tx<=100*eU ks
 | [],_=>by simp[rG,fJ,N4.zero]
 |k::ks,h=>by simp only[iL]at h;simp only[rG,fJ,N4.add,eU,(Rh (j8 S k) ks.isEmpty).2.2.2];have:=JC k h.1;have:=Qu ks h.2;omega
end
mutual
theorem YM {N:Nat} (hS:dV S) (B5:S.length<=100000):∀(g:Gb),sN g->iK N (gt S g)
 |.alt ks,h=>by simp only[sN]at h;simp only[gt,iK];exact Lx hS B5 ks h.2
 |.text t,h=>by simp only[sN]at h;simpa only[gt,iK]using h
 |.any,_=>by simp only[gt,iK];exact⟨hS,B5,eS,by simp[enc]⟩
 |.fq,_=>by simp only[gt,iK];exact⟨eS,by simp,eS,by simp[enc]⟩
 |.one,_=>by simpa only[gt,iK]using B5
 |.set _ _,_|.range _ _ _,_=>by simp only[gt,iK]
theorem Ef {N:Nat} (hS:dV S) (B5:S.length<=100000):∀(l:List Gb),iY l->fR N (j8 S l)
 | [],_=>trivial
 |g::l,h=>by simp only[iY]at h;simp only[j8,fR];exact⟨YM hS B5 g h.1,Ef hS B5 l h.2.2⟩
theorem Lx {N:Nat} (hS:dV S) (B5:S.length<=100000):∀(ks:List (List Gb)),jE ks->fR N (rG S ks)
 | [],_=>trivial
 |k::ks,h=>by
  simp only[jE]at h;simp only[rG,fR];have h1:=Ef (N:=N) hS B5 k h.1;refine⟨?_,Lx hS B5 ks h.2⟩;split
  ·simpa only[iK]using h1
  ·cases hk:j8 S k with
   |nil=>simp[lH,iK]
   |cons a b=>rw[hk]at h1;simpa only[lH,iK]using h1
end
structure yk (S:List dE) (l:List Gb):Prop where
 ok:iY l
 short:fU l
 parts:ey l<=40
 lost:∃u,hU l (false,false)=some u
 stars:(fx l ⟨0,0,1⟩).st<=12/\(S=[]\/(fx l ⟨0,0,1⟩).st<=3)
 Ko:(fx l ⟨0,0,1⟩).gr<=3
 prod:(fx l ⟨0,0,1⟩).pr<=16
 sep:dV S/\S.length<=10
structure Fine (S:List dE) (t:T):Prop where
 iK:iK 1000000 (comp t)
 lL:lL (comp t)
 ix:ix (comp t)<=16000
 sz:(ms (comp t)).sz<=161
 tx:(ms (comp t)).tx<=4000
 tsz1:Go.Proofs.YtfejflhgaphilaaGreatDoor.ix t<=16000
 wsz1:iJ t<=17000
 right:DE (comp t)
 D:∀s,D (comp t) s []↔Gm.D t s []
 fin:fin true (comp t)
 budget:∀n,n<=30->∃B0,(wT n (comp t) 1<=B0\/((comp t).free=true/\(vT n (comp t) v1).h<=B0))/\(B0+1)*fT (comp t) 0<=1000000000000
theorem yk.fine {l:List Gb} (h:yk S l):Fine S (.dH (j8 S l)):=by
 obtain⟨u,hu⟩:=h.lost;have OH:raw (.dH (j8 S l)):=by simp only[raw];exact D6 l h.ok
 have RJ:fX S (.dH (j8 S l)):=by simp only[fX];exact zU l
 have VN:ms (.dH (j8 S l))=(fJ (j8 S l)).node 1:=by simp only[ms]
 have hc:=sB (S:=S) l ⟨0,0,1⟩ (af _);obtain⟨_,hpr,gJ⟩:=hc.small h.prod;have BF:=JC (S:=S) l h.short;have hpar:=h.parts;have iW:=hc.st;simp only[cm]at iW;have Xy:(fJ (j8 S l)).pr<=64:=by simp only[Nat.pow_zero,Nat.mul_one]at hpr;exact ao hpr (ao (Nat.pow_le_pow_right (by omega) h.Ko) (by decide))
 have hle:=LD (.dH (j8 S l));rw[VN]at hle;obtain⟨c1,c2,c3,c4⟩:=hle;simp only[N4.node,cz]at c1 c2 c3 c4;have fY:=DR (.dH (j8 S l));have htc:=DR (comp (.dH (j8 S l)));have hws:=Jz (.dH (j8 S l));rw[VN]at fY hws;simp only[N4.node]at fY hws;have hokp:iK 1000000 (.dH (j8 S l)):=by simp only[iK];exact Ef h.sep.1 (by have:=h.sep.2;omega) l h.ok
 have htsp:ix (jD true (simp (.dH (j8 S l))))<=1000000:=by have h1:=DR (jD true (simp (.dH (j8 S l))));have h2:=(N4.le_trans (Em (simp (.dH (j8 S l)))) (En _)).2.2.2;rw[VN]at h2;simp only[N4.node]at h2;omega
 refine⟨Eg _ _ (Eh _ _ (Ed _ _ (Gc _ hokp)) htsp),Ek _ _ (El _ _ (Ei _ _ (Gn _ OH))),by omega,by omega,by omega,by omega,by omega,JK _ OH (u:=u) ?_,λs=>D_comp _ RJ (z7 _ OH) s,(A5 _ OH).1,λn hn=> ?_⟩
 ·simp only[Gm.lost,Ap];exact hu
 ·have rC:=zp 161 (comp (.dH (j8 S l))) 0 (by omega);have kb:fT (comp (.dH (j8 S l))) 0<=2*161*163:=by
   have:2*(ms (comp (.dH (j8 S l)))).sz*(161+2)<=2*161*163:=bB _ (bP _ (by omega));omega
  rcases h.stars.2 with rfl|h3
  ·obtain⟨_,hb⟩:=ye _ OH RJ n 12 64 (by rw[VN];simp only[N4.node];have:=h.stars.1;omega) (by rw[VN];simp only[N4.node,cz];exact Xy);obtain⟨b1,b2⟩:=hb rfl;refine⟨64*(1+12*32),.inr ⟨b1,ao b2 (bP _ (Nat.add_le_add_left (bP _ (by omega)) _))⟩,?_⟩;exact ao (bP _ kb) (by decide)
  ·obtain⟨hb,_⟩:=ye _ OH RJ n 3 64 (by rw[VN];simp only[N4.node];omega) (by rw[VN];simp only[N4.node,cz];exact Xy);refine⟨31^3*64,.inl (ao hb (bB _ (Nat.pow_le_pow_left (by omega) _))),?_⟩;exact ao (bP _ kb) (by decide)
end
inductive Gr where
 |mk (kind:Int) (neg:Bool) (text:ByteArray) (lo hi:Int) (kids:List (List Gr))
mutual
def tX (w:World):Gr->Nat->Nat->Prop
 |.mk k n t lo hi ks,b,o=>w.cell? ⟨b,o,none⟩=some (.int .u8 k)/\(0<=k/\k<256)/\w.cell? ⟨b,o+1,none⟩=some (.bool n)/\w.cell? ⟨b,o+2,none⟩=some (.string t)/\t.size<=maxLen/\w.cell? ⟨b,o+3,none⟩=some (.int .i32 lo)/\w.cell? ⟨b,o+4,none⟩=some (.int .i32 hi)/\∃a c,w.cell? ⟨b,o+5,none⟩=some (.slice a ks.length c)/\ks.length<=140737488355328/\(ks≠[]->∃b' o',a=some ⟨b',o',none⟩/\ua w ks b' o')
def tW (w:World):List Gr->Nat->Nat->Prop
 | [],_,_=>True
 |g::l,b,o=>tX w g b o/\tW w l b (o+6)
def ua (w:World):List (List Gr)->Nat->Nat->Prop
 | [],_,_=>True
 |k::ks,b,o=>(∃a c,w.cell? ⟨b,o,none⟩=some (.slice a k.length c)/\k.length<=maxLen/\(k≠[]->∃b' o',a=some ⟨b',o',none⟩/\tW w k b' o'))/\ua w ks b (o+1)
end
def tV (w:World) (l:List Gr) (v:Value):Prop:=∃a c,v=.slice a l.length c/\l.length<=maxLen/\(l≠[]->∃b o,a=some ⟨b,o,none⟩/\tW w l b o)
mutual
theorem tX.keep {w w':World} (h:∀p v,w.cell? p=some v->w'.cell? p=some v):∀(g:Gr) (b o:Nat),tX w g b o->tX w' g b o
 |.mk k n t lo hi ks,b,o,hg=>by simp only[tX]at hg⊢;obtain⟨h1,h2,h3,h4,h5,h6,h7,a,c,h8,h9,UE⟩:=hg;refine⟨h _ _ h1,h2,h _ _ h3,h _ _ h4,h5,h _ _ h6,h _ _ h7,a,c,h _ _ h8,h9,λhk=> ?_⟩;obtain⟨b',o',e,hK⟩:=UE hk;exact⟨b',o',e,ua.keep h ks b' o' hK⟩
theorem tW.keep {w w':World} (h:∀p v,w.cell? p=some v->w'.cell? p=some v):∀(l:List Gr) (b o:Nat),tW w l b o->tW w' l b o
 | [],_,_,_=>trivial
 |g::l,b,o,hg=>by simp only[tW]at hg⊢;exact⟨tX.keep h g b o hg.1,tW.keep h l b _ hg.2⟩
theorem ua.keep {w w':World} (h:∀p v,w.cell? p=some v->w'.cell? p=some v):∀(ks:List (List Gr)) (b o:Nat),ua w ks b o->ua w' ks b o
 | [],_,_,_=>trivial
 |k::ks,b,o,hg=>by simp only[ua]at hg⊢;obtain⟨⟨a,c,h1,h2,h3⟩,h4⟩:=hg;refine⟨⟨a,c,h _ _ h1,h2,λhk=> ?_⟩,ua.keep h ks b _ h4⟩;obtain⟨b',o',e,hS⟩:=h3 hk;exact⟨b',o',e,tW.keep h k b' o' hS⟩
end
theorem tV.keep {l:List Gr} {v:Value} (hl:tV w l v) (h:∀p v,w.cell? p=some v->w'.cell? p=some v):tV w' l v:=by obtain⟨a,c,h1,h2,h3⟩:=hl;refine⟨a,c,h1,h2,λhk=> ?_⟩;obtain⟨b,o,e,hS⟩:=h3 hk;exact⟨b,o,e,tW.keep h l b o hS⟩
theorem dF (h:Below w.heap.size w w'):∀p v,w.cell? p=some v->w'.cell? p=some v:=λp v hp=>by have eR:=bp w p hp;rw[aF (w:=w) (a:=p) (h.block p.block eR)];exact hp
theorem tW.at {w:World}:∀(l:List Gr) (b o i:Nat) (g:Gr),tW w l b o->l[i]? =some g->tX w g b (o+i*6)
 | [],_,_,_,_,_,h=>by simp at h
 |g0::l,b,o,0,g,h,hg=>by simp only[aN,ae]at hg;subst hg;simp only[tW]at h;simpa using h.1
 |g0::l,b,o,i+1,g,h,hg=>by simp only[tW]at h;have:=tW.at l b (o+6) i g h.2 (by simpa using hg);rw[show o+(i+1)*6=o+6+i*6 by omega];exact this
theorem ua.at {w:World}:∀(ks:List (List Gr)) (b o i:Nat) (k:List Gr),ua w ks b o->ks[i]? =some k->∃a c,w.cell? ⟨b,o+i,none⟩=some (.slice a k.length c)/\tV w k (.slice a k.length c)
 | [],_,_,_,_,_,h=>by simp at h
 |k0::ks,b,o,0,k,h,hk=>by simp only[aN,ae]at hk;subst hk;simp only[ua]at h;obtain⟨⟨a,c,h1,h2,h3⟩,_⟩:=h;exact⟨a,c,by simpa using h1,a,c,rfl,h2,h3⟩
 |k0::ks,b,o,i+1,k,h,hk=>by simp only[ua]at h;have:=ua.at ks b (o+1) i k h.2 (by simpa using hk);rw[show o+(i+1)=o+1+i by omega];exact this
theorem Tryz.Wd:prog.cellsOf 97=6:=by kernel_rfl
theorem Tryz.Wf:prog.cellsOf 22=1:=by kernel_rfl
theorem Tryz.cells5:prog.cellsOf 5=1:=by kernel_rfl
theorem Tryz.cells4:prog.cellsOf 4=1:=by kernel_rfl
theorem Tryz.We:prog.cellsOf 95=1:=by kernel_rfl
theorem uk:∀(v u:List dE) (bound:Nat) (acc:Array Value),dV v->v.length<=bound->Conv.runesFrom (bs (u++v)) bound (enc u).length acc=acc++(v.map λc=>Value.int .i32 ((c:Nat):Int)).toArray
 | [],u,bound,acc,_,_=>by
   cases bound with
   |zero=>simp[Conv.runesFrom]
   |succ n=>simp only[Conv.runesFrom];rw[if_neg (by rw[dQ];simp)];simp
 |c::v,u,0,acc,_,h=>by simp at h
 |c::v,u,n+1,acc,ez,h=>by have hc:mz c:=ez c (by simp);have h1:=(ec c).1;have hd:Utf8.decode (bs (u++c::v)) (enc u).length=(c,(e1 c).length):=nJ hc _ (enc v) _ (by simp);simp only[Conv.runesFrom];rw[if_pos (by rw[dQ];simp;omega),hd];have ih:=uk v (u++[c]) n (acc.push (.int .i32 (Int.ofNat c))) (gf ez) (by simpa using h);simp only[aD,aJ,bw,dR,et,gd,bd,aj]at ih;dsimp only;rw[ih];simp
theorem pP {rs:List dE} (ez:dV rs) (hl:rs.length<=1000000) (w:World):∃cap,(convert 9 98 (.string (bs rs))).run prog w=.ok (.slice (some ⟨w.heap.size,0,none⟩) rs.length cap) (w.drew.alloc (.cells ((rs.map λc=>Value.int .i32 ((c:Nat):Int)).toArray++Array.replicate (cap-rs.length) (.int .i32 0)) 21))/\rs.length<=cap/\cap<=maxLen:=by
 have h1:=uk rs [] (bs rs).size #[] ez (by rw[dQ];exact(eI rs).1);simp only[bw,gd,aG,Array.empty_append]at h1;have gJ:(Conv.runesFrom (bs rs) (bs rs).size 0 #[]).size=rs.length:=by rw[h1];simp
 have h2:=run_runes_of_string (P:=prog) w 9 98 21 (bs rs) underlying9 underlying98 underlying21 (by rw[gJ];omega);rw[gJ,h1]at h2;exact⟨_,h2,grownCap_ge _ _ _ _,grownCap_le_maxLen _ _ _ _ (by unfold maxLen;omega)⟩
theorem pt {rs:List dE} {cap:Nat} (w:World) (h1:rs.length<=cap) (h2:cap<=maxLen) {wx:World} (hb:Below (w.heap.size+1) (w.drew.alloc (.cells ((rs.map λc=>Value.int .i32 ((c:Nat):Int)).toArray++Array.replicate (cap-rs.length) (.int .i32 0)) 21)) wx):ek wx (.slice (some ⟨w.heap.size,0,none⟩) rs.length cap) rs:=by have hs:(w.drew.alloc (.cells ((rs.map λc=>Value.int .i32 ((c:Nat):Int)).toArray++Array.replicate (cap-rs.length) (.int .i32 0)) 21)).heap.size=w.heap.size+1:=ab _ _;refine .inr ⟨w.heap.size,0,cap,rfl,h1,h2,by have:=hb.size;omega,λi hi=> ?_⟩;have hk:=(hb.block w.heap.size (by omega)).trans (heap_alloc_new w.drew _);have e:wx.heap[w.heap.size]? =some (.cells ((rs.map λc=>Value.int .i32 ((c:Nat):Int)).toArray++Array.replicate (cap-rs.length) (.int .i32 0)) 21 (0,0)):=hk;simp only[World.cell?,e];simp[Array.getElem?_append,hi]
theorem Ce {c:Nat} (h:mz c):Lib.encodeRune (c:Int)=e1 c:=by
 unfold mz at h;unfold Lib.encodeRune e1;split
 ·rw[Lib.encodeRuneZ_one (by omega) (by omega)];simp
 split
 ·rw[Lib.encodeRuneZ_two (by omega) (by omega)];have e1:(192+(c:Int) /64).toNat=192+c /64:=by omega
  have e2:(128+(c:Int)%64).toNat=128+c%64:=by omega
  simp only[cX,cH,e1,e2]
 split
 ·rw[Lib.encodeRuneZ_three (by omega)];have e1:(224+(c:Int) /4096).toNat=224+c /4096:=by omega
  have e2:(128+(c:Int) /64%64).toNat=128+c /64%64:=by omega
  have e3:(128+(c:Int)%64).toNat=128+c%64:=by omega
  simp only[cX,cH,e1,e2,e3]
 ·rw[Lib.encodeRuneZ_four (by omega) (by omega)];have e1:(240+(c:Int) /262144).toNat=240+c /262144:=by omega
  have e2:(128+(c:Int) /4096%64).toNat=128+c /4096%64:=by omega
  have e3:(128+(c:Int) /64%64).toNat=128+c /64%64:=by omega
  have e4:(128+(c:Int)%64).toNat=128+c%64:=by omega
  simp only[cX,cH,e1,e2,e3,e4]
theorem dec_ok (s:ByteArray) (i:Nat) (hi:i<s.size) (eK:(Utf8.decode s i).1≠65533):mz (Utf8.decode s i).1/\s.data.toList.drop i=e1 (Utf8.decode s i).1++s.data.toList.drop (i+(e1 (Utf8.decode s i).1).length)/\(Utf8.decode s i).2=(e1 (Utf8.decode s i).1).length:=by
 have hx:(⟨(s.data.toList.drop i).toArray⟩:ByteArray)=s.extract i s.size:=by
  apply fC;rw[Lib.extract_data];show s.data.toList.drop i=_;rw[show s.size=s.data.toList.length from by rw[Array.length_toList];rfl]
  first
  |rw[List.take_length]
  |rw[aP (by rw[bT];exact af _)]
 have hd:Lib.decodeL (s.data.toList.drop i)=Utf8.decode s i:=by unfold Lib.decodeL;rw[hx,Lib.tail_decode,bL]
 have hl:s.data.toList.drop i≠[]:=by intro e;have h1:=congrArg List.length e;rw[bT,Array.length_toList,aG]at h1;have h2:s.size=s.data.size:=rfl;omega
 have hr:=Lib.rune_valid (s.extract i s.size);rw[Lib.tail_decode,bL]at hr;have ez:mz (Utf8.decode s i).1:=by simp only[Lib.validRune,decide_eq_true_eq]at hr;unfold mz;omega
 have he:=Lib.encode_decode _ hl (by rw[hd];exactλh=>eK h.1);have hle:=Lib.decodeL_le _ hl;rw[hd]at he hle;rw[Ce ez]at he;have hlen:(Utf8.decode s i).2=(e1 (Utf8.decode s i).1).length:=by rw[he,bn];omega
 refine⟨ez,?_,hlen⟩;have:=bN (Utf8.decode s i).2 (s.data.toList.drop i);rw[<-he,dk,hlen]at this;exact this.symm
theorem Vu:(prog.info? 21).map (λi=>(i.zero,i.size,i.bytes))=some (some (.int .i32 0),1,4):=by kernel_rfl
theorem f108 (b off n c:Nat) (us:List Value) (w:World) (hl:us.length=n) (V2:n*4<=140737488355328) (h1:∀u∈us,u.oneCell'=true) (hc:∀j u,us[j]? =some u->w.cell? ⟨b,off+j,none⟩=some u):Calls prog 108 #[.slice (some ⟨b,off,none⟩) n c] w λe w'=>∃v',e=.returned v'/\w'.ownsRow w.heap.size 21 1 v' n us/\v'≠ .slice none 0 0/\Below w.heap.size w w':=by
 obtain⟨i0,hi,gD,gB,gF⟩:=info_parts Vu;have q:∀(w:World) (a:Option Addr) (n c n' c':Nat),(binOp .eql 98 (.slice a n c) (.slice none n' c')).run prog w=.ok (.bool a.isNone) w:=λw a n c n' c'=>Lib.run_eql_slice_nil w _ _ a n c n' c' underlying98;have A:=jS hc h1 hl;clear hc h1 hl;go_enter func108,ntmps108;go_wp2_with (at_builtin;refine wpList_append_own _ rfl _ _ 98 rfl w.heap.size 21 i0 (.int .i32 0) 1 4 underlying98 hi gD gB gF rfl (by decide) _ _ _ rfl (World.ownsRow_made w #[] 0 (af _) (aU _) rfl) ⟨b,off,none⟩ n c us rfl ?lG ?lF ?lE ?lD ?lC ?lB ?_)
 case lG=>rw[A.2.2];simp
 case lF=>intro j u hj;rw[Addr.add_lit];exact Lib.cell?_alloc_some _ (A.1 j u hj)
 case lE=>exact A.2.1
 case lD=>unfold maxLen;omega
 case lC=>omega
 case lB=>simp
 intro v' w1 gh Hi qS;have HO:=jS gh Hi qS;clear gh Hi qS;go_wp2_with fail;go_ret;refine⟨v',rfl,by simpa using HO.1,HO.2.2,?_⟩;exact((ay _ w).alloc (af _) _).grown HO.2.1 (by simp) (by intro k hk;simp[Value.ownBlock]at hk;omega)
theorem fG:(prog.info? 153).map (λi=>(i.zero,i.size,i.bytes))=some (some .nilIface,1,16):=by kernel_rfl
theorem f113 (b off n c:Nat) (us:List Value) (w:World) (hl:us.length=n) (V2:n*16<=140737488355328) (h1:∀u∈us,u.oneCell'=true) (hc:∀j u,us[j]? =some u->w.cell? ⟨b,off+j,none⟩=some u):Calls prog 113 #[.slice (some ⟨b,off,none⟩) n c] w λe w'=>∃v',e=.returned v'/\w'.ownsRow w.heap.size 153 1 v' n us/\v'≠ .slice none 0 0/\Below w.heap.size w w':=by
 obtain⟨i0,hi,gD,gB,gF⟩:=info_parts fG;have q:∀(w:World) (a:Option Addr) (n c n' c':Nat),(binOp .eql 236 (.slice a n c) (.slice none n' c')).run prog w=.ok (.bool a.isNone) w:=λw a n c n' c'=>Lib.run_eql_slice_nil w _ _ a n c n' c' underlying236;have A:=jS hc h1 hl;clear hc h1 hl;go_enter func113,ntmps113;go_wp2_with (at_builtin;refine wpList_append_own _ rfl _ _ 236 rfl w.heap.size 153 i0 .nilIface 1 16 underlying236 hi gD gB gF rfl (by decide) _ _ _ rfl (World.ownsRow_made w #[] 0 (af _) (aU _) rfl) ⟨b,off,none⟩ n c us rfl ?lG ?lF ?lE ?lD ?lC ?lB ?_)
 case lG=>rw[A.2.2];simp
 case lF=>intro j u hj;rw[Addr.add_lit];exact Lib.cell?_alloc_some _ (A.1 j u hj)
 case lE=>exact A.2.1
 case lD=>unfold maxLen;omega
 case lC=>omega
 case lB=>simp
 intro v' w1 gh Hi qS;have HO:=jS gh Hi qS;clear gh Hi qS;go_wp2_with fail;go_ret;refine⟨v',rfl,by simpa using HO.1,HO.2.2,?_⟩;exact((ay _ w).alloc (af _) _).grown HO.2.1 (by simp) (by intro k hk;simp[Value.ownBlock]at hk;omega)
theorem f113n (n c:Nat) (w:World):Calls prog 113 #[.slice none n c] w λe w'=>e=.returned (.slice none 0 0)/\w'=w:=by have q:∀(w:World) (a:Option Addr) (n c n' c':Nat),(binOp .eql 236 (.slice a n c) (.slice none n' c')).run prog w=.ok (.bool a.isNone) w:=λw a n c n' c'=>Lib.run_eql_slice_nil w _ _ a n c n' c' underlying236;go_enter func113,ntmps113;go_wp2_with fail;go_ret;exact⟨rfl,rfl⟩
end Go.Proofs.YtfejflhgaphilaaGreatDoor
