/- specialize walked. -/
import Derived.Test.YtfejflhgaphilaaGreatDoorC40
set_option linter.all false
set_option maxRecDepth 100000
set_option maxHeartbeats 64000000
open Go.Proofs.Tryz
namespace Go.Proofs.YtfejflhgaphilaaGreatDoor
open Go.RowKit Gm
variable {w wr:World} {B m c:Nat} {bl G0 G:List Nat} {a:Option Addr} {us:List Value}
theorem DW:∀(τ:Bool) (l:List T) (j:Nat) (t:T),l[j]? =some t->(ki τ l)[j]? =some (jD τ t)
 |τ,[],j,t,h=>by simp at h
 |τ,a::l,0,t,h=>by simp only[aN,ae]at h;subst h;simp[ki]
 |τ,a::l,j+1,t,h=>by simp only[ki,bH];exact DW τ l j t (by simpa using h)
theorem DV:∀(τ:Bool) (l:List T) (j:Nat) (t:T),l[j]? =some t->(gx τ l)[j]? =some (jD (τ&&decide (j+1=l.length)) t)
 |τ,[],j,t,h=>by simp at h
 |τ,a::l,0,t,h=>by simp only[aN,ae]at h;subst h;cases l<;>simp[gx]
 |τ,a::l,j+1,t,h=>by simp only[gx,bH,aH];rw[DV τ l j t (by simpa using h)];simp
theorem zL:∀(l:List T) (τ:Bool),(ki τ l).length=l.length
 | [],_=>rfl
 |t::ts,τ=>by simp[ki,zL ts τ]
theorem zJ:∀(l:List T) (τ:Bool),(gx τ l).length=l.length
 | [],_=>rfl
 |t::ts,τ=>by simp[gx,zJ ts τ]
theorem zC (l:List T):ix (fk l)=eD l:=by unfold fk;split<;>simp[ix,eD]
mutual
theorem Lh:∀(τ:Bool) (t:T),ix (jD τ t)=ix t
 |τ,.alt l=>by simp only[jD,ix];exact FK τ l
 |τ,.dH l=>by
  simp only[jD];split
  ·rw[zC,uS,ug τ l,ix]
  ·rw[ix,ug τ l,ix]
 |_,.text _=>rfl
 |_,.char _=>rfl
 |_,.star _ _ _=>rfl
 |_,.range _ _ _=>rfl
 |_,.set _ _=>rfl
 |_,.void=>rfl
 |_,.pre _ _=>rfl
 |_,.eP _ _=>rfl
 |_,.dN _ _ _=>rfl
 |_,.cont _=>rfl
 |_,.eh _=>rfl
theorem FK:∀(τ:Bool) (l:List T),eD (ki τ l)=eD l
 |_,[]=>rfl
 |τ,t::ts=>by simp only[ki,eD,Lh τ t,FK τ ts]
theorem ug:∀(τ:Bool) (l:List T),eD (gx τ l)=eD l
 |_,[]=>rfl
 |τ,t::ts=>by simp only[gx,eD,Lh _ t,ug τ ts]
end
theorem fy.trans {w1 w2:World} {v1 v2:Value} {G1 G2:List Nat} {L1 L2:List T} {kB lP:List Value} (h:fy w w1 B v1 bl G0 L1 [] kB G1) (k:fy w1 w2 B v2 bl G1 L2 [] lP G2):fy w w2 B v2 bl G0 L2 [] lP G2:=by
 refine⟨k.row,k.tr,k.nodup,λx hx=> ?_,k.lt,k.ge,h.fo.trans k.fo (λ_ _ h=>h) (λb hb hc=> ?_)⟩
 ·rcases k.own x hx with h1|h1
  ·exact h.own x h1
  ·right;have:=h.fo.size;omega
 ·rcases hc with hc|hc
  ·exact .inl hc
  ·rcases h.own b hc with h1|h1
   ·exact .inr h1
   ·omega
theorem fy.only {u:T} (h:fy w wr B (.slice a m c) bl G0 [u] [] us G):∃b o v,a=some ⟨b,o,none⟩/\m=1/\wr.cell? ⟨b,o,none⟩=some v/\Rw w wr B (bl++G0) u v G:=by
 obtain⟨h1,h2⟩:=h.done;obtain⟨v,rfl,h3⟩:=eW.one.1 h2;obtain⟨b,o,cap,e,_,hc⟩:=h1.cell (i:=0) (u:=v) rfl;simp only[au]at e;refine⟨b,o,v,e.1,by simpa using e.2.1,hc,h3,?_,?_,λx hx=>h.lt x (bg _ hx),h.fo.mono λb _ hb=>ar.2 hb⟩
 ·have:=h.nodup;rw[aZ]at this;exact this.2.1
 ·intro x hx;rcases h.own x hx with h4|h4
  ·exact .inl (bg _ h4)
  ·exact .inr h4
theorem fy.len {L:List T} (h:fy w wr B (.slice a m c) bl G0 L [] us G):L.length=m:=by obtain⟨h1,h2⟩:=h.done;obtain⟨a',c',e⟩:=h1.len;simp only[au]at e;rw[e.2.1,eW.length L us G h2]
def mJ (t:T):Prop:=∀(τ:Bool) (w:World) (B:Nat) (v:Value) (F:List Nat),jP w B t v F->ix t<=4000000000000000000->Calls prog 117 #[v,.bool τ] w λe w'=>∃v' F',e=.returned v'/\Rw w w' B F (jD τ t) v' F'
theorem PF (t:List dE):mJ (.text t):=by intro τ w B v F hr fY;have h:=hr.tr;have HR:=aa hr;clear hr fY;simp only[Tr]at h;obtain⟨b,rfl,dU⟩:=h;clear dU;have eH:=jX (.pointer (some ⟨b,0,none⟩));have fu:=pe (.pointer (some ⟨b,0,none⟩));go_enter func117,ntmps117;go_wp2_with fail;go_ret;exact⟨_,F,rfl,by simp only[jD];exact HR.rw⟩
theorem PJ (sep:List dE):mJ (.char sep):=by intro τ w B v F hr fY;have h:=hr.tr;have HR:=aa hr;clear hr fY;simp only[Tr]at h;obtain⟨b,vs,rfl,dU⟩:=h;clear dU;have eH:=kP (.pointer (some ⟨b,0,none⟩));have fu:=nB (.pointer (some ⟨b,0,none⟩));go_enter func117,ntmps117;go_wp2_with fail;go_ret;exact⟨_,F,rfl,by simp only[jD];exact HR.rw⟩
theorem PH (sep nx:List dE) (tm:Bool):mJ (.star sep nx tm):=by intro τ w B v F hr fY;have h:=hr.tr;have HR:=aa hr;clear hr fY;simp only[Tr]at h;obtain⟨b,vs,rfl,dU⟩:=h;clear dU;have eH:=iP (.pointer (some ⟨b,0,none⟩));have fu:=l7 (.pointer (some ⟨b,0,none⟩));go_enter func117,ntmps117;go_wp2_with fail;go_ret;exact⟨_,F,rfl,by simp only[jD];exact HR.rw⟩
theorem KF (lo hi:Int) (neg:Bool):mJ (.range lo hi neg):=by intro τ w B v F hr fY;have h:=hr.tr;have HR:=aa hr;clear hr fY;simp only[Tr]at h;obtain⟨b,rfl,dU⟩:=h;clear dU;have eH:=kL (.pointer (some ⟨b,0,none⟩));have fu:=nz (.pointer (some ⟨b,0,none⟩));go_enter func117,ntmps117;go_wp2_with fail;go_ret;exact⟨_,F,rfl,by simp only[jD];exact HR.rw⟩
theorem Tq (cs:List dE) (neg:Bool):mJ (.set cs neg):=by intro τ w B v F hr fY;have h:=hr.tr;have HR:=aa hr;clear hr fY;simp only[Tr]at h;obtain⟨b,mb,rfl,dU⟩:=h;clear dU;have eH:=kJ (.pointer (some ⟨b,0,none⟩));have fu:=ny (.pointer (some ⟨b,0,none⟩));go_enter func117,ntmps117;go_wp2_with fail;go_ret;exact⟨_,F,rfl,by simp only[jD];exact HR.rw⟩
theorem PE:mJ (.void):=by intro τ w B v F hr fY;have h:=hr.tr;have HR:=aa hr;clear hr fY;simp only[Tr]at h;obtain⟨u,rfl,dU⟩:=h;clear dU;have eH:=jW u;have fu:=l5 u;go_enter func117,ntmps117;go_wp2_with fail;go_ret;exact⟨_,F,rfl,by simp only[jD];exact HR.rw⟩
theorem Ts (t sep:List dE):mJ (.pre t sep):=by intro τ w B v F hr fY;have h:=hr.tr;have HR:=aa hr;clear hr fY;simp only[Tr]at h;obtain⟨b,rfl,dU⟩:=h;clear dU;have eH:=kG (.pointer (some ⟨b,0,none⟩));have fu:=nv (.pointer (some ⟨b,0,none⟩));go_enter func117,ntmps117;go_wp2_with fail;go_ret;exact⟨_,F,rfl,by simp only[jD];exact HR.rw⟩
theorem Tp (t sep:List dE):mJ (.eP t sep):=by intro τ w B v F hr fY;have h:=hr.tr;have HR:=aa hr;clear hr fY;simp only[Tr]at h;obtain⟨b,rfl,dU⟩:=h;clear dU;have eH:=lU (.pointer (some ⟨b,0,none⟩));have fu:=o8 (.pointer (some ⟨b,0,none⟩));go_enter func117,ntmps117;go_wp2_with fail;go_ret;exact⟨_,F,rfl,by simp only[jD];exact HR.rw⟩
theorem ID (p q sep:List dE):mJ (.dN p q sep):=by intro τ w B v F hr fY;have h:=hr.tr;have HR:=aa hr;clear hr fY;simp only[Tr]at h;obtain⟨b,rfl,dU⟩:=h;clear dU;have eH:=lR (.pointer (some ⟨b,0,none⟩));have fu:=o7 (.pointer (some ⟨b,0,none⟩));go_enter func117,ntmps117;go_wp2_with fail;go_ret;exact⟨_,F,rfl,by simp only[jD];exact HR.rw⟩
theorem PI (t:List dE):mJ (.cont t):=by intro τ w B v F hr fY;have h:=hr.tr;have HR:=aa hr;clear hr fY;simp only[Tr]at h;obtain⟨b,rfl,dU⟩:=h;clear dU;have eH:=kC (.pointer (some ⟨b,0,none⟩));have fu:=nt (.pointer (some ⟨b,0,none⟩));go_enter func117,ntmps117;go_wp2_with fail;go_ret;exact⟨_,F,rfl,by simp only[jD];exact HR.rw⟩
theorem PG (l:List T):mJ (.eh l):=by intro τ w B v F hr fY;have h:=hr.tr;have HR:=aa hr;clear hr fY;simp only[Tr]at h;obtain⟨sv,us,bl,G,rfl,dU⟩:=h;clear dU;have eH:=jU sv;have fu:=o9 sv;go_enter func117,ntmps117;go_wp2_with fail;go_ret;exact⟨_,F,rfl,by simp only[jD];exact HR.rw⟩
theorem xq (l:List T) (hM:∀t∈l,mJ t) (w:World) (B:Nat) (v:Value) (F:List Nat) (hr:jP w B (.dH l) v F) (fY:eD l<=4000000000000000000):Calls prog 117 #[v,.bool false] w λe w'=>∃v' F',e=.returned v'/\Rw w w' B F (jD false (.dH l)) v' F':=by
 have h:=hr.tr;simp only[Tr]at h;obtain⟨sv,us,bl,G,rfl,hF,h1,h2⟩:=h;subst hF;obtain⟨a,c,rfl⟩:=h1.len;have ic:=eW.length l us G h2;rw[ic]at h1⊢;obtain⟨n,hn⟩:=dS l.length;have kr:=h1.small;rw[ic,<-hn]at kr;rw[<-hn]at h1⊢;have sq:n<=9223372036854775807:=by unfold maxLen at kr;omega
 have HM:=aa hM;have MR:=aa fY;have HN:=aa hn;have HB:=aa hr.base;have H0:=aa (show fy w w B (.slice a n c) bl G ((gx false l).take 0) (l.drop 0) us G from fy.oQ h1 h2 hr.nodup hr.lt hr.ge);have fu:=rY (.slice a n c);have eH:=ij (.slice a n c);clear hn ic hM hr h1 h2 kr fY;go_enter func117,ntmps117;go_wp2_with fail;go_loopg [37] n (λk s37 wr=>∃(j:Nat) (us:List Value) (G2:List Nat),k=n-j/\s37=.int .i64 j/\j<=n/\Hid (fy w wr B (.slice a n c) bl G ((gx false l).take j) (l.drop j) us G2))
 case atStart=>exact⟨0,us,G,rfl,rfl,aU _,H0⟩
 case round=>
  obtain⟨j,lP,G1,rfl,rfl,hj,HJ⟩:=hrel;have tU:Hid ((gx false l).length=l.length):=aa (zJ l false);by_cases gM:j<n
  ·have kY:=gW ((j:Int)+1) (by omega);have mN:=gW ((n:Int)-1) (by omega);have jA:decide ((j:Int)<(n:Int))=true:=(by simp;omega);obtain⟨b,o,t,t',u,F1,tI,ht,mS,kS,eB,Ke,fw⟩:=HJ.at HB.out tU.out (by rw[<-HN.out];exact gM);have hv:t'=jD (false&&decide (j+1=n)) t:=by
    have:=HN.out▸DV false l j t ht;rw[this,ae]at mS;exact mS.symm
   subst tI;subst hv;have i1:(0:Int)<=(j:Int):=(by omega);have i2:(j:Int)<(n:Int):=by omega
   have HS:=aa fw;have HC:=aa (HM.out t (bm ht) (false&&decide (j+1=n)) wr B u F1 kS (ao (jH _ _ (bm ht)) MR.out));clear ht mS kS fw;have hle:((j:Int)==(n:Int)-1)=decide (j+1=n):=by rw[bO,beq_iff_eq,decide_eq_true_eq];omega
   obtain⟨q,hq⟩:=dS (decide (j+1=n));rw[<-hq]at hle HC HS;clear hq;go_wp2_with fail;refine HC.mono ?_;rintro e w1 ⟨v',F',rfl,iE⟩;obtain⟨sI,pI,rfl⟩:=iE.tr.iface;obtain⟨pU,zl,fV,G2,jn⟩:=HS.out w1 _ F' iE;have HI:=aa jn;clear iE jn;go_wp2_with fail;go_roundg (n- (j+1))
   case measure=>omega
   case rel=>exact⟨j+1,fV,G2,rfl,rfl,by omega,HI⟩
  ·have jA:decide ((j:Int)<(n:Int))=false:=(by simp;omega);have iT:=HJ.Cd tU.out (by rw[<-HN.out];omega);have HE:=aa iT;clear iT;go_wp2_with fail;go_ret;refine⟨_,bl++G1,rfl,?_⟩;simp only[jD,aM,if_false];exact HE.uj
theorem A9 (l:List T) (hM:∀t∈l,mJ t) (w:World) (B:Nat) (v:Value) (F:List Nat) (hr:jP w B (.alt l) v F) (fY:eD l<=4000000000000000000):Calls prog 117 #[v,.bool false] w λe w'=>∃v' F',e=.returned v'/\Rw w w' B F (jD false (.alt l)) v' F':=by
 have h:=hr.tr;simp only[Tr]at h;obtain⟨sv,us,bl,G,rfl,hF,h1,h2⟩:=h;subst hF;obtain⟨a,c,rfl⟩:=h1.len;have ic:=eW.length l us G h2;rw[ic]at h1⊢;obtain⟨n,hn⟩:=dS l.length;have kr:=h1.small;rw[ic,<-hn]at kr;rw[<-hn]at h1⊢;have sq:n<=9223372036854775807:=by unfold maxLen at kr;omega
 have HM:=aa hM;have MR:=aa fY;have HN:=aa hn;have HB:=aa hr.base;have H0:=aa (show fy w w B (.slice a n c) bl G ((ki false l).take 0) (l.drop 0) us G from fy.oQ h1 h2 hr.nodup hr.lt hr.ge);have fu:=jV (.slice a n c);clear hn ic hM hr h1 h2 kr fY;go_enter func117,ntmps117;go_wp2_with fail;go_loopg [18] n (λk s18 wr=>∃(j:Nat) (us:List Value) (G2:List Nat),k=n-j/\s18=.int .i64 j/\j<=n/\Hid (fy w wr B (.slice a n c) bl G ((ki false l).take j) (l.drop j) us G2))
 case atStart=>exact⟨0,us,G,rfl,rfl,aU _,H0⟩
 case round=>
  obtain⟨j,lP,G1,rfl,rfl,hj,HJ⟩:=hrel;have tU:Hid ((ki false l).length=l.length):=aa (zL l false);by_cases gM:j<n
  ·have kY:=gW ((j:Int)+1) (by omega);have jA:decide ((j:Int)<(n:Int))=true:=by simp;omega
   obtain⟨b,o,t,t',u,F1,tI,ht,mS,kS,eB,Ke,fw⟩:=HJ.at HB.out tU.out (by rw[<-HN.out];exact gM);have hv:t'=jD false t:=by have:=DW false l j t ht;rw[this,ae]at mS;exact mS.symm
   subst tI;subst hv;have i1:(0:Int)<=(j:Int):=(by omega);have i2:(j:Int)<(n:Int):=by omega
   have HS:=aa fw;have HC:=aa (HM.out t (bm ht) false wr B u F1 kS (ao (jH _ _ (bm ht)) MR.out));clear ht mS kS fw;go_wp2_with fail;refine HC.mono ?_;rintro e w1 ⟨v',F',rfl,iE⟩;obtain⟨sI,pI,rfl⟩:=iE.tr.iface;obtain⟨pU,zl,fV,G2,jn⟩:=HS.out w1 _ F' iE;have HI:=aa jn;clear iE jn;go_wp2_with fail;go_roundg (n- (j+1))
   case measure=>omega
   case rel=>exact⟨j+1,fV,G2,rfl,rfl,by omega,HI⟩
  ·have jA:decide ((j:Int)<(n:Int))=false:=(by simp;omega);have iT:=HJ.Cd tU.out (by rw[<-HN.out];omega);have HE:=aa iT;clear iT;go_wp2_with fail;go_ret;exact⟨_,_,rfl,by simp only[jD];exact HE.D2⟩
theorem yO (l:List T) (hM:∀t∈l,mJ t) (w:World) (B:Nat) (v:Value) (F:List Nat) (hr:jP w B (.dH l) v F) (fY:eD l<=4000000000000000000):Calls prog 117 #[v,.bool true] w λe w'=>∃v' F',e=.returned v'/\Rw w w' B F (jD true (.dH l)) v' F':=by
 have h:=hr.tr;simp only[Tr]at h;obtain⟨sv,us,bl,G,rfl,hF,h1,h2⟩:=h;subst hF;obtain⟨a,c,rfl⟩:=h1.len;have ic:=eW.length l us G h2;rw[ic]at h1⊢;obtain⟨n,hn⟩:=dS l.length;have kr:=h1.small;rw[ic,<-hn]at kr;rw[<-hn]at h1⊢;have sq:n<=9223372036854775807:=by unfold maxLen at kr;omega
 have HM:=aa hM;have MR:=aa fY;have HN:=aa hn;have HB:=aa hr.base;have H0:=aa (show fy w w B (.slice a n c) bl G ((gx true l).take 0) (l.drop 0) us G from fy.oQ h1 h2 hr.nodup hr.lt hr.ge);have fu:=rY (.slice a n c);have eH:=ij (.slice a n c);clear hn ic hM hr h1 h2 kr fY;go_enter func117,ntmps117;go_wp2_with fail;go_loopg [37] n (λk s37 wr=>∃(j:Nat) (us:List Value) (G2:List Nat),k=n-j/\s37=.int .i64 j/\j<=n/\Hid (fy w wr B (.slice a n c) bl G ((gx true l).take j) (l.drop j) us G2))
 case atStart=>exact⟨0,us,G,rfl,rfl,aU _,H0⟩
 case round=>
  obtain⟨j,lP,G1,rfl,rfl,hj,HJ⟩:=hrel;have tU:Hid ((gx true l).length=l.length):=aa (zJ l true);by_cases gM:j<n
  ·have kY:=gW ((j:Int)+1) (by omega);have mN:=gW ((n:Int)-1) (by omega);have jA:decide ((j:Int)<(n:Int))=true:=(by simp;omega);obtain⟨b,o,t,t',u,F1,tI,ht,mS,kS,eB,Ke,fw⟩:=HJ.at HB.out tU.out (by rw[<-HN.out];exact gM);have hv:t'=jD (true&&decide (j+1=n)) t:=by
    have:=HN.out▸DV true l j t ht;rw[this,ae]at mS;exact mS.symm
   subst tI;subst hv;have i1:(0:Int)<=(j:Int):=(by omega);have i2:(j:Int)<(n:Int):=by omega
   have HS:=aa fw;have HC:=aa (HM.out t (bm ht) (true&&decide (j+1=n)) wr B u F1 kS (ao (jH _ _ (bm ht)) MR.out));clear ht mS kS fw;have hle:((j:Int)==(n:Int)-1)=decide (j+1=n):=by rw[bO,beq_iff_eq,decide_eq_true_eq];omega
   obtain⟨q,hq⟩:=dS (decide (j+1=n));rw[<-hq]at hle HC HS;clear hq;go_wp2_with fail;refine HC.mono ?_;rintro e w1 ⟨v',F',rfl,iE⟩;obtain⟨sI,pI,rfl⟩:=iE.tr.iface;obtain⟨pU,zl,fV,G2,jn⟩:=HS.out w1 _ F' iE;have HI:=aa jn;clear iE jn;go_wp2_with fail;go_roundg (n- (j+1))
   case measure=>omega
   case rel=>exact⟨j+1,fV,G2,rfl,rfl,by omega,HI⟩
  ·have jA:decide ((j:Int)<(n:Int))=false:=(by simp;omega);have iT:=HJ.Cd tU.out (by rw[<-HN.out];omega);have HE:=aa iT;have hF:=f159 wr B (gx true l) a n c lP bl G1 iT.done.1 iT.done.2 iT.nodup iT.lt iT.ge (ao HB.out iT.fo.size) (by rw[ug];exact MR.out);have HF:=aa hF;clear iT hF;go_wp2_with fail;refine HF.mono ?_;rintro e w1 ⟨m,sG,G3,rfl,hf⟩;have qo:=hf.len;have VN:(m:Int)=1\/(m:Int)≠1:=(by omega);have jh:=HE.trans hf;rcases VN with hm|hm
   ·have hm':m=1:=(by omega);subst hm';obtain⟨u,hu⟩:∃u,dZ (gx true l)=[u]:=by
     match h:dZ (gx true l),qo with
     | [u],_=>exact⟨u,rfl⟩
    rw[hu]at jh;obtain⟨b,o,v1,rfl,_,j7,iE⟩:=jh.only;obtain⟨sI,pI,rfl⟩:=iE.tr.iface;have HU:=aa hu;have Ju:=aa iE;clear jh hu iE qo hf hm;go_wp2_with fail;go_ret;refine⟨_,G3,rfl,?_⟩;simp only[jD,if_true,HU.out,fk];exact Ju.out
   ·have hme:((m:Int)==1)=false:=(by simpa using hm);have HML:=aa qo;have HA:=aa jh;clear jh qo hf hm;go_wp2_with fail;go_ret;refine⟨_,bl++G3,rfl,?_⟩;have e:jD true (.dH l)=.dH (dZ (gx true l)):=by
     simp only[jD,if_true];have:=HML.out
     match h:dZ (gx true l)with
     | [u]=>rw[h]at this;simp at this;subst this;simp at hme
     | []=>rfl
     |_::_::_=>rfl
    rw[e];exact HA.uj
theorem Cb (l:List T) (hM:∀t∈l,mJ t) (w:World) (B:Nat) (v:Value) (F:List Nat) (hr:jP w B (.alt l) v F) (fY:eD l<=4000000000000000000):Calls prog 117 #[v,.bool true] w λe w'=>∃v' F',e=.returned v'/\Rw w w' B F (jD true (.alt l)) v' F':=by
 have h:=hr.tr;simp only[Tr]at h;obtain⟨sv,us,bl,G,rfl,hF,h1,h2⟩:=h;subst hF;obtain⟨a,c,rfl⟩:=h1.len;have ic:=eW.length l us G h2;rw[ic]at h1⊢;obtain⟨n,hn⟩:=dS l.length;have kr:=h1.small;rw[ic,<-hn]at kr;rw[<-hn]at h1⊢;have sq:n<=9223372036854775807:=by unfold maxLen at kr;omega
 have HM:=aa hM;have MR:=aa fY;have HN:=aa hn;have HB:=aa hr.base;have H0:=aa (show fy w w B (.slice a n c) bl G ((ki true l).take 0) (l.drop 0) us G from fy.oQ h1 h2 hr.nodup hr.lt hr.ge);have fu:=jV (.slice a n c);clear hn ic hM hr h1 h2 kr fY;go_enter func117,ntmps117;go_wp2_with fail;go_loopg [18] n (λk s18 wr=>∃(j:Nat) (us:List Value) (G2:List Nat),k=n-j/\s18=.int .i64 j/\j<=n/\Hid (fy w wr B (.slice a n c) bl G ((ki true l).take j) (l.drop j) us G2))
 case atStart=>exact⟨0,us,G,rfl,rfl,aU _,H0⟩
 case round=>
  obtain⟨j,lP,G1,rfl,rfl,hj,HJ⟩:=hrel;have tU:Hid ((ki true l).length=l.length):=aa (zL l true);by_cases gM:j<n
  ·have kY:=gW ((j:Int)+1) (by omega);have jA:decide ((j:Int)<(n:Int))=true:=by simp;omega
   obtain⟨b,o,t,t',u,F1,tI,ht,mS,kS,eB,Ke,fw⟩:=HJ.at HB.out tU.out (by rw[<-HN.out];exact gM);have hv:t'=jD true t:=by have:=DW true l j t ht;rw[this,ae]at mS;exact mS.symm
   subst tI;subst hv;have i1:(0:Int)<=(j:Int):=(by omega);have i2:(j:Int)<(n:Int):=by omega
   have HS:=aa fw;have HC:=aa (HM.out t (bm ht) true wr B u F1 kS (ao (jH _ _ (bm ht)) MR.out));clear ht mS kS fw;go_wp2_with fail;refine HC.mono ?_;rintro e w1 ⟨v',F',rfl,iE⟩;obtain⟨sI,pI,rfl⟩:=iE.tr.iface;obtain⟨pU,zl,fV,G2,jn⟩:=HS.out w1 _ F' iE;have HI:=aa jn;clear iE jn;go_wp2_with fail;go_roundg (n- (j+1))
   case measure=>omega
   case rel=>exact⟨j+1,fV,G2,rfl,rfl,by omega,HI⟩
  ·have jA:decide ((j:Int)<(n:Int))=false:=(by simp;omega);have iT:=HJ.Cd tU.out (by rw[<-HN.out];omega);have HE:=aa iT;clear iT;go_wp2_with fail;go_ret;exact⟨_,_,rfl,by simp only[jD];exact HE.D2⟩
mutual
theorem QO:∀(t:T),mJ t
 |.text t=>PF t
 |.char sep=>PJ sep
 |.star sep nx tm=>PH sep nx tm
 |.range lo hi neg=>KF lo hi neg
 |.set cs neg=>Tq cs neg
 |.void=>PE
 |.pre t sep=>Ts t sep
 |.eP t sep=>Tp t sep
 |.dN p q sep=>ID p q sep
 |.cont t=>PI t
 |.dH l=>λτ w B v F hr fY=>match τ with
  |false=>xq l (uf l) w B v F hr fY
  |true=>yO l (uf l) w B v F hr fY
 |.alt l=>λτ w B v F hr fY=>match τ with
  |false=>A9 l (uf l) w B v F hr fY
  |true=>Cb l (uf l) w B v F hr fY
 |.eh l=>PG l
theorem uf:∀(l:List T),∀t∈l,mJ t
 | [],t,h=>by simp at h
 |u::l,t,h=>by
  rcases az.1 h with e|h
  ·rw[e];exact QO u
  ·exact uf l t h
end
end Go.Proofs.YtfejflhgaphilaaGreatDoor
