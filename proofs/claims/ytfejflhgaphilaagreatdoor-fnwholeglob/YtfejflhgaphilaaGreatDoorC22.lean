/- Closing alternatives are folded. Folding the end of a sequence: plain laws, and a row that loses its last item. Whether a sequence is to be rewritten, read off memory. -/
import Derived.Test.YtfejflhgaphilaaGreatDoorC21
set_option linter.all false
set_option maxRecDepth 100000
set_option maxHeartbeats 64000000
open Go.Proofs.Tryz
namespace Go.Proofs.YtfejflhgaphilaaGreatDoor
open Go.RowKit Gm
variable {w wr:World} {B c n j:Nat} {bl G G0 F:List Nat} {us:List Value} {L l d:List T} {sv v:Value} {t x y:T} {a:Option Addr}
theorem Tr.iface (h:Tr w B t v F):∃s p,v=.iface s p:=by
 cases t with
 |set cs neg=>simp only[Tr]at h;obtain⟨_,_,rfl,_⟩:=h;exact⟨_,_,rfl⟩
 |char s=>simp only[Tr]at h;obtain⟨_,_,rfl,_⟩:=h;exact⟨_,_,rfl⟩
 |star s n m=>simp only[Tr]at h;obtain⟨_,_,rfl,_⟩:=h;exact⟨_,_,rfl⟩
 |dH l=>simp only[Tr]at h;obtain⟨_,_,_,_,rfl,_⟩:=h;exact⟨_,_,rfl⟩
 |alt l=>simp only[Tr]at h;obtain⟨_,_,_,_,rfl,_⟩:=h;exact⟨_,_,rfl⟩
 |eh l=>simp only[Tr]at h;obtain⟨_,_,_,_,rfl,_⟩:=h;exact⟨_,_,rfl⟩
 |_=>simp only[Tr]at h;obtain⟨_,rfl,_⟩:=h;exact⟨_,_,rfl⟩
theorem fy.at (h:fy w wr B (.slice a n c) bl G0 (L.take j) (l.drop j) us G) (hB:B<=w.heap.size) (hL:L.length=l.length) (hj:j<l.length):∃b o t t' u F1,a=some ⟨b,o,none⟩/\l[j]? =some t/\L[j]? =some t'/\jP wr B t u F1/\wr.cell? ⟨b,o+j,none⟩=some u/\wr.frozen? ⟨b,o+j,none⟩=false/\∀(w':World) (u':Value) (F':List Nat),Rw wr w' B F1 t' u' F'->w'.cell? ⟨b,o+j,none⟩=some u/\w'.frozen? ⟨b,o+j,none⟩=false/\∃fV G',fy w (w'.setCell ⟨b,o+j,none⟩ u') B (.slice a n c) bl G0 (L.take (j+1)) (l.drop (j+1)) fV G':=by
 obtain⟨t,ht⟩:∃t,l[j]? =some t:=⟨l[j],ah hj⟩;obtain⟨t',mS⟩:∃t,L[j]? =some t:=⟨L[j]'(by omega),ah _⟩;rw[iu ht]at h;obtain⟨b,o,cap,u,F1,he,hc,hr,h1,h2,h3⟩:=h.step' hB;have hd:(L.take j).length=j:=by rw[bn];omega
 rw[hd]at h1 h2 h3;simp only[au]at he;obtain⟨rfl,_,_⟩:=he;refine⟨b,o,t,t',u,F1,rfl,ht,mS,hr,h1,h2,λw' u' F' hw=> ?_⟩;have:=h3 w' t' u' F' hw;rw[ko mS];exact this
theorem fy.oQ (h1:oI w sv us bl) (h2:eW w B l us G) (h3:(bl++G).Nodup) (h4:∀x∈bl++G,x<w.heap.size) (h5:∀x∈bl++G,B<=x):fy w w B sv bl G (L.take 0) (l.drop 0) us G:=by simpa using fy.start h1 h2 h3 h4 h5
theorem fy.Cd (h:fy w wr B sv bl G0 (L.take j) (l.drop j) us G) (hL:L.length=l.length) (hj:l.length<=j):fy w wr B sv bl G0 L [] us G:=by rw[aL hj,aP (by omega)]at h;exact h
theorem fy.Vc (h:fy w wr B sv bl G0 L [] us G):∀x∈bl++G,x∈bl++G0\/w.heap.size<=x:=by
 intro x hx;rcases ar.1 hx with h1|h1
 ·exact .inl (by simp[h1])
 ·rcases h.own x h1 with h2|h2
  ·exact .inl (by simp[h2])
  ·exact .inr h2
theorem fy.uj (h:fy w wr B sv bl G0 L [] us G):Rw w wr B (bl++G0) (.dH L) (.iface 263 sv) (bl++G):=by obtain⟨h1,h2⟩:=h.done;refine⟨?_,h.nodup,h.Vc,h.lt,h.fo.mono λb _ hb=>ar.2 hb⟩;simp only[Tr];exact⟨sv,us,bl,G,rfl,rfl,h1,h2⟩
theorem fy.D2 (h:fy w wr B sv bl G0 L [] us G):Rw w wr B (bl++G0) (.alt L) (.iface 265 sv) (bl++G):=by obtain⟨h1,h2⟩:=h.done;refine⟨?_,h.nodup,h.Vc,h.lt,h.fo.mono λb _ hb=>ar.2 hb⟩;simp only[Tr];exact⟨sv,us,bl,G,rfl,rfl,h1,h2⟩
theorem fy.U8 (h:fy w wr B sv bl G0 L [] us G):Rw w wr B (bl++G0) (.eh L) (.iface 342 sv) (bl++G):=by obtain⟨h1,h2⟩:=h.done;refine⟨?_,h.nodup,h.Vc,h.lt,h.fo.mono λb _ hb=>ar.2 hb⟩;simp only[Tr];exact⟨sv,us,bl,G,rfl,rfl,h1,h2⟩
theorem ER:∀(τ:Bool) (l:List T) (j:Nat) (t:T),l[j]? =some t->(jr τ l)[j]? =some (ji τ t)
 |τ,[],j,t,h=>by simp at h
 |τ,a::l,0,t,h=>by simp only[aN,ae]at h;subst h;simp[jr]
 |τ,a::l,j+1,t,h=>by simp only[jr,bH];exact ER τ l j t (by simpa using h)
theorem EP:∀(τ:Bool) (l:List T) (j:Nat) (t:T),l[j]? =some t->(jC τ l)[j]? =some (ji (τ&&decide (j+1=l.length)) t)
 |τ,[],j,t,h=>by simp at h
 |τ,a::l,0,t,h=>by simp only[aN,ae]at h;subst h;cases l<;>simp[jC]
 |τ,a::l,j+1,t,h=>by simp only[jC,bH,aH];rw[EP τ l j t (by simpa using h)];simp
theorem AW:∀(l:List T) (τ:Bool),(jr τ l).length=l.length
 | [],_=>rfl
 |t::ts,τ=>by simp[jr,AW ts τ]
theorem AU:∀(l:List T) (τ:Bool),(jC τ l).length=l.length
 | [],_=>rfl
 |t::ts,τ=>by simp[jC,AU ts τ]
def mK (t:T):Prop:=∀(τ:Bool) (w:World) (B:Nat) (v:Value) (F:List Nat),jP w B t v F->Calls prog 119 #[v,.bool τ] w λe w'=>∃v' F',e=.returned v'/\Rw w w' B F (ji τ t) v' F'
theorem Ps (t:List dE):mK (.text t):=by intro τ w B v F hr;have h:=hr.tr;have HR:=aa hr;clear hr;simp only[Tr]at h;obtain⟨b,rfl,dU⟩:=h;clear dU;have eH:=jX (.pointer (some ⟨b,0,none⟩));have fu:=pe (.pointer (some ⟨b,0,none⟩));go_enter func119,ntmps119;go_wp2_with fail;go_ret;exact⟨_,F,rfl,by simp only[ji];exact HR.rw⟩
theorem Px (sep:List dE):mK (.char sep):=by intro τ w B v F hr;have h:=hr.tr;have HR:=aa hr;clear hr;simp only[Tr]at h;obtain⟨b,vs,rfl,dU⟩:=h;clear dU;have eH:=kP (.pointer (some ⟨b,0,none⟩));have fu:=nB (.pointer (some ⟨b,0,none⟩));go_enter func119,ntmps119;go_wp2_with fail;go_ret;exact⟨_,F,rfl,by simp only[ji];exact HR.rw⟩
theorem Pv (sep nx:List dE) (tm:Bool):mK (.star sep nx tm):=by intro τ w B v F hr;have h:=hr.tr;have HR:=aa hr;clear hr;simp only[Tr]at h;obtain⟨b,vs,rfl,dU⟩:=h;clear dU;have eH:=iP (.pointer (some ⟨b,0,none⟩));have fu:=l7 (.pointer (some ⟨b,0,none⟩));go_enter func119,ntmps119;go_wp2_with fail;go_ret;exact⟨_,F,rfl,by simp only[ji];exact HR.rw⟩
theorem KD (lo hi:Int) (neg:Bool):mK (.range lo hi neg):=by intro τ w B v F hr;have h:=hr.tr;have HR:=aa hr;clear hr;simp only[Tr]at h;obtain⟨b,rfl,dU⟩:=h;clear dU;have eH:=kL (.pointer (some ⟨b,0,none⟩));have fu:=nz (.pointer (some ⟨b,0,none⟩));go_enter func119,ntmps119;go_wp2_with fail;go_ret;exact⟨_,F,rfl,by simp only[ji];exact HR.rw⟩
theorem Ti (cs:List dE) (neg:Bool):mK (.set cs neg):=by intro τ w B v F hr;have h:=hr.tr;have HR:=aa hr;clear hr;simp only[Tr]at h;obtain⟨b,mb,rfl,dU⟩:=h;clear dU;have eH:=kJ (.pointer (some ⟨b,0,none⟩));have fu:=ny (.pointer (some ⟨b,0,none⟩));go_enter func119,ntmps119;go_wp2_with fail;go_ret;exact⟨_,F,rfl,by simp only[ji];exact HR.rw⟩
theorem Pr:mK (.void):=by intro τ w B v F hr;have h:=hr.tr;have HR:=aa hr;clear hr;simp only[Tr]at h;obtain⟨u,rfl,dU⟩:=h;clear dU;have eH:=jW u;have fu:=l5 u;go_enter func119,ntmps119;go_wp2_with fail;go_ret;exact⟨_,F,rfl,by simp only[ji];exact HR.rw⟩
theorem Tj (t sep:List dE):mK (.pre t sep):=by intro τ w B v F hr;have h:=hr.tr;have HR:=aa hr;clear hr;simp only[Tr]at h;obtain⟨b,rfl,dU⟩:=h;clear dU;have eH:=kG (.pointer (some ⟨b,0,none⟩));have fu:=nv (.pointer (some ⟨b,0,none⟩));go_enter func119,ntmps119;go_wp2_with fail;go_ret;exact⟨_,F,rfl,by simp only[ji];exact HR.rw⟩
theorem Th (t sep:List dE):mK (.eP t sep):=by intro τ w B v F hr;have h:=hr.tr;have HR:=aa hr;clear hr;simp only[Tr]at h;obtain⟨b,rfl,dU⟩:=h;clear dU;have eH:=lU (.pointer (some ⟨b,0,none⟩));have fu:=o8 (.pointer (some ⟨b,0,none⟩));go_enter func119,ntmps119;go_wp2_with fail;go_ret;exact⟨_,F,rfl,by simp only[ji];exact HR.rw⟩
theorem IB (p q sep:List dE):mK (.dN p q sep):=by intro τ w B v F hr;have h:=hr.tr;have HR:=aa hr;clear hr;simp only[Tr]at h;obtain⟨b,rfl,dU⟩:=h;clear dU;have eH:=lR (.pointer (some ⟨b,0,none⟩));have fu:=o7 (.pointer (some ⟨b,0,none⟩));go_enter func119,ntmps119;go_wp2_with fail;go_ret;exact⟨_,F,rfl,by simp only[ji];exact HR.rw⟩
theorem Pw (t:List dE):mK (.cont t):=by intro τ w B v F hr;have h:=hr.tr;have HR:=aa hr;clear hr;simp only[Tr]at h;obtain⟨b,rfl,dU⟩:=h;clear dU;have eH:=kC (.pointer (some ⟨b,0,none⟩));have fu:=nt (.pointer (some ⟨b,0,none⟩));go_enter func119,ntmps119;go_wp2_with fail;go_ret;exact⟨_,F,rfl,by simp only[ji];exact HR.rw⟩
theorem Pu (l:List T):mK (.eh l):=by intro τ w B v F hr;have h:=hr.tr;have HR:=aa hr;clear hr;simp only[Tr]at h;obtain⟨sv,us,bl,G,rfl,dU⟩:=h;clear dU;have eH:=jU sv;have fu:=o9 sv;go_enter func119,ntmps119;go_wp2_with fail;go_ret;exact⟨_,F,rfl,by simp only[ji];exact HR.rw⟩
theorem xo (l:List T) (hM:∀t∈l,mK t) (w:World) (B:Nat) (v:Value) (F:List Nat) (hr:jP w B (.dH l) v F):Calls prog 119 #[v,.bool false] w λe w'=>∃v' F',e=.returned v'/\Rw w w' B F (ji false (.dH l)) v' F':=by
 have h:=hr.tr;simp only[Tr]at h;obtain⟨sv,us,bl,G,rfl,hF,h1,h2⟩:=h;subst hF;obtain⟨a,c,rfl⟩:=h1.len;have ic:=eW.length l us G h2;rw[ic]at h1⊢;obtain⟨n,hn⟩:=dS l.length;have kr:=h1.small;rw[ic,<-hn]at kr;rw[<-hn]at h1⊢;have sq:n<=9223372036854775807:=by unfold maxLen at kr;omega
 have HM:=aa hM;have HN:=aa hn;have HB:=aa hr.base;have H0:=aa (show fy w w B (.slice a n c) bl G ((jC false l).take 0) (l.drop 0) us G from fy.oQ h1 h2 hr.nodup hr.lt hr.ge);have eH:=ij (.slice a n c);clear hn ic hM hr h1 h2 kr;go_enter func119,ntmps119;go_wp2_with fail;go_loopg [17] n (λk s17 wr=>∃(j:Nat) (us:List Value) (G2:List Nat),k=n-j/\s17=.int .i64 j/\j<=n/\Hid (fy w wr B (.slice a n c) bl G ((jC false l).take j) (l.drop j) us G2))
 case atStart=>exact⟨0,us,G,rfl,rfl,aU _,H0⟩
 case round=>
  obtain⟨j,lP,G1,rfl,rfl,hj,HJ⟩:=hrel;have tU:Hid ((jC false l).length=l.length):=aa (AU l false);by_cases gM:j<n
  ·have kY:=gW ((j:Int)+1) (by omega);have mN:=gW ((n:Int)-1) (by omega);have jA:decide ((j:Int)<(n:Int))=true:=(by simp;omega);obtain⟨b,o,t,t',u,F1,tI,ht,mS,kS,eB,Ke,fw⟩:=HJ.at HB.out tU.out (by rw[<-HN.out];exact gM);have hv:t'=ji (false&&decide (j+1=n)) t:=by
    have:=HN.out▸EP false l j t ht;rw[this,ae]at mS;exact mS.symm
   subst tI;subst hv;have i1:(0:Int)<=(j:Int):=(by omega);have i2:(j:Int)<(n:Int):=by omega
   have HS:=aa fw;have HC:=aa (HM.out t (bm ht) (false&&decide (j+1=n)) wr B u F1 kS);clear ht mS kS fw;have hle:((j:Int)==(n:Int)-1)=decide (j+1=n):=by rw[bO,beq_iff_eq,decide_eq_true_eq];omega
   obtain⟨q,hq⟩:=dS (decide (j+1=n));rw[<-hq]at hle HC HS;clear hq;go_wp2_with fail;refine HC.mono ?_;rintro e w1 ⟨v',F',rfl,iE⟩;obtain⟨sI,pI,rfl⟩:=iE.tr.iface;obtain⟨pU,zl,fV,G2,jn⟩:=HS.out w1 _ F' iE;have HI:=aa jn;clear iE jn;go_wp2_with fail;go_roundg (n- (j+1))
   case measure=>omega
   case rel=>exact⟨j+1,fV,G2,rfl,rfl,by omega,HI⟩
  ·have jA:decide ((j:Int)<(n:Int))=false:=(by simp;omega);go_wp2_with fail;go_ret;have:=(HJ.Cd tU.out (by rw[<-HN.out];omega)).uj;exact⟨_,_,rfl,by simp only[ji];exact this⟩
theorem A8 (l:List T) (hM:∀t∈l,mK t) (w:World) (B:Nat) (v:Value) (F:List Nat) (hr:jP w B (.alt l) v F):Calls prog 119 #[v,.bool false] w λe w'=>∃v' F',e=.returned v'/\Rw w w' B F (ji false (.alt l)) v' F':=by
 have h:=hr.tr;simp only[Tr]at h;obtain⟨sv,us,bl,G,rfl,hF,h1,h2⟩:=h;subst hF;obtain⟨a,c,rfl⟩:=h1.len;have ic:=eW.length l us G h2;rw[ic]at h1⊢;obtain⟨n,hn⟩:=dS l.length;have kr:=h1.small;rw[ic,<-hn]at kr;rw[<-hn]at h1⊢;have sq:n<=9223372036854775807:=by unfold maxLen at kr;omega
 have HM:=aa hM;have HN:=aa hn;have HB:=aa hr.base;have H0:=aa (show fy w w B (.slice a n c) bl G ((jr false l).take 0) (l.drop 0) us G from fy.oQ h1 h2 hr.nodup hr.lt hr.ge);have eH:=kN (.slice a n c);have fu:=jV (.slice a n c);clear hn ic hM hr h1 h2 kr;go_enter func119,ntmps119;go_wp2_with fail;go_loopg [41] n (λk s41 wr=>∃(j:Nat) (us:List Value) (G2:List Nat),k=n-j/\s41=.int .i64 j/\j<=n/\Hid (fy w wr B (.slice a n c) bl G ((jr false l).take j) (l.drop j) us G2))
 case atStart=>exact⟨0,us,G,rfl,rfl,aU _,H0⟩
 case round=>
  obtain⟨j,lP,G1,rfl,rfl,hj,HJ⟩:=hrel;have tU:Hid ((jr false l).length=l.length):=aa (AW l false);by_cases gM:j<n
  ·have kY:=gW ((j:Int)+1) (by omega);have jA:decide ((j:Int)<(n:Int))=true:=by simp;omega
   obtain⟨b,o,t,t',u,F1,tI,ht,mS,kS,eB,Ke,fw⟩:=HJ.at HB.out tU.out (by rw[<-HN.out];exact gM);have hv:t'=ji false t:=by have:=ER false l j t ht;rw[this,ae]at mS;exact mS.symm
   subst tI;subst hv;have i1:(0:Int)<=(j:Int):=(by omega);have i2:(j:Int)<(n:Int):=by omega
   have HS:=aa fw;have HC:=aa (HM.out t (bm ht) false wr B u F1 kS);clear ht mS kS fw;go_wp2_with fail;refine HC.mono ?_;rintro e w1 ⟨v',F',rfl,iE⟩;obtain⟨sI,pI,rfl⟩:=iE.tr.iface;obtain⟨pU,zl,fV,G2,jn⟩:=HS.out w1 _ F' iE;have HI:=aa jn;clear iE jn;go_wp2_with fail;go_roundg (n- (j+1))
   case measure=>omega
   case rel=>exact⟨j+1,fV,G2,rfl,rfl,by omega,HI⟩
  ·have jA:decide ((j:Int)<(n:Int))=false:=(by simp;omega);have iT:=HJ.Cd tU.out (by rw[<-HN.out];omega);have HE:=aa iT;clear iT;go_wp2_with fail;go_ret;exact⟨_,_,rfl,by simp only[ji,cr];exact HE.D2⟩
theorem yM (l:List T) (hM:∀t∈l,mK t) (w:World) (B:Nat) (v:Value) (F:List Nat) (hr:jP w B (.dH l) v F):Calls prog 119 #[v,.bool true] w λe w'=>∃v' F',e=.returned v'/\Rw w w' B F (ji true (.dH l)) v' F':=by
 have h:=hr.tr;simp only[Tr]at h;obtain⟨sv,us,bl,G,rfl,hF,h1,h2⟩:=h;subst hF;obtain⟨a,c,rfl⟩:=h1.len;have ic:=eW.length l us G h2;rw[ic]at h1⊢;obtain⟨n,hn⟩:=dS l.length;have kr:=h1.small;rw[ic,<-hn]at kr;rw[<-hn]at h1⊢;have sq:n<=9223372036854775807:=by unfold maxLen at kr;omega
 have HM:=aa hM;have HN:=aa hn;have HB:=aa hr.base;have H0:=aa (show fy w w B (.slice a n c) bl G ((jC true l).take 0) (l.drop 0) us G from fy.oQ h1 h2 hr.nodup hr.lt hr.ge);have eH:=ij (.slice a n c);clear hn ic hM hr h1 h2 kr;go_enter func119,ntmps119;go_wp2_with fail;go_loopg [17] n (λk s17 wr=>∃(j:Nat) (us:List Value) (G2:List Nat),k=n-j/\s17=.int .i64 j/\j<=n/\Hid (fy w wr B (.slice a n c) bl G ((jC true l).take j) (l.drop j) us G2))
 case atStart=>exact⟨0,us,G,rfl,rfl,aU _,H0⟩
 case round=>
  obtain⟨j,lP,G1,rfl,rfl,hj,HJ⟩:=hrel;have tU:Hid ((jC true l).length=l.length):=aa (AU l true);by_cases gM:j<n
  ·have kY:=gW ((j:Int)+1) (by omega);have mN:=gW ((n:Int)-1) (by omega);have jA:decide ((j:Int)<(n:Int))=true:=(by simp;omega);obtain⟨b,o,t,t',u,F1,tI,ht,mS,kS,eB,Ke,fw⟩:=HJ.at HB.out tU.out (by rw[<-HN.out];exact gM);have hv:t'=ji (true&&decide (j+1=n)) t:=by
    have:=HN.out▸EP true l j t ht;rw[this,ae]at mS;exact mS.symm
   subst tI;subst hv;have i1:(0:Int)<=(j:Int):=(by omega);have i2:(j:Int)<(n:Int):=by omega
   have HS:=aa fw;have HC:=aa (HM.out t (bm ht) (true&&decide (j+1=n)) wr B u F1 kS);clear ht mS kS fw;have hle:((j:Int)==(n:Int)-1)=decide (j+1=n):=by rw[bO,beq_iff_eq,decide_eq_true_eq];omega
   obtain⟨q,hq⟩:=dS (decide (j+1=n));rw[<-hq]at hle HC HS;clear hq;go_wp2_with fail;refine HC.mono ?_;rintro e w1 ⟨v',F',rfl,iE⟩;obtain⟨sI,pI,rfl⟩:=iE.tr.iface;obtain⟨pU,zl,fV,G2,jn⟩:=HS.out w1 _ F' iE;have HI:=aa jn;clear iE jn;go_wp2_with fail;go_roundg (n- (j+1))
   case measure=>omega
   case rel=>exact⟨j+1,fV,G2,rfl,rfl,by omega,HI⟩
  ·have jA:decide ((j:Int)<(n:Int))=false:=(by simp;omega);go_wp2_with fail;go_ret;have:=(HJ.Cd tU.out (by rw[<-HN.out];omega)).uj;exact⟨_,_,rfl,by simp only[ji];exact this⟩
theorem Ca (l:List T) (hM:∀t∈l,mK t) (w:World) (B:Nat) (v:Value) (F:List Nat) (hr:jP w B (.alt l) v F):Calls prog 119 #[v,.bool true] w λe w'=>∃v' F',e=.returned v'/\Rw w w' B F (ji true (.alt l)) v' F':=by
 have h:=hr.tr;simp only[Tr]at h;obtain⟨sv,us,bl,G,rfl,hF,h1,h2⟩:=h;subst hF;obtain⟨a,c,rfl⟩:=h1.len;have ic:=eW.length l us G h2;rw[ic]at h1⊢;obtain⟨n,hn⟩:=dS l.length;have kr:=h1.small;rw[ic,<-hn]at kr;rw[<-hn]at h1⊢;have sq:n<=9223372036854775807:=by unfold maxLen at kr;omega
 have HM:=aa hM;have HN:=aa hn;have HB:=aa hr.base;have H0:=aa (show fy w w B (.slice a n c) bl G ((jr true l).take 0) (l.drop 0) us G from fy.oQ h1 h2 hr.nodup hr.lt hr.ge);have eH:=kN (.slice a n c);have fu:=jV (.slice a n c);clear hn ic hM hr h1 h2 kr;go_enter func119,ntmps119;go_wp2_with fail;go_loopg [41] n (λk s41 wr=>∃(j:Nat) (us:List Value) (G2:List Nat),k=n-j/\s41=.int .i64 j/\j<=n/\Hid (fy w wr B (.slice a n c) bl G ((jr true l).take j) (l.drop j) us G2))
 case atStart=>exact⟨0,us,G,rfl,rfl,aU _,H0⟩
 case round=>
  obtain⟨j,lP,G1,rfl,rfl,hj,HJ⟩:=hrel;have tU:Hid ((jr true l).length=l.length):=aa (AW l true);by_cases gM:j<n
  ·have kY:=gW ((j:Int)+1) (by omega);have jA:decide ((j:Int)<(n:Int))=true:=by simp;omega
   obtain⟨b,o,t,t',u,F1,tI,ht,mS,kS,eB,Ke,fw⟩:=HJ.at HB.out tU.out (by rw[<-HN.out];exact gM);have hv:t'=ji true t:=by have:=ER true l j t ht;rw[this,ae]at mS;exact mS.symm
   subst tI;subst hv;have i1:(0:Int)<=(j:Int):=(by omega);have i2:(j:Int)<(n:Int):=by omega
   have HS:=aa fw;have HC:=aa (HM.out t (bm ht) true wr B u F1 kS);clear ht mS kS fw;go_wp2_with fail;refine HC.mono ?_;rintro e w1 ⟨v',F',rfl,iE⟩;obtain⟨sI,pI,rfl⟩:=iE.tr.iface;obtain⟨pU,zl,fV,G2,jn⟩:=HS.out w1 _ F' iE;have HI:=aa jn;clear iE jn;go_wp2_with fail;go_roundg (n- (j+1))
   case measure=>omega
   case rel=>exact⟨j+1,fV,G2,rfl,rfl,by omega,HI⟩
  ·have jA:decide ((j:Int)<(n:Int))=false:=(by simp;omega);have iT:=HJ.Cd tU.out (by rw[<-HN.out];omega);have HE:=aa iT;have HNE:=aa (f161 B (jr true l) a n c lP bl G1 wr iT.done.1 iT.done.2 (Tc B wr _ lP G1 iT.done.2));clear iT;cases lI:iA (jr true l)with
   |true=>have hq:=HNE.out;rw[lI]at hq;have HQ:=aa hq;have Bq:=aa lI;clear hq lI;go_wp2_with fail;refine HQ.mono ?_;rintro e w1 ⟨rfl,rfl⟩;go_wp2_with fail;go_ret;exact⟨_,_,rfl,by simp only[ji,Bq.out];exact HE.D2⟩
   |false=>have hq:=HNE.out;rw[lI]at hq;have HQ:=aa hq;have Bq:=aa lI;clear hq lI;go_wp2_with fail;refine HQ.mono ?_;rintro e w1 ⟨rfl,rfl⟩;go_wp2_with fail;go_ret;exact⟨_,_,rfl,by simp only[ji,Bq.out];exact HE.U8⟩
mutual
theorem SP:∀(t:T),mK t
 |.text t=>Ps t
 |.char sep=>Px sep
 |.star sep nx tm=>Pv sep nx tm
 |.range lo hi neg=>KD lo hi neg
 |.set cs neg=>Ti cs neg
 |.void=>Pr
 |.pre t sep=>Tj t sep
 |.eP t sep=>Th t sep
 |.dN p q sep=>IB p q sep
 |.cont t=>Pw t
 |.dH l=>λτ w B v F hr=>match τ with
  |false=>xo l (uR l) w B v F hr
  |true=>yM l (uR l) w B v F hr
 |.alt l=>λτ w B v F hr=>match τ with
  |false=>A8 l (uR l) w B v F hr
  |true=>Ca l (uR l) w B v F hr
 |.eh l=>Pu l
theorem uR:∀(l:List T),∀t∈l,mK t
 | [],t,h=>by simp at h
 |u::l,t,h=>by
  rcases az.1 h with e|h
  ·rw[e];exact SP u
  ·exact uR l t h
end
theorem ET (u:T):dZ [u]=[u]:=by simp[dZ]
theorem uU {s s':List T} (h:dZ s=dZ s'):∀(p:List T),dZ (p++s)=dZ (p++s')
 | []=>h
 |t::p=>by simp only[aJ,dZ,uU h p]
theorem ju {c:T} (h:gz x y=some c) (p:List T):dZ (p++[x,y])=dZ (p++[c]):=uU (by simp[dZ,h]) p
theorem tb {s:List T} (h:dZ s=s) (hl:2<=s.length):∀(p:List T),dZ (p++s)=p++s
 | []=>h
 |t::p=>by
  have ih:=tb h hl p;simp only[aJ,dZ,ih];have:2<=(p++s).length:=by simp;omega
  split
  ·rename_i e;rw[e]at this;simp at this
  ·rfl
theorem eO (h:gz x y=none) (p:List T):dZ (p++[x,y])=p++[x,y]:=tb (by simp[dZ,h]) (by simp) p
theorem A3 (h:d.length<2):dZ d=d:=by
 match d,h with
 | [],_=>rfl
 | [u],_=>exact ET u
mutual
def ix:T->Nat
 |.text t=>(enc t).length
 |.pre t _=>(enc t).length
 |.eP t _=>(enc t).length
 |.dN p q _=>(enc p).length+(enc q).length
 |.cont t=>(enc t).length
 |.dH l=>eD l
 |.alt l=>eD l
 |.eh l=>eD l
 |_=>0
def eD:List T->Nat
 | []=>0
 |t::l=>ix t+eD l
end
theorem ej:∀(a b:List T),eD (a++b)=eD a+eD b
 | [],b=>by simp[eD]
 |t::a,b=>by simp only[aJ,eD,ej a b];omega
theorem jH:∀(l:List T) (t:T),t∈l->ix t<=eD l
 | [],t,h=>by simp at h
 |u::l,t,h=>by
  simp only[eD];rcases az.1 h with e|h
  ·rw[e];omega
  ·have:=jH l t h;omega
theorem O0 {c:T} (h:gz x y=some c):ix c=ix x+ix y:=by unfold gz at h;split at h<;>(try split at h)<;>simp only[ae,reduceCtorEq]at h<;>subst h<;>simp[ix,dR]
theorem uS:∀(l:List T),eD (dZ l)=eD l
 | []=>rfl
 |t::ts=>by
  have ih:=uS ts;simp only[dZ];split
  ·rename_i u e;rw[e]at ih;split
   ·rename_i c hc;have:=O0 hc;simp only[eD]at ih⊢;omega
   ·simp only[eD]at ih⊢;omega
  ·simp only[eD,ih]
theorem oI.init {u:Value} (h:oI w (.slice a n c) (us++[u]) bl):n=us.length+1/\n<=c/\c<=maxLen/\oI w (.slice a us.length c) us bl:=by
 rcases h with⟨h,_⟩|⟨b,o,cap,cs,e,rfl,h3,h4,h5,h6⟩
 ·simp at h
 ·simp only[au,aj,aH,aG]at e;obtain⟨rfl,rfl,rfl⟩:=e;refine⟨rfl,by simpa using h5,h6,.inr ⟨b,o,c,cs,rfl,rfl,h3,λi hi=> ?_,by simp at h5;omega,h6⟩⟩;have:=h4 i (by simp;omega);rw[List.getElem_append_left hi]at this;exact this
theorem fy.two {m:Nat} {p:List T} (h:fy w wr B (.slice a m c) bl G0 (p++[x,y]) [] us G) (hB:B<=w.heap.size):∃b o ux uy Fx Fy,a=some ⟨b,o,none⟩/\m=p.length+2/\m<=c/\c<=maxLen/\Tr wr B x ux Fx/\Tr wr B y uy Fy/\(Fx++Fy).Nodup/\(∀z∈Fx++Fy,z<wr.heap.size)/\wr.cell? ⟨b,o+p.length,none⟩=some ux/\wr.cell? ⟨b,o+(p.length+1),none⟩=some uy/\B<=wr.heap.size/\b<wr.heap.size/\∀(w':World) (t':T) (u':Value) (F':List Nat),ei (λ_=>False) wr w'->Tr w' B t' u' F'->F'.Nodup->(∀z∈F',z∈Fx++Fy\/wr.heap.size<=z)->(∀z∈F',z<w'.heap.size)->w'.cell? ⟨b,o+p.length,none⟩=some ux/\w'.frozen? ⟨b,o+p.length,none⟩=false/\∃fV G',fy w (w'.setCell ⟨b,o+p.length,none⟩ u') B (.slice a (p.length+1) c) bl G0 (p++[t']) [] fV G':=by
 have ll:=h.tr;rw[bd]at ll;obtain⟨kB,lP,G1,G2,rfl,rfl,h1,h2⟩:=eW.split p [x,y] us G ll;simp only[eW]at h2;obtain⟨ux,sG,Fx,F2,rfl,rfl,hx,uy,us4,Fy,F3,rfl,rfl,hy,rfl,rfl⟩:=h2;rw[bd]at h;have jg:=eW.length p kB G1 h1;have lI:=h.nodup;have eR:=h.lt;have rB:=h.ge;have Xv:=h.row;obtain⟨b,o,cap,e1,rfl,nj,eB,vD,_⟩:=h.row.set ux;simp only[au,aj,aH,aG]at e1;obtain⟨rfl,rfl,rfl⟩:=e1;have Xw:oI wr (.slice (some ⟨b,o,none⟩) (kB.length+(0+1+1)) c) ((kB++[ux])++uy:: []) [b]:=by simpa using Xv
 obtain⟨b1,o1,cap1,e2,_,_,Sq,_,_⟩:=Xw.set uy;simp only[au,ae,aY,and_true]at e2;obtain⟨⟨rfl,rfl⟩,_,rfl⟩:=e2;have hinit:=Xw.init;rw[jg]at eB vD;rw[aj,jg]at Sq;have R5:=lI;rw[aZ]at R5;obtain⟨_,XG,EF⟩:=R5;rw[aZ]at XG;obtain⟨_,hn4,Qb⟩:=XG;have H':B<=wr.heap.size:=ao hB h.fo.size;have mQ:b<wr.heap.size:=eR b (by simp);have SA:b∉Fx++Fy:=λe=>EF b (by simp) b (bg _ e) rfl;refine⟨b,o,ux,uy,Fx,Fy,rfl,by rw[jg],hinit.2.1,nj,hx,hy,hn4,λz hz=>eR z (bg _ (bg _ hz)),eB,Sq,H',mQ,?_⟩;intro w' t' u' F' hc mS yA V6 Sa;have gJ:wr.heap.size<=w'.heap.size:=hc.size;have xe:w'.heap[b]? =wr.heap[b]? :=hc.same b mQ (λe=>e);refine⟨(aF (w:=wr) (a:=⟨b,o+p.length,none⟩) xe).trans eB,(dt (w:=wr) (a:=⟨b,o+p.length,none⟩) xe).trans vD,kB++[u'],G1++F',?_⟩;have gO:oI w' (.slice (some ⟨b,o,none⟩) (kB.length+(0+1+1)) c) (kB++ux:: [uy]) [b]:=Xv.keep λc pU=>by simp only[aE]at pU;subst pU;exact xe
 obtain⟨b',o',oY,e,e2,_,_,_,ni⟩:=gO.set u';simp only[au,ae,aY,and_true]at e;obtain⟨⟨rfl,rfl⟩,_,rfl⟩:=e;rw[jg]at ni;have hset':oI (w'.setCell ⟨b,o+p.length,none⟩ u') (.slice (some ⟨b,o,none⟩) (p.length+(0+1+1)) c) ((kB++[u'])++[uy]) [b]:=by simpa using ni
 have Xt:=hset'.init.2.2.2;rw[aj,jg]at Xt;have gE:∀c,c<B->(w'.setCell ⟨b,o+p.length,none⟩ u').heap[c]? =wr.heap[c]? :=λc hcB=>by rw[aq _ _ _ c (show c≠b by have:=rB b (by simp);omega)];exact hc.same c (by omega) λe=>e
 have He:∀c,c<wr.heap.size->c≠b->(w'.setCell ⟨b,o+p.length,none⟩ u').heap[c]? =wr.heap[c]? :=λc h1 h3=>by rw[aq _ _ _ c h3];exact hc.same c h1 λe=>e
 refine⟨Xt,?_,?_,?_,?_,?_,?_⟩
 ·rw[bd];refine eW.append p [t'] kB [u'] G1 F' (eW.keep gE p kB G1 h1 λc mX=> ?_) ?_
  ·exact He c (eR c (by simp[mX])) (λe=>EF b (by simp) c (by simp[mX]) e.symm)
  ·refine eW.one.2 ⟨u',rfl,Tr.keep (w:=w') (λc hcB=> ?_) t' u' F' mS λc mX=> ?_⟩
   ·exact aq _ _ _ c (show c≠b by have:=rB b (by simp);omega)
   ·refine aq _ _ _ c (show c≠b fromλe=> ?_);subst e;rcases V6 c mX with h|h
    ·exact SA h
    ·omega
 ·have:=qf (G1:=[b]++G1) (F1:=Fx++Fy) (F1':=F') (G2:=[]) (n:=wr.heap.size) (by simpa using lI) (by simpa using eR) yA V6;simpa using this
 ·intro z hz;rcases ar.1 hz with hz|hz
  ·exact h.own z (by simp[hz])
  ·rcases V6 z hz with h1|h1
   ·exact h.own z (bg _ h1)
   ·right;have:=h.fo.size;omega
 ·intro z hz;rw[aK];simp only[ar,aE]at hz;rcases hz with hz|hz|hz
  ·subst hz;omega
  ·have:=eR z (by simp[hz]);omega
  ·exact Sa z hz
 ·intro z hz;simp only[ar,aE]at hz;rcases hz with hz|hz|hz
  ·subst hz;exact rB z (by simp)
  ·exact rB z (by simp[hz])
  ·rcases V6 z hz with h1|h1
   ·exact rB z (bg _ (bg _ h1))
   ·omega
 ·have h5:ei (λc=>c=b) wr (w'.setCell ⟨b,o+p.length,none⟩ u'):=hc.trans (ei.cell (S:=(·=b)) rfl) (λ_ _ h=>h.elim) (λ_ _ h=>h);refine h.fo.trans h5 (λ_ _ h=>h) (λc ka mX=> ?_);subst mX;left;simp
theorem Qv (h:2<=d.length):∃p x y,d=p++[x,y]:=by
 obtain⟨d1,y,rfl⟩:∃d1 y,d=d1++[y]:=⟨d.dropLast,d.getLast (by rintro rfl;simp at h),(cV _).symm⟩;have h1:d1≠[]:=by rintro rfl;simp at h
 exact⟨d1.dropLast,d1.getLast h1,y,by rw[show[d1.getLast h1,y]=[d1.getLast h1]++[y]from rfl,<-aD,cV]⟩
theorem Ag (h:Tr w B t v F) (hs:t.fz=false):∃s p,v=.iface s p/\(∀w,(Instr.typeAssert (.iface s p) 153 250 true).run prog w=.ok (.tuple #[.pointer none,.bool false]) w):=by
 cases t with
 |text t=>simp[T.fz]at hs
 |char sep=>simp only[Tr]at h;obtain⟨b,vs,rfl,_⟩:=h;exact⟨_,_,rfl,kQ _⟩
 |star sep nx tm=>simp only[Tr]at h;obtain⟨b,vs,rfl,_⟩:=h;exact⟨_,_,rfl,iQ _⟩
 |range lo hi neg=>simp only[Tr]at h;obtain⟨b,rfl,_⟩:=h;exact⟨_,_,rfl,kM _⟩
 |set cs neg=>simp only[Tr]at h;obtain⟨b,mb,rfl,_⟩:=h;exact⟨_,_,rfl,kK _⟩
 |void=>simp only[Tr]at h;obtain⟨u,rfl,_⟩:=h;exact⟨_,_,rfl,l6 _⟩
 |pre t sep=>simp only[Tr]at h;obtain⟨b,rfl,_⟩:=h;exact⟨_,_,rfl,kH _⟩
 |eP t sep=>simp only[Tr]at h;obtain⟨b,rfl,_⟩:=h;exact⟨_,_,rfl,kF _⟩
 |dN p q sep=>simp only[Tr]at h;obtain⟨b,rfl,_⟩:=h;exact⟨_,_,rfl,kE _⟩
 |cont t=>simp only[Tr]at h;obtain⟨b,rfl,_⟩:=h;exact⟨_,_,rfl,kD _⟩
 |dH l=>simp only[Tr]at h;obtain⟨sv,us,bl,G,rfl,_⟩:=h;exact⟨_,_,rfl,l0 _⟩
 |alt l=>simp only[Tr]at h;obtain⟨sv,us,bl,G,rfl,_⟩:=h;exact⟨_,_,rfl,kO _⟩
 |eh l=>simp only[Tr]at h;obtain⟨sv,us,bl,G,rfl,_⟩:=h;exact⟨_,_,rfl,kI _⟩
theorem Q9 (h:Tr w B t v F) (hs:t.fz=false) (pT:t.eL=false):∃s p,v=.iface s p/\(∀w,(Instr.typeAssert (.iface s p) 153 250 true).run prog w=.ok (.tuple #[.pointer none,.bool false]) w)/\(∀w,(Instr.typeAssert (.iface s p) 153 255 true).run prog w=.ok (.tuple #[.pointer none,.bool false]) w):=by
 cases t with
 |text t=>simp[T.fz]at hs
 |char sep=>simp only[Tr]at h;obtain⟨b,vs,rfl,_⟩:=h;exact⟨_,_,rfl,kQ _,l8 _⟩
 |star sep nx tm=>simp[T.eL]at pT
 |range lo hi neg=>simp only[Tr]at h;obtain⟨b,rfl,_⟩:=h;exact⟨_,_,rfl,kM _,lZ _⟩
 |set cs neg=>simp only[Tr]at h;obtain⟨b,mb,rfl,_⟩:=h;exact⟨_,_,rfl,kK _,lY _⟩
 |void=>simp only[Tr]at h;obtain⟨u,rfl,_⟩:=h;exact⟨_,_,rfl,l6 _,nA _⟩
 |pre t sep=>simp only[Tr]at h;obtain⟨b,rfl,_⟩:=h;exact⟨_,_,rfl,kH _,lW _⟩
 |eP t sep=>simp only[Tr]at h;obtain⟨b,rfl,_⟩:=h;exact⟨_,_,rfl,kF _,lV _⟩
 |dN p q sep=>simp only[Tr]at h;obtain⟨b,rfl,_⟩:=h;exact⟨_,_,rfl,kE _,lS _⟩
 |cont t=>simp only[Tr]at h;obtain⟨b,rfl,_⟩:=h;exact⟨_,_,rfl,kD _,lQ _⟩
 |dH l=>simp only[Tr]at h;obtain⟨sv,us,bl,G,rfl,_⟩:=h;exact⟨_,_,rfl,l0 _,rZ _⟩
 |alt l=>simp only[Tr]at h;obtain⟨sv,us,bl,G,rfl,_⟩:=h;exact⟨_,_,rfl,kO _,pd _⟩
 |eh l=>simp only[Tr]at h;obtain⟨sv,us,bl,G,rfl,_⟩:=h;exact⟨_,_,rfl,kI _,lX _⟩
theorem Tr.kinds (h:Tr w B t v F):∃s p x1 x2 x3 x4,v=.iface s p/\(∀w,(Instr.typeAssert (.iface s p) 153 263 true).run prog w=.ok (.tuple #[x1,.bool t.eV]) w)/\(∀w,(Instr.typeAssert (.iface s p) 153 260 true).run prog w=.ok (.tuple #[x2,.bool t.isVoid]) w)/\(∀w,(Instr.typeAssert (.iface s p) 153 250 true).run prog w=.ok (.tuple #[x3,.bool t.fz]) w)/\(∀w,(Instr.typeAssert (.iface s p) 153 255 true).run prog w=.ok (.tuple #[x4,.bool t.eL]) w):=by
 cases t with
 |text t=>simp only[Tr]at h;obtain⟨b,rfl,_⟩:=h;exact⟨_,_,_,_,_,_,rfl,jX _,sd _,il _,pf _⟩
 |char sep=>simp only[Tr]at h;obtain⟨b,vs,rfl,_⟩:=h;exact⟨_,_,_,_,_,_,rfl,kP _,C0 _,kQ _,l8 _⟩
 |star sep nx tm=>simp only[Tr]at h;obtain⟨b,vs,rfl,_⟩:=h;exact⟨_,_,_,_,_,_,rfl,iP _,r9 _,iQ _,gV _⟩
 |range lo hi neg=>simp only[Tr]at h;obtain⟨b,rfl,_⟩:=h;exact⟨_,_,_,_,_,_,rfl,kL _,CM _,kM _,lZ _⟩
 |set cs neg=>simp only[Tr]at h;obtain⟨b,mb,rfl,_⟩:=h;exact⟨_,_,_,_,_,_,rfl,kJ _,CI _,kK _,lY _⟩
 |void=>simp only[Tr]at h;obtain⟨u,rfl,_⟩:=h;exact⟨_,_,_,_,_,_,rfl,jW _,CT _,l6 _,nA _⟩
 |pre t sep=>simp only[Tr]at h;obtain⟨b,rfl,_⟩:=h;exact⟨_,_,_,_,_,_,rfl,kG _,CB _,kH _,lW _⟩
 |eP t sep=>simp only[Tr]at h;obtain⟨b,rfl,_⟩:=h;exact⟨_,_,_,_,_,_,rfl,lU _,CA _,kF _,lV _⟩
 |dN p q sep=>simp only[Tr]at h;obtain⟨b,rfl,_⟩:=h;exact⟨_,_,_,_,_,_,rfl,lR _,Cz _,kE _,lS _⟩
 |cont t=>simp only[Tr]at h;obtain⟨b,rfl,_⟩:=h;exact⟨_,_,_,_,_,_,rfl,kC _,Cy _,kD _,lQ _⟩
 |dH l=>simp only[Tr]at h;obtain⟨sv,us,bl,G,rfl,_⟩:=h;exact⟨_,_,_,_,_,_,rfl,ij _,NK _,l0 _,rZ _⟩
 |alt l=>simp only[Tr]at h;obtain⟨sv,us,bl,G,rfl,_⟩:=h;exact⟨_,_,_,_,_,_,rfl,kN _,CP _,kO _,pd _⟩
 |eh l=>simp only[Tr]at h;obtain⟨sv,us,bl,G,rfl,_⟩:=h;exact⟨_,_,_,_,_,_,rfl,jU _,CE _,kI _,lX _⟩
theorem Aj {i:Nat} {p:Option T} (h:l[i]? =some t):fD p (l.drop i)=(t.eV||t.isVoid||(t.fz&&(p.map T.fz).getD false)||(t.eL&&(p.map T.eL).getD false)||fD (some t) (l.drop (i+1))):=by rw[iu h,fD]
def gX (l:List T):Nat->Option T
 |0=>none
 |j+1=>l[j]?
theorem f183 (B:Nat) (l:List T) (a:Option Addr) (n c:Nat) (us:List Value) (bl G:List Nat) (w:World) (h1:oI w (.slice a n c) us bl) (h2:eW w B l us G):Calls prog 183 #[.slice a n c] w λe w'=>e=.returned (.bool (fD none l))/\w=w':=by
 have ic:=eW.length l us G h2;have hn:n=l.length:=by obtain⟨a',c',e⟩:=h1.len;simp only[au]at e;rw[e.2.1,ic]
 have HH:=eo h1 h2;have HN:=eo hn ic;have sq:n<=9223372036854775807:=by have:=h1.small;unfold maxLen at this;omega
 obtain⟨Z,hZ⟩:=dS (fD none l);rw[<-hZ];have HZ:=aa hZ;clear h1 h2 hn ic hZ;go_enter func183,ntmps183;go_wp2_with fail;go_loopg [11] n (λk s11 wr=>∃j:Nat,k=n-j/\s11=.int .i64 j/\j<=n/\wr=w/\Hid (Z=fD (gX l j) (l.drop j)))
 case atStart=>exact⟨0,rfl,rfl,aU _,rfl,aa HZ.out⟩
 case round=>
  obtain⟨j,rfl,rfl,hj,rfl,HJ⟩:=hrel;by_cases gM:j<n
  ·have kY:=gW ((j:Int)+1) (by omega);have jA:decide ((j:Int)<(n:Int))=true:=by simp;omega
   obtain⟨u,hu⟩:∃u,us[j]? =some u:=⟨us[j]'(by rw[HN.2,<-HN.1];exact gM),ah _⟩;obtain⟨t,F1,ht,ll,_⟩:=eW.at l us G j u HH.2 hu;obtain⟨b,o,cap,he,_,eB⟩:=HH.1.cell hu;simp only[au]at he;obtain⟨rfl,qJ,rfl⟩:=he;clear qJ;have i1:(0:Int)<=(j:Int):=(by omega);have i2:(j:Int)<(n:Int):=by omega
   have HD:=aa (Aj (p:=gX l j) ht);have HT:=aa ht;obtain⟨s,p,x1,x2,x3,x4,rfl,k1,k2,k3,k4⟩:=ll.kinds;have XE:gX l (j+1)=some t:=HT.out;have qY:=aa XE;have HPT:Hid (∀q,Z=q->Z=q):=aa λ_ h=>h;have hgo:(t.eV||t.isVoid||(t.fz&&((gX l j).map T.fz).getD false)||(t.eL&&((gX l j).map T.eL).getD false))=false->Z=fD (gX l (j+1)) (l.drop (j+1)):=λe=>by rw[HJ.out,HD.out,e,qY.out];rfl
   have hyes:(t.eV||t.isVoid||(t.fz&&((gX l j).map T.fz).getD false)||(t.eL&&((gX l j).map T.eL).getD false))=true->Z=true:=λe=>by rw[HJ.out,HD.out,e];rfl
   have HGO:=eo hgo hyes;clear ht hu ll XE hgo hyes HPT;cases e1:t.eV with
   |true=>rw[e1]at k1;have sD:Hid (Z=true):=aa (HGO.2 (by rw[e1];rfl));have e2:t.isVoid=false:=(by cases t<;>simp[T.eV,T.isVoid]at e1⊢);rw[e2]at k2;clear e1 e2;go_wp2_with fail;go_ret;exact⟨by rw[sD.out];try rfl,rfl⟩
   |false=>
    rw[e1]at k1;cases e2:t.isVoid with
    |true=>rw[e2]at k2;have sD:Hid (Z=true):=aa (HGO.2 (by rw[e1,e2];rfl));clear e1 e2;go_wp2_with fail;go_ret;exact⟨by rw[sD.out];try rfl,rfl⟩
    |false=>
     rw[e2]at k2;cases e3:t.fz with
     |true=>
      rw[e3]at k3;have e4:t.eL=false:=by cases t<;>simp[T.fz,T.eL]at e3⊢
      rw[e4]at k4;by_cases BG:j=0
      ·have uH:decide (0<j)=false:=decide_eq_false (by omega);have sD:Hid (Z=fD (gX l (j+1)) (l.drop (j+1))):=aa (HGO.1 (by rw[e1,e2,e3,e4,show gX l j=none from by rw[BG];rfl];rfl));clear e1 e2 e3 e4 BG;go_wp2_with fail;go_roundg (n- (j+1))
       case measure=>omega
       case rel=>exact⟨j+1,rfl,rfl,by omega,rfl,sD⟩
      ·obtain⟨i,hi⟩:∃i,j=i+1:=⟨j-1,by omega⟩;obtain⟨ui,OD⟩:∃u,us[i]? =some u:=⟨us[i]'(by rw[HN.2,<-HN.1];omega),ah _⟩;obtain⟨ti,Fi,hti,RC,_⟩:=eW.at l us G i ui HH.2 OD;obtain⟨b',o',oY,Sl,_,ZQ⟩:=HH.1.cell OD;simp only[au,ae,aY,and_true]at Sl;obtain⟨⟨rfl,rfl⟩,qJ,rfl⟩:=Sl;clear qJ;obtain⟨s',p',y1,y2,y3,y4,rfl,m1,m2,m3,m4⟩:=RC.kinds;have mN:IntKind.i64.wrap ((j:Int)-1)=(i:Int):=(by rw[aW];omega);have uH:decide (0<j)=true:=decide_eq_true (by omega);have i3:(0:Int)<=(i:Int):=(by omega);have i4:(i:Int)<(n:Int):=by omega
       have hp:gX l j=some ti:=(by rw[hi];exact hti);have Hq:(t.eV||t.isVoid||(t.fz&&((gX l j).map T.fz).getD false)||(t.eL&&((gX l j).map T.eL).getD false))=ti.fz:=by rw[e1,e2,e3,e4,hp];simp
       have E9:Hid ((ti.fz=false->Z=fD (gX l (j+1)) (l.drop (j+1)))/\(ti.fz=true->Z=true)):=aa (by have:=HGO.out;rw[Hq]at this;exact this);clear e1 e2 e3 e4 OD hti RC hp Hq hi BG;cases f3:ti.fz with
       |true=>rw[f3]at m3;have sD:Hid (Z=true):=aa (E9.2 f3);clear f3;go_wp2_with fail;go_ret;exact⟨by rw[sD.out];try rfl,rfl⟩
       |false=>
        rw[f3]at m3;have sD:Hid (Z=fD (gX l (j+1)) (l.drop (j+1))):=aa (E9.1 f3);clear f3;go_wp2_with fail;go_roundg (n- (j+1))
        case measure=>omega
        case rel=>exact⟨j+1,rfl,rfl,by omega,rfl,sD⟩
     |false=>
      rw[e3]at k3;cases e4:t.eL with
      |false=>
       rw[e4]at k4;have sD:Hid (Z=fD (gX l (j+1)) (l.drop (j+1))):=aa (HGO.1 (by rw[e1,e2,e3,e4];rfl));clear e1 e2 e3 e4;go_wp2_with fail;go_roundg (n- (j+1))
       case measure=>omega
       case rel=>exact⟨j+1,rfl,rfl,by omega,rfl,sD⟩
      |true=>
       rw[e4]at k4;by_cases BG:j=0
       ·have uH:decide (0<j)=false:=decide_eq_false (by omega);have sD:Hid (Z=fD (gX l (j+1)) (l.drop (j+1))):=aa (HGO.1 (by rw[e1,e2,e3,e4,show gX l j=none from by rw[BG];rfl];rfl));clear e1 e2 e3 e4 BG;go_wp2_with fail;go_roundg (n- (j+1))
        case measure=>omega
        case rel=>exact⟨j+1,rfl,rfl,by omega,rfl,sD⟩
       ·obtain⟨i,hi⟩:∃i,j=i+1:=⟨j-1,by omega⟩;obtain⟨ui,OD⟩:∃u,us[i]? =some u:=⟨us[i]'(by rw[HN.2,<-HN.1];omega),ah _⟩;obtain⟨ti,Fi,hti,RC,_⟩:=eW.at l us G i ui HH.2 OD;obtain⟨b',o',oY,Sl,_,ZQ⟩:=HH.1.cell OD;simp only[au,ae,aY,and_true]at Sl;obtain⟨⟨rfl,rfl⟩,qJ,rfl⟩:=Sl;clear qJ;obtain⟨s',p',y1,y2,y3,y4,rfl,m1,m2,m4,m4⟩:=RC.kinds;have mN:IntKind.i64.wrap ((j:Int)-1)=(i:Int):=(by rw[aW];omega);have uH:decide (0<j)=true:=decide_eq_true (by omega);have i3:(0:Int)<=(i:Int):=(by omega);have i4:(i:Int)<(n:Int):=by omega
        have hp:gX l j=some ti:=(by rw[hi];exact hti);have Hq:(t.eV||t.isVoid||(t.fz&&((gX l j).map T.fz).getD false)||(t.eL&&((gX l j).map T.eL).getD false))=ti.eL:=by rw[e1,e2,e3,e4,hp];simp
        have E9:Hid ((ti.eL=false->Z=fD (gX l (j+1)) (l.drop (j+1)))/\(ti.eL=true->Z=true)):=aa (by have:=HGO.out;rw[Hq]at this;exact this);clear e1 e2 e3 e4 OD hti RC hp Hq hi BG;cases f4:ti.eL with
        |true=>rw[f4]at m4;have sD:Hid (Z=true):=aa (E9.2 f4);clear f4;go_wp2_with fail;go_ret;exact⟨by rw[sD.out];try rfl,rfl⟩
        |false=>
         rw[f4]at m4;have sD:Hid (Z=fD (gX l (j+1)) (l.drop (j+1))):=aa (E9.1 f4);clear f4;go_wp2_with fail;go_roundg (n- (j+1))
         case measure=>omega
         case rel=>exact⟨j+1,rfl,rfl,by omega,rfl,sD⟩
  ·have jA:decide ((j:Int)<(n:Int))=false:=(by simp;omega);have sD:Hid (Z=false):=aa (by
    rw[HJ.out,aL (by rw[<-HN.1];omega)];rfl)
   go_wp2_with fail;go_ret;exact⟨by rw[sD.out];try rfl,rfl⟩
end Go.Proofs.YtfejflhgaphilaaGreatDoor
