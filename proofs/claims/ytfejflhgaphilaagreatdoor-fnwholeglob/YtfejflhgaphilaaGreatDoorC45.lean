/- The law's guard: what it lets through. What passes the guard is light, and its text is short. A light pattern compiled, as the thin package does it. -/
import Derived.Test.YtfejflhgaphilaaGreatDoorC44
import Derived.Test.YtfejflhgaphilaaGreatDoorC42
set_option linter.all false
set_option maxRecDepth 100000
set_option maxHeartbeats 64000000
open Go.Proofs.Tryz
namespace Go.Proofs.YtfejflhgaphilaaGreatDoor
open Go.RowKit Gm
variable {t:List Nat} {c:Nat} {gl:List Gb}
def P0 (w:World) (ts:List ByteArray) (v:Value):Prop:=∃a c,v=.slice a ts.length c/\ts.length<=maxLen/\(ts≠[]->∃b o,a=some ⟨b,o,none⟩/\∀i t,ts[i]? =some t->w.cell? ⟨b,o+i,none⟩=some (.string t)/\t.size<=maxLen)
theorem f4 (w0:World) (ts:List ByteArray) (v:Value) (w:World) (hv:P0 w0 ts v) (hb:Below w0.heap.size w0 w) (h0:w0.heap.size<=w.heap.size):Calls prog 4 #[v] w λe w'=>MK w w' True e:=by
 obtain⟨a,c,rfl,q7,mT⟩:=hv;obtain⟨n,hn⟩:=dS ts.length;rw[<-hn]at q7⊢;have H:=jS hn mT hb;clear hn mT hb;unfold maxLen at q7;go_enter func4,ntmps4;by_cases V2:2147483647<n
 ·have hbd:decide ((2147483647:Int)<(n:Int))=true:=by simp;omega
  have hbd':decide (2147483647<n)=true:=by simp;omega
  go_wp2_with fail;go_ret;exact⟨false,rfl,ay _ _,λ_=>trivial⟩
 have hbd:decide ((2147483647:Int)<(n:Int))=false:=by simp;omega
 have hbd':decide (2147483647<n)=false:=by simp;omega
 go_wp2_with fail;go_loopg [10] n (λk s10 wr=>∃j:Nat,k=n-j/\s10=.int .i64 j/\j<=n/\wr=w)
 case atStart=>exact⟨0,rfl,rfl,aU _,rfl⟩
 case round=>
  obtain⟨j,rfl,rfl,hj,oG⟩:=hrel;replace oG:=oG.symm;subst oG;by_cases gM:j<n
  ·have kY:=gW ((j:Int)+1) (by omega);have jA:decide ((j:Int)<(n:Int))=true:=by simp;omega
   have i1:(0:Int)<=(j:Int):=(by omega);have i2:(j:Int)<(n:Int):=by omega
   have mV:j<ts.length:=(by rw[<-H.1];exact gM);obtain⟨b,o,rfl,hS⟩:=H.2.1 (by intro e;rw[e]at mV;simp at mV);obtain⟨t,ht⟩:∃t,ts[j]? =some t:=⟨_,ah mV⟩;have hc:=dF H.2.2 _ _ (hS j t ht).1;clear ht hS;by_cases hz:2147483647<t.size
   ·have gB:decide (2147483647<t.size)=true:=(by simpa using hz);go_wp2_with fail;go_ret;exact⟨false,rfl,ay _ _,λ_=>trivial⟩
   ·have gB:decide (2147483647<t.size)=false:=(by simpa using hz);go_wp2_with fail;go_roundg (n- (j+1))
    case measure=>omega
    case rel=>exact⟨j+1,rfl,rfl,by omega,rfl⟩
  ·have jA:decide ((j:Int)<(n:Int))=false:=(by simp;omega);go_wp2_with fail;go_ret;exact⟨true,rfl,ay _ _,λ_=>trivial⟩
structure Fits (gl:List Gb) (S:List dE) (us:List (List dE)):Prop where
 ok:iY gl
 short:fU gl
 parts:ey gl<=40
 lost:(hU gl (false,false)).isSome=true
 stars:(fx gl ⟨0,0,1⟩).st<=12
 sepst:S=[]\/(fx gl ⟨0,0,1⟩).st<=3
 Ko:(fx gl ⟨0,0,1⟩).gr<=3
 prod:(fx gl ⟨0,0,1⟩).pr<=16
 sok:dV S
 slen:(enc S).length<=10
 texts:∀u∈us,dV u/\(enc u).length<=100/\(gl≠[]->(enc u).length<=30)
theorem f5 (w0:World) (l:List Gr) (v:Value) (sp:ByteArray) (ts:List ByteArray) (tv:Value) (w:World) (hv:tV w0 l v) (ht:P0 w0 ts tv) (zi:sp.size<=2147483647) (hb:Below w0.heap.size w0 w) (h0:w0.heap.size<=w.heap.size):Calls prog 5 #[v,.string sp,tv] w λe w'=>MK w w' (∃gl S us,l=ox gl/\sp=bs S/\ts=us.map bs/\Fits gl S us) e:=by
 obtain⟨a,c,rfl,q7,mT⟩:=ht;obtain⟨n,hn⟩:=dS ts.length;rw[<-hn]at q7⊢;have hW:∃W1,W1=w.alloc (.cells #[.int .i64 40] 3):=⟨_,rfl⟩;obtain⟨W1,gZ⟩:=hW;have kR:W1.heap.size=w.heap.size+1:=by rw[gZ,ab]
 have eu:Below w.heap.size w W1:=by rw[gZ];go_grown
 have jg:W1.heap[w.heap.size]? =some (.cells #[.int .i64 40] 3):=by rw[gZ];exact heap_alloc_new _ _
 have HC:=aa (f15 w0 6 (by omega) 5 (by omega) l v w.heap.size 40 W1 hv (hb.trans (eu.mono h0)) h0 (by omega) jg (by omega) (by omega));have H:=Ur hn mT hb gZ kR eu hv;rw[gZ]at HC;obtain⟨va,vc,pE,Me,_⟩:=hv;obtain⟨vn,hvn⟩:=dS l.length;rw[<-hvn]at pE Me;subst pE;have HVN:=aa hvn;clear hn mT hb gZ kR eu jg hvn;unfold maxLen at q7 Me;go_enter func5,ntmps5;go_wp2_with fail;refine HC.mono ?_;rintro e w2 ⟨ok,rfl,gP,ez⟩;rw[<-H.2.2.2.1]at gP;have HCK:=eo gP ez;have eT:Below w.heap.size w w2:=H.2.2.2.2.2.1.trans (gP.below (by have:=H.2.2.2.2.1;omega) λb hb=>by rw[hb];exact af _);have jR:=aa eT;clear gP ez eT;cases ok with
 |false=>go_wp2_with fail;go_ret;exact⟨false,rfl,jR.out,λh=>by cases h⟩
 |true=>
  obtain⟨gl,e1,e2,e3,e4,e5⟩:=HCK.2 (by trivial);have HG:=sW e1 e2 e3 (show ey gl<=40 by omega);have hgv:tV w0 (ox gl) (.slice va vn vc):=by rw[<-e1];exact H.2.2.2.2.2.2
  have HL:=aa (f16 w0 gl _ w2 hgv (H.2.2.1.trans (jR.mono h0)) (by have:=jR.size;omega));have HGV:=aa hgv;clear e1 e2 e3 e4 e5 hgv;go_wp2_with fail;refine HL.mono ?_;rintro e w3 ⟨gQ,rfl⟩;have DK:=aa (jR.trans (gQ.mono jR.size));obtain⟨BL,Kk⟩:=dS (hU gl (false,false)).isNone;rw[<-Kk];have HBL:=aa Kk;clear gQ Kk;cases BL with
  |true=>go_wp2_with fail;go_ret;exact⟨false,rfl,DK.out,λh=>by cases h⟩
  |false=>
   have HT:=aa (f17 w0 gl _ sp w3 HGV.out (H.2.2.1.trans (DK.mono h0)) (by have:=DK.size;omega) (by have:=HG.2.2.2;omega));go_wp2_with fail;refine HT.mono ?_;rintro e w4 ⟨ok,rfl,mZ,ez⟩;have P7:=aa (DK.trans (mZ.mono DK.size));have HOK4:=aa ez;clear mZ ez;cases ok with
   |false=>go_wp2_with fail;go_ret;exact⟨false,rfl,P7.out,λh=>by cases h⟩
   |true=>
    by_cases hz:10<sp.size
    ·have gB:decide (10<sp.size)=true:=(by simpa using hz);go_wp2_with fail;go_ret;exact⟨false,rfl,P7.out,λh=>by cases h⟩
    have gB:decide (10<sp.size)=false:=(by simpa using hz);have HV:=aa (f18 sp w4 (by omega));go_wp2_with fail;refine HV.mono ?_;rintro e w5 ⟨ok,rfl,jF,ez⟩;have HB5:=aa (P7.trans (jF.mono P7.size));have HOK5:=aa ez;clear jF ez;cases ok with
    |false=>go_wp2_with fail;go_ret;exact⟨false,rfl,HB5.out,λh=>by cases h⟩
    |true=>
     obtain⟨S,qV,yG⟩:=HOK5.out (by trivial);have HS:=eo qV yG;clear qV yG;go_wp2_with fail;go_loopg [35] n (λk s35 wr=>∃j:Nat,k=n-j/\s35=.int .i64 j/\j<=n/\Hid (Below w.heap.size w wr/\∃us:List (List dE),ts.take j=us.map bs/\∀u∈us,dV u/\(enc u).length<=100/\(gl≠[]->(enc u).length<=30)))
     case atStart=>exact⟨0,rfl,rfl,aU _,aa ⟨HB5.out,[],rfl,λu hu=>by cases hu⟩⟩
     case round=>
      obtain⟨j,rfl,rfl,hj,HJ⟩:=hrel;by_cases gM:j<n
      ·have kY:=gW ((j:Int)+1) (by omega);have jA:decide ((j:Int)<(n:Int))=true:=by simp;omega
       have i1:(0:Int)<=(j:Int):=(by omega);have i2:(j:Int)<(n:Int):=by omega
       have mV:j<ts.length:=(by rw[<-H.1];exact gM);obtain⟨b,o,rfl,hS⟩:=H.2.1 (by intro e;rw[e]at mV;simp at mV);obtain⟨t,ht⟩:∃t,ts[j]? =some t:=⟨_,ah mV⟩;have hc:=dF (H.2.2.1.trans (HJ.1.mono h0)) _ _ (hS j t ht).1;have HTJ:=aa ht;clear ht hS;by_cases Us:100<t.size
       ·have hz4:decide (100<t.size)=true:=(by simpa using Us);go_wp2_with fail;go_ret;exact⟨false,rfl,HJ.1,λh=>by cases h⟩
       have hz4:decide (100<t.size)=false:=(by simpa using Us);have HV2:=aa (f18 t wr (by omega));have Fb:Hid (∀w6,Below wr.heap.size wr w6->∀u,dV u->t=bs u->(0<vn->¬30<t.size)->Hid (Below w.heap.size w w6/\∃us:List (List dE),ts.take (j+1)=us.map bs/\∀u∈us,dV u/\(enc u).length<=100/\(gl≠[]->(enc u).length<=30))):=aa λw6 xW u hu htu h30=>by
        obtain⟨h1,us,h2,h3⟩:=HJ.out;refine aa ⟨h1.trans (xW.mono h1.size),us++[u],?_,λx hx=> ?_⟩
        ·rw[ca,HTJ.out,h2,htu];simp
        ·rcases ar.1 hx with hx|hx
         ·exact h3 x hx
         ·simp only[aE]at hx;subst hx;have e:t.size=(enc x).length:=(by rw[htu,dQ]);refine⟨hu,by omega,λhg=> ?_⟩;have:=h30 (by rw[HVN.out,HG.1,mi];exact bG.2 hg);omega
       by_cases hv0:0<vn
       ·have hv1:decide ((0:Int)<(vn:Int))=true:=(by simp;omega);have hv2:decide (0<vn)=true:=by simp;omega
        by_cases hz5:30<t.size
        ·have hz6:decide (30<t.size)=true:=(by simpa using hz5);go_wp2_with fail;go_ret;exact⟨false,rfl,HJ.1,λh=>by cases h⟩
        have hz6:decide (30<t.size)=false:=(by simpa using hz5);go_wp2_with fail;refine HV2.mono ?_;rintro e w6 ⟨ok,rfl,xW,ez⟩;have Jg:=eo xW ez;clear xW ez;cases ok with
        |false=>go_wp2_with fail;go_ret;exact⟨false,rfl,HJ.1.trans (Jg.1.mono HJ.1.size),λh=>by cases h⟩
        |true=>
         go_wp2_with fail;go_roundg (n- (j+1))
         case measure=>omega
         case rel=>obtain⟨u,hu,htu⟩:=Jg.2 (by trivial);exact⟨j+1,rfl,rfl,by omega,Fb.out _ Jg.1 u hu htu λ_=>hz5⟩
       ·have hv1:decide ((0:Int)<(vn:Int))=false:=(by simp;omega);have hv2:decide (0<vn)=false:=by simp;omega
        go_wp2_with fail;refine HV2.mono ?_;rintro e w6 ⟨ok,rfl,xW,ez⟩;have Jg:=eo xW ez;clear xW ez;cases ok with
        |false=>go_wp2_with fail;go_ret;exact⟨false,rfl,HJ.1.trans (Jg.1.mono HJ.1.size),λh=>by cases h⟩
        |true=>
         go_wp2_with fail;go_roundg (n- (j+1))
         case measure=>omega
         case rel=>obtain⟨u,hu,htu⟩:=Jg.2 (by trivial);exact⟨j+1,rfl,rfl,by omega,Fb.out _ Jg.1 u hu htu λh=>absurd h hv0⟩
      ·have jA:decide ((j:Int)<(n:Int))=false:=(by simp;omega);go_wp2_with fail;go_ret;obtain⟨h1,us,h2,h3⟩:=HJ.out;obtain⟨k1,k2,k3,k4⟩:=HOK4.out (by trivial);refine⟨true,rfl,h1,λ_=>⟨gl,S,us,HG.1,HS.2,by rw[<-h2,aP (by rw[<-H.1];omega)],HG.2.1,HG.2.2.1,HG.2.2.2,?_,k1,?_,k3,k4,HS.1,?_,h3⟩⟩
       ·have:=HBL.out;cases hg:hU gl (false,false)with
        |none=>rw[hg]at this;cases this
        |some x=>rfl
       ·rcases k2 with k2|k2
        ·refine .inl ?_;have e:=congrArg ByteArray.size (HS.2.symm.trans k2);rw[dQ,dQ,gd]at e;cases hs:S with
         |nil=>rfl
         |cons x y=>rw[hs,et,aj,aG]at e;have:=(ec x).1;omega
        ·exact .inr k2
       ·have e:sp.size=(enc S).length:=(by rw[HS.2,dQ]);omega
theorem L4:∀(t:List Nat),(enc (t.flatMap sO)).length<=2*(enc t).length
 | []=>by simp
 |c::t=>by
  have ih:=L4 t;have h1:=(ec c).1;simp only[dd,dR,et,aj];rcases uW c with e|⟨e,_⟩
  ·rw[e];have:(e1 92).length=1:=rfl;simp only[et,gd,aj,aG,this];omega
  ·rw[e];simp only[et,gd,aj,aG];omega
theorem GC:∀(t:List Nat),(enc (t.flatMap iV)).length<=2*(enc t).length
 | []=>by simp
 |c::t=>by
  have ih:=GC t;have h1:=(ec c).1;simp only[dd,dR,et,aj];rcases rO c with⟨e,_⟩|⟨e,_⟩
  ·rw[e];have:(e1 92).length=1:=rfl;simp only[et,gd,aj,aG,this];omega
  ·rw[e];simp only[et,gd,aj,aG];omega
theorem GB (n:Bool):(enc (tu n)).length<=1:=by cases n<;>simp[tu]<;>decide
theorem PZ {n:N3} {k:Nat} (h:(n.alt k).pr<=16) (h1:1<=n.pr):k<=3:=by have:=(n.KL k h1).2 h;omega
mutual
theorem glen:∀(g:Gb) (n:N3),kc g->1<=n.pr->(mj g n).pr<=16->(enc (jB g)).length<=300*gq g
 |.text t,n,h,_,_=>by simp only[kc]at h;have:=L4 t;simp only[jB,gq];omega
 |.any,n,_,_,_=>by simp only[jB,gq];decide
 |.fq,n,_,_,_=>by simp only[jB,gq];decide
 |.one,n,_,_,_=>by simp only[jB,gq];decide
 |.set s m,n,h,_,_=>by simp only[kc]at h;have:=GC s;have h2:=GB m;have UG:(e1 91).length=1:=rfl;have UF:(e1 93).length=1:=rfl;simp only[jB,gq,et,dR,gd,aj,aG,UG,UF];omega
 |.range lo hi m,n,_,_,_=>by have h2:=GB m;have UG:(e1 91).length=1:=rfl;have UF:(e1 93).length=1:=rfl;have e3':(e1 45).length=1:=rfl;have a:=(ec lo).2;have b:=(ec hi).2;simp only[jB,gq,et,dR,gd,aj,aG,UG,UF,e3'];omega
 |.alt ks,n,h,h1,hp=>by simp only[kc]at h;simp only[mj]at hp;have a1:=(n.KL ks.length h1).1;have hc:=uY (S:=[]) ks (n.alt ks.length) a1;have hk:=PZ (hc.2.2.2 hp).1 h1;have ih:=glenK ks (n.alt ks.length) h a1 hp;have UG:(e1 123).length=1:=rfl;have UF:(e1 125).length=1:=rfl;simp only[jB,gq,et,dR,gd,aj,aG,UG,UF];omega
theorem Mw:∀(l:List Gb) (n:N3),fU l->1<=n.pr->(fx l n).pr<=16->(enc (fm l)).length<=300*ey l
 | [],n,_,_,_=>by simp[fm,ey]
 |g::l,n,h,h1,hp=>by simp only[fU]at h;simp only[fx]at hp;have hc:=TB (S:=[]) g n h1;have kb:=sB (S:=[]) l (mj g n) hc.pr;have a:=glen g n h.1 h1 (kb.small hp).1;have b:=Mw l (mj g n) h.2 hc.pr hp;simp only[fm,ey,dR,aj];omega
theorem glenK:∀(ks:List (List Gb)) (n:N3),iL ks->1<=n.pr->(iG ks n).pr<=16->(enc (ta ks)).length<=300*eU ks+ks.length
 | [],n,_,_,_=>by simp[ta,eU]
 |k::ks,n,h,h1,hp=>by simp only[iL]at h;simp only[iG]at hp;have hc:=sB (S:=[]) k n h1;have kb:=uY (S:=[]) ks (fx k n) hc.pr;have a:=Mw k n h.1 h1 (kb.2.2.2 hp).1;have b:=X6 ks (fx k n) h.2 hc.pr hp;simp only[ta,eU,dR,aj,aH];omega
theorem X6:∀(ks:List (List Gb)) (n:N3),iL ks->1<=n.pr->(iG ks n).pr<=16->(enc (jN ks)).length<=300*eU ks+ks.length
 | [],n,_,_,_=>by simp[jN,eU]
 |k::ks,n,h,h1,hp=>by simp only[iL]at h;simp only[iG]at hp;have hc:=sB (S:=[]) k n h1;have kb:=uY (S:=[]) ks (fx k n) hc.pr;have a:=Mw k n h.1 h1 (kb.2.2.2 hp).1;have b:=X6 ks (fx k n) h.2 hc.pr hp;have UG:(e1 44).length=1:=rfl;simp only[jN,eU,et,dR,aj,aH,UG];omega
end
theorem Fits.light {S:List dE} {us:List (List dE)} (h:Fits gl S us):yk S gl:=⟨h.ok,h.short,h.parts,Option.isSome_iff_exists.1 h.lost,⟨h.stars,h.sepst⟩,h.Ko,h.prod,h.sok,ao (eI S).1 h.slen⟩
theorem Fits.len {S:List dE} {us:List (List dE)} (h:Fits gl S us):(enc (fm gl)).length<=12000:=by have:=Mw gl ⟨0,0,1⟩ h.short (af _) h.prod;have:=h.parts;omega
theorem Q6 (h:dV t):dV (t.flatMap sO):=λc hc=>by
 obtain⟨d,hd,hc⟩:=List.mem_flatMap.1 hc;rcases uW d with e|⟨e,_⟩<;>rw[e]at hc
 ·simp only[az,ba,or_false]at hc;rcases hc with rfl|rfl
  ·unfold mz;omega
  ·exact h _ hd
 ·simp only[az,ba,or_false]at hc;subst hc;exact h _ hd
theorem Oh (h:dV t):dV (t.flatMap iV):=λc hc=>by
 obtain⟨d,hd,hc⟩:=List.mem_flatMap.1 hc;rcases rO d with⟨e,_⟩|⟨e,_⟩<;>rw[e]at hc
 ·simp only[az,ba,or_false]at hc;rcases hc with rfl|rfl
  ·unfold mz;omega
  ·exact h _ hd
 ·simp only[az,ba,or_false]at hc;subst hc;exact h _ hd
theorem eQ (hc:mz c) (h:dV t):dV (c::t):=λd hd=>by
 rcases az.1 hd with rfl|hd
 ·exact hc
 ·exact h d hd
theorem fZ (h:c<128):mz c:=by unfold mz;omega
theorem Dc (n:Bool):dV (tu n):=by
 cases n
 ·exact eS
 ·exact eQ (fZ (by omega)) eS
theorem Dd (h:p8 c):mz c:=by unfold p8 at h;unfold mz;omega
mutual
theorem Og:∀(g:Gb),sN g->dV (jB g)
 |.text t,h=>by simp only[sN]at h;simp only[jB];exact Q6 h.2
 |.any,_=>by simp only[jB];exact eQ (fZ (by omega)) eS
 |.fq,_=>by simp only[jB];exact eQ (fZ (by omega)) (eQ (fZ (by omega)) eS)
 |.one,_=>by simp only[jB];exact eQ (fZ (by omega)) eS
 |.set s m,h=>by simp only[sN]at h;simp only[jB];exact eQ (fZ (by omega)) (gS (Dc m) (gS (Oh h.2.1) (eQ (fZ (by omega)) eS)))
 |.range lo hi m,h=>by simp only[sN]at h;simp only[jB];exact eQ (fZ (by omega)) (gS (Dc m) (eQ (Dd h.1) (eQ (fZ (by omega)) (eQ (Dd h.2.1) (eQ (fZ (by omega)) eS)))))
 |.alt ks,h=>by simp only[sN]at h;simp only[jB];exact eQ (fZ (by omega)) (gS (JO ks h.2) (eQ (fZ (by omega)) eS))
theorem qe:∀(l:List Gb),iY l->dV (fm l)
 | [],_=>by simp only[fm];exact eS
 |g::l,h=>by simp only[iY]at h;simp only[fm];exact gS (Og g h.1) (qe l h.2.2)
theorem JO:∀(ks:List (List Gb)),jE ks->dV (ta ks)
 | [],_=>by simp only[ta];exact eS
 |k::ks,h=>by simp only[jE]at h;simp only[ta];exact gS (qe k h.1) (Ae ks h.2)
theorem Ae:∀(ks:List (List Gb)),jE ks->dV (jN ks)
 | [],_=>by simp only[jN];exact eS
 |k::ks,h=>by simp only[jE]at h;simp only[jN];exact eQ (fZ (by omega)) (gS (qe k h.1) (Ae ks h.2))
end
def Ji (w:World) (pb:Nat) (S:List dE) (gl:List Gb):Prop:=∃u,Bk w pb u (needs (comp (.dH (j8 S gl)))) (if needs (comp (.dH (j8 S gl)))then ed (comp (.dH (j8 S gl)))else 0) (if needs (comp (.dH (j8 S gl)))then gv (comp (.dH (j8 S gl)))else[])/\Rp w w.heap.size (comp (.dH (j8 S gl))) u
theorem f29 (S:List dE) (gl:List Gb) (w:World) (h:yk S gl) (hlen:(enc (fm gl)).length<=1000000) (hT:fE w) (h3:3<=w.heap.size):Calls prog 29 #[.string (bs (fm gl)),.string (bs S),.bool false] w λe w'=>∃pb,e=.returned (.tuple #[.pointer (some ⟨pb,0,none⟩),.nilIface])/\Ji w' pb S gl/\Below w.heap.size w w':=by
 obtain⟨cap,sM,j7,kb⟩:=pP h.sep.1 (by have:=h.sep.2;omega) w;have Dn:=pt w j7 kb (ay _ _);obtain⟨W3,kl⟩:=dS (w.drew.alloc (.cells ((S.map λc=>Value.int .i32 ((c:Nat):Int)).toArray++Array.replicate (cap-S.length) (.int .i32 0)) 21));rw[<-kl]at sM Dn;have gQ:Below w.heap.size w W3:=by rw[kl];go_grown
 have EB:W3.heap.size=w.heap.size+1:=by rw[kl];exact ab w.drew _
 have eB:∀j u,(S.map λc=>Value.int .i32 ((c:Nat):Int))[j]? =some u->W3.cell? ⟨w.heap.size,0+j,none⟩=some u:=by
  rcases Dn with⟨e,_⟩|⟨b',o',oY,e,_,_,_,hc⟩
  ·cases e
  ·simp only[au,ae,aY]at e;obtain⟨⟨rfl,rfl,_⟩,_,rfl⟩:=e;intro j u hu;rw[cq]at hu;obtain⟨x,hx,rfl⟩:=aX.1 hu;obtain⟨hj,rfl⟩:=aB.1 hx;exact hc j hj
 have HC:=aa (f70 w.heap.size 0 cap S (fm gl) (j8 S gl) W3 (by omega) eB h.sep.1 (by have:=h.sep.2;omega) j7 kb (hT.below gQ (af _)) (by omega) (qe gl h.ok) hlen (U9 gl h.ok) (.dH (j8 S gl)) rfl h.fine);have HB:=eo gQ EB;obtain⟨nS,hnS⟩:=dS S.length;rw[<-hnS]at sM HC;clear hnS eB Dn kl gQ EB h hT;go_enter func29,ntmps29;go_wp2_with fail;refine HC.mono ?_;rintro e w4 ⟨pb,u,rfl,hp,hr,hb⟩;have HP:=jS hp hr hb;clear hp hr hb;go_wp2_with fail;go_ret2;exact⟨pb,rfl,⟨u,HP.1,HP.2.1⟩,HB.1.trans (HP.2.2.mono (by have:=HB.2;omega))⟩
end Go.Proofs.YtfejflhgaphilaaGreatDoor
