/- The stars of a tree are noted: what follows them, and whether anything does. -/
import Derived.Test.YtfejflhgaphilaaGreatDoorC20
set_option linter.all false
set_option maxRecDepth 100000
set_option maxHeartbeats 64000000
open Go.Proofs.Tryz
namespace Go.Proofs.YtfejflhgaphilaaGreatDoor
open Go.RowKit Gm
variable {t:T} {w:World} {B j:Nat} {L:List T}
structure vm (w wr:World) (B:Nat) (sv:Value) (bl G:List Nat) (l:List T) (us:List Value):Prop where
 row:oI wr sv us bl
 tr:eW wr B l us G
 fo:ei (·∈G) w wr
theorem vm.step {wr:World} {sv:Value} {bl G:List Nat} {done rest:List T} {us:List Value} (h:vm w wr B sv bl G (done++t::rest) us) (hn:(bl++G).Nodup) (eR:∀x∈bl++G,x<w.heap.size) (rB:∀x∈bl++G,B<=x) (hB:B<=w.heap.size):∃u F1,us[done.length]? =some u/\jP wr B t u F1/\∀(w':World) (t':T),Rw wr w' B F1 t' u F1->vm w w' B sv bl G (done++t'::rest) us:=by
 obtain⟨kB,lP,G1,G2,rfl,rfl,h1,h2⟩:=eW.split done (t::rest) us G h.tr;simp only[eW]at h2;obtain⟨u,sG,F1,F2,rfl,rfl,h3,h4⟩:=h2;have jg:=eW.length done kB G1 h1;rw[aZ]at hn;obtain⟨_,XG,EF⟩:=hn;rw[aZ]at XG;obtain⟨_,hn4,Qb⟩:=XG;rw[aZ]at hn4;obtain⟨hf1,_,hn6⟩:=hn4;have gJ:=h.fo.size;refine⟨u,F1,by rw[<-jg];simp,⟨h3,hf1,λx hx=>ai (eR x (by simp[hx])) gJ,λx hx=>rB x (by simp[hx]),ao hB gJ⟩,λw' t' hr=> ?_⟩;have gE:∀c,c<B->w'.heap[c]? =wr.heap[c]? :=λc hc=>hr.fo.same c (by omega) λe=>by have:=rB c (by simp[e]);omega
 have He:∀c,c<w.heap.size->c∉F1->w'.heap[c]? =wr.heap[c]? :=λc h1 h2=>hr.fo.same c (by omega) h2;refine⟨h.row.keep λc hc=>He c (eR c (by simp[hc])) (λe=>EF c hc c (by simp[e]) rfl),?_,?_⟩
 ·refine eW.append done (t'::rest) kB (u::sG) G1 (F1++F2) (eW.keep gE done kB G1 h1 λc hc=>He c (eR c (by simp[hc])) (λe=>Qb c hc c (by simp[e]) rfl)) ?_;simp only[eW];exact⟨u,sG,F1,F2,rfl,rfl,hr.tr,eW.keep gE rest sG F2 h4 λc hc=>He c (eR c (by simp[hc])) (λe=>hn6 c e c hc rfl)⟩
 ·exact h.fo.trans hr.fo (λ_ _ h=>h) (λc _ hc=>by simp[hc])
theorem rm {v:Value} {F:List Nat} (h:Tr w B t v F) (hs:t.eL=false):∃s p,v=.iface s p/\∀w,(Instr.typeAssert (.iface s p) 153 255 true).run prog w=.ok (.tuple #[.pointer none,.bool false]) w:=by
 cases t with
 |text t=>simp only[Tr]at h;obtain⟨b,rfl,_⟩:=h;exact⟨_,_,rfl,pf _⟩
 |char sep=>simp only[Tr]at h;obtain⟨b,vs,rfl,_⟩:=h;exact⟨_,_,rfl,l8 _⟩
 |star sep nx tm=>simp[T.eL]at hs
 |range lo hi neg=>simp only[Tr]at h;obtain⟨b,rfl,_⟩:=h;exact⟨_,_,rfl,lZ _⟩
 |set cs neg=>simp only[Tr]at h;obtain⟨b,mb,rfl,_⟩:=h;exact⟨_,_,rfl,lY _⟩
 |void=>simp only[Tr]at h;obtain⟨u,rfl,_⟩:=h;exact⟨_,_,rfl,nA _⟩
 |pre t sep=>simp only[Tr]at h;obtain⟨b,rfl,_⟩:=h;exact⟨_,_,rfl,lW _⟩
 |eP t sep=>simp only[Tr]at h;obtain⟨b,rfl,_⟩:=h;exact⟨_,_,rfl,lV _⟩
 |dN p q sep=>simp only[Tr]at h;obtain⟨b,rfl,_⟩:=h;exact⟨_,_,rfl,lS _⟩
 |cont t=>simp only[Tr]at h;obtain⟨b,rfl,_⟩:=h;exact⟨_,_,rfl,lQ _⟩
 |dH l=>simp only[Tr]at h;obtain⟨sv,us,bl,G,rfl,_⟩:=h;exact⟨_,_,rfl,rZ _⟩
 |alt l=>simp only[Tr]at h;obtain⟨sv,us,bl,G,rfl,_⟩:=h;exact⟨_,_,rfl,pd _⟩
 |eh l=>simp only[Tr]at h;obtain⟨sv,us,bl,G,rfl,_⟩:=h;exact⟨_,_,rfl,lX _⟩
theorem MG:∀(τ:Bool) (l:List T) (j:Nat) (t:T),l[j]? =some t->(mR τ l)[j]? =some (js τ t)
 |τ,[],j,t,h=>by simp at h
 |τ,a::l,0,t,h=>by simp only[aN,ae]at h;subst h;simp[mR]
 |τ,a::l,j+1,t,h=>by simp only[mR,bH];exact MG τ l j t (by simpa using h)
theorem E4:∀(τ:Bool) (l:List T) (j:Nat) (t:T),l[j]? =some t->(kn τ l)[j]? =some (fA (l.drop (j+1)) (js (τ&&(l.drop (j+1)).isEmpty) t))
 |τ,[],j,t,h=>by simp at h
 |τ,a::l,0,t,h=>by simp only[aN,ae]at h;subst h;simp[kn]
 |τ,a::l,j+1,t,h=>by simp only[kn,bH,cu];exact E4 τ l j t (by simpa using h)
theorem mI:∀(l:List T) (τ:Bool),(kn τ l).length=l.length
 | [],_=>rfl
 |t::ts,τ=>by simp[kn,mI ts τ]
theorem TH (ρ:Bool) (t:T) (h:t.eL=false):(js ρ t).eL=false:=by
 cases t with
 |star a b c=>simp[T.eL]at h
 |_=>simp[js,T.eL]
theorem zS (r:List T) (t:T) (h:t.eL=false):fA r t=t:=by
 cases t with
 |star a b c=>simp[T.eL]at h
 |_=>cases r<;>simp[fA]
theorem ko (h:L[j]? =some t):L.take (j+1)=L.take j++[t]:=by obtain⟨h1,h2⟩:=aB.1 h;rw[List.take_succ_eq_append_getElem h1,h2]
theorem iu (h:L[j]? =some t):L.drop j=t::L.drop (j+1):=by obtain⟨h1,h2⟩:=aB.1 h;rw[bo h1,h2]
def mM (t:T):Prop:=∀(τ:Bool) (w:World) (B:Nat) (v:Value) (F:List Nat),jP w B t v F->Calls prog 118 #[v,.bool τ] w λe w'=>e=.returned (.tuple #[])/\Rw w w' B F (js τ t) v F
theorem Pz (t:List dE):mM (.text t):=by intro τ w B v F hr;have h:=hr.tr;have HR:=aa hr;clear hr;simp only[Tr]at h;obtain⟨b,rfl,dU⟩:=h;clear dU;have eH:=jX (.pointer (some ⟨b,0,none⟩));have fu:=pe (.pointer (some ⟨b,0,none⟩));have jI:=pf (.pointer (some ⟨b,0,none⟩));go_enter func118,ntmps118;go_wp2_with fail;go_end0;exact⟨rfl,by simp only[js];exact HR.rw⟩
theorem PD (sep:List dE):mM (.char sep):=by intro τ w B v F hr;have h:=hr.tr;have HR:=aa hr;clear hr;simp only[Tr]at h;obtain⟨b,vs,rfl,dU⟩:=h;clear dU;have eH:=kP (.pointer (some ⟨b,0,none⟩));have fu:=nB (.pointer (some ⟨b,0,none⟩));have jI:=l8 (.pointer (some ⟨b,0,none⟩));go_enter func118,ntmps118;go_wp2_with fail;go_end0;exact⟨rfl,by simp only[js];exact HR.rw⟩
theorem PB (sep nx:List dE) (tm:Bool):mM (.star sep nx tm):=by
 intro τ w B v F hr;have h:=hr.tr;have HR:=aa hr;clear hr;simp only[Tr]at h;obtain⟨b,vs,rfl,hF,hb,h3,h4⟩:=h;have hc:w.cell? ⟨b,3,none⟩=some (.bool tm):=by simp[World.cell?,hb]
 have hf:w.frozen? ⟨b,3,none⟩=false:=by simp[World.frozen?,hb]
 have HB:=sW hF hb h3 h4;clear hF hb h3 h4;have eH:=iP (.pointer (some ⟨b,0,none⟩));have fu:=l7 (.pointer (some ⟨b,0,none⟩));have jI:=gV (.pointer (some ⟨b,0,none⟩));go_enter func118,ntmps118;go_wp2_with fail;go_end0;obtain⟨rfl,hb,h3,h4⟩:=HB.out;have hR:=HR.out;have hc:ei (·∈[b]) w (w.setCell ⟨b,3,none⟩ (.bool τ)):=ei.cell (by simp);refine⟨rfl,⟨?_,hR.nodup,λ_ h=>.inl h,λx hx=>by rw[aK];exact hR.lt x hx,hc⟩⟩;simp only[js,Tr];refine⟨b,vs,rfl,rfl,dG hb _,h3.low h4 λc hcB=>hc.same c (by have:=hR.base;omega) λe=> ?_,h4⟩;have:=hR.ge c e;omega
theorem KE (lo hi:Int) (neg:Bool):mM (.range lo hi neg):=by intro τ w B v F hr;have h:=hr.tr;have HR:=aa hr;clear hr;simp only[Tr]at h;obtain⟨b,rfl,dU⟩:=h;clear dU;have eH:=kL (.pointer (some ⟨b,0,none⟩));have fu:=nz (.pointer (some ⟨b,0,none⟩));have jI:=lZ (.pointer (some ⟨b,0,none⟩));go_enter func118,ntmps118;go_wp2_with fail;go_end0;exact⟨rfl,by simp only[js];exact HR.rw⟩
theorem Tm (cs:List dE) (neg:Bool):mM (.set cs neg):=by intro τ w B v F hr;have h:=hr.tr;have HR:=aa hr;clear hr;simp only[Tr]at h;obtain⟨b,mb,rfl,dU⟩:=h;clear dU;have eH:=kJ (.pointer (some ⟨b,0,none⟩));have fu:=ny (.pointer (some ⟨b,0,none⟩));have jI:=lY (.pointer (some ⟨b,0,none⟩));go_enter func118,ntmps118;go_wp2_with fail;go_end0;exact⟨rfl,by simp only[js];exact HR.rw⟩
theorem Py:mM (.void):=by intro τ w B v F hr;have h:=hr.tr;have HR:=aa hr;clear hr;simp only[Tr]at h;obtain⟨u,rfl,dU⟩:=h;clear dU;have eH:=jW u;have fu:=l5 u;have jI:=nA u;go_enter func118,ntmps118;go_wp2_with fail;go_end0;exact⟨rfl,by simp only[js];exact HR.rw⟩
theorem Tn (t sep:List dE):mM (.pre t sep):=by intro τ w B v F hr;have h:=hr.tr;have HR:=aa hr;clear hr;simp only[Tr]at h;obtain⟨b,rfl,dU⟩:=h;clear dU;have eH:=kG (.pointer (some ⟨b,0,none⟩));have fu:=nv (.pointer (some ⟨b,0,none⟩));have jI:=lW (.pointer (some ⟨b,0,none⟩));go_enter func118,ntmps118;go_wp2_with fail;go_end0;exact⟨rfl,by simp only[js];exact HR.rw⟩
theorem Tk (t sep:List dE):mM (.eP t sep):=by intro τ w B v F hr;have h:=hr.tr;have HR:=aa hr;clear hr;simp only[Tr]at h;obtain⟨b,rfl,dU⟩:=h;clear dU;have eH:=lU (.pointer (some ⟨b,0,none⟩));have fu:=o8 (.pointer (some ⟨b,0,none⟩));have jI:=lV (.pointer (some ⟨b,0,none⟩));go_enter func118,ntmps118;go_wp2_with fail;go_end0;exact⟨rfl,by simp only[js];exact HR.rw⟩
theorem IC (p q sep:List dE):mM (.dN p q sep):=by intro τ w B v F hr;have h:=hr.tr;have HR:=aa hr;clear hr;simp only[Tr]at h;obtain⟨b,rfl,dU⟩:=h;clear dU;have eH:=lR (.pointer (some ⟨b,0,none⟩));have fu:=o7 (.pointer (some ⟨b,0,none⟩));have jI:=lS (.pointer (some ⟨b,0,none⟩));go_enter func118,ntmps118;go_wp2_with fail;go_end0;exact⟨rfl,by simp only[js];exact HR.rw⟩
theorem PC (t:List dE):mM (.cont t):=by intro τ w B v F hr;have h:=hr.tr;have HR:=aa hr;clear hr;simp only[Tr]at h;obtain⟨b,rfl,dU⟩:=h;clear dU;have eH:=kC (.pointer (some ⟨b,0,none⟩));have fu:=nt (.pointer (some ⟨b,0,none⟩));have jI:=lQ (.pointer (some ⟨b,0,none⟩));go_enter func118,ntmps118;go_wp2_with fail;go_end0;exact⟨rfl,by simp only[js];exact HR.rw⟩
theorem PA (l:List T):mM (.eh l):=by intro τ w B v F hr;have h:=hr.tr;have HR:=aa hr;clear hr;simp only[Tr]at h;obtain⟨sv,us,bl,G,rfl,dU⟩:=h;clear dU;have eH:=jU sv;have fu:=o9 sv;have jI:=lX sv;go_enter func118,ntmps118;go_wp2_with fail;go_end0;exact⟨rfl,by simp only[js];exact HR.rw⟩
theorem To (l:List T) (hM:∀t∈l,mM t):mM (.alt l):=by
 intro τ w B v F hr;have h:=hr.tr;simp only[Tr]at h;obtain⟨sv,us,bl,G,rfl,hF,h1,h2⟩:=h;subst hF;obtain⟨a,c,rfl⟩:=h1.len;have ic:=eW.length l us G h2;obtain⟨n,hn⟩:=dS us.length;have kr:=h1.small;rw[<-hn]at kr h1⊢;have sq:n<=9223372036854775807:=by unfold maxLen at kr;omega
 have HR:=aa hr;have HM:=aa hM;have HN:=eo hn ic;have H0:=aa (show vm w w B (.slice a n c) bl G l us from⟨h1,h2,ei.refl _ _⟩);have eH:=kN (.slice a n c);have fu:=jV (.slice a n c);clear hn ic hM hr h1 h2 kr;go_enter func118,ntmps118;go_wp2_with fail;go_loopg [67] n (λk s67 wr=>∃j:Nat,k=n-j/\s67=.int .i64 j/\j<=n/\Hid (vm w wr B (.slice a n c) bl G ((mR τ l).take j++l.drop j) us))
 case atStart=>exact⟨0,rfl,rfl,aU _,aa (by simpa using H0.out)⟩
 case round=>
  obtain⟨j,rfl,rfl,hj,HJ⟩:=hrel;have hlen:l.length=n:=by rw[<-HN.2,HN.1]
  have fP:=aa hlen;clear hlen;by_cases gM:j<n
  ·have kY:=gW ((j:Int)+1) (by omega);have jA:decide ((j:Int)<(n:Int))=true:=by simp;omega
   obtain⟨t,ht⟩:∃t,l[j]? =some t:=⟨l[j]'(by rw[fP.out];exact gM),ah _⟩;have hJ:=HJ.out;rw[iu ht]at hJ;have hd:((mR τ l).take j).length=j:=by rw[bn,kV,fP.out];omega
   obtain⟨u,F1,hu,kS,fw⟩:=hJ.step HR.nodup HR.lt HR.ge HR.base;rw[hd]at hu;obtain⟨b,o,cap,he,_,eB⟩:=hJ.row.cell hu;simp only[au]at he;obtain⟨rfl,qJ,rfl⟩:=he;have i1:(0:Int)<=(j:Int):=by omega
   have i2:(j:Int)<(n:Int):=(by omega);have HC:=aa (HM.out t (bm ht) τ wr B u F1 kS);have HS:=aa fw;have HT:=aa ht;clear ht hu hJ hd kS fw qJ;go_wp2_with fail;refine HC.mono ?_;rintro e w1 ⟨rfl,iE⟩;have Ju:=aa iE;clear iE;go_wp2_with fail;go_roundg (n- (j+1))
   case measure=>omega
   case rel=>refine⟨j+1,rfl,rfl,by omega,aa ?_⟩;have:=HS.out w1 (js τ t) Ju.out;rw[ko (MG τ l j t HT.out),aD];exact this
  ·have jA:decide ((j:Int)<(n:Int))=false:=(by simp;omega);go_wp2_with fail;go_end0;have hJ:=HJ.out;rw[aL (by rw[fP.out];omega),bd,aP (by rw[kV,fP.out];omega)]at hJ;have hR:=HR.out;refine⟨rfl,⟨?_,hR.nodup,λ_ h=>.inl h,λx hx=>ai (hR.lt x hx) hJ.fo.size,hJ.fo.mono λb _ hb=>bg _ hb⟩⟩;simp only[js,Tr];exact⟨_,us,bl,G,rfl,rfl,hJ.row,hJ.tr⟩
theorem xp (l:List T) (hM:∀t∈l,mM t) (w:World) (B:Nat) (v:Value) (F:List Nat) (hr:jP w B (.dH l) v F):Calls prog 118 #[v,.bool false] w λe w'=>e=.returned (.tuple #[])/\Rw w w' B F (js false (.dH l)) v F:=by
 have h:=hr.tr;simp only[Tr]at h;obtain⟨sv,us,bl,G,rfl,hF,h1,h2⟩:=h;subst hF;obtain⟨a,c,rfl⟩:=h1.len;have ic:=eW.length l us G h2;obtain⟨n,hn⟩:=dS us.length;have kr:=h1.small;rw[<-hn]at kr h1⊢;have sq:n<=9223372036854775807:=by unfold maxLen at kr;omega
 have HR:=aa hr;have HM:=aa hM;have HN:=eo hn ic;have H0:=aa (show vm w w B (.slice a n c) bl G l us from⟨h1,h2,ei.refl _ _⟩);have eH:=ij (.slice a n c);clear hn ic hM hr h1 h2 kr;go_enter func118,ntmps118;go_wp2_with fail;go_loopg [20] n (λk s20 wr=>∃j:Nat,k=n-j/\s20=.int .i64 j/\j<=n/\Hid (vm w wr B (.slice a n c) bl G ((kn false l).take j++l.drop j) us))
 case atStart=>exact⟨0,rfl,rfl,aU _,aa (by simpa using H0.out)⟩
 case round=>
  obtain⟨j,rfl,rfl,hj,HJ⟩:=hrel;have fP:Hid (l.length=n):=aa (by rw[<-HN.2,HN.1]);by_cases gM:j<n
  ·have kY:=gW ((j:Int)+1) (by omega);have mN:=gW ((n:Int)-1) (by omega);have jA:decide ((j:Int)<(n:Int))=true:=(by simp;omega);obtain⟨t,ht⟩:∃t,l[j]? =some t:=⟨l[j]'(by rw[fP.out];exact gM),ah _⟩;have hJ:=HJ.out;rw[iu ht]at hJ;have hd:((kn false l).take j).length=j:=(by rw[bn,mI,fP.out];omega);obtain⟨u,F1,hu,kS,fw⟩:=hJ.step HR.nodup HR.lt HR.ge HR.base;rw[hd]at hu;obtain⟨b,o,cap,he,_,eB⟩:=hJ.row.cell hu;simp only[au]at he;obtain⟨rfl,qJ,rfl⟩:=he;have i1:(0:Int)<=(j:Int):=(by omega);have i2:(j:Int)<(n:Int):=by omega
   have HS:=aa fw;have HT:=aa ht;have Cl:=aa kS;have xC:=jS hJ.row hJ.tr hd;have T4:=aa (HM.out t (bm ht));have qY:Hid ((kn false l)[j]? =some (fA (l.drop (j+1)) (js (false&&(l.drop (j+1)).isEmpty) t))):=aa (E4 false l j t ht);clear ht hu hJ hd kS fw qJ;have AD:(l.drop (j+1)).isEmpty=decide (j+1=n):=by rw[bO,cN,List.drop_eq_nil_iff,fP.out];simp;omega
   have WB:=aa AD;clear AD;cases iW:t.eL with
   |false=>
    obtain⟨s,p,rfl,Xl⟩:=rm Cl.tr iW;have HSN:Hid (∀ρ,fA (l.drop (j+1)) (js ρ t)=js ρ t):=aa λρ=>zS _ _ (TH ρ t iW);clear iW;by_cases gG:j+1=n
    ·have hle:((j:Int)==(n:Int)-1)=true:=by
      rw[beq_iff_eq];omega
     have T7:Hid ((l.drop (j+1)).isEmpty=true):=aa (by rw[WB.out];exact decide_eq_true gG);have HC:=aa (T4.out false wr B _ F1 Cl.out);clear gG;go_wp2_with fail;refine HC.mono ?_;rintro e w1 ⟨rfl,iE⟩;have Ju:=aa iE;clear iE;go_wp2_with fail;go_roundg (n- (j+1))
     case measure=>omega
     case rel=>refine⟨j+1,rfl,rfl,by omega,aa ?_⟩;have:=HS.out w1 _ Ju.out;rw[ko qY.out,HSN.out,aD,T7.out];exact this
    ·have hle:((j:Int)==(n:Int)-1)=false:=by
      rw[beq_eq_false_iff_ne];omega
     have T7:Hid ((l.drop (j+1)).isEmpty=false):=aa (by rw[WB.out];exact decide_eq_false gG);have HC:=aa (T4.out false wr B _ F1 Cl.out);clear gG;go_wp2_with fail;refine HC.mono ?_;rintro e w1 ⟨rfl,iE⟩;have Ju:=aa iE;clear iE;go_wp2_with fail;go_roundg (n- (j+1))
     case measure=>omega
     case rel=>refine⟨j+1,rfl,rfl,by omega,aa ?_⟩;have:=HS.out w1 _ Ju.out;rw[ko qY.out,HSN.out,aD,T7.out];exact this
   |true=>
    obtain⟨sep,nx,tm,rfl⟩:∃sep nx tm,t=.star sep nx tm:=by cases t<;>simp[T.eL]at iW;exact⟨_,_,_,rfl⟩
    have ll:=Cl.tr;simp only[Tr]at ll;obtain⟨tO,vs,rfl,hF1,hb,h3,h4⟩:=ll;have jI:=gV (.pointer (some ⟨tO,0,none⟩));have c3:wr.cell? ⟨tO,3,none⟩=some (.bool tm):=(by simp[World.cell?,hb]);have f3:wr.frozen? ⟨tO,3,none⟩=false:=by simp[World.frozen?,hb]
    have P3:=sW hF1 hb h3 h4;clear hF1 hb h3 h4 iW;have RT:∀(w':World) (Lz:List dE) (P9:Bool),w'.heap[tO]? =some (.cells #[vs,.string (bs sep),.string (bs Lz),.bool P9] 257 (0,0))->ei (·∈F1) wr w'->Rw wr w' B F1 (.star sep Lz P9) (.iface 255 (.pointer (some ⟨tO,0,none⟩))) F1:=by intro w' Lz P9 hw' pU;have hR:=Cl.out;refine⟨?_,hR.nodup,λ_ h=>.inl h,λx hx=>ai (hR.lt x hx) pU.size,pU⟩;simp only[Tr];refine⟨tO,vs,rfl,P3.1,hw',P3.2.2.1.low P3.2.2.2 λc hcB=>pU.same c (by have:=hR.base;omega) λe=> ?_,P3.2.2.2⟩;have:=hR.ge c e;omega
    have KW:=aa RT;have kt:tO∈F1:=by rw[P3.1];simp
    have HMM:=aa kt;clear RT kt;have yv:=dG (i:=3) P3.2.1 (.bool (false&&decide (j+1=n)));have sw:ei (·∈F1) wr (wr.setCell ⟨tO,3,none⟩ (.bool (false&&decide (j+1=n)))):=ei.cell HMM.out;by_cases gG:j+1=n
    ·have hle:((j:Int)==(n:Int)-1)=true:=by
      rw[beq_iff_eq];omega
     have Mp:(l.drop (j+1)).isEmpty=true:=(by rw[WB.out];exact decide_eq_true gG);rw[decide_eq_true gG]at yv sw;have MQ:=eo yv sw;have T7:=aa Mp;clear gG yv sw Mp;go_wp2_with fail;go_roundg (n- (j+1))
     case measure=>omega
     case rel=>
      refine⟨j+1,rfl,rfl,by omega,aa ?_⟩;have:=HS.out _ _ (KW.out _ nx _ MQ.1 MQ.2);rw[ko qY.out,aD];have e:l.drop (j+1)=[]:=by simpa using T7.out
      rw[e]at this⊢;exact this
    ·have hle:((j:Int)==(n:Int)-1)=false:=by
      rw[beq_eq_false_iff_ne];omega
     have Mm:j+1<n:=(by omega);obtain⟨t2,Y'⟩:∃t2,l[j+1]? =some t2:=⟨l[j+1]'(by rw[fP.out];exact Mm),ah _⟩;rw[decide_eq_false gG,cj]at yv sw;obtain⟨u2,Y8⟩:∃u2,us[j+1]? =some u2:=⟨us[j+1]'(by rw[<-HN.1];exact Mm),ah _⟩;have sX:=(HS.out _ _ (KW.out _ nx _ yv sw));obtain⟨QJ,F2,J2,RD,_⟩:=eW.at _ us G (j+1) u2 sX.tr Y8;have e2:QJ=t2:=by rw[aR (by rw[xC.2.2];omega),xC.2.2,show j+1-j=0+1 by omega,bH,iu Y',aN,ae]at J2;exact J2.symm
     subst e2;obtain⟨b',o',oY,Sl,_,AG⟩:=sX.row.cell Y8;simp only[au,ae,aY,and_true]at Sl;obtain⟨⟨rfl,rfl⟩,Zy,rfl⟩:=Sl;have HLD:=aa (f160 B QJ u2 F2 _ RD);have c2:(wr.setCell ⟨tO,3,none⟩ (.bool false)).cell? ⟨tO,2,none⟩=some (.string (bs nx)):=by simp[World.cell?,yv]
     have f2:(wr.setCell ⟨tO,3,none⟩ (.bool false)).frozen? ⟨tO,2,none⟩=false:=(by simp[World.frozen?,yv]);have qI:=dG (i:=2) yv (.string (bs (lead QJ)));have kb:ei (·∈F1) wr ((wr.setCell ⟨tO,3,none⟩ (.bool false)).setCell ⟨tO,2,none⟩ (.string (bs (lead QJ)))):=sw.trans (ei.cell (S:=(·∈F1)) HMM.out) (λ_ _ h=>h) (λ_ _ h=>h);have oJ:=eo qI kb;have TW:=aa Y';have VY:(wr.setCell ⟨tO,3,none⟩ (.bool false)).cell? ⟨b,o+(j+1),none⟩=some u2:=AG;have i3:(0:Int)<=(j:Int)+1:=(by omega);have i4:(j:Int)+1<(n:Int):=by omega
     have i5:((j:Int)+1).toNat=j+1:=(by omega);have AA:(l.drop (j+1)).isEmpty=false:=by rw[WB.out];exact decide_eq_false gG
     have HLF:=aa AA;clear gG yv sw AA Y' Y8 J2 RD qI kb sX Zy AG;go_wp2_with fail;refine HLD.mono ?_;rintro e w1 ⟨rfl,rfl⟩;go_wp2_with fail;go_roundg (n- (j+1))
     case measure=>omega
     case rel=>refine⟨j+1,rfl,rfl,by omega,aa ?_⟩;have:=HS.out _ _ (KW.out _ (lead QJ) _ oJ.1 oJ.2);rw[ko qY.out,aD,HLF.out];rw[iu TW.out]at this⊢;exact this
  ·have jA:decide ((j:Int)<(n:Int))=false:=(by simp;omega);go_wp2_with fail;go_end0;have hJ:=HJ.out;rw[aL (by rw[fP.out];omega),bd,aP (by rw[mI,fP.out];omega)]at hJ;have hR:=HR.out;refine⟨rfl,⟨?_,hR.nodup,λ_ h=>.inl h,λx hx=>ai (hR.lt x hx) hJ.fo.size,hJ.fo.mono λb _ hb=>bg _ hb⟩⟩;simp only[js,Tr];exact⟨_,us,bl,G,rfl,rfl,hJ.row,hJ.tr⟩
theorem yN (l:List T) (hM:∀t∈l,mM t) (w:World) (B:Nat) (v:Value) (F:List Nat) (hr:jP w B (.dH l) v F):Calls prog 118 #[v,.bool true] w λe w'=>e=.returned (.tuple #[])/\Rw w w' B F (js true (.dH l)) v F:=by
 have h:=hr.tr;simp only[Tr]at h;obtain⟨sv,us,bl,G,rfl,hF,h1,h2⟩:=h;subst hF;obtain⟨a,c,rfl⟩:=h1.len;have ic:=eW.length l us G h2;obtain⟨n,hn⟩:=dS us.length;have kr:=h1.small;rw[<-hn]at kr h1⊢;have sq:n<=9223372036854775807:=by unfold maxLen at kr;omega
 have HR:=aa hr;have HM:=aa hM;have HN:=eo hn ic;have H0:=aa (show vm w w B (.slice a n c) bl G l us from⟨h1,h2,ei.refl _ _⟩);have eH:=ij (.slice a n c);clear hn ic hM hr h1 h2 kr;go_enter func118,ntmps118;go_wp2_with fail;go_loopg [20] n (λk s20 wr=>∃j:Nat,k=n-j/\s20=.int .i64 j/\j<=n/\Hid (vm w wr B (.slice a n c) bl G ((kn true l).take j++l.drop j) us))
 case atStart=>exact⟨0,rfl,rfl,aU _,aa (by simpa using H0.out)⟩
 case round=>
  obtain⟨j,rfl,rfl,hj,HJ⟩:=hrel;have fP:Hid (l.length=n):=aa (by rw[<-HN.2,HN.1]);by_cases gM:j<n
  ·have kY:=gW ((j:Int)+1) (by omega);have mN:=gW ((n:Int)-1) (by omega);have jA:decide ((j:Int)<(n:Int))=true:=(by simp;omega);obtain⟨t,ht⟩:∃t,l[j]? =some t:=⟨l[j]'(by rw[fP.out];exact gM),ah _⟩;have hJ:=HJ.out;rw[iu ht]at hJ;have hd:((kn true l).take j).length=j:=(by rw[bn,mI,fP.out];omega);obtain⟨u,F1,hu,kS,fw⟩:=hJ.step HR.nodup HR.lt HR.ge HR.base;rw[hd]at hu;obtain⟨b,o,cap,he,_,eB⟩:=hJ.row.cell hu;simp only[au]at he;obtain⟨rfl,qJ,rfl⟩:=he;have i1:(0:Int)<=(j:Int):=(by omega);have i2:(j:Int)<(n:Int):=by omega
   have HS:=aa fw;have HT:=aa ht;have Cl:=aa kS;have xC:=jS hJ.row hJ.tr hd;have T4:=aa (HM.out t (bm ht));have qY:Hid ((kn true l)[j]? =some (fA (l.drop (j+1)) (js (true&&(l.drop (j+1)).isEmpty) t))):=aa (E4 true l j t ht);clear ht hu hJ hd kS fw qJ;have AD:(l.drop (j+1)).isEmpty=decide (j+1=n):=by rw[bO,cN,List.drop_eq_nil_iff,fP.out];simp;omega
   have WB:=aa AD;clear AD;cases iW:t.eL with
   |false=>
    obtain⟨s,p,rfl,Xl⟩:=rm Cl.tr iW;have HSN:Hid (∀ρ,fA (l.drop (j+1)) (js ρ t)=js ρ t):=aa λρ=>zS _ _ (TH ρ t iW);clear iW;by_cases gG:j+1=n
    ·have hle:((j:Int)==(n:Int)-1)=true:=by
      rw[beq_iff_eq];omega
     have T7:Hid ((l.drop (j+1)).isEmpty=true):=aa (by rw[WB.out];exact decide_eq_true gG);have HC:=aa (T4.out true wr B _ F1 Cl.out);clear gG;go_wp2_with fail;refine HC.mono ?_;rintro e w1 ⟨rfl,iE⟩;have Ju:=aa iE;clear iE;go_wp2_with fail;go_roundg (n- (j+1))
     case measure=>omega
     case rel=>refine⟨j+1,rfl,rfl,by omega,aa ?_⟩;have:=HS.out w1 _ Ju.out;rw[ko qY.out,HSN.out,aD,T7.out];exact this
    ·have hle:((j:Int)==(n:Int)-1)=false:=by
      rw[beq_eq_false_iff_ne];omega
     have T7:Hid ((l.drop (j+1)).isEmpty=false):=aa (by rw[WB.out];exact decide_eq_false gG);have HC:=aa (T4.out false wr B _ F1 Cl.out);clear gG;go_wp2_with fail;refine HC.mono ?_;rintro e w1 ⟨rfl,iE⟩;have Ju:=aa iE;clear iE;go_wp2_with fail;go_roundg (n- (j+1))
     case measure=>omega
     case rel=>refine⟨j+1,rfl,rfl,by omega,aa ?_⟩;have:=HS.out w1 _ Ju.out;rw[ko qY.out,HSN.out,aD,T7.out];exact this
   |true=>
    obtain⟨sep,nx,tm,rfl⟩:∃sep nx tm,t=.star sep nx tm:=by cases t<;>simp[T.eL]at iW;exact⟨_,_,_,rfl⟩
    have ll:=Cl.tr;simp only[Tr]at ll;obtain⟨tO,vs,rfl,hF1,hb,h3,h4⟩:=ll;have jI:=gV (.pointer (some ⟨tO,0,none⟩));have c3:wr.cell? ⟨tO,3,none⟩=some (.bool tm):=(by simp[World.cell?,hb]);have f3:wr.frozen? ⟨tO,3,none⟩=false:=by simp[World.frozen?,hb]
    have P3:=sW hF1 hb h3 h4;clear hF1 hb h3 h4 iW;have RT:∀(w':World) (Lz:List dE) (P9:Bool),w'.heap[tO]? =some (.cells #[vs,.string (bs sep),.string (bs Lz),.bool P9] 257 (0,0))->ei (·∈F1) wr w'->Rw wr w' B F1 (.star sep Lz P9) (.iface 255 (.pointer (some ⟨tO,0,none⟩))) F1:=by intro w' Lz P9 hw' pU;have hR:=Cl.out;refine⟨?_,hR.nodup,λ_ h=>.inl h,λx hx=>ai (hR.lt x hx) pU.size,pU⟩;simp only[Tr];refine⟨tO,vs,rfl,P3.1,hw',P3.2.2.1.low P3.2.2.2 λc hcB=>pU.same c (by have:=hR.base;omega) λe=> ?_,P3.2.2.2⟩;have:=hR.ge c e;omega
    have KW:=aa RT;have kt:tO∈F1:=by rw[P3.1];simp
    have HMM:=aa kt;clear RT kt;have yv:=dG (i:=3) P3.2.1 (.bool (true&&decide (j+1=n)));have sw:ei (·∈F1) wr (wr.setCell ⟨tO,3,none⟩ (.bool (true&&decide (j+1=n)))):=ei.cell HMM.out;by_cases gG:j+1=n
    ·have hle:((j:Int)==(n:Int)-1)=true:=by
      rw[beq_iff_eq];omega
     have Mp:(l.drop (j+1)).isEmpty=true:=(by rw[WB.out];exact decide_eq_true gG);rw[decide_eq_true gG]at yv sw;have MQ:=eo yv sw;have T7:=aa Mp;clear gG yv sw Mp;go_wp2_with fail;go_roundg (n- (j+1))
     case measure=>omega
     case rel=>
      refine⟨j+1,rfl,rfl,by omega,aa ?_⟩;have:=HS.out _ _ (KW.out _ nx _ MQ.1 MQ.2);rw[ko qY.out,aD];have e:l.drop (j+1)=[]:=by simpa using T7.out
      rw[e]at this⊢;exact this
    ·have hle:((j:Int)==(n:Int)-1)=false:=by
      rw[beq_eq_false_iff_ne];omega
     have Mm:j+1<n:=(by omega);obtain⟨t2,Y'⟩:∃t2,l[j+1]? =some t2:=⟨l[j+1]'(by rw[fP.out];exact Mm),ah _⟩;rw[decide_eq_false gG,cj]at yv sw;obtain⟨u2,Y8⟩:∃u2,us[j+1]? =some u2:=⟨us[j+1]'(by rw[<-HN.1];exact Mm),ah _⟩;have sX:=(HS.out _ _ (KW.out _ nx _ yv sw));obtain⟨QJ,F2,J2,RD,_⟩:=eW.at _ us G (j+1) u2 sX.tr Y8;have e2:QJ=t2:=by rw[aR (by rw[xC.2.2];omega),xC.2.2,show j+1-j=0+1 by omega,bH,iu Y',aN,ae]at J2;exact J2.symm
     subst e2;obtain⟨b',o',oY,Sl,_,AG⟩:=sX.row.cell Y8;simp only[au,ae,aY,and_true]at Sl;obtain⟨⟨rfl,rfl⟩,Zy,rfl⟩:=Sl;have HLD:=aa (f160 B QJ u2 F2 _ RD);have c2:(wr.setCell ⟨tO,3,none⟩ (.bool false)).cell? ⟨tO,2,none⟩=some (.string (bs nx)):=by simp[World.cell?,yv]
     have f2:(wr.setCell ⟨tO,3,none⟩ (.bool false)).frozen? ⟨tO,2,none⟩=false:=(by simp[World.frozen?,yv]);have qI:=dG (i:=2) yv (.string (bs (lead QJ)));have kb:ei (·∈F1) wr ((wr.setCell ⟨tO,3,none⟩ (.bool false)).setCell ⟨tO,2,none⟩ (.string (bs (lead QJ)))):=sw.trans (ei.cell (S:=(·∈F1)) HMM.out) (λ_ _ h=>h) (λ_ _ h=>h);have oJ:=eo qI kb;have TW:=aa Y';have VY:(wr.setCell ⟨tO,3,none⟩ (.bool false)).cell? ⟨b,o+(j+1),none⟩=some u2:=AG;have i3:(0:Int)<=(j:Int)+1:=(by omega);have i4:(j:Int)+1<(n:Int):=by omega
     have i5:((j:Int)+1).toNat=j+1:=(by omega);have AA:(l.drop (j+1)).isEmpty=false:=by rw[WB.out];exact decide_eq_false gG
     have HLF:=aa AA;clear gG yv sw AA Y' Y8 J2 RD qI kb sX Zy AG;go_wp2_with fail;refine HLD.mono ?_;rintro e w1 ⟨rfl,rfl⟩;go_wp2_with fail;go_roundg (n- (j+1))
     case measure=>omega
     case rel=>refine⟨j+1,rfl,rfl,by omega,aa ?_⟩;have:=HS.out _ _ (KW.out _ (lead QJ) _ oJ.1 oJ.2);rw[ko qY.out,aD,HLF.out];rw[iu TW.out]at this⊢;exact this
  ·have jA:decide ((j:Int)<(n:Int))=false:=(by simp;omega);go_wp2_with fail;go_end0;have hJ:=HJ.out;rw[aL (by rw[fP.out];omega),bd,aP (by rw[mI,fP.out];omega)]at hJ;have hR:=HR.out;refine⟨rfl,⟨?_,hR.nodup,λ_ h=>.inl h,λx hx=>ai (hR.lt x hx) hJ.fo.size,hJ.fo.mono λb _ hb=>bg _ hb⟩⟩;simp only[js,Tr];exact⟨_,us,bl,G,rfl,rfl,hJ.row,hJ.tr⟩
mutual
theorem TG:∀(t:T),mM t
 |.text t=>Pz t
 |.char sep=>PD sep
 |.star sep nx tm=>PB sep nx tm
 |.range lo hi neg=>KE lo hi neg
 |.set cs neg=>Tm cs neg
 |.void=>Py
 |.pre t sep=>Tn t sep
 |.eP t sep=>Tk t sep
 |.dN p q sep=>IC p q sep
 |.cont t=>PC t
 |.dH l=>λτ w B v F hr=>match τ with
  |false=>xp l (zq l) w B v F hr
  |true=>yN l (zq l) w B v F hr
 |.alt l=>To l (zq l)
 |.eh l=>PA l
theorem zq:∀(l:List T),∀t∈l,mM t
 | [],t,h=>by simp at h
 |u::l,t,h=>by
  rcases az.1 h with e|h
  ·rw[e];exact TG u
  ·exact zq l t h
end
end Go.Proofs.YtfejflhgaphilaaGreatDoor
