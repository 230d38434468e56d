/- The text that all that a tree matches ends with, read off memory. Plain laws of pushing items onto a row. What a compiled tree's texts and lists are like, how big it is, and that it lies in memory as the walk over texts asks. -/
import Derived.Test.YtfejflhgaphilaaGreatDoorC23
import Derived.Test.YtfejflhgaphilaaGreatDoorC22
import Derived.Test.YtfejflhgaphilaaGreatDoorC18
set_option linter.all false
set_option maxRecDepth 100000
set_option maxHeartbeats 64000000
open Go.Proofs.Tryz
namespace Go.Proofs.YtfejflhgaphilaaGreatDoor
open Go.RowKit Gm
variable {w w':World} {B:Nat} {l:List T} {t a b c:T} {F:List Nat}
mutual
def good:T->Prop
 |.text t=>dV t
 |.pre t _=>dV t
 |.eP t _=>dV t
 |.dN p q _=>dV p/\dV q
 |.cont t=>dV t
 |.dH l=>l≠[]/\qK l
 |.alt l=>l≠[]/\qK l
 |.eh l=>l≠[]/\qK l
 |_=>True
def qK:List T->Prop
 | []=>True
 |t::l=>good t/\qK l
end
theorem pK:∀(l:List T) (t:T),qK l->t∈l->good t
 | [],t,_,h=>by simp at h
 |u::l,t,hn,h=>by
  simp only[qK]at hn;rcases az.1 h with e|h
  ·rw[e];exact hn.1
  ·exact pK l t hn.2 h
theorem eS:dV []:=λ_ h=>by simp at h
theorem xL {a b:List dE} (h:dV a):dV (common a b):=λc hc=>h c ((oW a b).1.subset hc)
theorem A' (a b:List dE):(enc (common a b)).length<=(enc a).length:=by obtain⟨u,hu⟩:=(oW a b).1;have:=congrArg (λr=>(enc r).length) hu;simp at this;omega
theorem Le:∀(l:List T) (s:List dE),dV s->dV (ph s l)/\(enc (ph s l)).length<=(enc s).length
 | [],s,h=>by simp only[ph];exact⟨h,af _⟩
 |t::l,s,h=>by simp only[ph];have:=Le l (common s (gv t)) (xL h);exact⟨this.1,ao this.2 (A' _ _)⟩
mutual
theorem ud:∀(t:T),good t->dV (gv t)/\(enc (gv t)).length<=ix t
 |.text t,h=>by simp only[good]at h;simp only[gv,ix];exact⟨h,af _⟩
 |.eP t _,h=>by simp only[good]at h;simp only[gv,ix];exact⟨h,af _⟩
 |.dN p q _,h=>by simp only[good]at h;simp only[gv,ix];exact⟨h.2,by omega⟩
 |.dH l,h=>by simp only[good]at h;simp only[gv,ix];exact zG l h.2
 |.alt l,h=>by simp only[good]at h;simp only[gv,ix];exact Lf l h.2
 |.eh l,h=>by simp only[good]at h;simp only[gv,ix];exact Lf l h.2
 |.char _,_=>⟨eS,by simp[gv]⟩
 |.star _ _ _,_=>⟨eS,by simp[gv]⟩
 |.range _ _ _,_=>⟨eS,by simp[gv]⟩
 |.set _ _,_=>⟨eS,by simp[gv]⟩
 |.void,_=>⟨eS,by simp[gv]⟩
 |.pre _ _,_=>⟨eS,by simp[gv]⟩
 |.cont _,_=>⟨eS,by simp[gv]⟩
theorem zG:∀(l:List T),qK l->dV (jc l)/\(enc (jc l)).length<=eD l
 | [],_=>⟨eS,by simp[jc]⟩
 |t::l,h=>by
  simp only[qK]at h;have h1:=ud t h.1;have h2:=zG l h.2;simp only[jc,eD];split
  ·exact⟨h1.1,by omega⟩
  ·exact⟨h2.1,by omega⟩
theorem Lf:∀(l:List T),qK l->dV (DU l)/\(enc (DU l)).length<=eD l
 | [],_=>⟨eS,by simp[DU]⟩
 |t::l,h=>by simp only[qK]at h;have h1:=ud t h.1;have h2:=Le l (gv t) h1.1;simp only[DU,eD];exact⟨h2.1,by omega⟩
end
theorem zH:∀(l:List T) (t:T),l[l.length-1]? =some t->jc l=gv t
 | [],t,h=>by simp at h
 | [u],t,h=>by simp at h;simp[jc,h]
 |u::v::l,t,h=>by simp only[jc,cZ,aM,if_false];have:=zH (v::l) t (by simpa using h);simpa[jc]using this
theorem N0 {j:Nat} {s:List dE} (h:l[j]? =some t):ph s (l.drop j)=ph (common s (gv t)) (l.drop (j+1)):=by rw[iu h,ph]
theorem Tr.Xc {v:Value} (h:Tr w B t v F) (hF:∀x∈F,x<w.heap.size) (hB:B<=w.heap.size) (hb:Below w.heap.size w w'):Tr w' B t v F:=Tr.keep (λb zm=>hb.block b (by omega)) t v F h λb zm=>hb.block b (hF b zm)
theorem eW.Xc {t:List T} {v:List Value} (h:eW w B t v F) (hF:∀x∈F,x<w.heap.size) (hB:B<=w.heap.size) (hb:Below w.heap.size w w'):eW w' B t v F:=eW.keep (λb zm=>hb.block b (by omega)) t v F h λb zm=>hb.block b (hF b zm)
def lM (t:T):Prop:=∀(w:World) (B:Nat) (v:Value) (F:List Nat),Tr w B t v F->(∀x∈F,x<w.heap.size)->B<=w.heap.size->fE w->ix t<=4000000000000000000->good t->Calls prog 122 #[v] w λe w'=>e=.returned (.string (bs (gv t)))/\Below w.heap.size w w'
theorem O' (t:List dE):lM (.text t):=by
 intro w B v F h hF hB hT hw hg;simp only[Tr]at h;obtain⟨b,rfl,_,hb⟩:=h;have c0:w.cell? ⟨b,0,none⟩=some (.string (bs t)):=by simp[World.cell?,hb]
 clear hb hF hB hT hw hg;have gw:=il (.pointer (some ⟨b,0,none⟩));go_enter func122,ntmps122;go_wp2_with fail;go_ret;exact⟨rfl,ay _ _⟩
theorem Pd (sep:List dE):lM (.char sep):=by intro w B v F h hF hB hT hw hg;simp only[Tr]at h;obtain⟨b,vs,rfl,dU⟩:=h;clear dU hF hB hT hw hg;have gw:=kQ (.pointer (some ⟨b,0,none⟩));have pX:=CY (.pointer (some ⟨b,0,none⟩));have lA:=CX (.pointer (some ⟨b,0,none⟩));have eH:=kP (.pointer (some ⟨b,0,none⟩));have yn:=NV (.pointer (some ⟨b,0,none⟩));have fu:=nB (.pointer (some ⟨b,0,none⟩));go_enter func122,ntmps122;go_wp2_with fail;go_ret;exact⟨rfl,ay _ _⟩
theorem Pb (sep nx:List dE) (tm:Bool):lM (.star sep nx tm):=by intro w B v F h hF hB hT hw hg;simp only[Tr]at h;obtain⟨b,vs,rfl,dU⟩:=h;clear dU hF hB hT hw hg;have gw:=iQ (.pointer (some ⟨b,0,none⟩));have pX:=CU (.pointer (some ⟨b,0,none⟩));have lA:=wq (.pointer (some ⟨b,0,none⟩));have eH:=iP (.pointer (some ⟨b,0,none⟩));have yn:=CW (.pointer (some ⟨b,0,none⟩));have fu:=l7 (.pointer (some ⟨b,0,none⟩));go_enter func122,ntmps122;go_wp2_with fail;go_ret;exact⟨rfl,ay _ _⟩
theorem Kx (lo hi:Int) (neg:Bool):lM (.range lo hi neg):=by intro w B v F h hF hB hT hw hg;simp only[Tr]at h;obtain⟨b,rfl,dU⟩:=h;clear dU hF hB hT hw hg;have gw:=kM (.pointer (some ⟨b,0,none⟩));have pX:=CK (.pointer (some ⟨b,0,none⟩));have lA:=CJ (.pointer (some ⟨b,0,none⟩));have eH:=kL (.pointer (some ⟨b,0,none⟩));have yn:=NA (.pointer (some ⟨b,0,none⟩));have fu:=nz (.pointer (some ⟨b,0,none⟩));go_enter func122,ntmps122;go_wp2_with fail;go_ret;exact⟨rfl,ay _ _⟩
theorem S7 (cs:List dE) (neg:Bool):lM (.set cs neg):=by intro w B v F h hF hB hT hw hg;simp only[Tr]at h;obtain⟨b,mb,rfl,dU⟩:=h;clear dU hF hB hT hw hg;have gw:=kK (.pointer (some ⟨b,0,none⟩));have pX:=CG (.pointer (some ⟨b,0,none⟩));have lA:=CF (.pointer (some ⟨b,0,none⟩));have eH:=kJ (.pointer (some ⟨b,0,none⟩));have yn:=Nv (.pointer (some ⟨b,0,none⟩));have fu:=ny (.pointer (some ⟨b,0,none⟩));go_enter func122,ntmps122;go_wp2_with fail;go_ret;exact⟨rfl,ay _ _⟩
theorem O9:lM (.void):=by intro w B v F h hF hB hT hw hg;simp only[Tr]at h;obtain⟨u,rfl,dU⟩:=h;clear dU hF hB hT hw hg;have gw:=l6 u;have pX:=wk u;have lA:=wj u;have eH:=jW u;have yn:=CS u;have fu:=l5 u;go_enter func122,ntmps122;go_wp2_with fail;go_ret;exact⟨rfl,ay _ _⟩
theorem S8 (t sep:List dE):lM (.pre t sep):=by intro w B v F h hF hB hT hw hg;simp only[Tr]at h;obtain⟨b,rfl,dU⟩:=h;clear dU hF hB hT hw hg;have gw:=kH (.pointer (some ⟨b,0,none⟩));have pX:=Nk (.pointer (some ⟨b,0,none⟩));have lA:=Nj (.pointer (some ⟨b,0,none⟩));have eH:=kG (.pointer (some ⟨b,0,none⟩));have yn:=Nl (.pointer (some ⟨b,0,none⟩));have fu:=nv (.pointer (some ⟨b,0,none⟩));go_enter func122,ntmps122;go_wp2_with fail;go_ret;exact⟨rfl,ay _ _⟩
theorem S6 (t sep:List dE):lM (.eP t sep):=by
 intro w B v F h hF hB hT hw hg;simp only[Tr]at h;obtain⟨b,rfl,_,hb⟩:=h;have c0:w.cell? ⟨b,0,none⟩=some (.string (bs t)):=by simp[World.cell?,hb]
 clear hb hF hB hT hw hg;have gw:=kF (.pointer (some ⟨b,0,none⟩));have pX:=vR (.pointer (some ⟨b,0,none⟩));go_enter func122,ntmps122;go_wp2_with fail;go_ret;exact⟨rfl,ay _ _⟩
theorem Iw (p q sep:List dE):lM (.dN p q sep):=by
 intro w B v F h hF hB hT hw hg;simp only[Tr]at h;obtain⟨b,rfl,_,hb⟩:=h;have c1:w.cell? ⟨b,1,none⟩=some (.string (bs q)):=by simp[World.cell?,hb]
 clear hb hF hB hT hw hg;have gw:=kE (.pointer (some ⟨b,0,none⟩));have pX:=vP (.pointer (some ⟨b,0,none⟩));have lA:=vO (.pointer (some ⟨b,0,none⟩));go_enter func122,ntmps122;go_wp2_with fail;go_ret;exact⟨rfl,ay _ _⟩
theorem Pc (t:List dE):lM (.cont t):=by intro w B v F h hF hB hT hw hg;simp only[Tr]at h;obtain⟨b,rfl,dU⟩:=h;clear dU hF hB hT hw hg;have gw:=kD (.pointer (some ⟨b,0,none⟩));have pX:=vM (.pointer (some ⟨b,0,none⟩));have lA:=vK (.pointer (some ⟨b,0,none⟩));have eH:=kC (.pointer (some ⟨b,0,none⟩));have yn:=M6 (.pointer (some ⟨b,0,none⟩));have fu:=nt (.pointer (some ⟨b,0,none⟩));go_enter func122,ntmps122;go_wp2_with fail;go_ret;exact⟨rfl,ay _ _⟩
theorem Ky (l:List T) (hM:∀t∈l,lM t):lM (.dH l):=by
 intro w B v F h hF hB hT hw hg;simp only[Tr]at h;obtain⟨sv,us,bl,G,rfl,rfl,h1,h2⟩:=h;obtain⟨a,c,rfl⟩:=h1.len;have ic:=eW.length l us G h2;simp only[good]at hg;simp only[ix]at hw;have xb:0<l.length:=bG.2 hg.1;obtain⟨n,hn⟩:=dS us.length;have kr:=h1.small;have sq:n<=9223372036854775807:=by unfold maxLen at kr;omega
 obtain⟨r,hr⟩:=dS (n-1);obtain⟨u,hu⟩:∃u,us[r]? =some u:=⟨us[r]'(by omega),ah _⟩;obtain⟨t,F1,ht,ll,EA⟩:=eW.at l us G r u h2 hu;obtain⟨b,o,cap,he,_,eB⟩:=h1.cell hu;rw[<-hn]at he;simp only[au]at he;obtain⟨rfl,qJ,rfl⟩:=he;have kt:=bm ht;have gG:jc l=gv t:=zH l t (by rw[<-ic,<-hn,<-hr];exact ht);have HC:=aa (hM t kt w B u F1 ll (λx hx=>hF x (by simp[EA x hx])) hB hT (by have:=jH l t kt;omega) (pK l t hg.2 kt));have HL:=aa gG;have kY:IntKind.i64.wrap ((n:Int)-1)=(r:Int):=by rw[aW]<;>omega
 have i1:(0:Int)<=(r:Int):=by omega
 have i2:(r:Int)<(n:Int):=by omega
 rw[<-hn]at*;have gw:=l0 (.slice (some ⟨b,o,none⟩) n c);have pX:=wg (.slice (some ⟨b,o,none⟩) n c);have lA:=we (.slice (some ⟨b,o,none⟩) n c);have eH:=ij (.slice (some ⟨b,o,none⟩) n c);clear hn ic hM h1 h2 kr hw hg hF hT hu ht ll kt gG hr qJ;go_enter func122,ntmps122;go_wp2_with fail;refine HC.mono ?_;rintro e w1 ⟨rfl,eu⟩;have o4:=aa eu;clear eu;go_wp2_with fail;go_ret;exact⟨by simp only[gv,HL.out];rfl,o4.out⟩
theorem Ix (l:List T) (hM:∀t∈l,lM t):lM (.alt l):=by
 intro w B v F h hF hB hT hw hg;simp only[Tr]at h;obtain⟨sv,us,bl,G,rfl,rfl,h1,h2⟩:=h;obtain⟨a,c,rfl⟩:=h1.len;have ic:=eW.length l us G h2;simp only[good]at hg;simp only[ix]at hw;have XJ:0<l.length:=bG.2 hg.1;obtain⟨n,hn⟩:=dS us.length;have kr:=h1.small;have xb:0<n:=by omega
 have sq:n<=9223372036854775807:=by unfold maxLen at kr;omega
 obtain⟨u0,Y9⟩:∃u,us[0]? =some u:=⟨us[0]'(by omega),ah _⟩;obtain⟨t0,F0,Zb,nh,Xo⟩:=eW.at l us G 0 u0 h2 Y9;obtain⟨b,o,cap,he,_,Kf⟩:=h1.cell Y9;have Ht:n<=c:=by
  rcases h1 with⟨e,_⟩|⟨b',o',oY,cs,e,_,_,_,h5,_⟩
  ·rw[e]at hn;simp at hn;omega
  ·simp only[au]at e;rw[hn];omega
 rw[<-hn]at h1 he;simp only[au]at he;obtain⟨rfl,_,rfl⟩:=he;rw[bL]at Kf;rw[<-hn];have rz:=bm Zb;have HC0:=aa (hM t0 rz w B u0 F0 nh (λx hx=>hF x (bg _ (Xo x hx))) hB hT (by have:=jH l t0 rz;omega) (pK l t0 hg.2 rz));have UH:=jS Zb (ud t0 (pK l t0 hg.2 rz)) (jH l t0 rz);have HM:=aa hM;have HN:=eo hn ic;have HH:=eo h1 h2;have HW:=rr hw hg.2 hF hB hT;have i7:(1:Int)<=(n:Int):=by omega
 have i8:(n:Int)<=(c:Int):=by omega
 have i9:(0:Int)<(n:Int):=by omega
 obtain⟨k1,uF⟩:=dS (n-1);have HK1:=aa uF;have Hh:k1<=9223372036854775807:=by omega
 have sY:n-1=k1:=uF.symm;have gw:=kO (.slice (some ⟨b,o,none⟩) n c);have pX:=vZ (.slice (some ⟨b,o,none⟩) n c);have lA:=vY (.slice (some ⟨b,o,none⟩) n c);have eH:=kN (.slice (some ⟨b,o,none⟩) n c);have yn:=CO (.slice (some ⟨b,o,none⟩) n c);have fu:=jV (.slice (some ⟨b,o,none⟩) n c);have j7:c=1\/c≠1:=by omega
 clear hn ic hM h1 h2 kr hw hg hF hT Zb Y9 nh rz uF Xo hB XJ;obtain⟨x0,Fq⟩:=dS (gv t0);rw[<-Fq]at HC0 UH;have HX0:=aa Fq;clear Fq;have HA:Hid (ph x0 (l.drop 1)=gv (.alt l)):=aa (by
  have e:l=t0::l.drop 1:=by have:=iu UH.1;simpa using this
  rw[gv];generalize hd:l.drop 1=r at e⊢;rw[e,DU,HX0.out])
 have HL:Hid (l.length=n):=aa (by rw[<-HN.2,<-HN.1]);have HMB:Hid (dV x0/\(enc x0).length<=4000000000000000000):=aa ⟨UH.2.1.1,by have h1:=UH.2.1.2;have h2:=UH.2.2;have:=HW.1;omega⟩;rcases j7 with j7|j7
 ·have tF:n=1:=by omega
  have vC:k1=0:=by omega
  subst j7 tF vC;go_enter func122,ntmps122;go_wp2_with fail;refine HC0.mono ?_;rintro e w0 ⟨rfl,qQ⟩;have KT:=aa qQ;clear qQ;go_wp2_with fail;go_loopg [9,60] 0 (λk s9 s60 wr=>k=0/\s9=.string (bs x0)/\s60=.int .i64 0/\wr=w0)
  case atStart=>exact⟨rfl,rfl,rfl,rfl⟩
  case round=>obtain⟨rfl,rfl,rfl,rfl⟩:=hrel;have HD:Hid (x0=gv (.alt l)):=aa (by have:=HA.out;rw[aL (by rw[HL.out];omega)]at this;simpa[ph]using this);go_wp2_with fail;go_ret;exact⟨by rw[<-HD.out];rfl,KT.out⟩
 ·go_enter func122,ntmps122;go_wp2_with fail;refine HC0.mono ?_;rintro e w0 ⟨rfl,qQ⟩;have KT:=aa qQ;clear qQ;go_wp2_with fail;go_loopg [9,60] k1 (λk s9 s60 wr=>∃(j:Nat) (x:List dE),k=k1-j/\s9=.string (bs x)/\s60=.int .i64 j/\j<=k1/\Hid (Below w.heap.size w wr)/\Hid (ph x (l.drop (j+1))=gv (.alt l)/\dV x/\(enc x).length<=4000000000000000000))
  case atStart=>exact⟨0,x0,rfl,rfl,rfl,aU _,KT,aa ⟨HA.out,HMB.out⟩⟩
  case round=>
   obtain⟨j,x,rfl,rfl,rfl,hj,Fv,HJ⟩:=hrel;by_cases gM:j<k1
   ·have kY:=gW ((j:Int)+1) (by omega);have jA:decide ((j:Int)<(k1:Int))=true:=by simp;omega
    obtain⟨_,yD,hFl,V8,hTl⟩:=HW.out;have hFG:∀x∈G,x<w.heap.size:=λx hx=>hFl x (bg _ hx);have Dt:=HH.2.Xc hFG V8 Fv.out;have h1':=HH.1.keep λz hz=>Fv.block z (hFl z (bu _ hz));have Se:j+1<n:=(by have:=HK1.out;omega);obtain⟨u,hu⟩:∃u,us[j+1]? =some u:=⟨us[j+1]'(by rw[<-HN.1];exact Se),ah _⟩;obtain⟨t,F1,ht,ll,EA⟩:=eW.at l us G (j+1) u Dt hu;obtain⟨b',o',oY,he,_,eB⟩:=h1'.cell hu;simp only[au,ae,aY,and_true]at he;obtain⟨⟨rfl,rfl⟩,qJ,rfl⟩:=he;rw[show o+(j+1)=o+1+j by omega]at eB;clear qJ;have i1:(0:Int)<=(j:Int):=(by omega);have i2:(j:Int)<(k1:Int):=by omega
    have kt:=bm ht;have uH:=pK l t yD kt;have yw:=jH l t kt;have hwl:=HW.1;have hTr:=hTl.below (B:=w.heap.size) Fv.out (af _);have HC:=aa (HM.out t kt wr B u F1 ll (λx hx=>ai (hFG x (EA x hx)) Fv.size) (ao V8 Fv.size) hTr (by omega) uH);have hso:=ud t uH;have HCS:=aa (λw1 (h:Below wr.heap.size wr w1)=>f163 x (gv t) w1 (hTr.below (B:=wr.heap.size) h (af _)) HJ.2.1 hso.1 HJ.2.2 (by omega));have hd:=HJ.1;rw[N0 ht]at hd;have nH:dV (common x (gv t))/\(enc (common x (gv t))).length<=4000000000000000000:=⟨xL HJ.2.1,ao (A' _ _) HJ.2.2⟩;obtain⟨y,hy⟩:=dS (common x (gv t));obtain⟨sx,Mf⟩:=dS (gv t);rw[<-hy]at hd nH;rw[<-Mf]at HC HCS hy;rw[<-hy]at HCS;have HD:=eo hd nH;clear ht hu ll Dt h1' kt hd nH Se yD hFl V8 hTl hFG EA uH yw hwl hTr hso hy Mf;go_wp2_with fail;refine HC.mono ?_;rintro e w1 ⟨rfl,eu⟩;have qC:=aa (HCS.out w1 eu);have o4:=aa (Fv.trans (Below.less eu Fv.size));clear eu;go_wp2_with fail;refine qC.mono ?_;rintro e w2 ⟨rfl,eT⟩;have jR:=aa (o4.trans (Below.less eT o4.size));clear eT;cases y with
    |nil=>have hem:(bs ([]:List dE)).toList.isEmpty=true:=ib [];have HZ:Hid (([]:List dE)=gv (.alt l)):=aa (by have:=HD.1;rwa [FG]at this);go_wp2_with fail;go_ret;exact⟨by rw[<-HZ.out];rfl,jR.out⟩
    |cons c1 r1=>
     have hem:(bs (c1::r1)).toList.isEmpty=false:=ib (c1::r1);go_wp2_with fail;go_roundg (k1- (j+1))
     case measure=>omega
     case rel=>exact⟨j+1,c1::r1,rfl,rfl,rfl,by omega,jR,HD⟩
   ·have jA:decide ((j:Int)<(k1:Int))=false:=(by simp;omega);have HD:Hid (x=gv (.alt l)):=aa (by
     have:=HJ.1;rw[aL (by rw[HL.out];have:=HK1.out;omega)]at this;simpa[ph]using this)
    go_wp2_with fail;go_ret;exact⟨by rw[<-HD.out];rfl,Fv.out⟩
theorem Pa (l:List T) (hM:∀t∈l,lM t):lM (.eh l):=by intro w B v F h hF hB hT hw hg;simp only[Tr]at h;obtain⟨sv,us,bl,G,rfl,hFe,h1,h2⟩:=h;have HC:=aa (Ix l hM w B (.iface 265 sv) F (by simp only[Tr];exact⟨sv,us,bl,G,rfl,hFe,h1,h2⟩) hF hB hT (by simpa[ix]using hw) (by simpa[good]using hg));have gw:=kI sv;have pX:=vW sv;have lA:=vV sv;have eH:=jU sv;have yn:=CD sv;clear hFe hF hB hT h1 h2 hw hg;go_enter func122,ntmps122;go_wp2_with fail;refine HC.mono ?_;rintro e w1 ⟨rfl,kR⟩;have oL:=aa kR;clear kR;go_wp2_with fail;go_ret;exact⟨rfl,oL.out⟩
mutual
theorem QK:∀(t:T),lM t
 |.text t=>O' t
 |.char sep=>Pd sep
 |.star sep nx tm=>Pb sep nx tm
 |.range lo hi neg=>Kx lo hi neg
 |.set cs neg=>S7 cs neg
 |.void=>O9
 |.pre t sep=>S8 t sep
 |.eP t sep=>S6 t sep
 |.dN p q sep=>Iw p q sep
 |.cont t=>Pc t
 |.dH l=>Ky l (yY l)
 |.alt l=>Ix l (yY l)
 |.eh l=>Pa l (yY l)
theorem yY:∀(l:List T),∀t∈l,lM t
 | [],t,h=>by simp at h
 |u::l,t,h=>by
  rcases az.1 h with e|h
  ·rw[e];exact QK u
  ·exact yY l t h
end
theorem um:∀(a b out:List T),fv (a++b) out=fv b (fv a out)
 | [],b,out=>by simp[fv]
 |t::a,b,out=>by simp only[aJ,fv];exact um a b _
theorem Aa (a:List T) (t:T) (out:List T):fv (a++[t]) out=push t (fv a out):=by rw[um];simp[fv]
theorem Ct {out:List T} {x:T} (h:out.getLast?=some x):eD out=eD out.dropLast+ix x:=by
 have e:out=out.dropLast++[x]:=by obtain⟨eK,he⟩:=List.getLast?_eq_some_iff.1 h;rw[he];simp
 have h2:=congrArg eD e;rw[ej]at h2;simpa[eD]using h2
mutual
theorem FY:∀(t:T) (out:List T),eD (push t out)<=eD out+ix t
 |.dH l,out=>by simp only[push,ix];exact wJ l out
 |.void,out=>by simp[push]
 |.text t,out=>by
  simp only[push];split
  ·rename_i p h;rw[ej,Ct h];simp[eD,ix];omega
  ·rw[ej];simp[eD]
 |.star sep nx tm,out=>by
  simp only[push];split
  ·rename_i s1 n1 t1 h;split
   ·rw[ej,Ct h];simp[eD,ix]
   ·omega
  ·rw[ej];simp[eD]
 |.char _,out=>by simp only[push,ej];simp[eD]
 |.range _ _ _,out=>by simp only[push,ej];simp[eD]
 |.set _ _,out=>by simp only[push,ej];simp[eD]
 |.pre _ _,out=>by simp only[push,ej];simp[eD]
 |.eP _ _,out=>by simp only[push,ej];simp[eD]
 |.dN _ _ _,out=>by simp only[push,ej];simp[eD]
 |.cont _,out=>by simp only[push,ej];simp[eD]
 |.alt _,out=>by simp only[push,ej];simp[eD]
 |.eh _,out=>by simp only[push,ej];simp[eD]
theorem wJ:∀(l:List T) (out:List T),eD (fv l out)<=eD out+eD l
 | [],out=>by simp[fv]
 |t::l,out=>by simp only[fv,eD];have h1:=FY t out;have h2:=wJ l (push t out);omega
end
mutual
def iK (N:Nat):T->Prop
 |.text t=>t≠[]/\dV t
 |.char s=>s.length<=100000
 |.star s nx _=>dV s/\s.length<=100000/\dV nx/\(enc nx).length<=N
 |.pre t s=>t≠[]/\dV t/\dV s
 |.eP t s=>t≠[]/\dV t/\dV s
 |.dN p q s=>dV p/\dV q/\dV s
 |.cont t=>t≠[]/\dV t
 |.dH l=>fR N l
 |.alt l=>fR N l
 |.eh l=>fR N l
 |_=>True
def fR (N:Nat):List T->Prop
 | []=>True
 |t::ts=>iK N t/\fR N ts
end
mutual
def lL:T->Prop
 |.dH l=>l≠[]/\gj l
 |.alt l=>l≠[]/\gj l
 |.eh l=>l≠[]/\gj l
 |_=>True
def gj:List T->Prop
 | []=>True
 |t::ts=>lL t/\gj ts
end
section
variable {N:Nat}
theorem jM:∀(a b:List T),fR N (a++b)↔fR N a/\fR N b
 | [],b=>by simp[fR]
 |t::a,b=>by simp[fR,jM a b,and_assoc]
theorem iZ:∀(a b:List T),gj (a++b)↔gj a/\gj b
 | [],b=>by simp[gj]
 |t::a,b=>by simp[gj,iZ a b,and_assoc]
mutual
theorem Q7:∀(t:T) (out:List T),iK N t->fR N out->fR N (push t out)
 |.dH l,out,ht,ho=>by simp only[push];exact wQ l out (by simpa only[iK]using ht) ho
 |.void,out,ht,ho=>by simpa only[push]using ho
 |.text t,out,ht,ho=>by
  simp only[push];rcases gH out with rfl|⟨i,x,rfl⟩
  ·simpa[fR,iK]using ht
  ·simp only[bZ,b6];cases x<;>(try (exact(jM _ _).2 ⟨ho,ht,trivial⟩));rename_i p;simp only[jM,fR,iK,and_true]at ho ht⊢;exact⟨ho.1,by simp[ho.2.1],gS ho.2.2 ht.2⟩
 |.star sep nx tm,out,ht,ho=>by
  simp only[push];rcases gH out with rfl|⟨i,x,rfl⟩
  ·simpa[fR]using ht
  ·simp only[bZ,b6];cases x<;>dsimp only<;>(try (exact(jM _ _).2 ⟨ho,ht,trivial⟩));split
   ·exact(jM _ _).2 ⟨((jM _ _).1 ho).1,ht,trivial⟩
   ·exact ho
 |.char _,out,ht,ho|.range _ _ _,out,ht,ho|.set _ _,out,ht,ho|.pre _ _,out,ht,ho|.eP _ _,out,ht,ho|.dN _ _ _,out,ht,ho|.cont _,out,ht,ho|.alt _,out,ht,ho|.eh _,out,ht,ho=>by simp only[push];exact(jM _ _).2 ⟨ho,ht,trivial⟩
theorem wQ:∀(l:List T) (out:List T),fR N l->fR N out->fR N (fv l out)
 | [],out,_,ho=>by simpa only[fv]using ho
 |t::ts,out,hl,ho=>by simp only[fv];simp only[fR]at hl;exact wQ ts _ hl.2 (Q7 t out hl.1 ho)
end
mutual
theorem Rb:∀(t:T) (out:List T),lL t->gj out->gj (push t out)
 |.dH l,out,ht,ho=>by simp only[push];simp only[lL]at ht;exact wV l out ht.2 ho
 |.void,out,ht,ho=>by simpa only[push]using ho
 |.text t,out,ht,ho=>by
  simp only[push];rcases gH out with rfl|⟨i,x,rfl⟩
  ·simp[gj,lL]
  ·simp only[bZ,b6];cases x<;>(try (exact(iZ _ _).2 ⟨ho,ht,trivial⟩));exact(iZ _ _).2 ⟨((iZ _ _).1 ho).1,by simp[lL],trivial⟩
 |.star sep nx tm,out,ht,ho=>by
  simp only[push];rcases gH out with rfl|⟨i,x,rfl⟩
  ·simp[gj,lL]
  ·simp only[bZ,b6];cases x<;>dsimp only<;>(try (exact(iZ _ _).2 ⟨ho,ht,trivial⟩));split
   ·exact(iZ _ _).2 ⟨((iZ _ _).1 ho).1,ht,trivial⟩
   ·exact ho
 |.char _,out,ht,ho|.range _ _ _,out,ht,ho|.set _ _,out,ht,ho|.pre _ _,out,ht,ho|.eP _ _,out,ht,ho|.dN _ _ _,out,ht,ho|.cont _,out,ht,ho|.alt _,out,ht,ho|.eh _,out,ht,ho=>by simp only[push];exact(iZ _ _).2 ⟨ho,ht,trivial⟩
theorem wV:∀(l:List T) (out:List T),gj l->gj out->gj (fv l out)
 | [],out,_,ho=>by simpa only[fv]using ho
 |t::ts,out,hl,ho=>by simp only[fv];simp only[gj]at hl;exact wV ts _ hl.2 (Rb t out hl.1 ho)
end
theorem Q8 (l:List T) (h:fR N l):fR N (norm l):=by
 unfold norm;split
 ·exact wQ l [] h trivial
 ·exact h
theorem Rc (l:List T) (h:gj l):gj (norm l):=by
 unfold norm;split
 ·exact wV l [] h trivial
 ·exact h
theorem Ee (l:List T) (h:fR N l):iK N (oneOf .dH l):=by
 match l,h with
 | [],_=>trivial
 | [t],h=>exact h.1
 |t::u::l,h=>simpa only[oneOf,iK]using h
theorem JP (l:List T) (h:fR N l):iK N (oneOf .alt l):=by
 match l,h with
 | [],_=>trivial
 | [t],h=>exact h.1
 |t::u::l,h=>simpa only[oneOf,iK]using h
theorem Ej (l:List T) (h:gj l):lL (oneOf .dH l):=by
 match l,h with
 | [],_=>trivial
 | [t],h=>exact h.1
 |t::u::l,h=>simp only[oneOf,lL];exact⟨by simp,h⟩
theorem JQ (l:List T) (h:gj l):lL (oneOf .alt l):=by
 match l,h with
 | [],_=>trivial
 | [t],h=>exact h.1
 |t::u::l,h=>simp only[oneOf,lL];exact⟨by simp,h⟩
mutual
theorem Gc:∀(t:T),iK N t->iK N (simp t)
 |.dH l,h=>by simp only[iK]at h;simp only[simp];exact Ee _ (Q8 _ (wP l h))
 |.alt l,h=>by simp only[iK]at h;simp only[simp];exact JP _ (wP l h)
 |.eh _,h|.star _ _ _,h|.text _,h|.char _,h|.range _ _ _,h|.set _ _,h|.void,h|.pre _ _,h|.eP _ _,h|.dN _ _ _,h|.cont _,h=>by simpa only[simp]using h
theorem wP:∀(l:List T),fR N l->fR N (fh l)
 | [],_=>trivial
 |t::ts,h=>by simp only[fR]at h;simp only[fh,fR];exact⟨Gc t h.1,wP ts h.2⟩
end
mutual
theorem Gn:∀(t:T),raw t->lL (simp t)
 |.dH l,h=>by simp only[raw]at h;simp only[simp];exact Ej _ (Rc _ (wU l h))
 |.alt l,h=>by simp only[raw]at h;simp only[simp];exact JQ _ (wU l h.2)
 |.eh _,h|.pre _ _,h|.eP _ _,h|.dN _ _ _,h|.cont _,h=>by simp only[raw]at h
 |.star _ _ _,h|.text _,h|.char _,h|.range _ _ _,h|.set _ _,h|.void,h=>by simp[simp,lL]
theorem wU:∀(l:List T),wv l->gj (fh l)
 | [],_=>trivial
 |t::ts,h=>by simp only[wv]at h;simp only[fh,gj];exact⟨Gn t h.1,wU ts h.2⟩
end
theorem Oj (h:gz a b=some c) (ha:iK N a) (hb:iK N b):iK N c:=by
 unfold gz at h;split at h<;>(try split at h)<;>(try cases h)<;>simp only[iK]at ha hb⊢
 ·exact⟨ha.1,ha.2,hb.1⟩
 ·exact⟨hb.1,hb.2,ha.1⟩
 ·exact⟨by simp[ha.1],gS ha.2 hb.2.1,hb.2.2⟩
 ·exact⟨hb.1,hb.2.1⟩
 ·exact⟨ha.2,hb.2.1,hb.2.2⟩
 ·exact hb
theorem Ol (h:gz a b=some c):lL c:=by unfold gz at h;split at h<;>(try split at h)<;>(try cases h)<;>simp[lL]
theorem uq:∀(l:List T),fR N l->fR N (dZ l)
 | [],_=>trivial
 |t::ts,h=>by
  simp only[fR]at h;have ih:=uq ts h.2;simp only[dZ];split
  ·rename_i u hu;rw[hu]at ih;split
   ·rename_i c hc;exact⟨Oj hc h.1 ih.1,trivial⟩
   ·exact⟨h.1,ih⟩
  ·exact⟨h.1,ih⟩
theorem ur:∀(l:List T),gj l->gj (dZ l)
 | [],_=>trivial
 |t::ts,h=>by
  simp only[gj]at h;have ih:=ur ts h.2;simp only[dZ];split
  ·rename_i u hu;rw[hu]at ih;split
   ·rename_i c hc;exact⟨Ol hc,trivial⟩
   ·exact⟨h.1,ih⟩
  ·exact⟨h.1,ih⟩
mutual
theorem Ed:∀(t:T) (τ:Bool),iK N t->iK N (jD τ t)
 |.alt l,τ,h=>by simp only[iK]at h;simp only[jD,iK];exact Ga l τ h
 |.dH l,τ,h=>by
  simp only[iK]at h;have h1:=F9 l τ h;simp only[jD];split
  ·have:=uq _ h1
   match dZ (gx τ l),this with
   | [],_=>trivial
   | [t],h=>exact h.1
   |t::u::l,h=>simpa only[fk,iK]using h
  ·simpa only[iK]using h1
 |.eh _,τ,h|.star _ _ _,τ,h|.text _,τ,h|.char _,τ,h|.range _ _ _,τ,h|.set _ _,τ,h|.void,τ,h|.pre _ _,τ,h|.eP _ _,τ,h|.dN _ _ _,τ,h|.cont _,τ,h=>by simpa only[jD]using h
theorem Ga:∀(l:List T) (τ:Bool),fR N l->fR N (ki τ l)
 | [],_,_=>trivial
 |t::ts,τ,h=>by simp only[fR]at h;simp only[ki,fR];exact⟨Ed t τ h.1,Ga ts τ h.2⟩
theorem F9:∀(l:List T) (τ:Bool),fR N l->fR N (gx τ l)
 | [],_,_=>trivial
 |t::ts,τ,h=>by simp only[fR]at h;simp only[gx,fR];exact⟨Ed t _ h.1,F9 ts τ h.2⟩
end
mutual
theorem Ei:∀(t:T) (τ:Bool),lL t->lL (jD τ t)
 |.alt l,τ,h=>by simp only[lL]at h;simp only[jD,lL];exact⟨λe=>h.1 (b7.1 (by rw[<-mx l τ,e];rfl)),Gl l τ h.2⟩
 |.dH l,τ,h=>by
  simp only[lL]at h;have h1:=Gk l τ h.2;have h2:gx τ l≠[]:=by
   cases l with
   |nil=>exact absurd rfl h.1
   |cons a b=>simp[gx]
  simp only[jD];split
  ·have:=ur _ h1;have h3:dZ (gx τ l)≠[]:=λe=>h2 (uT _ e)
   match dZ (gx τ l),this,h3 with
   | [],_,h=>exact absurd rfl h
   | [t],h,_=>exact h.1
   |t::u::l,h,_=>simp only[fk,lL];exact⟨by simp,h⟩
  ·simp only[lL];exact⟨h2,h1⟩
 |.eh _,τ,h|.star _ _ _,τ,h|.text _,τ,h|.char _,τ,h|.range _ _ _,τ,h|.set _ _,τ,h|.void,τ,h|.pre _ _,τ,h|.eP _ _,τ,h|.dN _ _ _,τ,h|.cont _,τ,h=>by simpa only[jD]using h
theorem Gl:∀(l:List T) (τ:Bool),gj l->gj (ki τ l)
 | [],_,_=>trivial
 |t::ts,τ,h=>by simp only[gj]at h;simp only[ki,gj];exact⟨Ei t τ h.1,Gl ts τ h.2⟩
theorem Gk:∀(l:List T) (τ:Bool),gj l->gj (gx τ l)
 | [],_,_=>trivial
 |t::ts,τ,h=>by simp only[gj]at h;simp only[gx,gj];exact⟨Ei t _ h.1,Gk ts τ h.2⟩
end
theorem Vm {u:T} (h:iK N u) (hN:ix u<=N):dV (lead u)/\(enc (lead u)).length<=N:=by cases u<;>simp only[iK,ix]at h hN<;>simp only[lead]<;>first|exact⟨h.2,hN⟩|exact⟨h.2.1,hN⟩|exact⟨h.1,by omega⟩|exact⟨eS,by simp[enc]⟩
theorem Gd (l:List T) (t:T) (h:iK N t) (hl:∀u us,l=u::us->iK N u/\ix u<=N):iK N (fA l t):=by
 cases l with
 |nil=>cases t<;>simpa only[fA]using h
 |cons u us=>obtain⟨h1,h2⟩:=hl u us rfl;cases t<;>simp only[fA]<;>(try exact h);simp only[iK]at h⊢;have:=Vm h1 h2;exact⟨h.1,h.2.1,this.1,this.2⟩
mutual
theorem Eh:∀(t:T) (τ:Bool),iK N t->ix t<=N->iK N (js τ t)
 |.dH l,τ,h,hN=>by simp only[iK]at h;simp only[ix]at hN;simp only[js,iK];exact Gf l τ h hN
 |.alt l,τ,h,hN=>by simp only[iK]at h;simp only[ix]at hN;simp only[js,iK];exact Gg l τ h hN
 |.star sep nx tm,τ,h,_=>by simpa only[js,iK]using h
 |.eh _,τ,h,_|.text _,τ,h,_|.char _,τ,h,_|.range _ _ _,τ,h,_|.set _ _,τ,h,_|.void,τ,h,_|.pre _ _,τ,h,_|.eP _ _,τ,h,_|.dN _ _ _,τ,h,_|.cont _,τ,h,_=>by simpa only[js]using h
theorem Gg:∀(l:List T) (τ:Bool),fR N l->eD l<=N->fR N (mR τ l)
 | [],_,_,_=>trivial
 |t::ts,τ,h,hN=>by simp only[fR]at h;simp only[eD]at hN;simp only[mR,fR];exact⟨Eh t τ h.1 (by omega),Gg ts τ h.2 (by omega)⟩
theorem Gf:∀(l:List T) (τ:Bool),fR N l->eD l<=N->fR N (kn τ l)
 | [],_,_,_=>trivial
 |t::ts,τ,h,hN=>by simp only[fR]at h;simp only[eD]at hN;simp only[kn,fR];refine⟨Gd _ _ (Eh t _ h.1 (by omega)) ?_,Gf ts τ h.2 (by omega)⟩;rintro u us rfl;simp only[fR]at h;simp only[eD]at hN;exact⟨h.2.1,by omega⟩
end
theorem Gp (l:List T) (t:T):lL (fA l t)↔lL t:=by cases l<;>cases t<;>simp only[fA,lL]
mutual
theorem El:∀(t:T) (τ:Bool),lL t->lL (js τ t)
 |.dH l,τ,h=>by
  simp only[lL]at h;simp only[js,lL];refine⟨?_,Gs l τ h.2⟩;cases l with
  |nil=>exact absurd rfl h.1
  |cons a b=>simp[kn]
 |.alt l,τ,h=>by
  simp only[lL]at h;simp only[js,lL];refine⟨?_,Gt l τ h.2⟩;cases l with
  |nil=>exact absurd rfl h.1
  |cons a b=>simp[mR]
 |.star sep nx tm,τ,h=>by simp[js,lL]
 |.eh _,τ,h|.text _,τ,h|.char _,τ,h|.range _ _ _,τ,h|.set _ _,τ,h|.void,τ,h|.pre _ _,τ,h|.eP _ _,τ,h|.dN _ _ _,τ,h|.cont _,τ,h=>by simpa only[js]using h
theorem Gt:∀(l:List T) (τ:Bool),gj l->gj (mR τ l)
 | [],_,_=>trivial
 |t::ts,τ,h=>by simp only[gj]at h;simp only[mR,gj];exact⟨El t τ h.1,Gt ts τ h.2⟩
theorem Gs:∀(l:List T) (τ:Bool),gj l->gj (kn τ l)
 | [],_,_=>trivial
 |t::ts,τ,h=>by simp only[gj]at h;simp only[kn,gj];exact⟨(Gp _ _).2 (El t _ h.1),Gs ts τ h.2⟩
end
mutual
theorem Eg:∀(t:T) (τ:Bool),iK N t->iK N (ji τ t)
 |.dH l,τ,h=>by simp only[iK]at h;simp only[ji,iK];exact Ge l τ h
 |.alt l,τ,h=>by
  simp only[iK]at h;simp only[ji];split
  ·simp only[iK];exact Af l τ h
  ·simp only[iK];exact Af l τ h
 |.star _ _ _,τ,h|.eh _,τ,h|.text _,τ,h|.char _,τ,h|.range _ _ _,τ,h|.set _ _,τ,h|.void,τ,h|.pre _ _,τ,h|.eP _ _,τ,h|.dN _ _ _,τ,h|.cont _,τ,h=>by simpa only[ji]using h
theorem Af:∀(l:List T) (τ:Bool),fR N l->fR N (jr τ l)
 | [],_,_=>trivial
 |t::ts,τ,h=>by simp only[fR]at h;simp only[jr,fR];exact⟨Eg t τ h.1,Af ts τ h.2⟩
theorem Ge:∀(l:List T) (τ:Bool),fR N l->fR N (jC τ l)
 | [],_,_=>trivial
 |t::ts,τ,h=>by simp only[fR]at h;simp only[jC,fR];exact⟨Eg t _ h.1,Ge ts τ h.2⟩
end
mutual
theorem Ek:∀(t:T) (τ:Bool),lL t->lL (ji τ t)
 |.dH l,τ,h=>by
  simp only[lL]at h;simp only[ji,lL];refine⟨?_,Gq l τ h.2⟩;cases l with
  |nil=>exact absurd rfl h.1
  |cons a b=>simp[jC]
 |.alt l,τ,h=>by
  simp only[lL]at h;have h1:jr τ l≠[]:=by
   cases l with
   |nil=>exact absurd rfl h.1
   |cons a b=>simp[jr]
  simp only[ji];split
  ·simp only[lL];exact⟨h1,Ai l τ h.2⟩
  ·simp only[lL];exact⟨h1,Ai l τ h.2⟩
 |.star _ _ _,τ,h|.eh _,τ,h|.text _,τ,h|.char _,τ,h|.range _ _ _,τ,h|.set _ _,τ,h|.void,τ,h|.pre _ _,τ,h|.eP _ _,τ,h|.dN _ _ _,τ,h|.cont _,τ,h=>by simpa only[ji]using h
theorem Ai:∀(l:List T) (τ:Bool),gj l->gj (jr τ l)
 | [],_,_=>trivial
 |t::ts,τ,h=>by simp only[gj]at h;simp only[jr,gj];exact⟨Ek t τ h.1,Ai ts τ h.2⟩
theorem Gq:∀(l:List T) (τ:Bool),gj l->gj (jC τ l)
 | [],_,_=>trivial
 |t::ts,τ,h=>by simp only[gj]at h;simp only[jC,gj];exact⟨Ek t _ h.1,Gq ts τ h.2⟩
end
mutual
theorem EN:∀(t:T),iK N t->lL t->good t
 |.dH l,h,k=>by simp only[iK]at h;simp only[lL]at k;simp only[good];exact⟨k.1,uO l h k.2⟩
 |.alt l,h,k=>by simp only[iK]at h;simp only[lL]at k;simp only[good];exact⟨k.1,uO l h k.2⟩
 |.eh l,h,k=>by simp only[iK]at h;simp only[lL]at k;simp only[good];exact⟨k.1,uO l h k.2⟩
 |.text _,h,_=>by simp only[iK]at h;simp only[good];exact h.2
 |.pre _ _,h,_|.eP _ _,h,_=>by simp only[iK]at h;simp only[good];exact h.2.1
 |.dN _ _ _,h,_=>by simp only[iK]at h;simp only[good];exact⟨h.1,h.2.1⟩
 |.cont _,h,_=>by simp only[iK]at h;simp only[good];exact h.2
 |.star _ _ _,_,_|.char _,_,_|.range _ _ _,_,_|.set _ _,_,_|.void,_,_=>by simp only[good]
theorem uO:∀(l:List T),fR N l->gj l->qK l
 | [],_,_=>trivial
 |t::ts,h,k=>by simp only[fR]at h;simp only[gj]at k;simp only[qK];exact⟨EN t h.1 k.1,uO ts h.2 k.2⟩
end
end
mutual
theorem TI:∀(t:T),lL t->TJ t
 |.dH l,k=>by simp only[lL]at k;simp only[TJ];exact zr l k.2
 |.alt l,k=>by simp only[lL]at k;simp only[TJ];exact⟨k.1,zr l k.2⟩
 |.eh l,k=>by simp only[lL]at k;simp only[TJ];exact⟨k.1,zr l k.2⟩
 |.text _,_|.pre _ _,_|.eP _ _,_|.dN _ _ _,_|.cont _,_|.star _ _ _,_|.char _,_|.range _ _ _,_|.set _ _,_|.void,_=>by simp only[TJ]
theorem zr:∀(l:List T),gj l->I3 l
 | [],_=>trivial
 |t::ts,k=>by simp only[gj]at k;simp only[I3];exact⟨TI t k.1,zr ts k.2⟩
end
mutual
theorem Jz:∀(t:T),iJ t<=(ms t).sz+4*(ms t).tx
 |.dH l=>by simp only[iJ,ms,N4.node];have:=yU l;omega
 |.alt l=>by simp only[iJ,ms,N4.node];have:=yU l;omega
 |.eh l=>by simp only[iJ,ms,N4.node];have:=yU l;omega
 |.text t|.pre t _|.eP t _|.cont t=>by simp only[iJ,ms];have:=(eI t).2;omega
 |.dN p q _=>by simp only[iJ,ms];have:=(eI p).2;have:=(eI q).2;omega
 |.star _ _ _|.char _|.range _ _ _|.set _ _|.void=>by simp[iJ,ms]
theorem yU:∀(l:List T),fF l<=(fJ l).sz+4*(fJ l).tx
 | []=>by simp[fF]
 |t::ts=>by simp only[fF,fJ,N4.add];have:=Jz t;have:=yU ts;omega
end
mutual
theorem DR:∀(t:T),ix t<=4*(ms t).tx
 |.dH l=>by simp only[ix,ms,N4.node];have:=yX l;omega
 |.alt l=>by simp only[ix,ms,N4.node];have:=yX l;omega
 |.eh l=>by simp only[ix,ms,N4.node];have:=yX l;omega
 |.text t|.pre t _|.eP t _|.cont t=>by simp only[ix,ms];have:=(eI t).2;omega
 |.dN p q _=>by simp only[ix,ms];have:=(eI p).2;have:=(eI q).2;omega
 |.star _ _ _|.char _|.range _ _ _|.set _ _|.void=>by simp[ix,ms]
theorem yX:∀(l:List T),eD l<=4*(fJ l).tx
 | []=>by simp[eD]
 |t::ts=>by simp only[eD,fJ,N4.add];have:=DR t;have:=yX ts;omega
end
mutual
theorem Sg:∀(t:T),uH t<=(ms t).sz
 |.dH l=>by simp only[uH,ms,N4.node];have:=zj l;omega
 |.alt l=>by simp only[uH,ms,N4.node];have:=zj l;omega
 |.eh l=>by simp only[uH,ms,N4.node];have:=zj l;omega
 |.text _|.pre _ _|.eP _ _|.cont _|.dN _ _ _|.star _ _ _|.char _|.range _ _ _|.set _ _|.void=>by simp[uH]
theorem zj:∀(l:List T),uG l<=(fJ l).sz
 | []=>by simp[uG]
 |t::ts=>by simp only[uG,fJ,N4.add];have:=Sg t;have:=zj ts;omega
end
theorem ze:∀(l:List T),l.length<=(fJ l).sz
 | []=>by simp
 |t::ts=>by simp only[aH,fJ,N4.add];have:=(wW t).2;have:=ze ts;omega
theorem rX (a b k:Nat):2*(a+b)*k=2*a*k+2*b*k:=by rw[Nat.mul_add,du]
mutual
theorem zp (K:Nat):∀(t:T) (d:Nat),d+(ms t).sz<=K->fT t d+(K+2)<=2*(ms t).sz*(K+2)
 |.dH l,d,h=>by simp only[fT,ms,N4.node]at h⊢;have:=IL K l d (by omega);rw[rX];omega
 |.alt l,d,h=>by simp only[fT,ms,N4.node]at h⊢;have:=IM K l d (by omega);rw[rX];omega
 |.eh l,d,h=>by simp only[fT,ms,N4.node]at h⊢;have:=IK K l d (by omega);rw[rX];omega
 |.star _ _ _,d,h=>by simp only[fT,ms]at h⊢;omega
 |.text _,d,h|.pre _ _,d,h|.eP _ _,d,h|.cont _,d,h|.dN _ _ _,d,h|.char _,d,h|.range _ _ _,d,h|.set _ _,d,h|.void,d,h=>by simp only[fT,ms]at h⊢;omega
theorem IL (K:Nat):∀(l:List T) (d:Nat),d+1+(fJ l).sz<=K->om l d<=2*(fJ l).sz*(K+2)
 | [],d,_=>by simp[om]
 |t::ts,d,h=>by simp only[om,fJ,N4.add]at h⊢;have h1:=zp K t (d+1) (by omega);have h2:=IL K ts d (by omega);rw[rX];omega
theorem IM (K:Nat):∀(l:List T) (d:Nat),d+1+(fJ l).sz<=K->yc l d<=2*(fJ l).sz*(K+2)
 | [],d,_=>by simp[yc]
 |t::ts,d,h=>by simp only[yc,fJ,N4.add]at h⊢;have h1:=zp K t (d+1) (by omega);have h2:=IM K ts d (by omega);rw[rX];omega
theorem IK (K:Nat):∀(l:List T) (d:Nat),d+1+(fJ l).sz<=K->rQ l d<=2*(fJ l).sz*(K+2)
 | [],d,_=>by simp[rQ]
 |t::ts,d,h=>by simp only[rQ,fJ,N4.add]at h⊢;have h1:=zp K t d (by omega);have h2:=IK K ts d (by omega);rw[rX];omega
end
theorem JJ {sv:Value} {us:List Value} {bl G:List Nat} (h1:oI w sv us bl) (h2:eW w B l us G) (hn:l≠[]):∃b o cap,sv=.slice (some ⟨b,o,none⟩) l.length cap/\bl=[b]/\∀i u,us[i]? =some u->w.cell? ⟨b,o+i,none⟩=some u:=by
 have hl:=eW.length l us G h2;rcases h1 with⟨rfl,_⟩|⟨b,o,cap,cs,rfl,rfl,h3,h4,_⟩
 ·exact absurd (b7.1 hl.symm) hn
 ·refine⟨b,o,cap,by rw[hl],rfl,λi u hu=> ?_⟩;obtain⟨h5,h6⟩:=aB.1 hu;simp[World.cell?,h3,h4 i h5,h6]
mutual
theorem FR {w:World} {B B':Nat} (hB:B<=B'):∀(t:T) (v:Value) (F:List Nat),Tr w B t v F->iK 1000000 t->lL t->ix t<=1000000->(ms t).sz<=1000000->(∀x∈F,x<B')->Rp w B' t v
 |.text t,v,F,h,ho,hn,ht,hz,hl=>by simp only[Tr]at h;simp only[iK]at ho;simp only[ix]at ht;simp only[Rp];obtain⟨b,rfl,rfl,hb⟩:=h;exact⟨b,⟨rfl,hl b (by simp)⟩,by simp[World.cell?,hb],ho.2,ht⟩
 |.char s,v,F,h,ho,hn,ht,hz,hl=>by simp only[Tr]at h;simp only[iK]at ho;simp only[Rp];obtain⟨b,vs,rfl,rfl,hb,h1,h2⟩:=h;exact⟨b,vs,⟨rfl,hl b (by simp)⟩,by simp[World.cell?,hb],h1,λc hc=>ai (h2 c hc) hB,ho⟩
 |.star s nx tm,v,F,h,ho,hn,ht,hz,hl=>by simp only[Tr]at h;simp only[iK]at ho;simp only[Rp];obtain⟨b,vs,rfl,rfl,hb,h1,h2⟩:=h;exact⟨b,vs,⟨rfl,hl b (by simp)⟩,⟨by simp[World.cell?,hb],by simp[World.cell?,hb],by simp[World.cell?,hb],by simp[World.cell?,hb],h1⟩,λc hc=>ai (h2 c hc) hB,ho⟩
 |.range a b n,v,F,h,ho,hn,ht,hz,hl=>by simp only[Tr]at h;simp only[Rp];obtain⟨b,rfl,rfl,hb⟩:=h;exact⟨b,⟨rfl,hl b (by simp)⟩,by simp[World.cell?,hb],by simp[World.cell?,hb],by simp[World.cell?,hb]⟩
 |.set cs n,v,F,h,ho,hn,ht,hz,hl=>by simp only[Tr]at h;simp only[Rp];obtain⟨b,mb,rfl,rfl,hb,h1⟩:=h;exact⟨b,mb,⟨rfl,hl b (by simp)⟩,by simp[World.cell?,hb],by simp[World.cell?,hb],h1,hl mb (by simp)⟩
 |.void,v,F,h,ho,hn,ht,hz,hl=>by simp only[Tr]at h;simp only[Rp];exact⟨h.choose,h.choose_spec.1⟩
 |.pre t s,v,F,h,ho,hn,ht,hz,hl=>by simp only[Tr]at h;simp only[iK]at ho;simp only[Rp];obtain⟨b,rfl,rfl,hb⟩:=h;exact⟨b,⟨rfl,hl b (by simp)⟩,by simp[World.cell?,hb],by simp[World.cell?,hb],ho.2⟩
 |.eP t s,v,F,h,ho,hn,ht,hz,hl=>by simp only[Tr]at h;simp only[iK]at ho;simp only[Rp];obtain⟨b,rfl,rfl,hb⟩:=h;exact⟨b,⟨rfl,hl b (by simp)⟩,by simp[World.cell?,hb],by simp[World.cell?,hb],ho.2⟩
 |.dN p q s,v,F,h,ho,hn,ht,hz,hl=>by simp only[Tr]at h;simp only[iK]at ho;simp only[ix]at ht;simp only[Rp];obtain⟨b,rfl,rfl,hb⟩:=h;exact⟨b,⟨rfl,hl b (by simp)⟩,by simp[World.cell?,hb],by simp[World.cell?,hb],by simp[World.cell?,hb],ho.1,ho.2.1,ho.2.2,by omega,by omega⟩
 |.cont t,v,F,h,ho,hn,ht,hz,hl=>by simp only[Tr]at h;simp only[iK]at ho;simp only[ix]at ht;simp only[Rp];obtain⟨b,rfl,rfl,hb⟩:=h;exact⟨b,⟨rfl,hl b (by simp)⟩,by simp[World.cell?,hb],ho.2,ho.1,ht⟩
 |.dH l,v,F,h,ho,hn,ht,hz,hl=>by simp only[Tr]at h;simp only[iK]at ho;simp only[lL]at hn;simp only[ix]at ht;simp only[ms,N4.node]at hz;simp only[Rp];obtain⟨sv,us,bl,G,rfl,rfl,h1,h2⟩:=h;obtain⟨b,o,cap,rfl,rfl,h3⟩:=JJ h1 h2 hn.1;exact⟨b,o,cap,rfl,hl b (by simp),by have:=ze l;omega,sf hB l us G b o h2 ho hn.2 ht (by omega) (λx hx=>hl x (by simp[hx])) h3⟩
 |.alt l,v,F,h,ho,hn,ht,hz,hl=>by simp only[Tr]at h;simp only[iK]at ho;simp only[lL]at hn;simp only[ix]at ht;simp only[ms,N4.node]at hz;simp only[Rp];obtain⟨sv,us,bl,G,rfl,rfl,h1,h2⟩:=h;obtain⟨b,o,cap,rfl,rfl,h3⟩:=JJ h1 h2 hn.1;exact⟨b,o,cap,rfl,hl b (by simp),by have:=ze l;omega,sf hB l us G b o h2 ho hn.2 ht (by omega) (λx hx=>hl x (by simp[hx])) h3⟩
 |.eh l,v,F,h,ho,hn,ht,hz,hl=>by simp only[Tr]at h;simp only[iK]at ho;simp only[lL]at hn;simp only[ix]at ht;simp only[ms,N4.node]at hz;simp only[Rp];obtain⟨sv,us,bl,G,rfl,rfl,h1,h2⟩:=h;obtain⟨b,o,cap,rfl,rfl,h3⟩:=JJ h1 h2 hn.1;exact⟨b,o,cap,rfl,hl b (by simp),by have:=ze l;omega,sf hB l us G b o h2 ho hn.2 ht (by omega) (λx hx=>hl x (by simp[hx])) h3⟩
theorem sf {w:World} {B B':Nat} (hB:B<=B'):∀(l:List T) (us:List Value) (G:List Nat) (b o:Nat),eW w B l us G->fR 1000000 l->gj l->eD l<=1000000->(fJ l).sz<=1000000->(∀x∈G,x<B')->(∀i u,us[i]? =some u->w.cell? ⟨b,o+i,none⟩=some u)->rT w B' b l o
 | [],us,G,b,o,_,_,_,_,_,_,_=>by simp only[rT]
 |t::l,us,G,b,o,h,ho,hn,ht,hz,hl,hc=>by simp only[eW]at h;obtain⟨u,fV,F1,F2,rfl,rfl,h1,h2⟩:=h;simp only[fR]at ho;simp only[gj]at hn;simp only[eD]at ht;simp only[fJ,N4.add]at hz;simp only[rT];refine⟨⟨u,by simpa using hc 0 u (by simp),FR hB t u F1 h1 ho.1 hn.1 (by omega) (by omega) λx hx=>hl x (by simp[hx])⟩,?_⟩;refine sf hB l fV F2 b (o+1) h2 ho.2 hn.2 (by omega) (by omega) (λx hx=>hl x (by simp[hx])) λi x hx=> ?_;have:=hc (i+1) x (by simpa using hx);rw[show o+1+i=o+(i+1)by omega];exact this
end
end Go.Proofs.YtfejflhgaphilaaGreatDoor
