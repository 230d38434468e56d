/- foldTail walked. -/
import Derived.Test.YtfejflhgaphilaaGreatDoorC22
import Derived.Test.YtfejflhgaphilaaGreatDoorC09
import Derived.Test.YtfejflhgaphilaaGreatDoorC14
set_option linter.all false
set_option maxRecDepth 100000
set_option maxHeartbeats 64000000
open Go.Proofs.Tryz
namespace Go.Proofs.YtfejflhgaphilaaGreatDoor
open Go.RowKit Gm
structure Fst (w wr:World) (B:Nat) (a:Option Addr) (m c:Nat) (bl G0:List Nat) (l d:List T) (us:List Value) (G:List Nat):Prop where
 pl:fy w wr B (.slice a m c) bl G0 d [] us G
 len:d.length=m
 eq:dZ d=dZ l
 ts:eD d=eD l
theorem Tr.small {w:World} {B:Nat} {l:List T} {us:List Value} {v:Value} {bl G:List Nat} (h1:oI w v us bl) (h2:eW w B l us G):l.length<=9223372036854775807:=by have:=h1.small;rw[eW.length l us G h2]at this;unfold maxLen at this;omega
theorem f159 (w:World) (B:Nat) (l:List T) (a:Option Addr) (n c:Nat) (us:List Value) (bl G:List Nat) (h1:oI w (.slice a n c) us bl) (h2:eW w B l us G) (h3:(bl++G).Nodup) (h4:∀x∈bl++G,x<w.heap.size) (h5:∀x∈bl++G,B<=x) (hB:B<=w.heap.size) (fY:eD l<=4000000000000000000):Calls prog 159 #[.slice a n c] w λe w'=>∃(m:Nat) (fV:List Value) (G':List Nat),e=.returned (.slice a m c)/\fy w w' B (.slice a m c) bl G (dZ l) [] fV G':=by
 have sq:=Tr.small h1 h2;have q7:l.length=n:=by obtain⟨a',c',e⟩:=h1.len;simp only[au]at e;rw[e.2.1,eW.length l us G h2]
 rw[q7]at sq;have HB:=aa hB;have H0:Hid (Fst w w B a n c bl G l l us G):=aa ⟨by have:=fy.start h1 h2 h3 h4 h5;exact⟨this.row,by simpa using this.tr,this.nodup,this.own,this.lt,this.ge,this.fo⟩,q7,rfl,rfl⟩;have MR:=aa fY;clear h1 h2 h3 h4 h5 hB q7 fY;go_enter func159,ntmps159;go_wp2_with fail;go_loopg [0] n (λk s0 wr=>∃(m:Nat) (d:List T) (us:List Value) (G2:List Nat),k=m/\s0=.slice a m c/\m<=9223372036854775807/\Hid (Fst w wr B a m c bl G l d us G2))
 case atStart=>exact⟨n,l,us,G,rfl,rfl,sq,H0⟩
 case round=>
  obtain⟨m,d,lP,G2,hkm,rfl,qo,HF⟩:=hrel;replace hkm:=hkm.symm;subst hkm;by_cases VP:2<=m
  ·have rB:decide ((2:Int)<=(m:Int))=true:=(by simp;omega);obtain⟨p,x,y,hd⟩:=Qv (by rw[HF.len];exact VP);have hF:=HF.out;rw[hd]at hF;obtain⟨b,o,ux,uy,Fx,Fy,rfl,hmp,hmc,mX,hx,hy,lI,eR,nH,hcy,H',jq,fw⟩:=hF.pl.two HB.out;obtain⟨q,hq⟩:=dS (p.length+1);obtain⟨r,hr⟩:=dS p.length;rw[<-hq]at hcy fw;rw[<-hr]at nH fw;have mN:IntKind.i64.wrap ((m:Int)-2)=(r:Int):=by rw[aW];omega
   have kY:IntKind.i64.wrap ((m:Int)-1)=(q:Int):=(by rw[aW];omega);have nZ:IntKind.i64.wrap ((q:Int)-1)=(r:Int):=by rw[aW];omega
   have i1:(0:Int)<=(r:Int):=(by omega);have i2:(r:Int)<(m:Int):=by omega
   have i3:(0:Int)<=(q:Int):=(by omega);have i4:(q:Int)<(m:Int):=by omega
   have i5:(q:Int)<=(c:Int):=(by omega);have i6:(r:Int)<(q:Int):=by omega
   have hqn:q<=9223372036854775807:=(by omega);have wZ:(p++[x]).length=q:=by simp;omega
   have Xx:q<m:=(by omega);have sE:Hid (dZ (p++[x,y])=dZ l):=aa hF.eq;have Jw:Hid (fy w wr B (.slice (some ⟨b,o,none⟩) m c) bl G (p++[x,y]) [] lP G2):=aa hF.pl;have oK:=aa fw;have TW:Hid (eD (p++[x,y])=eD l):=aa hF.ts;have Bq:=eo lI eR;have HR:=eo hr hq;have tR:=eo H' jq;have HCM:=eo hmc mX;clear hF hd fw lI eR hq hr hmp hmc mX H' jq HF VP wZ;cases y with
   |text t2=>
    simp only[Tr]at hy;obtain⟨b2,rfl,rfl,eT⟩:=hy;have ym:=pf (.pointer (some ⟨b2,0,none⟩));have zw:=il (.pointer (some ⟨b2,0,none⟩));have s0:wr.cell? ⟨b2,0,none⟩=some (.string (bs t2)):=(by simp[World.cell?,eT]);clear eT;cases iW:x.eL with
    |false=>obtain⟨s,pv,rfl,Xl⟩:=rm hx iW;have HN:Hid (gz (x) (.text t2)=none):=aa (by cases x<;>first|rfl|(simp[T.eL]at iW));have tT:=aa (eO HN.out p);go_wp2_with fail;go_ret;refine⟨m,lP,G2,rfl,?_⟩;rw[<-sE.out,tT.out];exact Jw.out
    |true=>
     obtain⟨pq,Up,Ul,rfl⟩:∃sep nx tm,x=.star sep nx tm:=by cases x<;>simp[T.eL]at iW;exact⟨_,_,_,rfl⟩
     simp only[Tr]at hx;obtain⟨b1,vs1,rfl,rfl,eu,yz,kR⟩:=hx;have Yw:=gV (.pointer (some ⟨b1,0,none⟩));have M3:=iQ (.pointer (some ⟨b1,0,none⟩));have s1:wr.cell? ⟨b1,1,none⟩=some (.string (bs pq)):=(by simp[World.cell?,eu]);clear eu yz kR iW;have hW:Below wr.heap.size wr (wr.alloc (.cells #[.string (bs t2),.string (bs pq)] 348)).drew:=(by go_grown);have z0:=dY s0 hW (Bq.2 b2 (by simp));have z1:=dY s1 hW (Bq.2 b1 (by simp));go_wp2_with fail;refine dP (λw'=>w'.cell? ⟨b2,0,none⟩=some (.string (bs t2))/\w'.cell? ⟨b1,1,none⟩=some (.string (bs pq))) [(true,0),(true,1),(true,2),(true,3),(true,4),(true,5),(true,6),(true,7),(true,8),(false,9),(false,10)] (by kernel_rfl) (by kernel_rfl) ⟨s0,s1⟩ (λhHeld=> ?_);iterate 9
      refine dL (v:= ?_) rfl (λ_ _ _ h=>h) (by rfl) ?_ hHeld ?_;rotate_left
      ·intro w hSw;(try dsimp only at hSw);go_simp
       try with_reducible rfl
      simp only[Act.put,iX]
     refine dM rfl (λK hK=> ?_);go_simp;refine hK.out _ _ ⟨z0,z1⟩ (λdW=> ?_);clear hK K dW;refine dM rfl (λK hK=> ?_);go_simp;refine hK.out _ _ ⟨z0,z1⟩ (λdW=> ?_);clear hK K dW hHeld;refine dX rfl ?_;obtain⟨e1,e2,fV,G',e3⟩:=oK.out (wr.alloc (.cells #[.string (bs t2),.string (bs pq)] 348)).drew (.eP t2 pq) (.iface 347 (.pointer (some ⟨wr.heap.size,0,none⟩))) [wr.heap.size] (ei.grown hW) (by simp only[Tr];exact⟨_,rfl,rfl,by exact heap_alloc_new wr _⟩) (by simp) (λz hz=>.inr (by simp at hz;omega)) (λz hz=>by simp only[aE]at hz;subst hz;show wr.heap.size<(wr.alloc _).heap.size;rw[ab];omega);have HE:=aa e3;clear e3;go_wp2_with fail;go_roundg q
     case measure=>exact Xx
     case rel=>refine⟨q,p++[.eP t2 pq],fV,G',rfl,rfl,hqn,aa ⟨by have:=HE.out;rw[World.setCell_drew]at this;exact this,by simp;exact HR.2▸rfl,?_,by rw[<-TW.out,ej,ej];simp[eD,ix,dR]⟩⟩;rw[<-sE.out];exact(ju rfl p).symm
   |char sep=>simp only[Tr]at hy;obtain⟨b2,vs2,rfl,rfl,eT,sK,pT⟩:=hy;have ym:=l8 (.pointer (some ⟨b2,0,none⟩));have zw:=kQ (.pointer (some ⟨b2,0,none⟩));have BN:=CZ (.pointer (some ⟨b2,0,none⟩));have DN:=CY (.pointer (some ⟨b2,0,none⟩));have FA:=NU (.pointer (some ⟨b2,0,none⟩));clear eT sK pT;clear hx;have HN:Hid (gz (x) (.char sep)=none):=aa (by cases x<;>rfl);have tT:=aa (eO HN.out p);go_wp2_with fail;go_ret;refine⟨m,lP,G2,rfl,?_⟩;rw[<-sE.out,tT.out];exact Jw.out
   |star mc nx2 tm2=>
    simp only[Tr]at hy;obtain⟨b2,vs2,rfl,rfl,eT,sK,pT⟩:=hy;have ym:=gV (.pointer (some ⟨b2,0,none⟩));have s1:wr.cell? ⟨b2,1,none⟩=some (.string (bs mc)):=by simp[World.cell?,eT]
    clear eT sK pT;cases iW:x.fz with
    |false=>obtain⟨s,pv,rfl,Xl⟩:=Ag hx iW;have HN:Hid (gz (x) (.star mc nx2 tm2)=none):=aa (by cases x<;>first|rfl|(simp[T.fz]at iW));have tT:=aa (eO HN.out p);go_wp2_with fail;go_ret;refine⟨m,lP,G2,rfl,?_⟩;rw[<-sE.out,tT.out];exact Jw.out
    |true=>
     obtain⟨t1,rfl⟩:∃t1,x=.text t1:=by cases x<;>simp[T.fz]at iW;exact⟨_,rfl⟩
     simp only[Tr]at hx;obtain⟨b1,rfl,rfl,eu⟩:=hx;have M3:=il (.pointer (some ⟨b1,0,none⟩));have s0:wr.cell? ⟨b1,0,none⟩=some (.string (bs t1)):=by simp[World.cell?,eu]
     clear eu iW;have hW:Below wr.heap.size wr (wr.alloc (.cells #[.string (bs t1),.string (bs mc)] 346)).drew:=by go_grown
     have z0:=dY s0 hW (Bq.2 b1 (by simp));have z1:=dY s1 hW (Bq.2 b2 (by simp));go_wp2_with fail;refine dP (λw'=>w'.cell? ⟨b1,0,none⟩=some (.string (bs t1))/\w'.cell? ⟨b2,1,none⟩=some (.string (bs mc))) [(true,0),(true,1),(true,2),(true,3),(true,4),(true,5),(true,6),(true,7),(true,8),(false,9),(false,10)] (by kernel_rfl) (by kernel_rfl) ⟨s0,s1⟩ (λhHeld=> ?_);iterate 9
      refine dL (v:= ?_) rfl (λ_ _ _ h=>h) (by rfl) ?_ hHeld ?_;rotate_left
      ·intro w hSw;(try dsimp only at hSw);go_simp
       try with_reducible rfl
      simp only[Act.put,iX]
     refine dM rfl (λK hK=> ?_);go_simp;refine hK.out _ _ ⟨z0,z1⟩ (λdW=> ?_);clear hK K dW;refine dM rfl (λK hK=> ?_);go_simp;refine hK.out _ _ ⟨z0,z1⟩ (λdW=> ?_);clear hK K dW hHeld;refine dX rfl ?_;obtain⟨e1,e2,fV,G',e3⟩:=oK.out (wr.alloc (.cells #[.string (bs t1),.string (bs mc)] 346)).drew (.pre t1 mc) (.iface 344 (.pointer (some ⟨wr.heap.size,0,none⟩))) [wr.heap.size] (ei.grown hW) (by simp only[Tr];exact⟨_,rfl,rfl,by exact heap_alloc_new wr _⟩) (by simp) (λz hz=>.inr (by simp at hz;omega)) (λz hz=>by simp only[aE]at hz;subst hz;show wr.heap.size<(wr.alloc _).heap.size;rw[ab];omega);have HE:=aa e3;clear e3;go_wp2_with fail;go_roundg q
     case measure=>exact Xx
     case rel=>refine⟨q,p++[.pre t1 mc],fV,G',rfl,rfl,hqn,aa ⟨by have:=HE.out;rw[World.setCell_drew]at this;exact this,by simp;exact HR.2▸rfl,?_,by rw[<-TW.out,ej,ej];simp[eD,ix,dR]⟩⟩;rw[<-sE.out];exact(ju rfl p).symm
   |range lo hi neg=>simp only[Tr]at hy;obtain⟨b2,rfl,rfl,eT⟩:=hy;have ym:=lZ (.pointer (some ⟨b2,0,none⟩));have zw:=kM (.pointer (some ⟨b2,0,none⟩));have BN:=CL (.pointer (some ⟨b2,0,none⟩));have DN:=CK (.pointer (some ⟨b2,0,none⟩));have FA:=Nz (.pointer (some ⟨b2,0,none⟩));clear eT;clear hx;have HN:Hid (gz (x) (.range lo hi neg)=none):=aa (by cases x<;>rfl);have tT:=aa (eO HN.out p);go_wp2_with fail;go_ret;refine⟨m,lP,G2,rfl,?_⟩;rw[<-sE.out,tT.out];exact Jw.out
   |set cs neg=>simp only[Tr]at hy;obtain⟨b2,mb,rfl,rfl,eT,sK⟩:=hy;have ym:=lY (.pointer (some ⟨b2,0,none⟩));have zw:=kK (.pointer (some ⟨b2,0,none⟩));have BN:=CH (.pointer (some ⟨b2,0,none⟩));have DN:=CG (.pointer (some ⟨b2,0,none⟩));have FA:=Nu (.pointer (some ⟨b2,0,none⟩));clear eT sK;clear hx;have HN:Hid (gz (x) (.set cs neg)=none):=aa (by cases x<;>rfl);have tT:=aa (eO HN.out p);go_wp2_with fail;go_ret;refine⟨m,lP,G2,rfl,?_⟩;rw[<-sE.out,tT.out];exact Jw.out
   |void=>
    simp only[Tr]at hy;obtain⟨u,rfl,rfl⟩:=hy;have ym:=nA u;have zw:=l6 u;have BN:=wm u;have DN:=wk u;have FA:=CR u
    skip
    clear hx;have HN:Hid (gz (x) (.void)=none):=aa (by cases x<;>rfl);have tT:=aa (eO HN.out p);go_wp2_with fail;go_ret;refine⟨m,lP,G2,rfl,?_⟩;rw[<-sE.out,tT.out];exact Jw.out
   |pre t2 mc=>
    simp only[Tr]at hy;obtain⟨b2,rfl,rfl,eT⟩:=hy;have ym:=lW (.pointer (some ⟨b2,0,none⟩));have zw:=kH (.pointer (some ⟨b2,0,none⟩));have BN:=vU (.pointer (some ⟨b2,0,none⟩));have s1:wr.cell? ⟨b2,0,none⟩=some (.string (bs t2)):=by simp[World.cell?,eT]
    have s2:wr.cell? ⟨b2,1,none⟩=some (.string (bs mc)):=(by simp[World.cell?,eT]);clear eT;cases iW:x.fz with
    |true=>
     obtain⟨t1,rfl⟩:∃t1,x=.text t1:=by cases x<;>simp[T.fz]at iW;exact⟨_,rfl⟩
     simp only[Tr]at hx;obtain⟨b1,rfl,rfl,eu⟩:=hx;have M3:=il (.pointer (some ⟨b1,0,none⟩));have s0:wr.cell? ⟨b1,0,none⟩=some (.string (bs t1)):=by simp[World.cell?,eu]
     clear eu iW;have ka:(bs t1).size+(bs t2).size<=9223372036854775807:=by have:=TW.out;have h2:=MR.out;rw[ej]at this;simp only[eD,ix]at this;rw[dQ,dQ];omega
     have hW:Below wr.heap.size wr (wr.alloc (.cells #[.string (bs t1++bs t2),.string (bs mc)] 346)).drew:=(by go_grown);have z0:=dY s0 hW (Bq.2 b1 (by simp));have z1:=dY s1 hW (Bq.2 b2 (by simp));have z2:=dY s2 hW (Bq.2 b2 (by simp));go_wp2_with fail;refine dP (λw'=>w'.cell? ⟨b1,0,none⟩=some (.string (bs t1))/\w'.cell? ⟨b2,0,none⟩=some (.string (bs t2))/\w'.cell? ⟨b2,1,none⟩=some (.string (bs mc))) [(true,0),(true,1),(true,2),(true,3),(true,4),(true,5),(true,6),(true,7),(true,8),(true,9),(true,10),(true,11),(true,12),(true,13),(false,14),(false,15)] (by kernel_rfl) (by kernel_rfl) ⟨s0,s1,s2⟩ (λhHeld=> ?_);iterate 14
      refine dL (v:= ?_) rfl (λ_ _ _ h=>h) (by rfl) ?_ hHeld ?_;rotate_left
      ·intro w hSw;(try dsimp only at hSw);go_simp;(try rw[if_neg (Nat.not_lt.2 ka)])
       try with_reducible rfl
      simp only[Act.put,iX]
     refine dM rfl (λK hK=> ?_);go_simp;refine hK.out _ _ ⟨z0,z1,z2⟩ (λdW=> ?_);clear hK K dW;refine dM rfl (λK hK=> ?_);go_simp;refine hK.out _ _ ⟨z0,z1,z2⟩ (λdW=> ?_);clear hK K dW hHeld;refine dX rfl ?_;obtain⟨e1,e2,fV,G',e3⟩:=oK.out (wr.alloc (.cells #[.string (bs t1++bs t2),.string (bs mc)] 346)).drew (.pre (t1++t2) mc) (.iface 344 (.pointer (some ⟨wr.heap.size,0,none⟩))) [wr.heap.size] (ei.grown hW) (by simp only[Tr];exact⟨_,rfl,rfl,by rw[<-lv];exact heap_alloc_new wr _⟩) (by simp) (λz hz=>.inr (by simp at hz;omega)) (λz hz=>by simp only[aE]at hz;subst hz;show wr.heap.size<(wr.alloc _).heap.size;rw[ab];omega);have HE:=aa e3;clear e3;go_wp2_with fail;go_roundg q
     case measure=>exact Xx
     case rel=>refine⟨q,p++[.pre (t1++t2) mc],fV,G',rfl,rfl,hqn,aa ⟨by have:=HE.out;rw[World.setCell_drew]at this;exact this,by simp;exact HR.2▸rfl,?_,by rw[<-TW.out,ej,ej];simp[eD,ix,dR]⟩⟩;rw[<-sE.out];exact(ju rfl p).symm
    |false=>
     cases hss:x.eL with
     |false=>obtain⟨s,pv,rfl,Xl,hta2⟩:=Q9 hx iW hss;have HN:Hid (gz (x) (.pre t2 mc)=none):=aa (by cases x<;>first|rfl|(simp[T.fz,T.eL]at iW hss));have tT:=aa (eO HN.out p);go_wp2_with fail;go_ret;refine⟨m,lP,G2,rfl,?_⟩;rw[<-sE.out,tT.out];exact Jw.out
     |true=>
      obtain⟨pq,Up,Ul,rfl⟩:∃sep nx tm,x=.star sep nx tm:=by cases x<;>simp[T.eL]at hss;exact⟨_,_,_,rfl⟩
      simp only[Tr]at hx;obtain⟨b1,vs1,rfl,rfl,eu,yz,kR⟩:=hx;have Yw:=gV (.pointer (some ⟨b1,0,none⟩));have M3:=iQ (.pointer (some ⟨b1,0,none⟩));have s9:wr.cell? ⟨b1,1,none⟩=some (.string (bs pq)):=(by simp[World.cell?,eu]);clear eu yz kR hss;clear iW;cases pq with
      |nil=>
       rw[Bd]at s9;cases mc with
       |nil=>
        rw[Bd]at s2;have hW:Below wr.heap.size wr (wr.alloc (.cells #[.string (bs t2)] 353)):=by go_grown
        obtain⟨e1,e2,fV,G',e3⟩:=oK.out (wr.alloc (.cells #[.string (bs t2)] 353)) (.cont t2) (.iface 352 (.pointer (some ⟨wr.heap.size,0,none⟩))) [wr.heap.size] (ei.grown hW) (by simp only[Tr];exact⟨_,rfl,rfl,by exact heap_alloc_new wr _⟩) (by simp) (λz hz=>.inr (by simp at hz;omega)) (λz hz=>by simp only[aE]at hz;subst hz;show wr.heap.size<(wr.alloc _).heap.size;rw[ab];omega);have HE:=aa e3;clear e3;go_wp2_with fail;go_roundg q
        case measure=>exact Xx
        case rel=>refine⟨q,p++[.cont t2],fV,G',rfl,rfl,hqn,aa ⟨HE.out,by simp;exact HR.2▸rfl,?_,by rw[<-TW.out,ej,ej];simp[eD,ix,dR]⟩⟩;rw[<-sE.out];exact(ju rfl p).symm
       |cons c2 r2=>have eK:(bs (c2::r2)).toList.isEmpty=false:=ib (c2::r2);have HN:Hid (gz (.star [] Up Ul) (.pre t2 (c2::r2))=none):=aa (rfl);have tT:=aa (eO HN.out p);go_wp2_with fail;go_ret;refine⟨m,lP,G2,rfl,?_⟩;rw[<-sE.out,tT.out];exact Jw.out
      |cons c1 r1=>have eK:(bs (c1::r1)).toList.isEmpty=false:=ib (c1::r1);have HN:Hid (gz (.star (c1::r1) Up Ul) (.pre t2 mc)=none):=aa (rfl);have tT:=aa (eO HN.out p);go_wp2_with fail;go_ret;refine⟨m,lP,G2,rfl,?_⟩;rw[<-sE.out,tT.out];exact Jw.out
   |eP t2 mc=>
    simp only[Tr]at hy;obtain⟨b2,rfl,rfl,eT⟩:=hy;have ym:=lV (.pointer (some ⟨b2,0,none⟩));have zw:=kF (.pointer (some ⟨b2,0,none⟩));have BN:=vS (.pointer (some ⟨b2,0,none⟩));have DN:=vR (.pointer (some ⟨b2,0,none⟩));have s1:wr.cell? ⟨b2,0,none⟩=some (.string (bs t2)):=(by simp[World.cell?,eT]);have s2:wr.cell? ⟨b2,1,none⟩=some (.string (bs mc)):=by simp[World.cell?,eT]
    clear eT;cases iW:x.fz with
    |false=>obtain⟨s,pv,rfl,Xl⟩:=Ag hx iW;have HN:Hid (gz (x) (.eP t2 mc)=none):=aa (by cases x<;>first|rfl|(simp[T.fz]at iW));have tT:=aa (eO HN.out p);go_wp2_with fail;go_ret;refine⟨m,lP,G2,rfl,?_⟩;rw[<-sE.out,tT.out];exact Jw.out
    |true=>
     obtain⟨t1,rfl⟩:∃t1,x=.text t1:=by cases x<;>simp[T.fz]at iW;exact⟨_,rfl⟩
     simp only[Tr]at hx;obtain⟨b1,rfl,rfl,eu⟩:=hx;have M3:=il (.pointer (some ⟨b1,0,none⟩));have s0:wr.cell? ⟨b1,0,none⟩=some (.string (bs t1)):=by simp[World.cell?,eu]
     clear eu iW;have hW:Below wr.heap.size wr (wr.alloc (.cells #[.string (bs t1),.string (bs t2),.string (bs mc)] 351)).drew:=by go_grown
     have z0:=dY s0 hW (Bq.2 b1 (by simp));have z1:=dY s1 hW (Bq.2 b2 (by simp));have z2:=dY s2 hW (Bq.2 b2 (by simp));go_wp2_with fail;refine dP (λw'=>w'.cell? ⟨b1,0,none⟩=some (.string (bs t1))/\w'.cell? ⟨b2,0,none⟩=some (.string (bs t2))/\w'.cell? ⟨b2,1,none⟩=some (.string (bs mc))) [(true,0),(true,1),(true,2),(true,3),(true,4),(true,5),(true,6),(true,7),(true,8),(true,9),(true,10),(true,11),(true,12),(false,13),(false,14)] (by kernel_rfl) (by kernel_rfl) ⟨s0,s1,s2⟩ (λhHeld=> ?_);iterate 13
      refine dL (v:= ?_) rfl (λ_ _ _ h=>h) (by rfl) ?_ hHeld ?_;rotate_left
      ·intro w hSw;(try dsimp only at hSw);go_simp
       try with_reducible rfl
      simp only[Act.put,iX]
     refine dM rfl (λK hK=> ?_);go_simp;refine hK.out _ _ ⟨z0,z1,z2⟩ (λdW=> ?_);clear hK K dW;refine dM rfl (λK hK=> ?_);go_simp;refine hK.out _ _ ⟨z0,z1,z2⟩ (λdW=> ?_);clear hK K dW hHeld;refine dX rfl ?_;obtain⟨e1,e2,fV,G',e3⟩:=oK.out (wr.alloc (.cells #[.string (bs t1),.string (bs t2),.string (bs mc)] 351)).drew (.dN t1 t2 mc) (.iface 349 (.pointer (some ⟨wr.heap.size,0,none⟩))) [wr.heap.size] (ei.grown hW) (by simp only[Tr];exact⟨_,rfl,rfl,by exact heap_alloc_new wr _⟩) (by simp) (λz hz=>.inr (by simp at hz;omega)) (λz hz=>by simp only[aE]at hz;subst hz;show wr.heap.size<(wr.alloc _).heap.size;rw[ab];omega);have HE:=aa e3;clear e3;go_wp2_with fail;go_roundg q
     case measure=>exact Xx
     case rel=>refine⟨q,p++[.dN t1 t2 mc],fV,G',rfl,rfl,hqn,aa ⟨by have:=HE.out;rw[World.setCell_drew]at this;exact this,by simp;exact HR.2▸rfl,?_,by rw[<-TW.out,ej,ej];simp[eD,ix,dR]⟩⟩;rw[<-sE.out];exact(ju rfl p).symm
   |dN p2 q2 mc=>simp only[Tr]at hy;obtain⟨b2,rfl,rfl,eT⟩:=hy;have ym:=lS (.pointer (some ⟨b2,0,none⟩));have zw:=kE (.pointer (some ⟨b2,0,none⟩));have BN:=vQ (.pointer (some ⟨b2,0,none⟩));have DN:=vP (.pointer (some ⟨b2,0,none⟩));have FA:=Na (.pointer (some ⟨b2,0,none⟩));clear eT;clear hx;have HN:Hid (gz (x) (.dN p2 q2 mc)=none):=aa (by cases x<;>rfl);have tT:=aa (eO HN.out p);go_wp2_with fail;go_ret;refine⟨m,lP,G2,rfl,?_⟩;rw[<-sE.out,tT.out];exact Jw.out
   |cont t2=>
    simp only[Tr]at hy;obtain⟨b2,rfl,rfl,eT⟩:=hy;have ym:=lQ (.pointer (some ⟨b2,0,none⟩));have zw:=kD (.pointer (some ⟨b2,0,none⟩));have BN:=vN (.pointer (some ⟨b2,0,none⟩));have DN:=vM (.pointer (some ⟨b2,0,none⟩));have FA:=Cw (.pointer (some ⟨b2,0,none⟩));cases iW:x.eL with
    |false=>obtain⟨s,pv,rfl,Xl⟩:=rm hx iW;have HN:Hid (gz (x) (.cont t2)=none):=aa (by cases x<;>first|rfl|(simp[T.eL]at iW));have tT:=aa (eO HN.out p);go_wp2_with fail;go_ret;refine⟨m,lP,G2,rfl,?_⟩;rw[<-sE.out,tT.out];exact Jw.out
    |true=>
     obtain⟨pq,Up,Ul,rfl⟩:∃sep nx tm,x=.star sep nx tm:=by cases x<;>simp[T.eL]at iW;exact⟨_,_,_,rfl⟩
     simp only[Tr]at hx;obtain⟨b1,vs1,rfl,rfl,eu,yz,kR⟩:=hx;have Yw:=gV (.pointer (some ⟨b1,0,none⟩));have M3:=iQ (.pointer (some ⟨b1,0,none⟩));have s1:wr.cell? ⟨b1,1,none⟩=some (.string (bs pq)):=(by simp[World.cell?,eu]);clear eu yz kR iW;cases pq with
     |nil=>
      rw[Bd]at s1;obtain⟨e1,e2,fV,G',e3⟩:=oK.out wr (.cont t2) (.iface 352 (.pointer (some ⟨b2,0,none⟩))) [b2] (ei.refl _ _) (by simp only[Tr];exact⟨_,rfl,rfl,eT⟩) (by simp) (λz hz=>.inl (by simp at hz;simp[hz])) (λz hz=>by have e:z=b2:=(by simpa using hz);rw[e];exact Bq.2 b2 (by simp));have HE:=aa e3;clear e3 eT;go_wp2_with fail;go_roundg q
      case measure=>exact Xx
      case rel=>refine⟨q,p++[.cont t2],fV,G',rfl,rfl,hqn,aa ⟨HE.out,by simp;exact HR.2▸rfl,?_,by rw[<-TW.out,ej,ej];simp[eD,ix,dR]⟩⟩;rw[<-sE.out];exact(ju rfl p).symm
     |cons c1 r1=>have eK:(bs (c1::r1)).toList.isEmpty=false:=ib (c1::r1);clear eT;have HN:Hid (gz (.star (c1::r1) Up Ul) (.cont t2)=none):=aa (rfl);have tT:=aa (eO HN.out p);go_wp2_with fail;go_ret;refine⟨m,lP,G2,rfl,?_⟩;rw[<-sE.out,tT.out];exact Jw.out
   |dH l2=>simp only[Tr]at hy;obtain⟨sv,sG,bl3,G3,rfl,rfl,eT,sK⟩:=hy;have ym:=rZ sv;have zw:=l0 sv;have BN:=wi sv;have DN:=wg sv;have FA:=CQ sv;clear eT sK;clear hx;have HN:Hid (gz (x) (.dH l2)=none):=aa (by cases x<;>rfl);have tT:=aa (eO HN.out p);go_wp2_with fail;go_ret;refine⟨m,lP,G2,rfl,?_⟩;rw[<-sE.out,tT.out];exact Jw.out
   |alt l2=>simp only[Tr]at hy;obtain⟨sv,sG,bl3,G3,rfl,rfl,eT,sK⟩:=hy;have ym:=pd sv;have zw:=kO sv;have BN:=wb sv;have DN:=vZ sv;have FA:=CN sv;clear eT sK;clear hx;have HN:Hid (gz (x) (.alt l2)=none):=aa (by cases x<;>rfl);have tT:=aa (eO HN.out p);go_wp2_with fail;go_ret;refine⟨m,lP,G2,rfl,?_⟩;rw[<-sE.out,tT.out];exact Jw.out
   |eh l2=>simp only[Tr]at hy;obtain⟨sv,sG,bl3,G3,rfl,rfl,eT,sK⟩:=hy;have ym:=lX sv;have zw:=kI sv;have BN:=vX sv;have DN:=vW sv;have FA:=CC sv;clear eT sK;clear hx;have HN:Hid (gz (x) (.eh l2)=none):=aa (by cases x<;>rfl);have tT:=aa (eO HN.out p);go_wp2_with fail;go_ret;refine⟨m,lP,G2,rfl,?_⟩;rw[<-sE.out,tT.out];exact Jw.out
  ·have rB:decide ((2:Int)<=(m:Int))=false:=(by simp;omega);go_wp2_with fail;go_ret;refine⟨m,lP,G2,rfl,?_⟩;rw[<-HF.eq,A3 (by rw[HF.len];omega)];exact HF.pl
end Go.Proofs.YtfejflhgaphilaaGreatDoor
