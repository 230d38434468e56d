/- The reference's check of a pattern: what it lets through is a clean pattern. -/
import Derived.Test.YtfejflhgaphilaaGreatDoorC27
import Derived.Deep.CutBlock
import Derived.Handy
set_option linter.all false
set_option maxRecDepth 100000
set_option maxHeartbeats 64000000
open Go.Proofs.Tryz
namespace Go.Proofs.YtfejflhgaphilaaGreatDoor
open Go.RowKit Gm
variable {t:ByteArray}
def MK (w w':World) (P:Prop) (e:Ending):Prop:=∃ok,e=.returned (.bool ok)/\Below w.heap.size w w'/\(ok=true->P)
theorem f34 (x:Int) (w:World):Calls prog 34 #[.int .i32 x] w λe w'=>MK w w' (∃c:Nat,x=c/\p8 c) e:=by
 go_enter func34,ntmps34;go_wp2_with fail
 all_goals go_ret
 all_goals (refine⟨_,rfl,ay _ _,λhk=>⟨x.toNat,?_⟩⟩;simp only[cC,decide_eq_true_eq,aM,or_false,false_or]at hk<;>(unfold p8;omega))
def Clean (w w':World) (lb:Nat) (left:Int) (l:List Gr) (e:Ending):Prop:=∃ok,e=.returned (.bool ok)/\ei (λb=>b=lb) w w'/\(ok=true->∃gl,l=ox gl/\iY gl/\fU gl/\w'.heap[lb]? =some (.cells #[.int .i64 (left-ey gl)] 3)/\0<=left-ey gl)
theorem yg (h:t.toList.isEmpty=true):t=bs []:=by apply fC;rw[eE,gd];rw[cN,Lib.toList_data]at h;exact h
def Shape:Gr->Prop
 |.mk k n t lo hi ks=>k<=6/\(k=4\/k=5\/n=false)/\(k=5\/lo=0/\hi=0)/\(k=6\/ks=[])/\(k=0\/k=4\/t=bs [])
theorem PX {wr:World} {lb:Nat} {v0 v:Value} {row:Array Value} {T:TypeId} (hle:wr.heap[lb]? =some (.cells #[v0] 3)) (uD:lb<wr.heap.size):((wr.setCell ⟨lb,0,none⟩ v).alloc (.cells row T)).heap[wr.heap.size]? =some (.cells row T)/\((wr.setCell ⟨lb,0,none⟩ v).alloc (.cells row T)).heap[lb]? =some (.cells #[v] 3)/\ei (λb=>b=lb) wr ((wr.setCell ⟨lb,0,none⟩ v).alloc (.cells row T))/\((wr.setCell ⟨lb,0,none⟩ v).alloc (.cells row T)).heap.size=wr.heap.size+1:=by have hs:(wr.setCell ⟨lb,0,none⟩ v).heap.size=wr.heap.size:=aK _ _ _;have e1:=heap_alloc_new (wr.setCell ⟨lb,0,none⟩ v) (.cells row T);rw[hs]at e1;have e2:=heap_alloc_old (wr.setCell ⟨lb,0,none⟩ v) (.cells row T) (r:=lb) (by omega);rw[dG hle]at e2;refine⟨e1,by simpa using e2,(ei.cell (S:=λb=>b=lb) rfl).trans (T:=λb=>b=lb) ⟨rfl,rfl,rfl,by rw[ab];omega,λb hb _=>heap_alloc_old _ _ hb⟩ (λ_ _ h=>h) (λ_ _ h=>h),by rw[ab,hs]⟩
theorem IX (p g:Gb) (h1:¬(eC p=0/\eC g=0)) (h2:¬((eC p=1\/eC p=2)/\(eC g=1\/eC g=2))):beside p [g]:=by cases p<;>cases g<;>simp[eC,beside]at*
theorem FO {k:Int} {ng:Bool} {lo hi:Int} {ks:List (List Gr)} {nk:Nat} (sY:nk=ks.length) (h:k<=6/\(k=4\/k=5\/¬ng=true)/\(k=5\/lo=0/\hi=0)/\(k=6\/nk=0)/\(k=0\/k=4\/t.toList.isEmpty=true)):Shape (.mk k ng t lo hi ks):=by
 obtain⟨h1,h2,h3,h4,h5⟩:=h;refine⟨h1,?_,h3,?_,?_⟩
 ·rcases h2 with h|h|h
  ·exact .inl h
  ·exact .inr (.inl h)
  ·exact .inr (.inr (by simpa using h))
 ·rcases h4 with h|h
  ·exact .inl h
  ·exact .inr (bM (by omega))
 ·rcases h5 with h|h|h
  ·exact .inl h
  ·exact .inr (.inl h)
  ·exact .inr (.inr (yg h))
theorem f15s (w0:World) (deep:Int) (hd: -1<=deep) (Mp:deep<=1000) (IH:0<=deep->∀(l:List Gr) (v:Value) (lb:Nat) (left:Int) (w:World),tV w0 l v->Below w0.heap.size w0 w->w0.heap.size<=lb->lb<w.heap.size->w.heap[lb]? =some (.cells #[.int .i64 left] 3)->0<=left->left<=1000->Calls prog 15 #[v,.pointer (some ⟨lb,0,none⟩),.int .i64 (deep-1)] w λe w'=>Clean w w' lb left l e) (l:List Gr) (v:Value) (lb:Nat) (left:Int) (w:World) (hl:tV w0 l v) (hb:Below w0.heap.size w0 w) (OM:w0.heap.size<=lb) (Uy:lb<w.heap.size) (hle:w.heap[lb]? =some (.cells #[.int .i64 left] 3)) (XJ:0<=left) (jg:left<=1000):Calls prog 15 #[v,.pointer (some ⟨lb,0,none⟩),.int .i64 deep] w λe w'=>Clean w w' lb left l e:=by
 obtain⟨a,c,rfl,q7,mT⟩:=hl;obtain⟨n,hn⟩:=dS l.length;rw[<-hn]at q7⊢;have H:=sW hn mT hb hle;have HI:=aa IH;clear hn mT hb IH hle;unfold maxLen at q7;go_enter func15,ntmps15;go_wp2_with fail;go_loopg [19] n (λk s19 wr=>∃j:Nat,k=n-j/\s19=.int .i64 j/\j<=n/\Hid (ei (λb=>b=lb) w wr/\∃gl,l.take j=ox gl/\iY gl/\fU gl/\wr.heap[lb]? =some (.cells #[.int .i64 (left-ey gl)] 3)/\0<=left-ey gl))
 case atStart=>exact⟨0,rfl,rfl,aU _,aa ⟨ei.refl _ _,[],rfl,trivial,trivial,by simpa[ey]using H.2.2.2,by simpa[ey]using XJ⟩⟩
 case round=>
  obtain⟨j,rfl,rfl,hj,HJ⟩:=hrel;by_cases gM:j<n
  ·have kY:=gW ((j:Int)+1) (by omega);have jA:decide ((j:Int)<(n:Int))=true:=by simp;omega
   have i1:(0:Int)<=(j:Int):=(by omega);have i2:(j:Int)<(n:Int):=by omega
   have mV:j<l.length:=(by rw[<-H.1];exact gM);obtain⟨b,o,rfl,hS⟩:=H.2.1 (by intro e;rw[e]at mV;simp at mV);obtain⟨g,hg⟩:=dS (l[j]);have hA:tX w0 g b (o+j*6):=tW.at l b o j g hS (by rw[hg];exact ah mV);have lJ:=hA;obtain⟨kk,ng,t,lo,hi,ks⟩:=g;simp only[tX]at lJ;obtain⟨g0,⟨vC,uF⟩,g1,g2,ht,g3,g4,a2,c2,g5,Dq,hksl⟩:=lJ;have o0:Below w0.heap.size w0 wr:=H.2.2.1.trans (HJ.1.below (ao OM (Nat.le_of_lt Uy)) λ_ e=>by rw[e];exact OM);obtain⟨mA,ZE⟩:∃x:Int,∃gl,x=left-ey gl/\l.take j=ox gl/\iY gl/\fU gl/\wr.heap[lb]? =some (.cells #[.int .i64 (left-ey gl)] 3)/\0<=left-ey gl:=by obtain⟨_,gl,h⟩:=HJ.out;exact⟨_,gl,rfl,h⟩
   obtain⟨gl,hx,h1,h2,h3,VQ,h5⟩:=ZE;rw[<-hx]at VQ h5;have hle2:mA<=1000:=(by omega);have g0:=dF o0 _ _ g0;have g1:=dF o0 _ _ g1;have g2:=dF o0 _ _ g2;have g3:=dF o0 _ _ g3;have g4:=dF o0 _ _ g4;have g5:=dF o0 _ _ g5;have uD:lb<wr.heap.size:=by have:=HJ.1.size;omega
   have hlc:wr.cell? ⟨lb,0,none⟩=some (.int .i64 mA):=(by simp[World.cell?,VQ]);have hwl:=gW (mA-1) (by omega);have HR:=YT hg hS o0 hx h1 h2 h3 VQ;clear hg hS hA o0 hx h1 h2 h3 VQ;obtain⟨nk,sY⟩:=dS ks.length;rw[<-sY]at g5;have HK:=jS sY hksl Dq;clear sY hksl Dq ht;go_upto_region 4 with fail
   have hlA:=dJ hlc (.cells #[.int .u8 kk,.bool ng,.string t,.int .i32 lo,.int .i32 hi,.slice a2 nk c2] 97);have hlf:(wr.alloc (.cells #[.int .u8 kk,.bool ng,.string t,.int .i32 lo,.int .i32 hi,.slice a2 nk c2] 97)).frozen? ⟨lb,0,none⟩=false:=by have e:=(heap_alloc_old wr (.cells #[.int .u8 kk,.bool ng,.string t,.int .i32 lo,.int .i32 hi,.slice a2 nk c2] 97) uD).trans HR.2.2.2.2.2.2.2;simp[World.frozen?,e]
   obtain⟨G,hG⟩:=dS wr.heap.size;rw[<-hG];have HG:=aa hG;clear hG;go_cut [23]from 24 to 28 (λs23 wx=>wx.cell? ⟨G,0,none⟩=some (.int .u8 kk)/\wx.cell? ⟨G,1,none⟩=some (.bool ng)/\wx.cell? ⟨G,2,none⟩=some (.string t)/\wx.cell? ⟨G,3,none⟩=some (.int .i32 lo)/\wx.cell? ⟨G,4,none⟩=some (.int .i32 hi)/\wx.cell? ⟨G,5,none⟩=some (.slice a2 nk c2)/\wx.cell? ⟨lb,0,none⟩=some (.int .i64 (mA-1))/\Hid (ei (λb=>b=lb) w wx/\wx.heap[lb]? =some (.cells #[.int .i64 (mA-1)] 3)/\G<wx.heap.size/\w.heap.size<=G))
   case first=>
    go_wp2_with fail;go_meet
    case rel=>have hG:=HG.out;subst hG;obtain⟨y1,y2,y3,y4⟩:=PX (row:=#[.int .u8 kk,.bool ng,.string t,.int .i32 lo,.int .i32 hi,.slice a2 nk c2]) (v:=.int .i64 (mA-1)) HR.2.2.2.2.2.2.2 uD;exact⟨cell_of y1 rfl,cell_of y1 rfl,cell_of y1 rfl,cell_of y1 rfl,cell_of y1 rfl,cell_of y1 rfl,cell_of y2 rfl,aa ⟨HJ.1.trans y3 (λ_ _ h=>h) (λ_ _ h=>h),y2,by omega,HJ.1.size⟩⟩
   case rest=>
    obtain⟨x0,x1,x2,x3,x4,x5,xl,HW⟩:=hcut;go_upto_region 5 with fail
    go_cut [41]from 29 to 41 (λs41 wx=>wx=wc/\∃B,s41=.bool B/\Hid (B=false->0<=mA-1/\0<=deep/\kk<=6))
    case first=>
     by_cases q1:mA-1<0
     ·have q1':decide (mA-1<0)=true:=(by simpa using q1);go_wp2_with fail;go_meet
      case rel=>exact⟨rfl,true,rfl,aa λh=>by cases h⟩
     by_cases q2:deep<0
     ·have q1':decide (mA-1<0)=false:=(by simpa using q1);have q2':decide (deep<0)=true:=by simpa using q2
      go_wp2_with fail;go_meet
      case rel=>exact⟨rfl,true,rfl,aa λh=>by cases h⟩
     ·have q1':decide (mA-1<0)=false:=(by simpa using q1);have q2':decide (deep<0)=false:=by simpa using q2
      obtain⟨B,hB⟩:=dS (decide (6<kk));go_wp2_with fail;go_meet
      case rel=>exact⟨rfl,_,rfl,aa λh=>by simp at h;omega⟩
    case rest=>
     obtain⟨rfl,B,rfl,HB⟩:=hcut;cases B with
     |true=>go_wp2_with fail;go_ret;exact⟨false,rfl,HW.1,λh=>by cases h⟩
     |false=>
      go_upto_region 7 with fail
      go_cut [94]from 42 to 94 (λs94 wx=>wx=wc/\∃B,s94=.bool B/\Hid (B=false->Shape (.mk kk ng t lo hi ks)))
      case first=>
       have hk6:=(HB.out rfl).2.2;clear HI HR HW HB H HJ HG;obtain rfl|rfl|rfl|rfl|rfl|rfl|rfl:kk=0\/kk=1\/kk=2\/kk=3\/kk=4\/kk=5\/kk=6:=by omega
       all_goals as_aux_lemma=>
        go_wp2_with fail
        all_goals go_meet
        all_goals (refine⟨rfl,_,rfl,aa λh=> ?_⟩)
        all_goals first|(cases h;done)|exact FO HK.1 ⟨by omega,by first|exact .inl rfl|exact .inr (.inl rfl)|exact .inr (.inr ‹_›),by omega,by omega,by first|exact .inl rfl|exact .inr (.inl rfl)|exact .inr (.inr (by simpa using h))⟩
      case rest=>
       obtain⟨rfl,B2,rfl,HSh⟩:=hcut;cases B2 with
       |true=>go_wp2_with fail;go_ret;exact⟨false,rfl,HW.1,λh=>by cases h⟩
       |false=>
        have HQ:=eo (HB.out rfl) (HSh.out rfl);have hdeep:0<=deep:=(HB.out rfl).2.1;clear HB HSh
        go_upto_block 2 with fail
        go_cut []from 95 to 185 (λwx=>wx.cell? ⟨G,0,none⟩=some (.int .u8 kk)/\Hid (ei (λb=>b=lb) w wx/\∃gb,Gr.mk kk ng t lo hi ks=gr gb/\sN gb/\kc gb/\wx.heap[lb]? =some (.cells #[.int .i64 (mA-gq gb)] 3)/\0<=mA-gq gb))
        case first=>
         have Cm:Hid (∀w2,Below wc.heap.size wc w2->ei (λb=>b=lb) w w2/\w2.heap[lb]? =some (.cells #[.int .i64 (mA-1)] 3)/\w2.cell? ⟨G,0,none⟩=some (.int .u8 kk)/\Below w0.heap.size w0 w2):=aa λw2 eT=>by have h1:ei (λb=>b=lb) w w2:=HW.1.trans (ei.ft (S:=λb=>b=lb) eT (λ_ h _=>h) eT.size) (λ_ _ h=>h) (λ_ _ h=>h);refine⟨h1,?_,dF eT _ _ x0,H.2.2.1.trans (h1.below (ao OM (Nat.le_of_lt Uy)) λ_ e=>by rw[e];exact OM)⟩;rw[eT.block lb (by have:=HW.2.2.1;have:=HW.2.2.2;omega)];exact HW.2.1
         have hk6:=HQ.1.2.2;obtain hk|rfl|rfl|hk:(kk=0\/kk=4)\/kk=5\/kk=6\/(kk=1\/kk=2\/kk=3):=by omega
         ·as_aux_lemma=>
           obtain⟨c1,c2,c3,c4,c5⟩:=HQ.2;by_cases e1:t.toList.isEmpty=true
           ·rcases hk with rfl|rfl<;>(go_wp2_with fail;go_ret;exact⟨false,rfl,HW.1,λh=>by cases h⟩)
           have UG:t.toList.isEmpty=false:=(by simpa using e1);by_cases e2:100<t.size
           ·have UF:decide (100<t.size)=true:=(by simpa using e2);rcases hk with rfl|rfl<;>(go_wp2_with fail;go_ret;exact⟨false,rfl,HW.1,λh=>by cases h⟩)
           have UF:decide (100<t.size)=false:=(by simpa using e2);have hv:=aa (f18 t wc (by omega));have eK:=aa e1;clear e1 c1 c2 c3 c4 c5;rcases hk with rfl|rfl
           ·go_wp2_with fail;refine hv.mono ?_;rintro e w2 ⟨ok,rfl,eT,ez⟩;have UK:=aa (Cm.out w2 eT);have iw:=aa ez;clear eT ez;cases ok with
            |false=>go_wp2_with fail;go_ret;exact⟨false,rfl,UK.1,λh=>by cases h⟩
            |true=>
             have x0':=UK.2.2.1;go_wp2_with fail;go_meet
             case rel=>
              obtain⟨u,hu,rfl⟩:=iw.out (by trivial);obtain⟨l1,l2,l3,_⟩:=UK.out;obtain⟨c1,c2,c3,c4,c5⟩:=HQ.2;refine⟨l3,aa ⟨l1,.text u,?_,⟨λe=>eK.out (by rw[e];exact(ib []).trans rfl),hu⟩,?_,l2,HQ.1.1⟩⟩
              ·simp only[gr];rw[show ng=false by rcases c2 with h|h|h<;>first|omega|exact h,show lo=0 by omega,show hi=0 by omega,show ks=[]by rcases c4 with h|h<;>first|omega|exact h]
              ·simp only[kc];rw[dQ]at e2;omega
           ·go_wp2_with fail;refine hv.mono ?_;rintro e w2 ⟨ok,rfl,eT,ez⟩;have UK:=aa (Cm.out w2 eT);have iw:=aa ez;cases ok with
            |false=>clear eT ez;go_wp2_with fail;go_ret;exact⟨false,rfl,UK.1,λh=>by cases h⟩
            |true=>
             obtain⟨u,hu,rfl⟩:=ez rfl;have y0:=dF eT _ _ x0;have y2:=dF eT _ _ x2;have jR:=aa eT;clear eT ez;have ic:u.length<=100:=by have:=(eI u).1;rw[dQ]at e2;omega
             obtain⟨cap,sM,j7,kb⟩:=pP hu (by omega) w2;have Dn:=pt w2 j7 kb (ay _ _);obtain⟨W3,kl⟩:=dS (w2.drew.alloc (.cells ((u.map λc=>Value.int .i32 ((c:Nat):Int)).toArray++Array.replicate (cap-u.length) (.int .i32 0)) 21));rw[<-kl]at sM Dn;have HW3:Hid (Below wc.heap.size wc W3):=aa (jR.trans (by rw[kl];go_grown;exact jR.size));obtain⟨nu,Ux⟩:=dS u.length;rw[<-Ux]at sM Dn ic j7;obtain⟨G2,hG2⟩:=dS w2.heap.size;rw[<-hG2]at sM Dn;have eB:∀i (h:i<u.length),W3.cell? ⟨G2,i,none⟩=some (.int .i32 ((u[i]:Nat):Int)):=by
              rcases Dn with⟨e,_⟩|⟨b',o',oY,e,_,_,_,hc⟩
              ·cases e
              ·simp only[au,ae,aY]at e;obtain⟨⟨rfl,rfl,_⟩,_,rfl⟩:=e;intro i h;have:=hc i h;simpa using this
             have HU:=jS Ux hu eB;unfold maxLen at kb;clear Ux hu eB Dn kl hG2;go_wp2_with fail;go_loopg [123] nu (λk s123 wx=>∃i:Nat,k=nu-i/\s123=.int .i64 i/\i<=nu/\wx=W3/\Hid (∀m (h:m<u.length),0<m->m<i->u[m]≠45))
             case atStart=>exact⟨0,rfl,rfl,aU _,rfl,aa λm _ _ h=>by omega⟩
             case round=>
              obtain⟨i,rfl,rfl,BX,oG,HM⟩:=hrel;replace oG:=oG.symm;subst oG;by_cases jn:i<nu
              ·have GV:=gW ((i:Int)+1) (by omega);have BH:decide ((i:Int)<(nu:Int))=true:=by simp;omega
               have Xh:(0:Int)<=(i:Int):=(by omega);have Xg:(i:Int)<(nu:Int):=by omega
               have rA:i<u.length:=(by rw[<-HU.1];exact jn);obtain⟨y,hy⟩:=dS (((u[i]:Nat):Int):Int);have hcy:=HU.2.2 i rA;rw[<-hy]at hcy;have HY:=aa hy;clear hy;go_upto_region 19 with fail
               go_cut [133]from 128 to 133 (λYG wx=>wx=W3/\∃B,YG=.bool B/\Hid (B=false->0<i->y≠45))
               case first=>
                by_cases hy45:y=45
                ·subst hy45;go_wp2_with fail;go_meet
                 case rel=>exact⟨rfl,_,rfl,aa λh h0=>by simp at h;omega⟩
                ·go_wp2_with fail;go_meet
                 case rel=>exact⟨rfl,_,rfl,aa λ_ _=>hy45⟩
               case rest=>
                obtain⟨oG,B3,rfl,DK⟩:=hcut;replace oG:=oG.symm;subst oG;cases B3 with
                |true=>go_wp2_with fail;go_ret;exact⟨false,rfl,(Cm.out _ HW3.out).1,λh=>by cases h⟩
                |false=>
                 go_wp2_with fail;go_loopg [138] i (λk s138 wx=>∃m:Nat,k=i-m/\s138=.int .i64 m/\m<=i/\wx=W3)
                 case atStart=>exact⟨0,rfl,rfl,aU _,rfl⟩
                 case round=>
                  obtain⟨m,rfl,rfl,hm,oG⟩:=hrel;replace oG:=oG.symm;subst oG;by_cases hmi:m<i
                  ·have hw1'':=gW ((m:Int)+1) (by omega);have hdm:decide ((m:Int)<(i:Int))=true:=by simp;omega
                   have m1':(0:Int)<=(m:Int):=(by omega);have m2':(m:Int)<(i:Int):=by omega
                   have hmu:m<u.length:=(by omega);obtain⟨z,hz⟩:=dS (((u[m]:Nat):Int):Int);have hcz:=HU.2.2 m hmu;rw[<-hz]at hcz;clear hz;cases hyz:(y==z)with
                   |true=>go_wp2_with fail;go_ret;exact⟨false,rfl,(Cm.out _ HW3.out).1,λh=>by cases h⟩
                   |false=>
                    go_wp2_with fail;go_roundg (i- (m+1))
                    case measure=>omega
                    case rel=>exact⟨m+1,rfl,rfl,by omega,rfl⟩
                  ·have hdm:decide ((m:Int)<(i:Int))=false:=(by simp;omega);go_wp2_with fail;go_roundg (nu- (i+1))
                   case measure=>omega
                   case rel=>exact⟨i+1,rfl,rfl,by omega,rfl,aa λm' hm' h0 eR=>by
                    by_cases e:m'=i
                    ·subst e;have:=DK.out (by trivial) h0;rw[HY.out]at this;intro e';exact this (by rw[e'];rfl)
                    ·exact HM.out m' hm' h0 (by omega)⟩
              ·have BH:decide ((i:Int)<(nu:Int))=false:=(by simp;omega);go_wp2_with fail;go_meet
               case rel=>
                obtain⟨l1,l2,l3,_⟩:=Cm.out _ HW3.out;obtain⟨c1,c2,c3,c4,c5⟩:=HQ.2;refine⟨l3,aa ⟨l1,.set u ng,?_,⟨λe=>eK.out (by rw[e];exact(ib []).trans rfl),HU.2.1,?_⟩,?_,l2,HQ.1.1⟩⟩
                ·simp only[gr];rw[show lo=0 by omega,show hi=0 by omega,show ks=[]by rcases c4 with h|h<;>first|omega|exact h]
                ·intro d hd;obtain⟨m,hm,rfl⟩:=List.mem_iff_getElem.1 hd;rw[List.getElem_tail];exact HM.out (m+1) (by simpa using(by rw[List.length_tail]at hm;omega)) (by omega) (by rw[List.length_tail]at hm;have:=HU.1;omega)
                ·simp only[kc];rw[dQ]at e2;omega
         ·as_aux_lemma=>
           have hv:=aa (f34 lo wc);go_wp2_with fail;refine hv.mono ?_;rintro e w2 ⟨ok,rfl,eT,ez⟩;have UK:=aa (Cm.out w2 eT);have iw:=aa ez;have y3:=dF eT _ _ x3;have y4:=dF eT _ _ x4;have jR:=aa eT;clear eT ez;cases ok with
           |false=>go_wp2_with fail;go_ret;exact⟨false,rfl,UK.1,λh=>by cases h⟩
           |true=>
            have hv2:=aa (f34 hi w2);go_wp2_with fail;refine hv2.mono ?_;rintro e w3 ⟨ok,rfl,gQ,ez⟩;have HL3:=aa (Cm.out w3 (jR.trans (gQ.mono jR.size)));have HOK3:=aa ez;have z3:=dF gQ _ _ y3;have z4:=dF gQ _ _ y4;clear gQ ez y3 y4;cases ok with
            |false=>go_wp2_with fail;go_ret;exact⟨false,rfl,HL3.1,λh=>by cases h⟩
            |true=>
             by_cases hlh:hi<lo
             ·have hlh':decide (hi<lo)=true:=(by simpa using hlh);go_wp2_with fail;go_ret;exact⟨false,rfl,HL3.1,λh=>by cases h⟩
             ·have hlh':decide (hi<lo)=false:=(by simpa using hlh);go_wp2_with fail;go_meet
              case rel=>obtain⟨a1,rfl,ha1⟩:=iw.out (by trivial);obtain⟨a2',rfl,ha2⟩:=HOK3.out (by trivial);obtain⟨l1,l2,l3,_⟩:=HL3.out;obtain⟨c1,c2,c3,c4,c5⟩:=HQ.2;refine⟨l3,aa ⟨l1,.range a1 a2' ng,?_,⟨ha1,ha2,by omega⟩,trivial,l2,HQ.1.1⟩⟩;simp only[gr];rw[show ks=[]by rcases c4 with h|h<;>first|omega|exact h,show t=bs []by rcases c5 with h|h|h<;>first|omega|exact h]
         ·as_aux_lemma=>
           by_cases hz:nk=0
           ·subst hz;go_wp2_with fail;go_ret;exact⟨false,rfl,HW.1,λh=>by cases h⟩
           have RZ:nk<=9223372036854775807:=(by have:=HK.2.2;have:=HK.1;omega);have ZF:ks≠[]:=by intro e;have:=HK.1;rw[e]at this;exact hz this
           obtain⟨bk,YO,rfl,hK⟩:=HK.2.1 ZF;have HKK:=eo ZF hK;have hzd:((nk:Int)==0)=false:=(by simpa using hz);clear ZF hK;go_wp2_with fail;clear hz hzd;go_loopg [175] nk (λk s175 wx=>∃i:Nat,k=nk-i/\s175=.int .i64 i/\i<=nk/\Hid (ei (λb=>b=lb) w wx/\wx.cell? ⟨G,0,none⟩=some (.int .u8 6)/\∃gk,ks.take i=EM gk/\jE gk/\iL gk/\wx.heap[lb]? =some (.cells #[.int .i64 (mA-1-eU gk)] 3)/\0<=mA-1-eU gk))
           case atStart=>exact⟨0,rfl,rfl,aU _,aa ⟨HW.1,x0,[],rfl,trivial,trivial,by simpa[eU]using HW.2.1,by simpa[eU]using HQ.1.1⟩⟩
           case round=>
            obtain⟨i,rfl,rfl,Sf,HM⟩:=hrel;by_cases jn:i<nk
            ·have GV:=gW ((i:Int)+1) (by omega);have hwd:=gW (deep-1) (by omega);have BH:decide ((i:Int)<(nk:Int))=true:=(by simp;omega);have Xh:(0:Int)<=(i:Int):=by omega
             have Xg:(i:Int)<(nk:Int):=(by omega);have rA:i<ks.length:=by rw[<-HK.1];exact jn
             obtain⟨kd,kg⟩:=dS (ks[i]);obtain⟨ak,ck,Hr,vB⟩:=ua.at ks bk YO i kd HKK.2 (by rw[kg];exact ah rA);have jo:Below w0.heap.size w0 wr:=H.2.2.1.trans (HM.1.below (ao OM (Nat.le_of_lt Uy)) λ_ e=>by rw[e];exact OM);have Hr:=dF jo _ _ Hr;obtain⟨_,_,gk,k1,k2,k3,k4,k5⟩:=HM.out;have ka:=HI.out hdeep kd _ lb (mA-1-eU gk) wr vB jo OM (by have:=HM.1.size;omega) k4 k5 (by omega);obtain⟨nkd,oR⟩:=dS kd.length;rw[<-oR]at Hr ka;have vE:=aa ka;have HN:=sW kg k1 k2 k3;clear kg vB jo k1 k2 k3 k4 k5 ka oR;go_wp2_with fail;refine vE.mono ?_;rintro e w2 ⟨ok,rfl,gP,ez⟩;have jx:=eo gP ez;clear gP ez;cases ok with
             |false=>go_wp2_with fail;go_ret;exact⟨false,rfl,HM.1.trans jx.1 (λ_ _ h=>h) (λ_ _ h=>h),λh=>by cases h⟩
             |true=>
              go_wp2_with fail;go_roundg (nk- (i+1))
              case measure=>omega
              case rel=>
               obtain⟨gl2,f1,f2,f3,f4,f5⟩:=jx.2 (by trivial);refine⟨i+1,rfl,rfl,by omega,aa ⟨HM.1.trans jx.1 (λ_ _ h=>h) (λ_ _ h=>h),?_,gk++[gl2],?_,(uP _ _).2 ⟨HN.2.2.1,f2,trivial⟩,(rJ _ _).2 ⟨HN.2.2.2,f3,trivial⟩,?_,?_⟩⟩
               ·have hGl:G<wr.heap.size:=by
                 have:=bp wr _ HM.2.1;exact this
                have hGb:G≠lb:=(by have:=HW.2.2.2;omega);rw[aF (w:=wr) (a:=⟨G,0,none⟩) (jx.1.same G hGl hGb)];exact HM.2.1
               ·rw[AQ,<-HN.2.1,ca,ah rA,<-HN.1,f1];rfl
               ·rw[f4,oU];simp only[eU,bL];congr 3;simp;omega
               ·rw[oU];simp only[eU,bL];omega
            ·have BH:decide ((i:Int)<(nk:Int))=false:=(by simp;omega);go_wp2_with fail;go_meet
             case rel=>
              obtain⟨l1,l3,gk,k1,k2,k3,k4,k5⟩:=HM.out;obtain⟨c1,c2,c3,c4,c5⟩:=HQ.2;have Dq:ks=EM gk:=(by rw[<-k1,aP (by rw[<-HK.1];omega)]);refine⟨l3,aa ⟨l1,.alt gk,?_,⟨λe=>HKK.1 (by rw[Dq,e];rfl),k2⟩,k3,?_,?_⟩⟩
              ·simp only[gr];rw[<-Dq,show ng=false by rcases c2 with h|h|h<;>first|omega|exact h,show lo=0 by omega,show hi=0 by omega,show t=bs []by rcases c5 with h|h|h<;>first|omega|exact h]
              ·rw[k4];simp only[gq];congr 3;simp;omega
              ·simp only[gq];omega
         ·as_aux_lemma=>
           obtain⟨h1,h2,h3,h4,h5⟩:=HQ.2;obtain⟨q1,q2,q3,q4,q5⟩:ng=false/\lo=0/\hi=0/\ks=[]/\t=bs []:=⟨by rcases h2 with h|h|h<;>first|omega|exact h,by omega,by omega,by rcases h4 with h|h<;>first|omega|exact h,by rcases h5 with h|h|h<;>first|omega|exact h⟩;have hg:=rr q1 q2 q3 q4 q5;clear h1 h2 h3 h4 h5 q1 q2 q3 q4 q5;obtain rfl|rfl|rfl:=hk
           ·go_wp2_with fail;go_meet
            case rel=>obtain⟨e1,e2,e3,e4,e5⟩:=hg.out;obtain⟨l1,l2,l3,_⟩:=Cm.out wc (ay _ _);exact⟨l3,aa ⟨l1,.any,by rw[e1,e2,e3,e4,e5];rfl,trivial,trivial,l2,HQ.1.1⟩⟩
           ·go_wp2_with fail;go_meet
            case rel=>obtain⟨e1,e2,e3,e4,e5⟩:=hg.out;obtain⟨l1,l2,l3,_⟩:=Cm.out wc (ay _ _);exact⟨l3,aa ⟨l1,.fq,by rw[e1,e2,e3,e4,e5];rfl,trivial,trivial,l2,HQ.1.1⟩⟩
           ·go_wp2_with fail;go_meet
            case rel=>obtain⟨e1,e2,e3,e4,e5⟩:=hg.out;obtain⟨l1,l2,l3,_⟩:=Cm.out wc (ay _ _);exact⟨l3,aa ⟨l1,.one,by rw[e1,e2,e3,e4,e5];rfl,trivial,trivial,l2,HQ.1.1⟩⟩
        case rest=>
         as_aux_lemma=>
         obtain⟨z0,HZ⟩:=hcut;have Fb:Hid ((∀p gb,gl.getLast?=some p->eC gb=kk->beside p [gb])->Hid (ei (λb=>b=lb) w wc/\∃gl,l.take (j+1)=ox gl/\iY gl/\fU gl/\wc.heap[lb]? =some (.cells #[.int .i64 (left-ey gl)] 3)/\0<=left-ey gl)):=aa λQi=>by
          obtain⟨l1,gb,e1,e2,e3,e4,e5⟩:=HZ.out;obtain⟨r1,_,_,r4,r5,r6,r7,_⟩:=HR.out;have mV:j<l.length:=(by rw[<-H.1];exact gM);have hkb:eC gb=kk:=by cases gb<;>simp only[gr,Gr.mk.injEq]at e1<;>exact e1.1.symm
          refine aa ⟨l1,gl++[gb],?_,Dv gl gb r6 e2 (λp hp=>Qi p gb hp hkb),(rI _ _).2 ⟨r7,e3,trivial⟩,?_,?_⟩
          ·rw[tK,<-r5,ca,ah mV,<-r1,e1];rfl
          ·rw[e4,oT,r4];simp only[ey,bL];congr 3;simp;omega
          ·rw[oT];simp only[ey,bL];omega
         by_cases BG:j=0
         ·subst BG;have yD:Hid (gl=[]):=aa (by
           have:=HR.2.2.2.2.1;cases gl with
           |nil=>rfl
           |cons x y=>simp[ox]at this)
          go_wp2_with fail;go_roundg (n- (0+1))
          case measure=>omega
          case rel=>exact⟨0+1,rfl,rfl,by omega,Fb.out λp gb h=>by rw[yD.out]at h;cases h⟩
         ·obtain⟨j',Kb⟩:∃j',j=j'+1:=⟨j-1,by omega⟩;obtain⟨p,hp⟩:∃p,gl.getLast?=some p:=by
           have h:=HR.2.2.2.2.1;cases yD:gl.getLast? with
           |some p=>exact⟨p,rfl⟩
           |none=>rw[List.getLast?_eq_none_iff]at yD;rw[yD]at h;have:=congrArg List.length h;rw[bn]at this;have yA:=H.1;simp only[ox,aG]at this;omega
          have hpk:w0.cell? ⟨b,o+j'*6,none⟩=some (.int .u8 (eC p)):=by
           obtain⟨gl',rfl⟩:∃gl',gl=gl'++[p]:=by rw[List.getLast?_eq_some_iff]at hp;exact hp
           have h:=HR.2.2.2.2.1;rw[tK]at h;have hlen:=congrArg List.length h;rw[bn,aj,mi]at hlen;have yA:=H.1;have zk:gl'.length=j':=by simp[ox]at hlen;omega
           have hlj:l[j']? =some (gr p):=(by have e:=congrArg (λx=>x[j']?) h;simp only[dw,List.getElem?_append,mi,zk,ox]at e;rw[if_pos (by omega)]at e;simpa using e);have hA:=tW.at l b o j' (gr p) HR.2.1 hlj;cases p<;>simp only[gr,tX]at hA<;>exact hA.1
          have jo:Below w0.heap.size w0 wc:=H.2.2.1.trans (HZ.1.below (ao OM (Nat.le_of_lt Uy)) λ_ e=>by rw[e];exact OM);have hpk:=dF jo _ _ hpk;obtain⟨pk,Zr⟩:=dS (eC p);rw[<-Zr]at hpk;have Wv:=eo Zr hp;clear Zr hp jo;have hwj:IntKind.i64.wrap ((j:Int)-1)=(j':Int):=(by rw[aW];omega);have Mm:decide (0<j)=true:=by simp;omega
          have hj2:(j':Int)<(n:Int):=(by omega);have hj3:(0:Int)<=(j':Int):=by omega
          have hj0':0<j:=(by omega);have HJ':=aa Kb;clear Kb BG;go_upto_region 42 with fail
          go_cut [16,193,218]from 194 to 218 (λs16 s193 s218 wx=>wx=wc/\∃B,s218=.bool B/\Hid (B=false->¬(pk=0/\kk=0)/\¬((pk=1\/pk=2)/\(kk=1\/kk=2))))
          case first=>
           clear HI HR HW HZ H HJ Fb Wv HJ';go_wp2_with fail
           all_goals go_meet
           all_goals exact⟨rfl,_,rfl,aa λh=>by simp at h<;>omega⟩
          case rest=>
           obtain⟨oG,B4,rfl,P7⟩:=hcut;subst oG;cases B4 with
           |true=>go_wp2_with fail;go_ret;exact⟨false,rfl,HZ.1,λh=>by cases h⟩
           |false=>
            go_wp2_with fail;go_roundg (n- (j+1))
            case measure=>omega
            case rel=>exact⟨j+1,rfl,rfl,by omega,Fb.out λp' gb h hk=>by rw[Wv.2]at h;simp only[ae]at h;subst h;have hb:=P7.out (by trivial);rw[Wv.1,<-hk]at hb;exact IX _ _ hb.1 hb.2⟩
  ·have jA:decide ((j:Int)<(n:Int))=false:=(by simp;omega);go_wp2_with fail;go_ret;obtain⟨h1,gl,h2,h3,h4,h5,h6⟩:=HJ.out;exact⟨true,rfl,h1,λ_=>⟨gl,by rw[<-h2,aP (by rw[<-H.1];omega)],h3,h4,h5,h6⟩⟩
theorem f15 (w0:World):∀(N:Nat),N<=1001->∀(d:Int),d=(N:Int)-1->∀(l:List Gr) (v:Value) (lb:Nat) (left:Int) (w:World),tV w0 l v->Below w0.heap.size w0 w->w0.heap.size<=lb->lb<w.heap.size->w.heap[lb]? =some (.cells #[.int .i64 left] 3)->0<=left->left<=1000->Calls prog 15 #[v,.pointer (some ⟨lb,0,none⟩),.int .i64 d] w λe w'=>Clean w w' lb left l e
 |0,_,d,hd,l,v,lb,left,w,h1,h2,h3,h4,h5,h6,h7=>f15s w0 d (by omega) (by omega) (λh=>absurd h (by omega)) l v lb left w h1 h2 h3 h4 h5 h6 h7
 |N+1,hN,d,hd,l,v,lb,left,w,h1,h2,h3,h4,h5,h6,h7=>f15s w0 d (by omega) (by omega) (λ_=>f15 w0 N (by omega) (d-1) (by omega)) l v lb left w h1 h2 h3 h4 h5 h6 h7
end Go.Proofs.YtfejflhgaphilaaGreatDoor
