/- MapRun at its one concrete input. MapRun, whole, at its one concrete input. wholeAwake. Rows of truth values and where the reference's match may end: plain laws for its walk. -/
import Derived.Test.YtfejflhgaphilaaGreatDoorC35
import Derived.Test.YtfejflhgaphilaaGreatDoorC27
import Derived.Test.YtfejflhgaphilaaGreatDoorC18
set_option linter.all false
set_option maxRecDepth 100000
set_option maxHeartbeats 64000000
open Go.Proofs.Tryz
namespace Go.Proofs.YtfejflhgaphilaaGreatDoor
open Go.RowKit Gm
variable {w w':World} {n T i b k j c:Nat} {F:Nat->Bool} {l:List Int} {v:Value} {f:List Bool} {sup:Bool} {g:Gb}
theorem f88 (w:World):Calls prog 88 #[.agg #[.int .u32 0,.int .u32 0,.int .u8 0]] w λe w'=>e=.returned .nilIface/\Below w.heap.size w w':=by
 have hb:Below w.heap.size w (w.alloc (.cells #[.int .u32 0,.int .u32 0,.int .u8 0] 58)):=by go_grown
 have HB:=aa hb;clear hb;go_enter func88,ntmps88;go_wp2_with fail;go_ret;exact⟨rfl,HB.out⟩
theorem f89 (w:World):Calls prog 89 #[.agg #[.int .u8 0,.int .i64 0,.int .i64 5,.int .i64 7,.int .i64 0],.int .i64 1] w λe w'=>e=.returned (.bool true)/\Below w.heap.size w w':=by
 have hb:Below w.heap.size w (w.alloc (.cells #[.int .u8 0,.int .i64 0,.int .i64 5,.int .i64 7,.int .i64 0] 60)):=by go_grown
 have HB:=aa hb;clear hb;go_enter func89,ntmps89;go_wp2_with fail;go_ret;exact⟨rfl,HB.out⟩
theorem Tryz.Vz:(prog.info? 109).map (λi=>(i.zero,i.size,i.bytes))=some (some (.pointer none),1,8):=by kernel_rfl
def VerA (wr:World) (X M R:Nat):Prop:=wr.heap[X]? =some (.cells #[.int .u32 0,.int .u32 0,.int .u8 0] 58 (0,0))/\j9 wr M []/\wr.heap[R]? =some (.cells #[.pointer (some ⟨M,0,none⟩)] 109 (0,0))
theorem f37 (b:Nat) (w:World) (h:w.heap[b]? =some (.cells #[.int .u8 0,.int .i64 0,.int .i64 5,.int .i64 7,.int .i64 0] 60 (0,0))):Calls prog 37 #[.agg #[.int .u32 0,.int .u32 0,.int .u8 0],.slice (some ⟨b,0,none⟩) 1 1] w λe w'=>∃a c M0 M1 B,e=.returned (.slice a 2 c)/\w.heap.size<=B/\w'.ownsRow B 109 1 (.slice a 2 c) 2 [.pointer (some ⟨M0,0,none⟩),.pointer (some ⟨M1,0,none⟩)]/\j9 w' M0 []/\j9 w' M1 [5]/\Below w.heap.size w w':=by
 have sy:b<w.heap.size:=by
  rcases aV b w.heap.size with e|e
  ·exact e
  ·rw[aO e]at h;cases h
 obtain⟨W1,gZ⟩:=dS (w.alloc (.cells #[.int .u32 0,.int .u32 0,.int .u8 0] 58));have eu:Below w.heap.size w W1:=by rw[gZ];go_grown
 have kR:W1.heap.size=w.heap.size+1:=by rw[gZ,ab]
 have ZX:W1.heap[w.heap.size]? =some (.cells #[.int .u32 0,.int .u32 0,.int .u8 0] 58 (0,0)):=by rw[gZ];exact heap_alloc_new _ _
 have H:=rr h sy eu kR ZX;have HC:=aa (f88 W1);have HW:=aa gZ;clear h sy eu kR ZX gZ;go_enter func37,ntmps37;go_upto_region 1 with fail
 rw[<-HW.out];have x0:W1.cell? ⟨w.heap.size,0,none⟩=some (.int .u32 0):=cell_of H.2.2.2.2 rfl;have x1:W1.cell? ⟨w.heap.size,1,none⟩=some (.int .u32 0):=cell_of H.2.2.2.2 rfl;have x2:W1.cell? ⟨w.heap.size,2,none⟩=some (.int .u8 0):=cell_of H.2.2.2.2 rfl;go_wp2_with fail;refine HC.mono ?_;rintro e w2 ⟨rfl,eT⟩;have jx:=aa (f87 w2);have jR:=aa eT;clear eT;go_wp2_with fail;refine jx.mono ?_;rintro e w3 ⟨rfl,rfl⟩;go_wp2_with fail;obtain⟨X,hX⟩:=dS w.heap.size;obtain⟨M,hM⟩:=dS w2.heap.size;obtain⟨R,hR⟩:=dS (M+1);obtain⟨W4,qU⟩:=dS ((w2.alloc (.cells #[.int .i64 0,.nilIface,.nilIface] 189)).alloc (.cells #[.pointer (some ⟨M,0,none⟩)] 109));have b1:=heap_alloc2_old w2 (.cells #[.int .i64 0,.nilIface,.nilIface] 189) (.cells #[.pointer (some ⟨M,0,none⟩)] 109);have b2:=heap_alloc2_new w2 (.cells #[.int .i64 0,.nilIface,.nilIface] 189) (.cells #[.pointer (some ⟨M,0,none⟩)] 109);have mZ:Below w2.heap.size w2 W4:=by rw[qU];go_grown
 have OG:W4.heap.size=M+2:=by rw[qU,ab,ab,hM]
 rw[<-hM]at b1 b2;rw[<-qU]at b1 b2;rw[<-hR]at b2;have hA:VerA W4 X M R:=⟨by rw[hX];exact(mZ.block w.heap.size (by have:=jR.size;have:=H.2.2.2.1;omega)).trans ((jR.block w.heap.size (by have:=H.2.2.2.1;omega)).trans H.2.2.2.2),⟨by trivial,.inl ⟨rfl,b1⟩⟩,b2⟩;have jq:Below w.heap.size w W4:=(H.2.2.1.trans (jR.mono H.2.2.1.size)).trans (mZ.mono (ao H.2.2.1.size jR.size));have hXM:X<M/\w.heap.size=X:=⟨by have:=jR.size;have:=H.2.2.2.1;omega,hX.symm⟩;have HA:=rr hA jq OG hXM hR;rw[<-hM,<-hX];rw[<-hR,<-qU];clear b1 b2 mZ OG hA jq hXM hR hM hX qU jR HC jx x0 x1 x2 HW;go_loopg [18,5] 1 (λk s18 s5 wr=>(k=1/\s18=.int .i64 0/\s5=.slice (some ⟨R,0,none⟩) 1 1/\Hid (wr=W4))\/(k=0/\s18=.int .i64 1/\Hid (∃a c M0 M1 B,s5=.slice a 2 c/\w.heap.size<=B/\wr.ownsRow B 109 1 (.slice a 2 c) 2 [.pointer (some ⟨M0,0,none⟩),.pointer (some ⟨M1,0,none⟩)]/\j9 wr M0 []/\j9 wr M1 [5]/\Below w.heap.size w wr)))
 case atStart=>exact .inl ⟨rfl,rfl,rfl,aa rfl⟩
 case round=>
  rcases hrel with⟨rfl,rfl,rfl,hw⟩|⟨rfl,rfl,HE⟩
  ·have hw:=hw.out;subst hw;have sy:=(HA.2.1.block b H.2.1).trans H.1;have y0:wr.cell? ⟨b,0,none⟩=some (.int .u8 0):=cell_of sy rfl;have y1:wr.cell? ⟨b,1,none⟩=some (.int .i64 0):=cell_of sy rfl;have y2:wr.cell? ⟨b,2,none⟩=some (.int .i64 5):=cell_of sy rfl;have y3:wr.cell? ⟨b,3,none⟩=some (.int .i64 7):=cell_of sy rfl;have y4:wr.cell? ⟨b,4,none⟩=some (.int .i64 0):=cell_of sy rfl;clear sy;go_upto_region 5 with fail
   have b1:=heap_alloc_new wr (.cells #[.int .u8 0,.int .i64 0,.int .i64 5,.int .i64 7,.int .i64 0] 60);have jF:Below wr.heap.size wr (wr.alloc (.cells #[.int .u8 0,.int .i64 0,.int .i64 5,.int .i64 7,.int .i64 0] 60)):=by go_grown
   obtain⟨T,hT⟩:=dS wr.heap.size;obtain⟨W5,yF⟩:=dS (wr.alloc (.cells #[.int .u8 0,.int .i64 0,.int .i64 5,.int .i64 7,.int .i64 0] 60));have Jn:W5.heap.size=T+1:=(by rw[yF,ab,hT]);rw[<-yF,<-hT]at b1 jF⊢;have hx:=(jF.block X (by have:=HA.2.2;omega)).trans HA.1.1;have x0:W5.cell? ⟨X,0,none⟩=some (.int .u32 0):=cell_of hx rfl;have x1:W5.cell? ⟨X,1,none⟩=some (.int .u32 0):=cell_of hx rfl;have x2:W5.cell? ⟨X,2,none⟩=some (.int .u8 0):=cell_of hx rfl;have HC:=aa (f88 W5);have H5:=sW b1 jF Jn hT;clear b1 jF Jn hT yF hx y0 y1 y2 y3 y4;go_wp2_with fail;refine HC.mono ?_;rintro e w6 ⟨rfl,xW⟩;have jx:=aa (f87 w6);have tH:Below w6.heap.size w6 (w6.alloc (.cells #[.int .i64 0,.nilIface,.nilIface] 189)):=by go_grown
   obtain⟨W7,Mr⟩:=dS (w6.alloc (.cells #[.int .i64 0,.nilIface,.nilIface] 189));rw[<-Mr]at jx tH;have h57:Below W5.heap.size W5 W7:=xW.trans (tH.mono xW.size);have OQ:=(h57.block T (by have:=H5.2.2.1;omega)).trans H5.1;have t0:W7.cell? ⟨T,0,none⟩=some (.int .u8 0):=cell_of OQ rfl;have t1:W7.cell? ⟨T,1,none⟩=some (.int .i64 0):=cell_of OQ rfl;have t2:W7.cell? ⟨T,2,none⟩=some (.int .i64 5):=cell_of OQ rfl;have t3:W7.cell? ⟨T,3,none⟩=some (.int .i64 7):=cell_of OQ rfl;have t4:W7.cell? ⟨T,4,none⟩=some (.int .i64 0):=cell_of OQ rfl;have qC:=aa (f89 W7);have H7:=eo h57 OQ;clear xW tH Mr h57 OQ HC x0 x1 x2;go_wp2_with fail;refine jx.mono ?_;rintro e w8 ⟨rfl,rfl⟩;go_upto_region 6 with fail
   go_wp2_with fail;refine qC.mono ?_;rintro e w9 ⟨rfl,Hw⟩;have h49:Below wr.heap.size wr w9:=by rw[<-H5.2.2.2];exact H5.2.1.trans ((H7.1.trans (Hw.mono H7.1.size)).mono (by have:=H5.2.2.1;omega))
   have hT9:=(Hw.block T (by have:=H5.2.2.1;have:=H7.1.size;omega)).trans H7.2;have u0:w9.cell? ⟨T,0,none⟩=some (.int .u8 0):=cell_of hT9 rfl;have u1:w9.cell? ⟨T,1,none⟩=some (.int .i64 0):=cell_of hT9 rfl;have u2:w9.cell? ⟨T,2,none⟩=some (.int .i64 5):=cell_of hT9 rfl;have u3:w9.cell? ⟨T,3,none⟩=some (.int .i64 7):=cell_of hT9 rfl;have r0:w9.cell? ⟨R,0,none⟩=some (.pointer (some ⟨M,0,none⟩)):=dF h49 _ _ (cell_of HA.1.2.2 rfl);have hS9:=HA.1.2.1.below h49;have HC4:=aa (f90 M [] 5 w9 hS9 (af _));have H9:=eo h49 hS9;clear h49 hT9 Hw hS9 jx qC t0 t1 t2 t3 t4;go_upto_region 10 with fail
   go_wp2_with fail;refine HC4.mono ?_;rintro e la ⟨M1,rfl,hS10,rD⟩;go_upto_region 25 with fail
   obtain⟨i0,hi,gD,gB,gF⟩:=info_parts Tryz.Vz;have hbN:Below w.heap.size w la:=HA.2.1.trans ((H9.1.trans (rD.mono H9.1.size)).mono HA.2.1.size);have hRN:=(rD.block R (by have:=H9.1.size;have:=HA.2.2;omega)).trans ((H9.1.block R (by have:=HA.2.2;omega)).trans HA.1.2.2);have hMN:=H9.2.below rD;have gh:la.ownsRow X 109 1 (.slice (some ⟨R,0,none⟩) 1 1) 1 [.pointer (some ⟨M,0,none⟩)]:=⟨rfl,.inr ⟨R,1,_,rfl,by have:=HA.2.2;omega,hRN,af _,by decide,rfl,rfl⟩⟩;have HN:=rr hbN hMN gh hS10 hRN;clear hbN hRN hMN gh hS10 rD;go_wp2_with (at_builtin;refine wpList_append_own _ rfl (.tmp 87) (.tmp 89) 107 rfl X 109 i0 (.pointer none) 1 8 underlying107 hi gD gB gF rfl (by decide) (.slice (some ⟨R,0,none⟩) 1 1) 1 _ rfl (HN.2.2.1.alloc _) ⟨la.heap.size,0,none⟩ 1 1 [.pointer (some ⟨M1,0,none⟩)] rfl rfl ?c1 ?c2 ?c3 ?c4 ?c5 ?c6)
   case c1=>exact World.news_of_block (heap_alloc_new la _)
   case c2=>intro v hv;simp only[aE]at hv;subst hv;rfl
   case c3=>unfold maxLen;omega
   case c4=>omega
   case c5=>rw[ab];have:=HA.2.2;have:=HN.1.size;omega
   case c6=>
    intro v' Qs ho hg _;obtain⟨a6,c6,J0,_,_⟩:=d' ho;subst J0;obtain⟨q1,q2,q3,q4,q5⟩:=hg;rw[ab]at q4;have gE:∀b,b<la.heap.size->b≠R->Qs.heap[b]? =la.heap[b]? :=λb hb mQ=>
     (q5 b (by rw[ab];omega) λe=>by simp only[Value.ownBlock,ae]at e;exact mQ e).trans (heap_alloc_old _ _ hb)
    have SA:Below w.heap.size w Qs:=(by have h1:=HN.1;exact⟨q1.trans h1.os,q2.trans h1.tape,q3.trans h1.output,ao h1.size (by omega),λb hb=>(gE b (ai hb h1.size) (by have:=HA.2.2;omega)).trans (h1.block b hb)⟩);have hcF:ei (λb=>b=R) la Qs:=⟨q1,q2,q3,by omega,λb hb hn=>gE b hb hn⟩;have hF:∃a c M0 M1 B,Value.slice a6 2 c6=.slice a 2 c/\w.heap.size<=B/\Qs.ownsRow B 109 1 (.slice a 2 c) 2 [.pointer (some ⟨M0,0,none⟩),.pointer (some ⟨M1,0,none⟩)]/\j9 Qs M0 []/\j9 Qs M1 [5]/\Below w.heap.size w Qs:=by
     refine⟨a6,c6,M,M1,X,rfl,by have:=HA.2.2;omega,ho,?_,?_,SA⟩
     ·refine⟨by trivial,.inl ⟨rfl,?_⟩⟩;rcases HN.2.1.body with⟨_,h1⟩|⟨h1,_⟩
      ·exact(gE M HN.2.1.lt (by have:=HA.2.2;omega)).trans h1
      ·exact absurd rfl h1
     ·refine⟨by trivial,.inr ?_⟩;rcases HN.2.2.2.1.body with⟨h1,_⟩|⟨h0,L,E,c,q,h1,h2⟩
      ·cases h1
      ·have hRb:=HN.2.2.2.2;refine⟨h0,L,E,c,q,(gE M1 ?_ ?_).trans h1,h2.fo hcF ?_ ?_⟩
       ·rcases aV M1 la.heap.size with e|e
        ·exact e
        ·rw[aO e]at h1;cases h1
       ·rintro rfl;rw[hRb]at h1;simp at h1
       ·rintro rfl;have:=h2.head;rw[hRb]at this;simp at this
       ·rintro rfl;have:=(h2.ir 0 5 rfl).1;rw[show la.cell? ⟨E,0*2,none⟩=some (.pointer (some ⟨M,0,none⟩))from cell_of hRb rfl]at this;cases this
    have HF:=aa hF;clear hF SA hcF gE q1 q2 q3 q4 q5 ho;go_wp2_with fail;go_roundg 0
    case measure=>omega
    case rel=>exact .inr ⟨rfl,rfl,HF⟩
  ·go_wp2_with fail;obtain⟨a,c,M0,M1,B,rfl,h1⟩:=HE.out;go_wp2_with fail;go_ret;exact⟨a,c,M0,M1,B,rfl,h1⟩
theorem Tryz.YZ:(prog.info? 64).map (λi=>(i.zero,i.size,i.bytes))=some (some (.agg #[.int .i64 0,.slice none 0 0]),2,32):=by kernel_rfl
theorem j9.size {M:Nat} (h:j9 w M l):∃r c,w.heap[M]? =some (.cells #[.int .i64 (l.length:Nat),r,c] 189):=by
 rcases h.body with⟨rfl,h1⟩|⟨_,L,E,c,q,h1,_⟩
 ·exact⟨_,_,h1⟩
 ·exact⟨_,_,h1⟩
theorem qD.lt {I:Nat} (h:qD w I l):I<w.heap.size:=by
 rcases h with⟨_,h⟩|⟨_,L,E,c,_,h,_⟩
 ·rcases aV I w.heap.size with e|e
  ·exact e
  ·simp[World.cell?,aO e]at h
 ·exact h.lt
def MH (W0 wr:World) (i:Nat) (v:Value):Prop:=∃xs,Below W0.heap.size W0 wr/\wr.ownsRow W0.heap.size 64 2 v i xs/\xs.length=i*2/\(i=2->∃x0 x1 x2 pv B,xs=[x0,x1,x2,pv]/\W0.heap.size<=B/\wr.ownsRow B 66 2 pv 1 [.int .i64 5,.int .i64 7])
theorem f19 (b:Nat) (w:World) (h:w.heap[b]? =some (.cells #[.int .u8 0,.int .i64 0,.int .i64 5,.int .i64 7,.int .i64 0] 60 (0,0))):Calls prog 19 #[.agg #[.int .u32 0,.int .u32 0,.int .u8 0],.slice (some ⟨b,0,none⟩) 1 1] w λe w'=>∃v,e=.returned v/\MH w w' 2 v:=by
 obtain⟨i0,hi,gD,gB,gF⟩:=info_parts Tryz.YZ;have HZ:=sW hi gD gB gF;clear hi gD gB gF;obtain⟨W1,gZ⟩:=dS (w.alloc (.cells #[.int .u32 0,.int .u32 0,.int .u8 0] 58));have eu:Below w.heap.size w W1:=by rw[gZ];go_grown
 have ZX:W1.heap[w.heap.size]? =some (.cells #[.int .u32 0,.int .u32 0,.int .u8 0] 58 (0,0)):=by rw[gZ];exact heap_alloc_new _ _
 have sy:b<w.heap.size:=by
  rcases aV b w.heap.size with e|e
  ·exact e
  ·rw[aO e]at h;cases h
 have HC:=aa (f37 b W1 ((eu.block b sy).trans h));have H:=eo eu ZX;have HW:=aa gZ;clear h sy eu ZX gZ;go_enter func19,ntmps19;go_upto_region 2 with fail
 rw[<-HW.out];have x0:W1.cell? ⟨w.heap.size,0,none⟩=some (.int .u32 0):=cell_of H.2 rfl;have x1:W1.cell? ⟨w.heap.size,1,none⟩=some (.int .u32 0):=cell_of H.2 rfl;have x2:W1.cell? ⟨w.heap.size,2,none⟩=some (.int .u8 0):=cell_of H.2 rfl;go_wp2_with fail;refine HC.mono ?_;rintro e W2 ⟨av,cv,M0,M1,Bv,rfl,hBv,gO,hS0,qV,Sy⟩;obtain⟨g,hg⟩:∃g,av=some ⟨g,0,none⟩:=by
  rcases gO.2 with⟨_,h1⟩|⟨g,c,cs,h1,_⟩
  ·cases h1
  ·exact⟨g,by cases h1;rfl⟩
 subst hg;have yD:=gO.lt g rfl;have c0:W2.cell? ⟨g,0,none⟩=some (.pointer (some ⟨M0,0,none⟩)):=by have:=gO.cellAt 0 (by omega);simpa using this
 have c1:W2.cell? ⟨g,1,none⟩=some (.pointer (some ⟨M1,0,none⟩)):=by have:=gO.cellAt 1 (by omega);simpa using this
 have hbW2:Below w.heap.size w W2:=H.1.trans (Sy.mono H.1.size);have H2:=Fp c0 c1 hS0 qV hbW2 yD.2;clear c0 c1 hS0 qV hbW2 Sy gO yD hBv x0 x1 x2 HC HW;go_wp2_with fail;go_loopg [12,5] 2 (λk s12 s5 wr=>∃i:Nat,k=2-i/\i<=2/\s12=.int .i64 i/\Hid (MH W2 wr i s5))
 case atStart=>exact⟨0,rfl,by omega,rfl,aa ⟨[],ay _ _,⟨rfl,.inl ⟨rfl,rfl⟩⟩,rfl,by omega⟩⟩
 case round=>
  obtain⟨i,rfl,hi2,rfl,HT⟩:=hrel;by_cases hi:i<2
  ·obtain⟨xs,o0,iE,BV,_⟩:=HT.out;obtain⟨M,l,hc,hS,XI⟩:∃M l,wr.cell? ⟨g,i,none⟩=some (.pointer (some ⟨M,0,none⟩))/\j9 wr M l/\(l.length<=1/\(i=1->l=[5])):=by
    rcases aV i 1 with e|e
    ·have:i=0:=(by omega);subst this;exact⟨M0,[],dF o0 _ _ H2.1,H2.2.2.1.below o0,by simp⟩
    ·have:i=1:=(by omega);subst this;exact⟨M1,[5],dF o0 _ _ H2.2.1,H2.2.2.2.1.below o0,by simp⟩
   obtain⟨sr,sc,gJ⟩:=hS.size;have Co:=aa (f39 M _ _ _ wr gJ);have jx:=aa (f40 M l wr hS);obtain⟨a5,c5,rfl,_,_⟩:=d' iE;have i1:(0:Int)<=(i:Int):=(by omega);have i2:(i:Int)<2:=by omega
   have BH:decide ((i:Int)<2)=true:=(by simp;omega);have kY:=gW ((i:Int)+1) (by omega);have HR:=sW o0 iE BV XI;clear o0 iE BV XI hS gJ HT;go_wp2_with fail;refine Co.mono ?_;rintro e w1 ⟨rfl,rfl⟩;go_wp2_with fail;refine jx.mono ?_;rintro e w2 ⟨rfl,hbg,eT⟩;have qC:=aa (f38 w1.heap.size (l.length:Nat) l w2 hbg hbg.lt (by have:=HR.2.2.2.1;omega));have H3:=eo eT hbg.lt;clear hbg eT;go_wp2_with fail;refine qC.mono ?_;rintro e w3 ⟨pv,B,rfl,hB,qR,gP⟩;obtain⟨ap,cp,rfl,_,_⟩:=d' qR;have hsz3:w1.heap.size<=w2.heap.size/\w2.heap.size<=w3.heap.size:=⟨H3.1.size,gP.size⟩;have Sd:∀x,x<w1.heap.size->w3.heap[x]? =w1.heap[x]? :=λx hx=>(gP.same x (by omega) (by omega)).trans (H3.1.block x hx);have sX:(w3.alloc (.cells #[.int .i64 (l.length:Nat),.slice ap l.length cp] 64)).ownsRow W2.heap.size 64 2 (.slice a5 i c5) i xs:=(dI HR.2.1 λx hx=>Sd x (HR.2.1.lt x hx).2).alloc _;have Xm:w3.os=w1.os/\w3.tape=w1.tape/\w3.output=w1.output:=⟨gP.os.trans H3.1.os,gP.tape.trans H3.1.tape,gP.output.trans H3.1.output⟩;have H4:=Fp hB qR hsz3 Sd sX Xm;clear hB qR gP hsz3 Sd sX Xm;go_wp2_with (at_builtin;refine wpList_append_own _ rfl (.tmp 16) (.tmp 22) 54 rfl W2.heap.size 64 i0 (.agg #[.int .i64 0,.slice none 0 0]) 2 32 underlying54 HZ.1 HZ.2.1 HZ.2.2.1 HZ.2.2.2 rfl (by decide) (.slice a5 i c5) i _ rfl H4.2.2.2.2.1 ⟨w3.heap.size,0,none⟩ 1 1 [.int .i64 (l.length:Nat),.slice ap l.length cp] rfl rfl ?c1 ?c2 ?c3 ?c4 ?c5 ?c6)
   case c1=>exact World.news_of_block (heap_alloc_new w3 _)
   case c2=>intro v hv;simp only[az,ba,or_false]at hv;rcases hv with rfl|rfl<;>rfl
   case c3=>unfold maxLen;omega
   case c4=>omega
   case c5=>rw[ab];have:=H4.2.2.1;have:=HR.1.size;omega
   case c6=>
    intro v' w5 ho hg _;obtain⟨a6,c6,J0,_,_⟩:=d' ho;subst J0;obtain⟨q1,q2,q3,q4,q5⟩:=hg;rw[ab]at q4;have Sc:∀x,x<w3.heap.size->(Value.slice a5 i c5).ownBlock≠some x->w5.heap[x]? =w3.heap[x]? :=λx hx hn=>
     (q5 x (by rw[ab];omega) λe=>hn e.symm).trans (heap_alloc_old _ _ hx)
    have hT:MH W2 w5 (i+1) (.slice a6 (i+1) c6):=by
     refine⟨_,?_,ho,?_,λhi1=> ?_⟩
     ·have h1:=HR.1;have h2:=H4.2.2;refine⟨q1.trans (h2.2.2.2.1.trans h1.os),q2.trans (h2.2.2.2.2.1.trans h1.tape),q3.trans (h2.2.2.2.2.2.trans h1.output),by have:=h1.size;omega,λx hx=> ?_⟩;have vz:x<w1.heap.size:=ai hx h1.size;exact(Sc x (by omega) λe=>by have:=(HR.2.1.lt x e).1;omega).trans ((h2.2.1 x vz).trans (h1.block x hx))
     ·simp only[aj,HR.2.2.1,aH,aG];omega
     ·have:i=1:=(by omega);subst this;have hl:=HR.2.2.2.2 rfl;subst hl;obtain⟨x0,x1,rfl⟩:∃x0 x1,xs=[x0,x1]:=by
       have h2:=HR.2.2.1
       match xs,h2 with
       | [x0,x1],_=>exact⟨x0,x1,rfl⟩
      refine⟨x0,x1,_,_,B,rfl,by have:=HR.1.size;have:=H4.1;have:=H4.2.2.1;omega,?_⟩;refine dI H4.2.1 λx hx=> ?_;have hxl:=H4.2.1.lt x hx;exact Sc x hxl.2 λe=>by have:=(HR.2.1.lt x e).2;have:=H4.1;have:=H4.2.2.1;omega
    have HF:=aa hT;clear hT Sc q1 q2 q3 q4 q5 ho;go_wp2_with fail;go_roundg (2- (i+1))
    case measure=>omega
    case rel=>exact⟨i+1,rfl,by omega,rfl,HF⟩
  ·have:i=2:=(by omega);subst this;obtain⟨xs,o0,iE,BV,gG⟩:=HT.out;obtain⟨a5,c5,rfl,_,_⟩:=d' iE;have hF:MH w wr 2 (.slice a5 2 c5):=by
    have h1:=H2.2.2.2.2.1;refine⟨xs,h1.trans (o0.mono h1.size),iE.mono h1.size,BV,λ_=> ?_⟩;obtain⟨x0,x1,x2,pv,B,e1,e2,e3⟩:=gG rfl;exact⟨x0,x1,x2,pv,B,e1,ao h1.size e2,e3⟩
   have HF:=aa hF;clear hF o0 iE BV gG HT;go_wp2_with fail;go_ret;exact⟨_,rfl,HF.out⟩
theorem f6 (w:World):Calls prog 6 #[] w λe w'=>e=.returned (.bool true)/\Below w.heap.size w w':=by
 obtain⟨W1,gZ⟩:=dS (w.alloc (.cells #[.int .u8 0,.int .i64 0,.int .i64 5,.int .i64 7,.int .i64 0] 60));have eu:Below w.heap.size w W1:=by rw[gZ];go_grown
 have HC:=aa (f19 w.heap.size W1 (by rw[gZ];exact heap_alloc_new _ _));have H:=eo eu gZ;clear eu gZ;go_enter func6,ntmps6;go_wp2_with fail;rw[<-H.2];refine HC.mono ?_;rintro e W2 ⟨v,rfl,hT⟩;obtain⟨xs,eT,gO,BV,gG⟩:=hT;obtain⟨x0,x1,x2,pv,B,rfl,hB,qR⟩:=gG rfl;obtain⟨av,cv,rfl,_,_⟩:=d' gO;obtain⟨ap,cp,rfl,_,_⟩:=d' qR;obtain⟨g,rfl⟩:∃g,av=some ⟨g,0,none⟩:=by
  rcases gO.2 with⟨_,h1⟩|⟨g,c,cs,h1,_⟩
  ·cases h1
  ·exact⟨g,by cases h1;rfl⟩
 obtain⟨q,rfl⟩:∃q,ap=some ⟨q,0,none⟩:=by
  rcases qR.2 with⟨_,h1⟩|⟨g,c,cs,h1,_⟩
  ·cases h1
  ·exact⟨g,by cases h1;rfl⟩
 have c3:W2.cell? ⟨g,3,none⟩=some (.slice (some ⟨q,0,none⟩) 1 cp):=by have:=gO.cellAt 3 (by omega);simpa using this
 have d0:W2.cell? ⟨q,0,none⟩=some (.int .i64 5):=by have:=qR.cellAt 0 (by omega);simpa using this
 have d1:W2.cell? ⟨q,1,none⟩=some (.int .i64 7):=by have:=qR.cellAt 1 (by omega);simpa using this
 have jq:Below w.heap.size w W2:=H.1.trans (eT.mono H.1.size);obtain⟨W3,kl⟩:=dS (W2.alloc (.cells #[.int .u8 0,.int .i64 0,.int .i64 5,.string ⟨#[]⟩,.int .i64 7,.int .i64 0,.int .i64 0,.int .u8 3,.int .i64 1,.int .i64 0,.string ⟨#[]⟩,.int .i64 0,.int .i64 0,.int .i64 0] 29));have gQ:Below W2.heap.size W2 W3:=by rw[kl];go_grown
 have EF:W3.heap[W2.heap.size]? =some (.cells #[.int .u8 0,.int .i64 0,.int .i64 5,.string ⟨#[]⟩,.int .i64 7,.int .i64 0,.int .i64 0,.int .u8 3,.int .i64 1,.int .i64 0,.string ⟨#[]⟩,.int .i64 0,.int .i64 0,.int .i64 0] 29):=by rw[kl];exact heap_alloc_new _ _
 have Mh:sC W3 W2.heap.size [5]:=by
  refine⟨?_,?_,by rw[kl,ab];omega⟩
  ·intro i t ht f v hf;have hi:i=0:=by
    rcases aV i 1 with e|e
    ·omega
    ·rw[bz (by simpa using e)]at ht;cases ht
   subst hi;simp only[aN,ae]at ht;subst ht;refine cell_of EF ?_;have kT:f<7:=by
    rcases aV f 7 with e|e
    ·exact e
    ·rw[bz (by simpa[QM]using e)]at hf;cases hf
   have:f=0\/f=1\/f=2\/f=3\/f=4\/f=5\/f=6:=(by omega);rcases this with rfl|rfl|rfl|rfl|rfl|rfl|rfl<;>exact hf
  ·intro f v hf;refine cell_of EF ?_;have kT:f<7:=by
    rcases aV f 7 with e|e
    ·exact e
    ·rw[bz (by simpa[QL]using e)]at hf;cases hf
   have:f=0\/f=1\/f=2\/f=3\/f=4\/f=5\/f=6:=(by omega);rcases this with rfl|rfl|rfl|rfl|rfl|rfl|rfl<;>exact hf
 have jx:=aa (f7I [5] W2.heap.size 2 W3 (by decide) Mh);have H2:=Fp c3 d0 d1 jq gQ kl;clear c3 d0 d1 jq gQ kl EF Mh gO qR gG BV eT HC;go_wp2_with fail;rw[<-H2.2.2.2.2.2];refine jx.mono ?_;rintro e w4 ⟨vv,rfl,hA⟩;obtain⟨Js,ys,pw,Bw,iE,hys,H',OK⟩:=hA;obtain⟨aw,cw,rfl,_,_⟩:=d' iE;obtain⟨ax,cx,rfl,_,_⟩:=d' OK;obtain⟨k,rfl⟩:∃k,aw=some ⟨k,0,none⟩:=by
  rcases iE.2 with⟨_,h1⟩|⟨g,c,cs,h1,_⟩
  ·cases h1
  ·exact⟨g,by cases h1;rfl⟩
 obtain⟨z,rfl⟩:∃z,ax=some ⟨z,0,none⟩:=by
  rcases OK.2 with⟨_,h1⟩|⟨g,c,cs,h1,_⟩
  ·cases h1
  ·exact⟨g,by cases h1;rfl⟩
 have e7:w4.cell? ⟨k,7,none⟩=some (.slice (some ⟨z,0,none⟩) 1 cx):=by have h1:=iE.cellAt 7 (by decide);rw[aR (by rw[hys];decide),hys]at h1;exact h1
 have e2:w4.cell? ⟨z,2,none⟩=some (.int .i64 7):=by have:=OK.cellAt 2 (by decide);exact this
 have SB:Below W2.heap.size W2 w4:=H2.2.2.2.2.1.trans (Js.mono H2.2.2.2.2.1.size);have c3:=dF SB _ _ H2.1;have d0:=dF SB _ _ H2.2.1;have d1:=dF SB _ _ H2.2.2.1;have HF:=aa (H2.2.2.2.1.trans (SB.mono H2.2.2.2.1.size));clear iE OK SB Js jx hys;go_wp2_with fail;go_ret;exact⟨rfl,HF.out⟩
def oN (w:World) (v:Value) (f:List Bool) (b:Nat):Prop:=∃o c,v=.slice (some ⟨b,o,none⟩) f.length c/\b<w.heap.size/\∀i x,f[i]? =some x->w.cell? ⟨b,o+i,none⟩=some (.bool x)
theorem oN.below (h:oN w v f b) (hb:Below w.heap.size w w'):oN w' v f b:=by obtain⟨o,c,h1,h2,h3⟩:=h;exact⟨o,c,h1,ai h2 hb.size,λi x hx=>dF hb _ _ (h3 i x hx)⟩
theorem oN.fo (h:oN w v f b) (hb:ei (λx=>x=T) w w') (eK:b≠T):oN w' v f b:=by obtain⟨o,c,h1,h2,h3⟩:=h;exact⟨o,c,h1,ai h2 hb.size,λi x hx=>(aF (w:=w) (hb.same b h2 eK)).trans (h3 i x hx)⟩
def jl (w:World) (T n:Nat) (F:Nat->Bool):Prop:=w.heap[T]? =some (.cells (((List.range n).map λk=>Value.bool (F k)).toArray) 4 (0,0))
theorem jl.cell (h:jl w T n F) (hk:k<n):w.cell? ⟨T,k,none⟩=some (.bool (F k)):=cell_of h (by simp[hk])
theorem jl.frozen (h:jl w T n F) (k:Nat):w.frozen? ⟨T,k,none⟩=false:=by unfold jl at h;simp[World.frozen?,h]
theorem jl.congr {G:Nat->Bool} (h:jl w T n F) (hFG:∀k,k<n->F k=G k):jl w T n G:=by unfold jl at*;rw[h];congr 3;exact List.map_congr_left λk hk=>by rw[hFG k (by simpa using hk)]
theorem jl.set (h:jl w T n F) (k:Nat) (x:Bool):jl (w.setCell ⟨T,k,none⟩ (.bool x)) T n (λj=>if j=k then x else F j):=by
 unfold jl at*;rw[dG h];congr 2;apply Array.ext_getElem?;intro i;rw[cn];simp only[List.size_toArray,bU,List.length_range,List.getElem?_toArray];split
 ·rename_i e;subst e;by_cases hk:k<n
  ·simp[hk]
  ·simp[hk]
 ·rename_i e;by_cases hi:i<n
  ·simp[hi,cE e]
  ·simp[hi]
theorem jl.keep (h:jl w T n F) (hb:Below w.heap.size w w'):jl w' T n F:=by
 have hl:T<w.heap.size:=by
  rcases aV T w.heap.size with e|e
  ·exact e
  ·unfold jl at h;rw[aO e]at h;cases h
 exact(hb.block T hl).trans h
theorem jl.lt (h:jl w T n F):T<w.heap.size:=by
 rcases aV T w.heap.size with e|e
 ·exact e
 ·unfold jl at h;rw[aO e]at h;cases h
theorem jl.drew (h:jl w T n F):jl w.drew T n F:=h
theorem jl.bools (h:jl w T n F):oN w (.slice (some ⟨T,0,none⟩) n n) ((List.range n).map F) T:=by
 refine⟨0,n,by simp,h.lt,λi x hx=> ?_⟩;have hi:i<n:=by have:=(aB.1 hx).1;simpa using this
 have:=h.cell hi;rw[cm,this];simp[hi]at hx;rw[hx]
theorem Rk (f:List Bool):(List.range f.length).map (λk=>f.getD k false)=f:=by
 apply List.ext_getElem
 ·simp
 ·intro i h1 h2;simp[h2]
def Fs (S s:List dE) (g:Gb) (f:List Bool) (i k:Nat):Bool:=(List.range i).any λj=>f.getD j false&&tZ S s g j k
theorem RE (S s:List dE) (g:Gb) (f:List Bool) (i k:Nat):Fs S s g f (i+1) k=(Fs S s g f i k||(f.getD i false&&tZ S s g i k)):=by simp[Fs,List.range_succ]
theorem RU (S s:List dE) (g:Gb) (f:List Bool):xa S s g f=(List.range (s.length+1)).map (Fs S s g f (s.length+1)):=rfl
theorem OX (S s:List dE) (g:Gb) (f:List Bool) (h:eC g≠6):rL S s g f=xa S s g f:=by cases g<;>first|rfl|exact absurd rfl h
theorem RV {S s t:List dE} (hs:dV s) (ht:dV t) (i:Nat) (h:i+t.length<=s.length):((bs ((s.drop i).take t.length)).toList==(bs t).toList)=t.isPrefixOf (s.drop i):=by
 rw[Lib.toList_data,Lib.toList_data,eE,eE,bO,beq_iff_eq,bE,dp];constructor
 ·intro e;exact(MA (λc hc=>hs c (cL (dm hc))) ht e).symm
 ·intro e;rw[<-e]
def far (S s:List dE) (sup:Bool) (i k:Nat):Prop:=i<=k/\k<=s.length/\(sup=true\/∀m (h:m<s.length),i<=m->m<k->S.contains s[m]=false)
theorem Iu {S s:List dE} (h:far S s sup i k) (hk:k<s.length) (hc:sup=true\/S.contains s[k]=false):far S s sup i (k+1):=by
 obtain⟨h1,h2,h3⟩:=h;refine⟨by omega,by omega,?_⟩;rcases h3 with h3|h3
 ·exact .inl h3
 ·rcases hc with hc|hc
  ·exact .inl hc
  ·refine .inr λm hm h4 h5=> ?_;by_cases e:m=k
   ·subst e;exact hc
   ·exact h3 m hm h4 (by omega)
theorem Wl {S s:List dE}:(((s.drop i).take (j-i)).all λc=> !S.contains c)=true↔∀m (h:m<s.length),i<=m->m<j->S.contains s[m]=false:=by
 rw[List.all_eq_true];constructor
 ·intro h m hm h1 h2;have:=h s[m] (bh.2 ⟨m-i,by rw[dw,if_pos (by omega),cK,show i+(m-i)=m by omega];exact ah hm⟩);simpa using this
 ·intro h c hc;obtain⟨m,hm⟩:=bh.1 hc;rw[dw]at hm;split at hm
  ·rw[cK]at hm;obtain⟨h1,h2⟩:=aB.1 hm;rw[<-h2,h (i+m) h1 (by omega) (by omega)];rfl
  ·cases hm
theorem EX {S s:List dE} (hg:g=if sup then .fq else .any) (h:far S s sup i k) (iT:k=s.length\/∃h:k<s.length,sup=false/\S.contains s[k]=true) (j:Nat) (hj:j<=s.length):decide (i<=j/\j<=k)=tZ S s g i j:=by
 obtain⟨h1,h2,h3⟩:=h;cases sup with
 |true=>
  rw[hg];simp only[if_true,tZ];rcases iT with e|⟨_,e,_⟩
  ·rw[decide_eq_decide];omega
  ·cases e
 |false=>
  rw[hg];simp only[aM,if_false,tZ];rw[bO,al,Wl,decide_eq_true_eq,decide_eq_true_eq];constructor
  ·rintro⟨h4,h5⟩;refine⟨h4,λm hm h6 h7=> ?_⟩;rcases h3 with h3|h3
   ·cases h3
   ·exact h3 m hm h6 (by omega)
  ·rintro⟨h4,h5⟩;refine⟨h4,?_⟩;rcases iT with e|⟨h6,_,h7⟩
   ·omega
   ·rcases aV k j with e|e
    ·rw[h5 k h6 h1 e]at h7;cases h7
    ·exact e
theorem Ks {S s:List dE} {gl:List Gb} (h:gl[j]? =some g) (f:List Bool):km S s (gl.drop j) f=km S s (gl.drop (j+1)) (rL S s g f):=by obtain⟨hj,rfl⟩:=aB.1 h;rw[bo hj,km]
theorem Kt {S s:List dE} {ks:List (List Gb)} {g:List Gb} (h:ks[j]? =some g) (f tt:List Bool):pM S s (ks.drop j) f tt=pM S s (ks.drop (j+1)) f (YL tt (km S s g f)):=by obtain⟨hj,rfl⟩:=aB.1 h;rw[bo hj,pM]
theorem rh {a:Option Addr} {rs:List dE} (h:ek w (.slice a n c) rs) {ch:dE} (hi:rs[i]? =some ch):∃b o,a=some ⟨b,o,none⟩/\w.cell? ⟨b,o+i,none⟩=some (.int .i32 ((ch:Nat):Int)):=by
 obtain⟨h1,h2⟩:=aB.1 hi;rcases h with⟨_,e⟩|⟨b,o,cap,e,_,_,_,hc⟩
 ·rw[e]at h1;simp at h1
 ·simp only[au]at e;exact⟨b,o,e.1,by rw[<-h2];exact hc i h1⟩
theorem N5 {o m:Nat} {rs:List dE} {t:List dE} (h:ek w (.slice (some ⟨b,o,none⟩) n c) rs) (hi:i+m<=rs.length) (hm:m=t.length) (hc:n<=c) (hn:n=rs.length):ek w (.slice (some ⟨b,o+i,none⟩) m (c-i)) ((rs.drop i).take t.length):=by
 rcases h with⟨e,_⟩|⟨b',o',oY,e,h1,h2,h3,h4⟩
 ·cases e
 ·simp only[au,ae,aY]at e;obtain⟨⟨rfl,rfl,_⟩,_,rfl⟩:=e;have hl:((rs.drop i).take t.length).length=m:=by rw[bn,bT];omega
  refine .inr ⟨b,o+i,c-i,by rw[hl],by rw[hl];omega,by omega,h3,λk hk=> ?_⟩;rw[hl]at hk;have:=h4 (i+k) (by omega);rw[Nat.add_assoc,this];simp
theorem mH {s:List dE} {c:dE} (h:s[i]? =some c) (p:dE->Bool) (k:Nat):Wk s p i k=(decide (k=i+1)&&p c):=by simp[Wk,h]
theorem Bh {s:List dE} (h:s[i]? =none) (p:dE->Bool) (k:Nat):Wk s p i k=false:=by simp[Wk,h]
theorem Ad (F:Nat->Bool) (m k:Nat):(if k=m then true else F k)=(F k||(decide (k=m)&&true)):=by by_cases e:k=m<;>simp[e]
theorem xh:∀{gl:List Gb} {g:Gb},iY gl->g∈gl->sN g
 | [],g,_,h=>by simp at h
 |x::l,g,h,hm=>by
  simp only[iY]at h;rcases az.1 hm with rfl|hm
  ·exact h.1
  ·exact xh h.2.2 hm
theorem AR:∀{ks:List (List Gb)} {k:List Gb},jE ks->k∈ks->iY k
 | [],g,_,h=>by simp at h
 |x::l,g,h,hm=>by
  simp only[jE]at h;rcases az.1 hm with rfl|hm
  ·exact h.1
  ·exact AR h.2 hm
theorem rH:∀{gl:List Gb} {g:Gb},fU gl->g∈gl->kc g
 | [],g,_,h=>by simp at h
 |x::l,g,h,hm=>by
  simp only[fU]at h;rcases az.1 hm with rfl|hm
  ·exact h.1
  ·exact rH h.2 hm
theorem xZ:∀{ks:List (List Gb)} {k:List Gb},iL ks->k∈ks->fU k
 | [],g,_,h=>by simp at h
 |x::l,g,h,hm=>by
  simp only[iL]at h;rcases az.1 hm with rfl|hm
  ·exact h.1
  ·exact xZ h.2 hm
end Go.Proofs.YtfejflhgaphilaaGreatDoor
