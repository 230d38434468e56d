/- The reference's test for what the package's walk loses. -/
import Derived.Test.YtfejflhgaphilaaGreatDoorC27
set_option linter.all false
set_option maxRecDepth 100000
set_option maxHeartbeats 64000000
open Go.Proofs.Tryz
namespace Go.Proofs.YtfejflhgaphilaaGreatDoor
open Go.RowKit Gm
variable {w w0 wr:World} {g:Gb} {sb cb j:Nat} {s:Ls} {gl:List Gb}
def TT (w w':World) (sb cb:Nat) (r:Option Ls) (e:Ending):Prop:=ei (λb=>b=sb\/b=cb) w w'/\((r=none/\e=.returned (.bool true))\/∃s,r=some s/\e=.returned (.bool false)/\w'.heap[sb]? =some (.cells #[.bool s.1] 4)/\w'.heap[cb]? =some (.cells #[.bool s.2] 4))
theorem Ib (h:gl[j]? =some g) (s:Ls):hU (gl.drop j) s=match oh g s with|none=>none|some s'=>hU (gl.drop (j+1)) s':=by obtain⟨hj,rfl⟩:=aB.1 h;rw[bo hj,hU];cases oh gl[j] s<;>rfl
theorem Ic {gl:List (List Gb)} {g:List Gb} (h:gl[j]? =some g) (s:Ls):og (gl.drop j) s=match hU g s with|none=>none|some s'=>og (gl.drop (j+1)) s':=by obtain⟨hj,rfl⟩:=aB.1 h;rw[bo hj,og];cases hU gl[j] s<;>rfl
theorem jj {b1 i1 b2 i2:Nat} {u v:Value} (h:w.cell? ⟨b2,i2,none⟩=some u) (eK:b1≠b2):(w.setCell ⟨b1,i1,none⟩ v).cell? ⟨b2,i2,none⟩=some u:=by exact(World.cell?_setCell_other (w:=w) (v:=v) (a:=⟨b1,i1,none⟩) (b:=⟨b2,i2,none⟩) (by simp[eK])).trans h
theorem x8 (g:Gb):0<=eC g/\eC g<=6:=by cases g<;>simp[eC]
theorem Kq (h:eC g=1\/eC g=2) (s:Ls):oh g s=if s.2 then none else some (true,s.2):=by cases g<;>simp[eC]at h<;>simp only[oh]
theorem Kr (h:eC g=0\/eC g=3\/eC g=4\/eC g=5) (s:Ls):oh g s=some s:=by cases g<;>simp[eC]at h<;>simp only[oh]
theorem xi (h:eC g=6):∃ks,g=.alt ks:=by cases g<;>simp[eC]at h;exact⟨_,rfl⟩
structure Jb (w0 w wr:World) (sb cb:Nat) (s:Ls):Prop where
 fo:ei (λb=>b=sb\/b=cb) w wr
 st:wr.heap[sb]? =some (.cells #[.bool s.1] 4)
 ch:wr.heap[cb]? =some (.cells #[.bool s.2] 4)
theorem Jb.low (h:Jb w0 w wr sb cb s) (hb:Below w0.heap.size w0 w) (h0:w0.heap.size<=w.heap.size) (h1:w0.heap.size<=sb) (h2:w0.heap.size<=cb):Below w0.heap.size w0 wr:=hb.trans (h.fo.below h0 λb hb=>by rcases hb with rfl|rfl<;>assumption)
theorem Jb.alloc (h:Jb w0 w wr sb cb s) (h1:sb<w.heap.size) (h2:cb<w.heap.size) (o:Obj):Jb w0 w (wr.alloc o) sb cb s:=⟨h.fo.alloc o,(heap_alloc_old wr o (ai h1 h.fo.size)).trans h.st,(heap_alloc_old wr o (ai h2 h.fo.size)).trans h.ch⟩
theorem Jb.star (h:Jb w0 w wr sb cb s) (eK:sb≠cb) (x:Bool):Jb w0 w (wr.setCell ⟨sb,0,none⟩ (.bool x)) sb cb (x,s.2):=⟨h.fo.store _ (.inl rfl),by rw[dG h.st];rfl,(aq _ _ _ _ (cE eK)).trans h.ch⟩
theorem Jb.choice (h:Jb w0 w wr sb cb s) (eK:sb≠cb) (x:Bool):Jb w0 w (wr.setCell ⟨cb,0,none⟩ (.bool x)) sb cb (s.1,x):=⟨h.fo.store _ (.inr rfl),(aq _ _ _ _ eK).trans h.st,by rw[dG h.ch];rfl⟩
theorem f35s (w0:World) (sb cb:Nat) (eK:sb≠cb) (h0s:w0.heap.size<=sb) (h0c:w0.heap.size<=cb) (gl:List Gb) (IH:∀ks,.alt ks∈gl->∀k∈ks,∀(v:Value) (s:Ls) (w:World),tV w0 (ox k) v->Below w0.heap.size w0 w->w0.heap.size<=w.heap.size->sb<w.heap.size->cb<w.heap.size->Jb w0 w w sb cb s->Calls prog 35 #[v,.pointer (some ⟨sb,0,none⟩),.pointer (some ⟨cb,0,none⟩)] w λe w'=>TT w w' sb cb (hU k s) e) (v:Value) (s:Ls) (w:World) (hv:tV w0 (ox gl) v) (hb:Below w0.heap.size w0 w) (h0:w0.heap.size<=w.heap.size) (hs:sb<w.heap.size) (hc:cb<w.heap.size) (jn:Jb w0 w w sb cb s):Calls prog 35 #[v,.pointer (some ⟨sb,0,none⟩),.pointer (some ⟨cb,0,none⟩)] w λe w'=>TT w w' sb cb (hU gl s) e:=by
 obtain⟨a,c,rfl,q7,mT⟩:=hv.row;obtain⟨n,hn⟩:=dS gl.length;rw[<-hn]at q7⊢;obtain⟨R,hR⟩:=dS (hU gl s);rw[<-hR];have H:=Fp hn mT hb IH hR jn;clear hn mT hb IH hR jn hv;unfold maxLen at q7;go_enter func35,ntmps35;go_wp2_with fail;go_loopg [13] n (λk s13 wr=>∃j:Nat,k=n-j/\s13=.int .i64 j/\j<=n/\∃s1,Hid (Jb w0 w wr sb cb s1/\R=hU (gl.drop j) s1))
 case atStart=>exact⟨0,rfl,rfl,aU _,s,aa ⟨H.2.2.2.2.2,H.2.2.2.2.1⟩⟩
 case round=>
  obtain⟨j,rfl,rfl,hj,s1,HJ⟩:=hrel;by_cases gM:j<n
  ·have kY:=gW ((j:Int)+1) (by omega);have jA:decide ((j:Int)<(n:Int))=true:=by simp;omega
   have i1:(0:Int)<=(j:Int):=(by omega);have i2:(j:Int)<(n:Int):=by omega
   have mV:j<gl.length:=(by rw[<-H.1];exact gM);obtain⟨g,hg⟩:∃g,gl[j]? =some g:=⟨_,ah mV⟩;obtain⟨b,o,rfl,hS⟩:=H.2.1 (by intro e;rw[e]at mV;simp at mV);have o0:=HJ.1.low H.2.2.1 h0 h0s h0c;obtain⟨a2,c2,g0,g1,g2,g3,g4,g5,kg⟩:=tW.cells hS o0 hg;have Hn:=Ib hg s1;have HR:=rr hg hS o0 kg Hn;have uD:=HJ.1.alloc hs hc (.cells #[.int .u8 (eC g),.bool (mF g),.string (bs (ja g)),.int .i32 (yI g),.int .i32 (yJ g),.slice a2 (gm g).length c2] 97);clear hg hS o0 kg Hn;have Jr:=(heap_alloc_new wr (.cells #[.int .u8 (eC g),.bool (mF g),.string (bs (ja g)),.int .i32 (yI g),.int .i32 (yJ g),.slice a2 (gm g).length c2] 97));go_upto_region 4 with fail
   obtain⟨W1,gZ⟩:=dS (wr.alloc (.cells #[.int .u8 (eC g),.bool (mF g),.string (bs (ja g)),.int .i32 (yI g),.int .i32 (yJ g),.slice a2 (gm g).length c2] 97));rw[<-gZ]at uD Jr⊢;obtain⟨G,hG⟩:=dS wr.heap.size;rw[<-hG]at Jr⊢;have y0:W1.cell? ⟨G,0,none⟩=some (.int .u8 (eC g)):=cell_of Jr rfl;have y5:W1.cell? ⟨G,5,none⟩=some (.slice a2 (gm g).length c2):=cell_of Jr rfl;have z1:W1.cell? ⟨sb,0,none⟩=some (.bool s1.1):=cell_of uD.st rfl;have z2:W1.cell? ⟨cb,0,none⟩=some (.bool s1.2):=cell_of uD.ch rfl;have z3:W1.frozen? ⟨sb,0,none⟩=false:=(by simp[World.frozen?,uD.st]);have z4:W1.frozen? ⟨cb,0,none⟩=false:=by simp[World.frozen?,uD.ch]
   have Uy:=uD.low H.2.2.1 h0 h0s h0c;have hGn:G≠sb/\G≠cb:=by have:=HJ.1.fo.size;omega
   have HW:=jS uD Uy hGn;clear uD Jr gZ hG Uy hGn g0 g1 g2 g3 g4 g5;obtain⟨gk,xU⟩:=dS (eC g);rw[<-xU]at y0⊢;obtain⟨nk,sY⟩:=dS (gm g).length;rw[<-sY]at y5⊢;have BK:=eo xU sY;clear xU sY;have hkr:=x8 g;rw[<-BK.1]at hkr;obtain hk|hk|hk:(gk=1\/gk=2)\/(gk=0\/gk=3\/gk=4\/gk=5)\/gk=6:=by omega
   ·have yD:=aa (Kq (by rw[<-BK.1];exact hk) s1 (g:=g));cases pT:s1.2 with
    |true=>
     rw[pT]at z2;have tS:=aa pT;clear pT;rcases hk with rfl|rfl<;>
     ·go_wp2_with fail;go_ret;refine⟨HW.1.fo,.inl ⟨?_,rfl⟩⟩;rw[HJ.2,HR.2.2.2.2,yD.out,tS.out];rfl
    |false=>
     rw[pT]at z2;have tS:=aa pT;clear pT;rcases hk with rfl|rfl<;>
     ·go_wp2_with fail;go_roundg (n- (j+1))
      case measure=>omega
      case rel=>exact⟨j+1,rfl,rfl,by omega,(true,s1.2),aa ⟨HW.1.star eK true,by rw[HJ.2,HR.2.2.2.2,yD.out,tS.out];rfl⟩⟩
   ·have yD:=aa (Kr (by rw[<-BK.1];exact hk) s1 (g:=g));rcases hk with rfl|rfl|rfl|rfl<;>
    ·go_wp2_with fail;go_roundg (n- (j+1))
     case measure=>omega
     case rel=>exact⟨j+1,rfl,rfl,by omega,s1,aa ⟨HW.1,by rw[HJ.2,HR.2.2.2.2,yD.out]⟩⟩
   ·obtain⟨ks,rfl⟩:=xi (by rw[<-BK.1];exact hk);subst hk;have sY:nk=ks.length:=BK.2;have RZ:nk<=9223372036854775807:=by have:=HR.2.2.2.1.1;simp only[gm]at this;omega
    obtain⟨x,hx⟩:=dS (s1.2||(s1.1&&decide (1<ks.length)));have Jl:Hid (x=(s1.2||(s1.1&&decide (1<nk)))):=aa (by rw[sY];exact hx);have HX:=aa hx;have HNKS:=aa sY;clear hx sY;go_upto_region 11 with fail
    go_cut []from 29 to 44 (λwx=>wx.cell? ⟨G,5,none⟩=some (.slice a2 nk c2)/\Hid (Jb w0 w wx sb cb (s1.1,x)))
    case first=>
     cases pT:s1.2 with
     |true=>
      rw[pT]at z2;have tS:=aa pT;clear pT;go_wp2_with fail;go_meet
      case rel=>exact⟨jj y5 (cE HW.2.2.2),aa (by rw[show x=true by rw[Jl.out,tS.out];rfl];exact HW.1.choice eK true)⟩
     |false=>
      cases kR:s1.1 with
      |true=>
       rw[pT]at z2;rw[kR]at z1;have tS:=eo kR pT;clear kR pT;go_wp2_with fail;go_meet
       case rel=>exact⟨jj y5 (cE HW.2.2.2),aa (by rw[show x=decide ((1:Int)<(nk:Int))by rw[Jl.out,tS.1,tS.2];exact(decide_eq_decide.2 (by omega):decide (1<nk)=decide ((1:Int)<(nk:Int)))];exact HW.1.choice eK _)⟩
      |false=>
       rw[pT]at z2;rw[kR]at z1;have tS:=eo kR pT;clear kR pT;go_wp2_with fail;go_meet
       case rel=>exact⟨jj y5 (cE HW.2.2.2),aa (by rw[show x=false by rw[Jl.out,tS.1,tS.2];rfl];exact HW.1.choice eK _)⟩
    case rest=>
     obtain⟨y5',HL⟩:=hcut;have BM:=aa HR.2.2.2.1;go_wp2_with fail;go_loopg [48] nk (λk s48 wx=>∃i:Nat,k=nk-i/\s48=.int .i64 i/\i<=nk/\∃s2,Hid (Jb w0 w wx sb cb s2/\R=match og (ks.drop i) s2 with|none=>none|some s'=>hU (gl.drop (j+1)) s'))
     case atStart=>exact⟨0,rfl,rfl,aU _,(s1.1,x),aa ⟨HL.out,by
      rw[HJ.2,HR.2.2.2.2];have e:oh (.alt ks) s1=og ks (s1.1,x):=by rw[HX.out];simp only[oh]
      rw[e,bK]⟩⟩
     case round=>
      obtain⟨i,rfl,rfl,BX,s2,HM⟩:=hrel;by_cases sL:i<nk
      ·have GV:=gW ((i:Int)+1) (by omega);have BH:decide ((i:Int)<(nk:Int))=true:=by simp;omega
       have Xh:(0:Int)<=(i:Int):=(by omega);have Xg:(i:Int)<(nk:Int):=by omega
       have rA:i<ks.length:=(by rw[<-HNKS.out];exact sL);obtain⟨bk,YO,rfl,hK⟩:=BM.2 (by intro e;simp only[gm]at e;rw[e]at rA;simp at rA);obtain⟨kd,kg⟩:∃kd,ks[i]? =some kd:=⟨_,ah rA⟩;have jo:=HM.1.low H.2.2.1 h0 h0s h0c;obtain⟨ak,ck,Hr,vB⟩:=ua.kid hK jo kg;have gJ:=HM.1.fo.size;have ka:=H.2.2.2.1 ks (bh.2 ⟨j,HR.1⟩) kd (bh.2 ⟨i,kg⟩) _ s2 wr vB jo (by omega) (by omega) (by omega) ⟨ei.refl _ _,HM.1.st,HM.1.ch⟩;have Mn:=Ic kg s2;obtain⟨nkd,oR⟩:=dS kd.length;rw[<-oR]at Hr ka;have vE:=aa ka;have HN:=eo kg Mn;clear kg vB jo ka oR hK Mn;go_wp2_with fail;refine vE.mono ?_;rintro e w2 ⟨gP,⟨hr,rfl⟩|⟨s3,hr,rfl,q1,q2⟩⟩
       ·have jx:=eo gP hr;clear gP hr;go_wp2_with fail;go_ret;exact⟨HM.1.fo.then jx.1,.inl ⟨by rw[HM.2,HN.2,jx.2],rfl⟩⟩
       ·have jx:=sW gP hr q1 q2;clear gP hr q1 q2;go_wp2_with fail;go_roundg (nk- (i+1))
        case measure=>omega
        case rel=>exact⟨i+1,rfl,rfl,by omega,s3,aa ⟨⟨HM.1.fo.then jx.1,jx.2.2.1,jx.2.2.2⟩,by rw[HM.2,HN.2,jx.2.1]⟩⟩
      ·have BH:decide ((i:Int)<(nk:Int))=false:=(by simp;omega);go_wp2_with fail;go_roundg (n- (j+1))
       case measure=>omega
       case rel=>exact⟨j+1,rfl,rfl,by omega,s2,aa ⟨HM.1,by have h:=HM.2;rw[aL (by rw[<-HNKS.out];omega),og]at h;exact h⟩⟩
  ·have jA:decide ((j:Int)<(n:Int))=false:=(by simp;omega);go_wp2_with fail;go_ret;obtain⟨h1,h2⟩:=HJ.out;rw[aL (by rw[<-H.1];omega),hU]at h2;exact⟨h1.fo,.inr ⟨s1,h2,rfl,h1.st,h1.ch⟩⟩
theorem jJ {ks:List (List Gb)} {k:List Gb} (h1: .alt ks∈gl) (h2:k∈ks):SizeOf.sizeOf k<SizeOf.sizeOf gl:=by have a:=List.sizeOf_lt_of_mem h1;have b:=List.sizeOf_lt_of_mem h2;simp at a;omega
theorem f35 (w0:World) (sb cb:Nat) (eK:sb≠cb) (h0s:w0.heap.size<=sb) (h0c:w0.heap.size<=cb):∀(N:Nat) (gl:List Gb),SizeOf.sizeOf gl<=N->∀(v:Value) (s:Ls) (w:World),tV w0 (ox gl) v->Below w0.heap.size w0 w->w0.heap.size<=w.heap.size->sb<w.heap.size->cb<w.heap.size->Jb w0 w w sb cb s->Calls prog 35 #[v,.pointer (some ⟨sb,0,none⟩),.pointer (some ⟨cb,0,none⟩)] w λe w'=>TT w w' sb cb (hU gl s) e
 |0,gl,h,v,s,w,h1,h2,h3,h4,h5,h6=>f35s w0 sb cb eK h0s h0c gl (λks hk k tG=>by have:=jJ hk tG;omega) v s w h1 h2 h3 h4 h5 h6
 |N+1,gl,h,v,s,w,h1,h2,h3,h4,h5,h6=>f35s w0 sb cb eK h0s h0c gl (λks hk k tG=>f35 w0 sb cb eK h0s h0c N k (by have:=jJ hk tG;omega)) v s w h1 h2 h3 h4 h5 h6
theorem f16 (w0:World) (gl:List Gb) (v:Value) (w:World) (hv:tV w0 (ox gl) v) (hb:Below w0.heap.size w0 w) (h0:w0.heap.size<=w.heap.size):Calls prog 16 #[v] w λe w'=>Below w.heap.size w w'/\e=.returned (.bool (hU gl (false,false)).isNone):=by
 have hv':=hv.row;obtain⟨a,c,rfl,_⟩:=hv';obtain⟨n,hn⟩:=dS gl.length;rw[<-hn]at hv⊢;have gJ:((w.alloc (.cells #[.bool false] 4)).alloc (.cells #[.bool false] 4)).heap.size=w.heap.size+2:=by rw[ab,ab]
 have uK:Below w.heap.size w ((w.alloc (.cells #[.bool false] 4)).alloc (.cells #[.bool false] 4)):=by go_grown
 have e1:=heap_alloc2_old w (.cells #[.bool false] 4) (.cells #[.bool false] 4);have e2:=heap_alloc2_new w (.cells #[.bool false] 4) (.cells #[.bool false] 4);have HC:=aa (f35 w0 w.heap.size (w.heap.size+1) (by omega) h0 (by omega) (SizeOf.sizeOf gl) gl (af _) _ (false,false) ((w.alloc (.cells #[.bool false] 4)).alloc (.cells #[.bool false] 4)) hv (hb.trans (uK.mono h0)) (by omega) (by omega) (by omega) ⟨ei.refl _ _,e1,e2⟩);have HB:=aa uK;clear hn hv hb gJ uK e1 e2;go_enter func16,ntmps16;go_wp2_with fail;refine HC.mono ?_;rintro e w2 ⟨gP,h⟩;have eT:Below w.heap.size w w2:=HB.trans (gP.below (by have:=HB.size;exact this) λb hb=>by rcases hb with rfl|rfl<;>omega);rcases h with⟨hr,rfl⟩|⟨s,hr,rfl,_,_⟩
 ·have HR:=eo hr eT;clear gP hr eT;go_wp2_with fail;go_ret;exact⟨HR.2,by rw[HR.1];rfl⟩
 ·have HR:=eo hr eT;clear gP hr eT;go_wp2_with fail;go_ret;exact⟨HR.2,by rw[HR.1];rfl⟩
end Go.Proofs.YtfejflhgaphilaaGreatDoor
