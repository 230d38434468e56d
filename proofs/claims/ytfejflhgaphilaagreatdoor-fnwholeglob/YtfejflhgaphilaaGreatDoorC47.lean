/- A pattern as a text, as the reference writes it. -/
import Derived.Test.YtfejflhgaphilaaGreatDoorC37
import Derived.Test.YtfejflhgaphilaaGreatDoorC14
set_option linter.all false
set_option maxRecDepth 100000
set_option maxHeartbeats 64000000
open Go.Proofs.Tryz
namespace Go.Proofs.YtfejflhgaphilaaGreatDoor
open Go.RowKit Gm
variable {ks:List (List Gb)} {j i:Nat} {k:List Gb}
theorem Km {gl:List Gb} {g:Gb} (h:gl[j]? =some g):fm (gl.drop j)=jB g++fm (gl.drop (j+1)):=by obtain⟨hj,rfl⟩:=aB.1 h;rw[bo hj,fm]
theorem Kn {gl:List (List Gb)} {g:List Gb} (h:gl[j]? =some g):jN (gl.drop j)=44::(fm g++jN (gl.drop (j+1))):=by obtain⟨hj,rfl⟩:=aB.1 h;rw[bo hj,jN]
def oF (ks:List (List Gb)) (i:Nat):List Nat:=if i=0 then ta ks else jN (ks.drop i)
theorem JX (h:ks[0]? =some k):oF ks 0=fm k++oF ks 1:=by
 cases ks with
 |nil=>simp at h
 |cons x ks=>simp only[aN,ae]at h;subst h;simp[oF,ta]
theorem JY (h:ks[i+1]? =some k):oF ks (i+1)=44::(fm k++oF ks (i+2)):=by simp only[oF,Nat.succ_ne_zero,if_false,if_neg (Nat.succ_ne_zero _)];exact Kn h
theorem OB (h:ks.length<=i) (h0:ks≠[]):oF ks i=[]:=by
 have:i≠0:=by rintro rfl;cases ks<;>simp at*
 simp only[oF,if_neg this,aL h,jN]
theorem Dw:∀{l:List (List Gb)} {g:List Gb},jE l->g∈l->iY g
 | [],_,_,h=>by cases h
 |x::l,g,h,hg=>by
  simp only[jE]at h;rcases az.1 hg with rfl|hg
  ·exact h.1
  ·exact Dw h.2 hg
theorem jk (A l:List dE) (b:ByteArray) (h:b=bs l):bs A++b=bs (A++l):=by rw[h,lv]
theorem pL:∀{l:List Gb} {g:Gb},iY l->g∈l->sN g
 | [],_,_,h=>by cases h
 |x::l,g,h,hg=>by
  simp only[iY]at h;rcases az.1 hg with rfl|hg
  ·exact h.1
  ·exact pL h.2.2 hg
theorem f10s (w0:World) (gl:List Gb) (IH:∀ks,.alt ks∈gl->∀k∈ks,∀(v:Value) (w:World),tV w0 (ox k) v->Below w0.heap.size w0 w->w0.heap.size<=w.heap.size->iY k->(enc (fm k)).length<=1000000->Calls prog 10 #[v] w λe w'=>e=.returned (.string (bs (fm k)))/\Below w.heap.size w w') (v:Value) (w:World) (hv:tV w0 (ox gl) v) (hb:Below w0.heap.size w0 w) (h0:w0.heap.size<=w.heap.size) (ez:iY gl) (hlen:(enc (fm gl)).length<=1000000):Calls prog 10 #[v] w λe w'=>e=.returned (.string (bs (fm gl)))/\Below w.heap.size w w':=by
 obtain⟨a,c,rfl,q7,mT⟩:=hv.row;obtain⟨n,hn⟩:=dS gl.length;rw[<-hn]at q7⊢;obtain⟨R,hR⟩:=dS (fm gl);rw[<-hR]at hlen⊢;have H:=Ur hn mT hb IH hR ez hlen;clear hn mT hb IH hR ez hlen hv;unfold maxLen at q7;go_enter func10,ntmps10;go_wp2_with fail;go_loopg [14,3] n (λk U7 s3 wr=>∃j:Nat,k=n-j/\U7=.int .i64 j/\j<=n/\∃A:List dE,s3=.string (bs A)/\Hid (Below w.heap.size w wr/\R=A++fm (gl.drop j)))
 case atStart=>exact⟨0,rfl,rfl,aU _,[],rfl,aa ⟨ay _ _,H.2.2.2.2.1⟩⟩
 case round=>
  obtain⟨j,rfl,rfl,hj,A,rfl,HJ⟩:=hrel;by_cases gM:j<n
  ·have kY:=gW ((j:Int)+1) (by omega);have jA:decide ((j:Int)<(n:Int))=true:=by simp;omega
   have i1:(0:Int)<=(j:Int):=(by omega);have i2:(j:Int)<(n:Int):=by omega
   have mV:j<gl.length:=(by rw[<-H.1];exact gM);obtain⟨g,hg⟩:∃g,gl[j]? =some g:=⟨_,ah mV⟩;obtain⟨b,o,rfl,hS⟩:=H.2.1 (by intro e;rw[e]at mV;simp at mV);have o0:Below w0.heap.size w0 wr:=H.2.2.1.trans (HJ.1.mono h0);obtain⟨a2,c2,g0,g1,g2,g3,g4,g5,kg⟩:=tW.cells hS o0 hg;have Hn:=Km hg;have hA:(bs A).size<=1000000:=(by have h1:=H.2.2.2.2.2.2;rw[HJ.2,dR,aj]at h1;rw[dQ];omega);have HR:=jS hg kg Hn;clear hg hS o0 Hn;have Jr:=(heap_alloc_new wr (.cells #[.int .u8 (eC g),.bool (mF g),.string (bs (ja g)),.int .i32 (yI g),.int .i32 (yJ g),.slice a2 (gm g).length c2] 97));go_upto_region 5 with fail
   obtain⟨W1,gZ⟩:=dS (wr.alloc (.cells #[.int .u8 (eC g),.bool (mF g),.string (bs (ja g)),.int .i32 (yI g),.int .i32 (yJ g),.slice a2 (gm g).length c2] 97));have hW1b:Below wr.heap.size wr W1:=by rw[gZ];go_grown
   rw[<-gZ]at Jr⊢;obtain⟨G,hG⟩:=dS wr.heap.size;have hGl:G<W1.heap.size:=(by rw[gZ,ab];omega);rw[<-hG]at Jr⊢;have HW:=jS (HJ.1.trans (hW1b.mono HJ.1.size)) Jr hGl;clear Jr gZ hW1b hGl hG g0 g1 g2 g3 g4 g5;have y0:W1.cell? ⟨G,0,none⟩=some (.int .u8 (eC g)):=cell_of HW.2.1 rfl;have y1:W1.cell? ⟨G,1,none⟩=some (.bool (mF g)):=cell_of HW.2.1 rfl;have y2:W1.cell? ⟨G,2,none⟩=some (.string (bs (ja g))):=cell_of HW.2.1 rfl;have y3:W1.cell? ⟨G,3,none⟩=some (.int .i32 (yI g)):=cell_of HW.2.1 rfl;have y4:W1.cell? ⟨G,4,none⟩=some (.int .i32 (yJ g)):=cell_of HW.2.1 rfl;have y5:W1.cell? ⟨G,5,none⟩=some (.slice a2 (gm g).length c2):=cell_of HW.2.1 rfl;cases g with
   |any=>
    as_aux_lemma=>
    simp only[eC,mF,ja,yI,yJ,gm,aG]at y0 y1 y2 y3 y4 y5⊢;have T':=aa (jk A [42] ⟨#[42]⟩ (by apply fC;rfl));have xY:(bs A).size+1<=9223372036854775807:=(by omega);have yH:(bs A).size+2<=9223372036854775807:=by omega
    go_wp2_with fail;go_roundg (n- (j+1))
    case measure=>omega
    case rel=>exact⟨j+1,rfl,rfl,by omega,_,congrArg Value.string T'.out,aa ⟨HW.1,by rw[HJ.2,HR.2.2,<-aD];rfl⟩⟩
   |fq=>
    as_aux_lemma=>
    simp only[eC,mF,ja,yI,yJ,gm,aG]at y0 y1 y2 y3 y4 y5⊢;have T':=aa (jk A [42,42] ⟨#[42,42]⟩ (by apply fC;rfl));have xY:(bs A).size+1<=9223372036854775807:=(by omega);have yH:(bs A).size+2<=9223372036854775807:=by omega
    go_wp2_with fail;go_roundg (n- (j+1))
    case measure=>omega
    case rel=>exact⟨j+1,rfl,rfl,by omega,_,congrArg Value.string T'.out,aa ⟨HW.1,by rw[HJ.2,HR.2.2,<-aD];rfl⟩⟩
   |one=>
    as_aux_lemma=>
    simp only[eC,mF,ja,yI,yJ,gm,aG]at y0 y1 y2 y3 y4 y5⊢;have T':=aa (jk A [63] ⟨#[63]⟩ (by apply fC;rfl));have xY:(bs A).size+1<=9223372036854775807:=(by omega);have yH:(bs A).size+2<=9223372036854775807:=by omega
    go_wp2_with fail;go_roundg (n- (j+1))
    case measure=>omega
    case rel=>exact⟨j+1,rfl,rfl,by omega,_,congrArg Value.string T'.out,aa ⟨HW.1,by rw[HJ.2,HR.2.2,<-aD];rfl⟩⟩
   |text u=>
    as_aux_lemma=>
    simp only[eC,mF,ja,yI,yJ,gm,aG]at y0 y1 y2 y3 y4 y5⊢;have OKU:Hid (dV u):=aa (by have:=pL H.2.2.2.2.2.1 (bh.2 ⟨j,HR.1⟩);simp only[sN]at this;exact this.2);have Je:Hid (∀u1 v1:List dE,u=u1++v1->(bs (A++u1.flatMap sO)).size<=1000000):=aa λu1 v1 hu=>by have h1:=H.2.2.2.2.2.2;rw[HJ.2,HR.2.2]at h1;simp only[jB]at h1;rw[hu,List.flatMap_append]at h1;simp only[dR,aj]at h1;rw[dQ,dR,aj];omega
    have Qd:W1.heap.size<(W1.iter (bs u) 0).heap.size:=(by rw[World.jt];omega);go_wp2_with fail;obtain⟨K,hK⟩:=dS W1.heap.size;go_loopg [3] u.length (λk s3 wx=>∃u1 v1:List dE,u=u1++v1/\k=v1.length/\s3=.string (bs (A++u1.flatMap sO))/\Hid (wx.heap[K]? =some (.stringIter (bs u) (enc u1).length)/\Below W1.heap.size W1 wx/\K<wx.heap.size))
    case atStart=>exact⟨[],u,rfl,rfl,by simp,aa ⟨by rw[hK];exact dz _ _ _,ku (ay _ _) (af _) _ _,by rw[hK,World.jt];omega⟩⟩
    case round=>
     obtain⟨u1,v1,xR,rfl,rfl,HI⟩:=hrel;obtain⟨wx,rfl⟩:=dS (wr:World);obtain⟨X,hX⟩:=dS (A++u1.flatMap sO);rw[<-hX];have ov:=eo xR hX;cases v1 with
     |nil=>
      have hk:=HI.1;rw[show u=u1 by rw[xR,bd]]at hk;have hn:=λty=>pD hk ty;subst hK;have hXs:(bs X).size<=1000000:=(by rw[hX];exact Je.out u1 [] xR);clear hk xR hX;go_wp2_with fail;go_roundg (n- (j+1))
      case measure=>omega
      case rel=>refine⟨j+1,rfl,rfl,by omega,X,rfl,aa ⟨HW.1.trans (HI.2.1.mono HW.1.size),?_⟩⟩;rw[HJ.2,HR.2.2,ov.2,show u1=u by rw[ov.1,bd],aD];rfl
     |cons ch v2=>
      have gP:mz ch:=OKU.out ch (by rw[xR];simp);have hk:=HI.1;rw[xR]at hk;have hn:=λty=>nF gP hk ty;rw[<-xR]at hn;have Hm:Utf8.encode ((ch:Nat):Int)=bs [ch]:=fS gP;obtain⟨y,hy⟩:=dS (((ch:Nat):Int):Int);rw[<-hy]at hn Hm;have HY:=aa hy;subst hK;clear hk xR hX hy;go_upto_region 10 with fail
      obtain⟨W2,lz⟩:=dS (wx.iterAt W1.heap.size (bs u) ((enc u1).length+(e1 ch).length));rw[<-lz];have GR:W2.heap[W1.heap.size]? =some (.stringIter (bs u) ((enc u1).length+(e1 ch).length)):=(by rw[lz];exact Lib.iterAt_heap _ _ _ _ _ HI.1);have GU:Below W1.heap.size W1 W2:=by rw[lz];exact Lib.below_iterAt HI.2.1 (af _) _ _
      have GQ:W1.heap.size<W2.heap.size:=(by rw[lz,Lib.iterAt_size];exact HI.2.2);have yl:=jS GR GU GQ;clear GR GU GQ hn lz;obtain⟨BB,X5⟩:=dS (decide (y=42\/y=63\/y=92\/y=91\/y=93\/y=123\/y=125\/y=44));have MW:=aa X5;clear X5;go_cut [7,25,27,57]from 28 to 57 (λs7 s25 s27 s57 wz=>wz=W2/\s7=.int .i32 y/\s57=.bool BB)
      case first=>
       go_wp2_with fail
       all_goals go_meet
       all_goals refine⟨rfl,by first|rfl|exact congrArg (Value.int IntKind.i32) (by omega),?_⟩
       all_goals rw[MW.out]
       all_goals first
        |exact congrArg Value.bool (decide_eq_true (by omega)).symm
        |exact congrArg Value.bool (by rw[bO];simp only[cC,beq_iff_eq,decide_eq_true_eq];omega)
      case rest=>
       obtain⟨Mc,rfl,rfl⟩:=hcut;replace Mc:=Mc.symm;subst Mc;have hXs:(bs X).size<=1000000:=by rw[ov.2];exact Je.out u1 (ch::v2) ov.1
       have lJ:(bs [ch]).size<=4:=(by rw[dQ];have:=ec ch;simp;omega);have gB:(bs X).size+1+(bs [ch]).size<=9223372036854775807:=by omega
       have gF:(bs X).size+(bs [ch]).size<=9223372036854775807:=(by omega);have Us:(bs X).size+1<=9223372036854775807:=by omega
       have Co:=aa (lv X [ch]);have jx:=aa (lv (X++[92]) [ch]);have qC:=aa (jk X [92] ⟨#[92]⟩ (by apply fC;rfl));cases BB with
       |true=>
        go_wp2_with fail;go_roundg v2.length
        case measure=>simp
        case rel=>have hb:=MW.out;rw[HY.out]at hb;have he:sO ch=[92,ch]:=(by unfold sO;rw[if_pos (by have h:=of_decide_eq_true hb.symm;omega)]);refine⟨u1++[ch],v2,by rw[ov.1];simp,rfl,?_,aa ⟨by rw[dR,aj];simpa using yl.1,yl.2.1,yl.2.2⟩⟩;rw[qC.out,jx.out,ov.2];simp[he]
       |false=>
        go_wp2_with fail;go_roundg v2.length
        case measure=>simp
        case rel=>have hb:=MW.out;rw[HY.out]at hb;have he:sO ch=[ch]:=(by unfold sO;rw[if_neg (by have h:=of_decide_eq_false hb.symm;omega)]);refine⟨u1++[ch],v2,by rw[ov.1];simp,rfl,?_,aa ⟨by rw[dR,aj];simpa using yl.1,yl.2.1,yl.2.2⟩⟩;rw[Co.out,ov.2];simp[he]
   |set u m=>
    cases m with
    |true=>
     as_aux_lemma=>
     simp only[eC,mF,ja,yI,yJ,gm,aG]at y0 y1 y2 y3 y4 y5⊢;have OKU:Hid (dV u):=aa (by have:=pL H.2.2.2.2.2.1 (bh.2 ⟨j,HR.1⟩);simp only[sN]at this;exact this.2.1);have Je:Hid (∀u1 v1:List dE,u=u1++v1->(bs ((A++([91]++[33]))++u1.flatMap iV)).size<=1000000):=aa λu1 v1 hu=>by have h1:=H.2.2.2.2.2.2;rw[HJ.2,HR.2.2]at h1;simp only[jB,tu,aM,if_true,if_false]at h1;rw[hu,List.flatMap_append]at h1;simp only[dR,et,gd,aj,aH,aG]at h1;rw[dQ];simp only[dR,et,gd,aj,aH,aG];omega
     have xY:(bs A).size+1<=9223372036854775807:=(by omega);have yH:(bs A).size+1+1<=9223372036854775807:=by omega
     have HCA:=aa (jk A [91] ⟨#[91]⟩ (by apply fC;rfl));have HCB:=aa (jk (A++[91]) [33] ⟨#[33]⟩ (by apply fC;rfl));have Qd:W1.heap.size<(W1.iter (bs u) 0).heap.size:=(by rw[World.jt];omega);go_wp2_with fail;obtain⟨K,hK⟩:=dS W1.heap.size;go_loopg [3] u.length (λk s3 wx=>∃u1 v1:List dE,u=u1++v1/\k=v1.length/\s3=.string (bs ((A++([91]++[33]))++u1.flatMap iV))/\Hid (wx.heap[K]? =some (.stringIter (bs u) (enc u1).length)/\Below W1.heap.size W1 wx/\K<wx.heap.size))
     case atStart=>exact⟨[],u,rfl,rfl,congrArg Value.string (by rw[HCA.out,HCB.out];simp),aa ⟨by rw[hK];exact dz _ _ _,ku (ay _ _) (af _) _ _,by rw[hK,World.jt];omega⟩⟩
     case round=>
      obtain⟨u1,v1,xR,rfl,rfl,HI⟩:=hrel;obtain⟨wx,rfl⟩:=dS (wr:World);obtain⟨X,hX⟩:=dS ((A++([91]++[33]))++u1.flatMap iV);rw[<-hX];have ov:=eo xR hX;cases v1 with
      |nil=>
       have hk:=HI.1;rw[show u=u1 by rw[xR,bd]]at hk;have hn:=λty=>pD hk ty;subst hK;have hXs:(bs X).size<=1000000:=(by rw[hX];exact Je.out u1 [] xR);clear hk xR hX;have Bs:=aa (jk X [93] ⟨#[93]⟩ (by apply fC;rfl));have Us:(bs X).size+1<=9223372036854775807:=by omega
       go_wp2_with fail;go_roundg (n- (j+1))
       case measure=>omega
       case rel=>refine⟨j+1,rfl,rfl,by omega,X++[93],congrArg Value.string Bs.out,aa ⟨HW.1.trans (HI.2.1.mono HW.1.size),?_⟩⟩;rw[HJ.2,HR.2.2,ov.2,show u1=u by rw[ov.1,bd]];simp[jB,tu]
      |cons ch v2=>
       have gP:mz ch:=OKU.out ch (by rw[xR];simp);have hk:=HI.1;rw[xR]at hk;have hn:=λty=>nF gP hk ty;rw[<-xR]at hn;have Hm:Utf8.encode ((ch:Nat):Int)=bs [ch]:=fS gP;obtain⟨y,hy⟩:=dS (((ch:Nat):Int):Int);rw[<-hy]at hn Hm;have HY:=aa hy;subst hK;clear hk xR hX hy;go_upto_region 29 with fail
       obtain⟨W2,lz⟩:=dS (wx.iterAt W1.heap.size (bs u) ((enc u1).length+(e1 ch).length));rw[<-lz];have GR:W2.heap[W1.heap.size]? =some (.stringIter (bs u) ((enc u1).length+(e1 ch).length)):=(by rw[lz];exact Lib.iterAt_heap _ _ _ _ _ HI.1);have GU:Below W1.heap.size W1 W2:=by rw[lz];exact Lib.below_iterAt HI.2.1 (af _) _ _
       have GQ:W1.heap.size<W2.heap.size:=(by rw[lz,Lib.iterAt_size];exact HI.2.2);have yl:=jS GR GU GQ;clear GR GU GQ hn lz;obtain⟨BB,X5⟩:=dS (decide (y=92\/y=93\/y=33\/y=91));have MW:=aa X5;clear X5;go_cut [9,101,103,117]from 104 to 117 (λs7 s25 s27 s57 wz=>wz=W2/\s7=.int .i32 y/\s57=.bool BB)
       case first=>
        go_wp2_with fail
        all_goals go_meet
        all_goals refine⟨rfl,by first|rfl|exact congrArg (Value.int IntKind.i32) (by omega),?_⟩
        all_goals rw[MW.out]
        all_goals first
         |exact congrArg Value.bool (decide_eq_true (by omega)).symm
         |exact congrArg Value.bool (by rw[bO];simp only[cC,beq_iff_eq,decide_eq_true_eq];omega)
       case rest=>
        obtain⟨Mc,rfl,rfl⟩:=hcut;replace Mc:=Mc.symm;subst Mc;have hXs:(bs X).size<=1000000:=by rw[ov.2];exact Je.out u1 (ch::v2) ov.1
        have lJ:(bs [ch]).size<=4:=(by rw[dQ];have:=ec ch;simp;omega);have gB:(bs X).size+1+(bs [ch]).size<=9223372036854775807:=by omega
        have gF:(bs X).size+(bs [ch]).size<=9223372036854775807:=(by omega);have Us:(bs X).size+1<=9223372036854775807:=by omega
        have Co:=aa (lv X [ch]);have jx:=aa (lv (X++[92]) [ch]);have qC:=aa (jk X [92] ⟨#[92]⟩ (by apply fC;rfl));cases BB with
        |true=>
         go_wp2_with fail;go_roundg v2.length
         case measure=>simp
         case rel=>have hb:=MW.out;rw[HY.out]at hb;have he:iV ch=[92,ch]:=(by unfold iV;rw[if_pos (by have h:=of_decide_eq_true hb.symm;omega)]);refine⟨u1++[ch],v2,by rw[ov.1];simp,rfl,?_,aa ⟨by rw[dR,aj];simpa using yl.1,yl.2.1,yl.2.2⟩⟩;rw[qC.out,jx.out,ov.2];simp[he]
        |false=>
         go_wp2_with fail;go_roundg v2.length
         case measure=>simp
         case rel=>have hb:=MW.out;rw[HY.out]at hb;have he:iV ch=[ch]:=(by unfold iV;rw[if_neg (by have h:=of_decide_eq_false hb.symm;omega)]);refine⟨u1++[ch],v2,by rw[ov.1];simp,rfl,?_,aa ⟨by rw[dR,aj];simpa using yl.1,yl.2.1,yl.2.2⟩⟩;rw[Co.out,ov.2];simp[he]
    |false=>
     as_aux_lemma=>
     simp only[eC,mF,ja,yI,yJ,gm,aG]at y0 y1 y2 y3 y4 y5⊢;have OKU:Hid (dV u):=aa (by have:=pL H.2.2.2.2.2.1 (bh.2 ⟨j,HR.1⟩);simp only[sN]at this;exact this.2.1);have Je:Hid (∀u1 v1:List dE,u=u1++v1->(bs ((A++([91]++[]))++u1.flatMap iV)).size<=1000000):=aa λu1 v1 hu=>by have h1:=H.2.2.2.2.2.2;rw[HJ.2,HR.2.2]at h1;simp only[jB,tu,aM,if_true,if_false]at h1;rw[hu,List.flatMap_append]at h1;simp only[dR,et,gd,aj,aH,aG]at h1;rw[dQ];simp only[dR,et,gd,aj,aH,aG];omega
     have xY:(bs A).size+1<=9223372036854775807:=(by omega);have yH:(bs A).size+1+1<=9223372036854775807:=by omega
     have HCA:=aa (jk A [91] ⟨#[91]⟩ (by apply fC;rfl));have HCB:=aa (jk (A++[91]) [33] ⟨#[33]⟩ (by apply fC;rfl));have Qd:W1.heap.size<(W1.iter (bs u) 0).heap.size:=(by rw[World.jt];omega);go_wp2_with fail;obtain⟨K,hK⟩:=dS W1.heap.size;go_loopg [3] u.length (λk s3 wx=>∃u1 v1:List dE,u=u1++v1/\k=v1.length/\s3=.string (bs ((A++([91]++[]))++u1.flatMap iV))/\Hid (wx.heap[K]? =some (.stringIter (bs u) (enc u1).length)/\Below W1.heap.size W1 wx/\K<wx.heap.size))
     case atStart=>exact⟨[],u,rfl,rfl,congrArg Value.string (by rw[HCA.out];simp),aa ⟨by rw[hK];exact dz _ _ _,ku (ay _ _) (af _) _ _,by rw[hK,World.jt];omega⟩⟩
     case round=>
      obtain⟨u1,v1,xR,rfl,rfl,HI⟩:=hrel;obtain⟨wx,rfl⟩:=dS (wr:World);obtain⟨X,hX⟩:=dS ((A++([91]++[]))++u1.flatMap iV);rw[<-hX];have ov:=eo xR hX;cases v1 with
      |nil=>
       have hk:=HI.1;rw[show u=u1 by rw[xR,bd]]at hk;have hn:=λty=>pD hk ty;subst hK;have hXs:(bs X).size<=1000000:=(by rw[hX];exact Je.out u1 [] xR);clear hk xR hX;have Bs:=aa (jk X [93] ⟨#[93]⟩ (by apply fC;rfl));have Us:(bs X).size+1<=9223372036854775807:=by omega
       go_wp2_with fail;go_roundg (n- (j+1))
       case measure=>omega
       case rel=>refine⟨j+1,rfl,rfl,by omega,X++[93],congrArg Value.string Bs.out,aa ⟨HW.1.trans (HI.2.1.mono HW.1.size),?_⟩⟩;rw[HJ.2,HR.2.2,ov.2,show u1=u by rw[ov.1,bd]];simp[jB,tu]
      |cons ch v2=>
       have gP:mz ch:=OKU.out ch (by rw[xR];simp);have hk:=HI.1;rw[xR]at hk;have hn:=λty=>nF gP hk ty;rw[<-xR]at hn;have Hm:Utf8.encode ((ch:Nat):Int)=bs [ch]:=fS gP;obtain⟨y,hy⟩:=dS (((ch:Nat):Int):Int);rw[<-hy]at hn Hm;have HY:=aa hy;subst hK;clear hk xR hX hy;go_upto_region 29 with fail
       obtain⟨W2,lz⟩:=dS (wx.iterAt W1.heap.size (bs u) ((enc u1).length+(e1 ch).length));rw[<-lz];have GR:W2.heap[W1.heap.size]? =some (.stringIter (bs u) ((enc u1).length+(e1 ch).length)):=(by rw[lz];exact Lib.iterAt_heap _ _ _ _ _ HI.1);have GU:Below W1.heap.size W1 W2:=by rw[lz];exact Lib.below_iterAt HI.2.1 (af _) _ _
       have GQ:W1.heap.size<W2.heap.size:=(by rw[lz,Lib.iterAt_size];exact HI.2.2);have yl:=jS GR GU GQ;clear GR GU GQ hn lz;obtain⟨BB,X5⟩:=dS (decide (y=92\/y=93\/y=33\/y=91));have MW:=aa X5;clear X5;go_cut [9,101,103,117]from 104 to 117 (λs7 s25 s27 s57 wz=>wz=W2/\s7=.int .i32 y/\s57=.bool BB)
       case first=>
        go_wp2_with fail
        all_goals go_meet
        all_goals refine⟨rfl,by first|rfl|exact congrArg (Value.int IntKind.i32) (by omega),?_⟩
        all_goals rw[MW.out]
        all_goals first
         |exact congrArg Value.bool (decide_eq_true (by omega)).symm
         |exact congrArg Value.bool (by rw[bO];simp only[cC,beq_iff_eq,decide_eq_true_eq];omega)
       case rest=>
        obtain⟨Mc,rfl,rfl⟩:=hcut;replace Mc:=Mc.symm;subst Mc;have hXs:(bs X).size<=1000000:=by rw[ov.2];exact Je.out u1 (ch::v2) ov.1
        have lJ:(bs [ch]).size<=4:=(by rw[dQ];have:=ec ch;simp;omega);have gB:(bs X).size+1+(bs [ch]).size<=9223372036854775807:=by omega
        have gF:(bs X).size+(bs [ch]).size<=9223372036854775807:=(by omega);have Us:(bs X).size+1<=9223372036854775807:=by omega
        have Co:=aa (lv X [ch]);have jx:=aa (lv (X++[92]) [ch]);have qC:=aa (jk X [92] ⟨#[92]⟩ (by apply fC;rfl));cases BB with
        |true=>
         go_wp2_with fail;go_roundg v2.length
         case measure=>simp
         case rel=>have hb:=MW.out;rw[HY.out]at hb;have he:iV ch=[92,ch]:=(by unfold iV;rw[if_pos (by have h:=of_decide_eq_true hb.symm;omega)]);refine⟨u1++[ch],v2,by rw[ov.1];simp,rfl,?_,aa ⟨by rw[dR,aj];simpa using yl.1,yl.2.1,yl.2.2⟩⟩;rw[qC.out,jx.out,ov.2];simp[he]
        |false=>
         go_wp2_with fail;go_roundg v2.length
         case measure=>simp
         case rel=>have hb:=MW.out;rw[HY.out]at hb;have he:iV ch=[ch]:=(by unfold iV;rw[if_neg (by have h:=of_decide_eq_false hb.symm;omega)]);refine⟨u1++[ch],v2,by rw[ov.1];simp,rfl,?_,aa ⟨by rw[dR,aj];simpa using yl.1,yl.2.1,yl.2.2⟩⟩;rw[Co.out,ov.2];simp[he]
   |range lo hi m=>
    have OKR:Hid (mz lo/\mz hi):=aa (by have:=pL H.2.2.2.2.2.1 (bh.2 ⟨j,HR.1⟩);simp only[sN]at this;obtain⟨a,b,_⟩:=this;unfold p8 at a b;unfold mz;omega);have hen1:Utf8.encode ((lo:Nat):Int)=bs [lo]:=fS OKR.1;have hen2:Utf8.encode ((hi:Nat):Int)=bs [hi]:=fS OKR.2;have hcs1:(bs [lo]).size<=4:=by rw[dQ];have:=ec lo;simp;omega
    have hcs2:(bs [hi]).size<=4:=(by rw[dQ];have:=ec hi;simp;omega);have xY:(bs A).size+1<=9223372036854775807:=by omega
    have yH:(bs A).size+1+1<=9223372036854775807:=(by omega);have hA3:(bs [lo]).size+1<=9223372036854775807:=by omega
    have hA4:(bs [lo]).size+1+(bs [hi]).size<=9223372036854775807:=(by omega);have hA5:(bs A).size+1+((bs [lo]).size+1+(bs [hi]).size)<=9223372036854775807:=by omega
    have hA6:(bs A).size+1+1+((bs [lo]).size+1+(bs [hi]).size)<=9223372036854775807:=(by omega);have hA7:(bs A).size+1+((bs [lo]).size+1+(bs [hi]).size)+1<=9223372036854775807:=by omega
    have hA8:(bs A).size+1+1+((bs [lo]).size+1+(bs [hi]).size)+1<=9223372036854775807:=(by omega);cases m with
    |true=>
     as_aux_lemma=>
     simp only[eC,mF,ja,yI,yJ,gm,aG]at y0 y1 y2 y3 y4 y5⊢;go_wp2_with fail;go_roundg (n- (j+1))
     case measure=>omega
     case rel=>refine⟨j+1,rfl,rfl,by omega,A++[91,33,lo,45,hi,93],congrArg Value.string ?_,aa ⟨HW.1,by rw[HJ.2,HR.2.2];simp[jB,tu]⟩⟩;rw[show(ByteArray.mk #[91])=bs [91]by apply fC;rfl,show(ByteArray.mk #[33])=bs [33]by apply fC;rfl,show(ByteArray.mk #[45])=bs [45]by apply fC;rfl,show(ByteArray.mk #[93])=bs [93]by apply fC;rfl];simp only[lv];simp
    |false=>
     as_aux_lemma=>
     simp only[eC,mF,ja,yI,yJ,gm,aG]at y0 y1 y2 y3 y4 y5⊢;go_wp2_with fail;go_roundg (n- (j+1))
     case measure=>omega
     case rel=>refine⟨j+1,rfl,rfl,by omega,A++[91,lo,45,hi,93],congrArg Value.string ?_,aa ⟨HW.1,by rw[HJ.2,HR.2.2];simp[jB,tu]⟩⟩;rw[show(ByteArray.mk #[91])=bs [91]by apply fC;rfl,show(ByteArray.mk #[45])=bs [45]by apply fC;rfl,show(ByteArray.mk #[93])=bs [93]by apply fC;rfl];simp only[lv];simp
   |alt ks=>
    as_aux_lemma=>
    simp only[eC,mF,ja,yI,yJ,gm]at y0 y1 y2 y3 y4 y5⊢;have HGOK:=aa (show ks≠[]/\jE ks by have:=pL H.2.2.2.2.2.1 (bh.2 ⟨j,HR.1⟩);simp only[sN]at this;exact this);have BM:=aa HR.2.1;obtain⟨nk,sY⟩:=dS ks.length;rw[<-sY]at y5⊢;have RZ:nk<=140737488355328:=by rw[sY];exact HR.2.1.1
    have BK:=aa sY;clear sY;have HCA:=aa (jk A [123] ⟨#[123]⟩ (by apply fC;rfl));have xY:(bs A).size+1<=9223372036854775807:=by omega
    go_wp2_with fail;go_loopg [133,3] nk (λk YG s3 wx=>∃i:Nat,k=nk-i/\YG=.int .i64 i/\i<=nk/\∃X:List dE,s3=.string (bs X)/\Hid (Below W1.heap.size W1 wx/\R=X++(oF ks i++([125]++fm (gl.drop (j+1))))))
    case atStart=>exact⟨0,rfl,rfl,aU _,A++[123],congrArg Value.string HCA.out,aa ⟨ay _ _,by rw[HJ.2,HR.2.2];simp[jB,oF]⟩⟩
    case round=>
     obtain⟨i,rfl,rfl,BX,X,rfl,HM⟩:=hrel;have hXs:(bs X).size<=1000000:=by have h1:=H.2.2.2.2.2.2;rw[HM.2,dR,aj]at h1;rw[dQ];omega
     by_cases sL:i<nk
     ·have GV:=gW ((i:Int)+1) (by omega);have BH:decide ((i:Int)<(nk:Int))=true:=by simp;omega
      have Xh:(0:Int)<=(i:Int):=(by omega);have Xg:(i:Int)<(nk:Int):=by omega
      have rA:i<ks.length:=(by rw[<-BK.out];exact sL);obtain⟨bk,YO,rfl,hK⟩:=BM.2 HGOK.1;obtain⟨kd,kg⟩:∃kd,ks[i]? =some kd:=⟨_,ah rA⟩;have jo:Below w0.heap.size w0 wr:=H.2.2.1.trans ((HW.1.trans (HM.1.mono HW.1.size)).mono h0);obtain⟨ak,ck,Hr,vB⟩:=ua.kid hK jo kg;obtain⟨nkd,oR⟩:=dS kd.length;rw[<-oR]at Hr vB;have xU:=Dw HGOK.2 (bh.2 ⟨i,kg⟩);rcases Nat.eq_zero_or_pos i with hiz|hiz
      ·have ZG:oF ks i=fm kd++oF ks (i+1):=(by subst hiz;exact JX kg);have hi0:decide ((0:Int)<(i:Int))=false:=by simp;omega
       have hi0':decide (0<i)=false:=(by simp;omega);have HIZ:=aa hiz;clear hiz;have Hh:(enc (fm kd)).length<=1000000:=by have h1:=H.2.2.2.2.2.2;rw[HM.2,ZG]at h1;simp only[dR,aj]at h1;omega
       have vE:=aa (H.2.2.2.1 ks (bh.2 ⟨j,HR.1⟩) kd (bh.2 ⟨i,kg⟩) _ wr vB jo (by have:=HM.1.size;have:=HW.1.size;omega) xU Hh);have Dq:(bs (fm kd)).size<=1000000:=by rw[dQ];exact Hh
       have gB:(bs X).size+(bs (fm kd)).size<=9223372036854775807:=(by omega);have HKF:=aa ZG;clear kg jo vB oR xU ZG Hh hK;go_wp2_with fail;refine vE.mono ?_;rintro e w2 ⟨rfl,eT⟩;have jR:=aa eT;clear eT;go_wp2_with fail;go_roundg (nk- (i+1))
       case measure=>omega
       case rel=>exact⟨i+1,rfl,rfl,by omega,X++fm kd,congrArg Value.string (lv _ _),aa ⟨HM.1.trans (jR.mono HM.1.size),by rw[HM.2,HKF.out];simp⟩⟩
      ·have ZG:oF ks i=44::(fm kd++oF ks (i+1)):=by
        obtain⟨i',rfl⟩:∃i',i=i'+1:=⟨i-1,by omega⟩;exact JY kg
       have hi0':decide (0<i)=true:=(by simp;omega);have Hh:(enc (fm kd)).length<=1000000:=by have h1:=H.2.2.2.2.2.2;rw[HM.2,ZG]at h1;simp only[dR,et,aj]at h1;omega
       have vE:=aa (H.2.2.2.1 ks (bh.2 ⟨j,HR.1⟩) kd (bh.2 ⟨i,kg⟩) _ wr vB jo (by have:=HM.1.size;have:=HW.1.size;omega) xU Hh);have Dq:(bs (fm kd)).size<=1000000:=by rw[dQ];exact Hh
       have gB:(bs X).size+1+(bs (fm kd)).size<=9223372036854775807:=(by omega);have gF:(bs X).size+1<=9223372036854775807:=by omega
       have hi0:decide ((0:Int)<(i:Int))=true:=(by simp;omega);have Bs:=aa (jk X [44] ⟨#[44]⟩ (by apply fC;rfl));have HKF:=aa ZG;clear kg jo vB oR xU ZG Hh hK;go_wp2_with fail;refine vE.mono ?_;rintro e w2 ⟨rfl,eT⟩;have jR:=aa eT;clear eT;go_wp2_with fail;go_roundg (nk- (i+1))
       case measure=>omega
       case rel=>exact⟨i+1,rfl,rfl,by omega,X++[44]++fm kd,congrArg Value.string (by rw[Bs.out,lv]),aa ⟨HM.1.trans (jR.mono HM.1.size),by rw[HM.2,HKF.out];simp⟩⟩
     ·have BH:decide ((i:Int)<(nk:Int))=false:=(by simp;omega);have gF:(bs X).size+1<=9223372036854775807:=by omega
      have Bs:=aa (jk X [125] ⟨#[125]⟩ (by apply fC;rfl));go_wp2_with fail;go_roundg (n- (j+1))
      case measure=>omega
      case rel=>exact⟨j+1,rfl,rfl,by omega,X++[125],congrArg Value.string Bs.out,aa ⟨HW.1.trans (HM.1.mono HW.1.size),by rw[HM.2,OB (by rw[<-BK.out];omega) HGOK.1];simp⟩⟩
  ·have jA:decide ((j:Int)<(n:Int))=false:=(by simp;omega);go_wp2_with fail;go_ret;obtain⟨h1,h2⟩:=HJ.out;rw[aL (by rw[<-H.1];omega),fm,bd]at h2;exact⟨by rw[h2];rfl,h1⟩
theorem f10 (w0:World):∀(N:Nat) (gl:List Gb),SizeOf.sizeOf gl<=N->∀(v:Value) (w:World),tV w0 (ox gl) v->Below w0.heap.size w0 w->w0.heap.size<=w.heap.size->iY gl->(enc (fm gl)).length<=1000000->Calls prog 10 #[v] w λe w'=>e=.returned (.string (bs (fm gl)))/\Below w.heap.size w w'
 |0,gl,h,v,w,h1,h2,h3,h4,h5=>f10s w0 gl (λks hk k tG=>by have:=jJ hk tG;omega) v w h1 h2 h3 h4 h5
 |N+1,gl,h,v,w,h1,h2,h3,h4,h5=>f10s w0 gl (λks hk k tG=>f10 w0 N k (by have:=jJ hk tG;omega)) v w h1 h2 h3 h4 h5
end Go.Proofs.YtfejflhgaphilaaGreatDoor
