/- The reference's match: globEnds. -/
import Derived.Test.YtfejflhgaphilaaGreatDoorC36
import Derived.Test.YtfejflhgaphilaaGreatDoorC13
import Derived.Test.YtfejflhgaphilaaGreatDoorC37
set_option linter.all false
set_option maxRecDepth 100000
set_option maxHeartbeats 64000000
open Go.Proofs.Tryz
namespace Go.Proofs.YtfejflhgaphilaaGreatDoor
open Go.RowKit Gm
theorem Tryz.Y0:(prog.info? 4).map (λi=>(i.zero,i.size,i.bytes))=some (some (.bool false),1,1):=by kernel_rfl
def qv (n:Nat):Array Value:=((List.range n).map λ_=>Value.bool false).toArray
theorem Rm (n:Nat) (hn:n<=2000000) (wx:World):(Instr.makeSlice 40 (.int .i64 n) (.int .i64 n)).run prog wx=.ok (.slice (some ⟨wx.heap.size,0,none⟩) n n) (wx.alloc (.cells (qv n) 4)):=by
 obtain⟨i0,hi,gD,gB,gF⟩:=info_parts Tryz.Y0;have:=run_make (P:=prog) wx 40 4 i0 (.bool false) underlying40 hi gD .i64 .i64 n n (by omega) (by omega) (by rw[gF];omega) (by omega);have e:madeCells #[Value.bool false] n=qv n:=by apply Array.ext_getElem?;intro i;simp[madeCells,qv];by_cases h:i<n<;>simp[h,Nat.mod_one]
 rw[<-e];simpa[gB,Value.cells]using this
def Endp (S s:List dE) (w w':World) (bf:Nat) (f:List Bool) (gl:List Gb) (e:Ending):Prop:=∃v b,e=.returned v/\Below w.heap.size w w'/\oN w' v (km S s gl f) b/\(b=bf\/w.heap.size<=b)
theorem f31s (w0:World) (S s:List dE) (vs vt:Value) (hs:dV s) (Mg:s.length<=1000000) (B5:S.length<=1000000) (gl:List Gb) (hg:iY gl) (Jq:fU gl) (IH:∀ks,.alt ks∈gl->∀k∈ks,∀(v vf:Value) (bf:Nat) (f:List Bool) (w:World),tV w0 (ox k) v->Below w0.heap.size w0 w->ek w vs S->ek w vt s->oN w vf f bf->f.length=s.length+1->Calls prog 31 #[v,vs,vt,vf] w λe w'=>Endp S s w w' bf f k e) (v vf:Value) (bf:Nat) (f:List Bool) (w:World) (hv:tV w0 (ox gl) v) (hb:Below w0.heap.size w0 w) (hS:ek w vs S) (yG:ek w vt s) (hf:oN w vf f bf) (kT:f.length=s.length+1):Calls prog 31 #[v,vs,vt,vf] w λe w'=>Endp S s w w' bf f gl e:=by
 obtain⟨a,c,rfl,q7,mT⟩:=hv.row;obtain⟨at',ct,rfl⟩:=px yG;obtain⟨asp,cs,rfl⟩:=px hS;obtain⟨n,hn⟩:=dS gl.length;obtain⟨L,hL⟩:=dS s.length;obtain⟨LS,hLS⟩:=dS S.length;rw[<-hn]at q7⊢;rw[<-hL]at yG kT Mg IH⊢;rw[<-hLS]at hS B5 IH⊢;obtain⟨R,hR⟩:=dS (km S s gl f);have H:=Ur hn mT hb IH hR hL hLS;have HG:=jS hg Jq hs;have HF:=eo hf kT;have HS:=eo hS yG;clear hn mT hb IH hR hL hLS hg Jq hs hf kT hS yG hv;unfold maxLen at q7;have ZA:∀wx:World,(Instr.makeSlice 40 (.int .i64 ((L:Int)+1)) (.int .i64 ((L:Int)+1))).run prog wx=.ok (.slice (some ⟨wx.heap.size,0,none⟩) (L+1) (L+1)) (wx.alloc (.cells (qv (L+1)) 4)):=λwx=>Rm (L+1) (by omega) wx;have hwL:=gW ((L:Int)+1) (by omega);go_enter func31,ntmps31;go_wp2_with fail;go_loopg [22,3] n (λk s22 s3 wr=>∃j:Nat,k=n-j/\s22=.int .i64 j/\j<=n/\∃fj bj,Hid (Below w.heap.size w wr/\oN wr s3 fj bj/\fj.length=L+1/\R=km S s (gl.drop j) fj/\(bj=bf\/w.heap.size<=bj)))
 case atStart=>exact⟨0,rfl,rfl,aU _,f,bf,aa ⟨ay _ _,HF.1,HF.2,by rw[H.2.2.2.2.1,bK],.inl rfl⟩⟩
 case round=>
  obtain⟨j,rfl,rfl,hj,fj,bj,HJ⟩:=hrel;obtain⟨wA,Xj⟩:=dS wr;subst Xj;by_cases gM:j<n
  ·have kY:=gW ((j:Int)+1) (by omega);have jA:decide ((j:Int)<(n:Int))=true:=by simp;omega
   have i1:(0:Int)<=(j:Int):=(by omega);have i2:(j:Int)<(n:Int):=by omega
   have mV:j<gl.length:=(by rw[<-H.1];exact gM);obtain⟨g,hg⟩:∃g,gl[j]? =some g:=⟨_,ah mV⟩;obtain⟨b,o,rfl,hS⟩:=H.2.1 (by intro e;rw[e]at mV;simp at mV);have o0:Below w0.heap.size w0 wA:=H.2.2.1.trans (HJ.1.mono H.2.2.1.size);obtain⟨a2,c2,g0,g1,g2,g3,g4,g5,kg⟩:=tW.cells hS o0 hg;have hgm:g∈gl:=bh.2 ⟨j,hg⟩;have Hn:=Ks (S:=S) (s:=s) hg fj;obtain⟨ob,cb,EB,sy,OP⟩:=HJ.2.1;rw[HJ.2.2.1]at EB;subst EB;have HR:=Fp hgm o0 kg Hn (xh HG.1 hgm) (rH HG.2.1 hgm);have HB:=eo sy OP;have Jv:=eo (HS.1.below HJ.1 (af _)) (HS.2.below HJ.1 (af _));clear hg hS o0 kg hgm Hn sy OP mV;go_upto_region 5 with fail
   obtain⟨G,hG⟩:=dS wA.heap.size;obtain⟨T,hT⟩:=dS (G+1);obtain⟨W0,pV⟩:=dS ((wA.alloc (.cells #[.int .u8 (eC g),.bool (mF g),.string (bs (ja g)),.int .i32 (yI g),.int .i32 (yJ g),.slice a2 (gm g).length c2] 97)).alloc (.cells (qv (L+1)) 4));rw[<-pV,<-hG,<-hT];have hgb:W0.heap[G]? =some (.cells #[.int .u8 (eC g),.bool (mF g),.string (bs (ja g)),.int .i32 (yI g),.int .i32 (yJ g),.slice a2 (gm g).length c2] 97):=(by rw[pV,hG];exact heap_alloc2_old _ _ _);have htb:jl W0 T (L+1) (λ_=>false):=by unfold jl;rw[pV,hT,hG];exact heap_alloc2_new _ _ _
   have Sy:Below wA.heap.size wA W0:=(by rw[pV];go_grown);have gJ:W0.heap.size=T+1:=by rw[pV,ab,ab,hT,hG]
   have hjT:bj<G:=(by rw[hG];exact HB.1);have y0:W0.cell? ⟨G,0,none⟩=some (.int .u8 (eC g)):=cell_of hgb rfl;have y5:W0.cell? ⟨G,5,none⟩=some (.slice a2 (gm g).length c2):=cell_of hgb rfl;have HW:=Ur hgb htb Sy gJ hjT hG hT;clear hgb htb Sy gJ hjT hG hT pV g0 g1 g2 g3 g4 g5;have iT:∀(wx:World) (F:Nat->Bool),Below wA.heap.size wA wx->jl wx T (L+1) F->(List.range (L+1)).map F=rL S s g fj->(Below w.heap.size w wx/\oN wx (.slice (some ⟨T,0,none⟩) (L+1) (L+1)) ((List.range (L+1)).map F) T/\((List.range (L+1)).map F).length=L+1/\R=km S s (gl.drop (j+1)) ((List.range (L+1)).map F)/\(T=bf\/w.heap.size<=T)):=by
    intro wx F h1 h2 h3;refine⟨HJ.1.trans (h1.mono HJ.1.size),h2.bools,by simp,?_,.inr ?_⟩
    ·rw[h3,HJ.2.2.2.1,HR.2.2.2.1]
    ·have:=HJ.1.size;have:=HW.2.2.2.2.2;omega
   have HE:=aa iT;clear iT;by_cases hk6:eC g=6
   ·as_aux_lemma=>
     obtain⟨ks,rfl⟩:=xi hk6;obtain⟨nk,sY⟩:=dS ks.length;simp only[eC,gm,<-sY]at y0 y5;have RZ:nk<=9223372036854775807:=by have:=HR.2.2.1.1;simp only[gm]at this;omega
     have BK:=aa sY;clear sY;go_wp2_with fail;go_loopg [36] nk (λk s36 wx=>∃i:Nat,k=nk-i/\s36=.int .i64 i/\i<=nk/\∃tt:List Bool,Hid (ei (λx=>x=T) W0 wx/\jl wx T (L+1) (λk=>tt.getD k false)/\tt.length=L+1/\rL S s (.alt ks) fj=pM S s (ks.drop i) fj tt))
     case atStart=>exact⟨0,rfl,rfl,aU _,List.replicate (L+1) false,aa ⟨ei.refl _ _,HW.2.1.congr λk _=>(zZ _ _).symm,by simp,by rw[bK,rL,H.2.2.2.2.2.1]⟩⟩
     case round=>
      obtain⟨i,rfl,rfl,BX,tt,HM⟩:=hrel;obtain⟨wx,hwx⟩:=dS wr;subst hwx;by_cases jn:i<nk
      ·have GV:=gW ((i:Int)+1) (by omega);have BH:decide ((i:Int)<(nk:Int))=true:=by simp;omega
       have Xh:(0:Int)<=(i:Int):=(by omega);have Xg:(i:Int)<(nk:Int):=by omega
       have rA:i<ks.length:=(by rw[<-BK.out];exact jn);obtain⟨bk,YO,rfl,hK⟩:=HR.2.2.1.2 (by intro e;simp only[gm]at e;rw[e]at rA;simp at rA);obtain⟨kd,kg⟩:∃kd,ks[i]? =some kd:=⟨_,ah rA⟩;have jo:Below wA.heap.size wA wx:=HW.2.2.1.trans (HM.1.below HW.2.2.1.size λb hb=>by subst hb;have:=HW.2.2.2.2.2;omega);have ZS:=HR.2.1.trans (jo.mono HR.2.1.size);obtain⟨ak,ck,Hr,vB⟩:=ua.kid hK ZS kg;have hkm:kd∈ks:=bh.2 ⟨i,kg⟩;have ka:=H.2.2.2.1 ks HR.1 kd hkm _ (.slice (some ⟨bj,ob,none⟩) (L+1) cb) bj fj wx vB ZS (Jv.1.below jo (af _)) (Jv.2.below jo (af _)) (HJ.2.1.below jo) HJ.2.2.1;have oa:(km S s kd fj).length=L+1:=(by rw[lq kd fj (by rw[HJ.2.2.1,H.2.2.2.2.2.1]),H.2.2.2.2.2.1]);have Mn:=Kt (S:=S) (s:=s) kg fj tt;obtain⟨nkd,oR⟩:=dS kd.length;rw[<-oR]at Hr ka;have vE:=aa ka;have HN:=jS oa Mn jo;clear kg vB jo ZS ka oR hK Mn oa hkm rA;go_wp2_with fail;refine vE.mono ?_;rintro e w2 ⟨vr,br,rfl,eT,⟨o2,c3,rfl,hbl2,ZT⟩,eK⟩;rw[HN.1];obtain⟨r,hr⟩:=dS (km S s kd fj);rw[<-hr]at ZT;have hTx:T<wx.heap.size:=HM.2.1.lt;have hneT:br≠T:=by
        rcases eK with e|e
        ·have:=HW.2.2.2.2;omega
        ·omega
       have jR:=Fp eT hbl2 ZT hneT hr hTx;clear eT hbl2 ZT eK hneT hr hTx;go_wp2_with fail;go_loopg [46] (L+1) (λk s46 wy=>∃m:Nat,k=L+1-m/\s46=.int .i64 m/\m<=L+1/\Hid (ei (λx=>x=T) w2 wy/\jl wy T (L+1) (λk=>if k<m then(tt.getD k false||r.getD k false)else tt.getD k false)))
       case atStart=>exact⟨0,rfl,rfl,aU _,aa ⟨ei.refl _ _,(HM.2.1.keep jR.1).congr λk _=>by rw[if_neg (by omega)]⟩⟩
       case round=>
        obtain⟨m,rfl,rfl,hmle,HY⟩:=hrel;obtain⟨wy,hwy⟩:=dS wr;subst hwy;by_cases hmn:m<L+1
        ·have hw1m:=gW ((m:Int)+1) (by omega);have hdm:decide ((m:Int)<(L:Int)+1)=true:=by simp;omega
         have i1m:(0:Int)<=(m:Int):=(by omega);have i2m:(m:Int)<(L:Int)+1:=by omega
         obtain⟨x,hx⟩:∃x,r[m]? =some x:=⟨_,ah (by rw[jR.2.2.2.2.1,HN.1];exact hmn)⟩;have nH:wy.cell? ⟨br,o2+m,none⟩=some (.bool x):=(aF (w:=w2) (HY.1.same br jR.2.1 jR.2.2.2.1)).trans (jR.2.2.1 m x hx);have Qh:=HY.2.cell hmn;rw[if_neg (by omega)]at Qh;have Uz:=HY.2.frozen m;have hxD:r.getD m false=x:=by rw[bI,hx];rfl
         have HX:=aa hxD;clear hx hxD;obtain⟨y,hy⟩:=dS (tt.getD m false);rw[<-hy]at Qh;have HYY:=aa hy;clear hy;cases y with
         |true=>
          go_wp2_with fail;go_roundg (L+1- (m+1))
          case measure=>omega
          case rel=>exact⟨m+1,rfl,rfl,by omega,aa ⟨HY.1.store _ rfl,(HY.2.set m true).congr λk hk=>by
           by_cases e:k=m
           ·subst e;rw[if_pos rfl,if_pos (by omega),<-HYY.out];rfl
           ·rw[if_neg e];by_cases h:k<m
            ·rw[if_pos h,if_pos (by omega)]
            ·rw[if_neg h,if_neg (by omega)]⟩⟩
         |false=>
          go_wp2_with fail;go_roundg (L+1- (m+1))
          case measure=>omega
          case rel=>exact⟨m+1,rfl,rfl,by omega,aa ⟨HY.1.store _ rfl,(HY.2.set m x).congr λk hk=>by
           by_cases e:k=m
           ·subst e;rw[if_pos rfl,if_pos (by omega),<-HYY.out,HX.out];rfl
           ·rw[if_neg e];by_cases h:k<m
            ·rw[if_pos h,if_pos (by omega)]
            ·rw[if_neg h,if_neg (by omega)]⟩⟩
        ·have hdm:decide ((m:Int)<(L:Int)+1)=false:=(by simp;omega);go_wp2_with fail;go_roundg (nk- (i+1))
         case measure=>omega
         case rel=>exact⟨i+1,rfl,rfl,by omega,YL tt r,aa ⟨(HM.1.then (ei.grown jR.1)).then HY.1,HY.2.congr λk hk=>by rw[if_pos (by omega),F6 (by rw[HM.2.2.1,jR.2.2.2.2.1,HN.1])],by rw[tn (by rw[HM.2.2.1,jR.2.2.2.2.1,HN.1]),HM.2.2.1],by rw[HM.2.2.2,HN.2.1,<-jR.2.2.2.2.1]⟩⟩
      ·have BH:decide ((i:Int)<(nk:Int))=false:=(by simp;omega);go_wp2_with fail;go_roundg (n- (j+1))
       case measure=>omega
       case rel=>have h1:=HM.2.2.2;rw[aL (by rw[<-BK.out];omega),pM]at h1;have h2:=HE.out wx _ (HW.2.2.1.trans (HM.1.below HW.2.2.1.size λb hb=>by subst hb;have:=HW.2.2.2.2.2;omega)) HM.2.1 (by rw[h1];have:=Rk tt;rw[HM.2.2.1]at this;exact this);exact⟨j+1,rfl,rfl,by omega,_,T,aa h2⟩
   ·obtain⟨gk,xU⟩:=dS (eC g);rw[<-xU]at y0 hk6;have HGK:=eo xU hk6;have Xi:Hid (∀wx,ei (λx=>x=T) W0 wx->Below wA.heap.size wA wx):=aa λwx h=>HW.2.2.1.trans (h.below HW.2.2.1.size λb hb=>by subst hb;have:=HW.2.2.2.2.2;omega);clear xU;go_wp2_with fail;obtain⟨B6,hB6⟩:=dS (gk==6);rw[<-hB6];clear y0 y5 hk6 hB6;go_loopg [66] (L+1) (λk s66 wx=>∃i:Nat,k=L+1-i/\s66=.int .i64 i/\i<=L+1/\Hid (ei (λx=>x=T) W0 wx/\jl wx T (L+1) (Fs S s g fj i)))
    case atStart=>exact⟨0,rfl,rfl,aU _,aa ⟨ei.refl _ _,HW.2.1⟩⟩
    case round=>
     obtain⟨i,rfl,rfl,BX,HM⟩:=hrel;obtain⟨wx,hwx⟩:=dS wr;subst hwx;by_cases jn:i<L+1
     ·have GV:=gW ((i:Int)+1) (by omega);have BH:decide ((i:Int)<(L:Int)+1)=true:=by simp;omega
      have Xh:(0:Int)<=(i:Int):=(by omega);have Xg:(i:Int)<(L:Int)+1:=by omega
      obtain⟨x,hx⟩:∃x,fj[i]? =some x:=⟨_,ah (by rw[HJ.2.2.1];exact jn)⟩;have nH:wx.cell? ⟨bj,ob+i,none⟩=some (.bool x):=dF (Xi.out wx HM.1) _ _ (HB.2 i x hx);have hxD:fj.getD i false=x:=(by rw[bI,hx];rfl);have Xn:∀k,Fs S s g fj (i+1) k=(Fs S s g fj i k||(x&&tZ S s g i k)):=λk=>by rw[RE,hxD]
      clear hx hxD;have HX:=aa Xn;clear Xn;cases x with
      |false=>
       go_wp2_with fail;go_roundg (L+1- (i+1))
       case measure=>omega
       case rel=>exact⟨i+1,rfl,rfl,by omega,aa ⟨HM.1,HM.2.congr λk _=>by rw[HX.out];simp⟩⟩
      |true=>
       have Qg:wx.heap[G]? =some (.cells #[.int .u8 (eC g),.bool (mF g),.string (bs (ja g)),.int .i32 (yI g),.int .i32 (yJ g),.slice a2 (gm g).length c2] 97):=(HM.1.same G (by have:=HW.2.2.2;omega) (by have:=HW.2.2.2.2.2;omega)).trans HW.1;have y0:wx.cell? ⟨G,0,none⟩=some (.int .u8 (eC g)):=cell_of Qg rfl;have y1:wx.cell? ⟨G,1,none⟩=some (.bool (mF g)):=cell_of Qg rfl;have y2:wx.cell? ⟨G,2,none⟩=some (.string (bs (ja g))):=cell_of Qg rfl;have y3:wx.cell? ⟨G,3,none⟩=some (.int .i32 (yI g)):=cell_of Qg rfl;have y4:wx.cell? ⟨G,4,none⟩=some (.int .i32 (yJ g)):=cell_of Qg rfl;have HGX:=aa Qg;have HRX:=eo (Jv.1.below (Xi.out wx HM.1) (af _)) (Jv.2.below (Xi.out wx HM.1) (af _));have qB:Hid (∀(wz:World) (F:Nat->Bool),ei (λx=>x=T) W0 wz->jl wz T (L+1) F->(∀k,k<L+1->F k=(Fs S s g fj i k||tZ S s g i k))->ei (λx=>x=T) W0 wz/\jl wz T (L+1) (Fs S s g fj (i+1))):=aa λwz F h1 h2 h3=>⟨h1,h2.congr λk hk=>by rw[HX.out,h3 k hk];rfl⟩;clear Qg;cases g with
       |alt ks=>exact absurd HGK.1 (by have:=HGK.2;simpa[eC]using this)
       |text t=>
        as_aux_lemma=>
         simp only[eC,ja]at y0 y2;clear y1 y3 y4;have Hj:=HR.2.2.2.2.1;have Kc:=HR.2.2.2.2.2;simp only[sN]at Hj;simp only[kc]at Kc;have ic:t.length<=100:=ao (eI t).1 Kc;obtain⟨cap,sM,j7,kb⟩:=pP Hj.2 (by omega) wx;obtain⟨W3,kl⟩:=dS (wx.drew.alloc (.cells ((t.map λc=>Value.int .i32 ((c:Nat):Int)).toArray++Array.replicate (cap-t.length) (.int .i32 0)) 21));rw[<-kl]at sM;have gQ:Below wx.heap.size wx W3:=(by rw[kl];go_grown);obtain⟨nu,Ux⟩:=dS t.length;rw[<-Ux]at sM ic;have z2:=dF gQ _ _ y2;have OS:=HM.2.keep gQ;have HC:=rr Ux OS (HM.1.then (ei.grown gQ)) Hj (HRX.2.below gQ (af _));have hwiu:=gW ((i:Int)+(nu:Int)) (by omega);clear Ux OS gQ Hj Kc kl j7 kb;by_cases oS:i+nu<=L
         ·have hdf:decide ((i:Int)+(nu:Int)<=(L:Int))=true:=(by simp;omega);have eK:0<s.length:=by
           have h1:t.length≠0:=λe=>HC.2.2.2.1.1 (b7.1 e);have:=HC.1;have:=H.2.2.2.2.2.1;omega
          obtain⟨ch0,yE⟩:∃ch,s[0]? =some ch:=⟨_,ah eK⟩;obtain⟨bt,ot,rfl,_⟩:=rh HC.2.2.2.2 yE;have hnu0:0<nu:=by have h1:t.length≠0:=λe=>HC.2.2.2.1.1 (b7.1 e);have:=HC.1;omega
          clear yE eK;have hLc:L<=ct:=by
           rcases HC.2.2.2.2 with⟨e,_⟩|⟨_,_,_,e,h1,_⟩
           ·cases e
           ·simp only[au]at e;have:=H.2.2.2.2.2.1;omega
          have hcr:∀q,(convert 98 9 (.slice (some ⟨bt,ot+i,none⟩) nu (ct-i))).run prog (W3.drewN q)=.ok (.string (bs ((s.drop i).take t.length))) (W3.drewN q):=λq=>by refine qx (N5 (HC.2.2.2.2.below (below_drewN (ay _ _) q) (af _)) (by rw[H.2.2.2.2.2.1]at oS;exact oS) HC.1 hLc ?_) (λc hc=>HG.2.2 c (cL (dm hc)));exact H.2.2.2.2.2.1
          have hcut:=RV (S:=S) HG.2.2 HC.2.2.2.1.2 i (by rw[<-HC.1,<-H.2.2.2.2.2.1];exact oS);have HCR:=eo (hcr 1) hcut;clear hcr hcut;obtain⟨tx,BF⟩:=dS (bs ((s.drop i).take t.length));rw[<-BF]at HCR;clear BF;have f1:(0:Int)<=(i:Int)+(nu:Int)/\(i:Int)+(nu:Int)<=(ct:Int):=(by omega);have f2:i<=((i:Int)+(nu:Int)).toNat:=by omega
          have f3:¬ct=i:=(by omega);have f4:((i:Int)+(nu:Int)).toNat-i=nu:=by omega
          have FF:=sW f1 f2 f3 f4;have Qh:=HC.2.1.cell (k:=i+nu) (by omega);have Uz:=HC.2.1.frozen (i+nu);have i3:(i:Int)+(nu:Int)<(L:Int)+1:=by omega
          have i4:(0:Int)<=(i:Int)+(nu:Int):=(by omega);have i5:((i:Int)+(nu:Int)).toNat=i+nu:=by omega
          clear f1 f2 f3 f4;go_upto_region 23 with fail
          refine dP (λw'=>(convert 98 9 (.slice (some ⟨bt,ot+i,none⟩) nu (ct-i))).run prog w'=.ok (.string tx) w'/\w'.cell? ⟨G,2,none⟩=some (.string (bs t))) [(true,0),(true,1),(true,2),(true,3),(true,4),(true,5),(true,6),(true,7),(true,8),(true,9),(true,10),(true,11),(true,12),(true,13),(true,14),(true,15),(true,16),(true,17),(true,18)] (by kernel_rfl) (by kernel_rfl) ⟨HCR.1,z2⟩ (λhHeld=> ?_);iterate 19
           refine dL (v:= ?_) rfl (λ_ _ _ h=>h) (by rfl) ?_ hHeld ?_;rotate_left
           ·intro w hSw;obtain⟨qV,yG⟩:=hSw;(try dsimp only at qV yG);go_simp;(try rw[if_pos FF.1.2,if_neg FF.2.2.1])
            try with_reducible rfl
           simp only[Act.put,iX]
          clear hHeld;refine dX rfl ?_;have hcut:=HCR.2;obtain⟨B,hB⟩:=dS (t.isPrefixOf (s.drop i));rw[<-hB]at hcut;have MW:=aa hB;clear hB;have UC:ei (λx=>x=T) W0 W3.drew/\jl W3.drew T (L+1) (Fs S s (.text t) fj i):=⟨HC.2.2.1.then (ei.grown (below_drewN (ay _ _) 1)),HC.2.1⟩;have HWD:=aa UC;clear UC;cases B with
          |true=>
           go_wp2_with fail;go_roundg (L+1- (i+1))
           case measure=>omega
           case rel=>exact⟨i+1,rfl,rfl,by omega,aa (qB.out _ _ (HWD.1.store _ rfl) (HWD.2.set (i+nu) true) λk hk=>by rw[tZ,<-MW.out,Ad,HC.1])⟩
          |false=>
           go_wp2_with fail;go_roundg (L+1- (i+1))
           case measure=>omega
           case rel=>exact⟨i+1,rfl,rfl,by omega,aa (qB.out _ _ HWD.1 HWD.2 λk hk=>by rw[tZ,<-MW.out,cj,Bool.or_false])⟩
         ·have hdf:decide ((i:Int)+(nu:Int)<=(L:Int))=false:=(by simp;omega);go_wp2_with fail;go_big_quiet (fail);go_wp2_with fail;go_roundg (L+1- (i+1))
          case measure=>omega
          case rel=>exact⟨i+1,rfl,rfl,by omega,aa (qB.out _ _ (HC.2.2.1.then (ei.grown (below_drewN (ay _ _) _))) (HC.2.1.keep (below_drewN (ay _ _) _)) λk hk=>by have:(decide (k=i+t.length)&&t.isPrefixOf (s.drop i))=false:=(by rw[decide_eq_false (by rw[<-HC.1];omega)];rfl);rw[tZ,this,Bool.or_false])⟩
       |any=>
        as_aux_lemma=>
         simp only[eC]at y0;clear y1 y2 y3 y4;have Qh:=HM.2.cell (k:=i) jn;have Uz:=HM.2.frozen i;go_upto_region 28 with fail
         have yE:ei (λx=>x=T) W0 (wx.setCell ⟨T,i,none⟩ (.bool true)):=HM.1.store _ rfl;have nh:=HM.2.set i true;have ZM:(wx.setCell ⟨T,i,none⟩ (.bool true)).heap[G]? =some (.cells #[.int .u8 1,.bool false,.string (bs []),.int .i32 0,.int .i32 0,.slice a2 0 c2] 97):=(yE.same G (by have:=HW.2.2.2;omega) (by have:=HW.2.2.2.2.2;omega)).trans HW.1;obtain⟨W1,gZ⟩:=dS (wx.setCell ⟨T,i,none⟩ (.bool true));rw[<-gZ]at yE nh ZM⊢;have H1:=jS yE nh ZM;clear yE nh ZM gZ Qh Uz y0;go_wp2_with fail;go_loopg [19] (L+1-i) (λq s19 wy=>∃m:Nat,q=L+1-m/\s19=.int .i64 m/\Hid (ei (λx=>x=T) W0 wy/\jl wy T (L+1) (λk=>Fs S s .any fj i k||decide (i<=k/\k<=m))/\far S s false i m))
         case atStart=>exact⟨i,rfl,rfl,aa ⟨H1.1,H1.2.1.congr λk _=>by
          by_cases e:k=i
          ·subst e;simp
          ·rw[if_neg e,decide_eq_false (by omega),Bool.or_false],af _,by rw[<-H.2.2.2.2.2.1];omega,.inr λm' h h1 h2=>by omega⟩⟩
         case round=>
          obtain⟨m,rfl,rfl,HY⟩:=hrel;obtain⟨wy,hwy⟩:=dS wr;subst hwy;have hmle:m<=L:=by rw[H.2.2.2.2.2.1];exact HY.2.2.2.1
          have gT:wy.heap[G]? =some (.cells #[.int .u8 1,.bool false,.string (bs []),.int .i32 0,.int .i32 0,.slice a2 0 c2] 97):=(HY.1.same G (by have:=HW.2.2.2;omega) (by have:=HW.2.2.2.2.2;omega)).trans HW.1;have y0:wy.cell? ⟨G,0,none⟩=some (.int .u8 1):=cell_of gT rfl;clear gT;by_cases hmL:m<L
          ·have VV:decide ((m:Int)<(L:Int))=true:=(by simp;omega);have hwm:=gW ((m:Int)+1) (by omega);have Qh:=HY.2.1.cell (k:=m+1) (by omega);have Uz:=HY.2.1.frozen (m+1);have i3:(m:Int)+1<(L:Int)+1:=(by omega);have i4:(0:Int)<=(m:Int)+1:=by omega
           have i5:(m:Int)<(L:Int):=(by omega);have i6:(0:Int)<=(m:Int):=by omega
           have R7:m<s.length:=(by rw[<-H.2.2.2.2.2.1];exact hmL);obtain⟨ch,gP⟩:∃ch,s[m]? =some ch:=⟨_,ah R7⟩;obtain⟨bt,ot,xX,VW⟩:=rh (Jv.2.below (Xi.out wy HY.1) (af _)) gP;have qT:=f75 S ((ch:Nat):Int) (.slice asp LS cs) wy (Jv.1.below (Xi.out wy HY.1) (af _)) (by rw[<-H.2.2.2.2.2.2];exact B5);rw[qz]at qT;obtain⟨B,hB⟩:=dS (S.contains ch);rw[<-hB]at qT;have hchB:S.contains s[m]=B:=by obtain⟨e1,e2⟩:=aB.1 gP;rw[e2,hB]
           obtain⟨y,hy⟩:=dS (((ch:Nat):Int):Int);rw[<-hy]at qT VW;have HC:=eo qT hchB;subst xX;clear qT hB gP hy hchB;go_wp2_with fail;refine HC.1.mono ?_;rintro e w4 ⟨rfl,rfl⟩;cases B with
           |true=>
            go_wp2_with fail;go_roundg (L+1- (i+1))
            case measure=>omega
            case rel=>exact⟨i+1,rfl,rfl,by omega,aa (qB.out _ _ HY.1 HY.2.1 λk hk=>by rw[EX (S:=S) (s:=s) (g:=.any) (sup:=false) rfl HY.2.2 (.inr ⟨R7,rfl,HC.2⟩) k (by rw[<-H.2.2.2.2.2.1];omega)])⟩
           |false=>
            go_wp2_with fail;go_roundg (L+1- (m+1))
            case measure=>omega
            case rel=>exact⟨m+1,rfl,rfl,aa ⟨HY.1.store _ rfl,(HY.2.1.set (m+1) true).congr λk _=>by
             by_cases e:k=m+1
             ·subst e;rw[if_pos rfl,decide_eq_true (by have:=HY.2.2.1;omega),Bool.or_true]
             ·rw[if_neg e];congr 1;rw[decide_eq_decide];omega,Iu HY.2.2 R7 (.inr HC.2)⟩⟩
          ·have VV:decide ((m:Int)<(L:Int))=false:=(by simp;omega);go_wp2_with fail;go_roundg (L+1- (i+1))
           case measure=>omega
           case rel=>exact⟨i+1,rfl,rfl,by omega,aa (qB.out _ _ HY.1 HY.2.1 λk hk=>by rw[EX (S:=S) (s:=s) (g:=.any) (sup:=false) rfl HY.2.2 (.inl (by rw[<-H.2.2.2.2.2.1];omega)) k (by rw[<-H.2.2.2.2.2.1];omega)])⟩
       |fq=>
        as_aux_lemma=>
         simp only[eC]at y0;clear y1 y2 y3 y4;have Qh:=HM.2.cell (k:=i) jn;have Uz:=HM.2.frozen i;go_upto_region 28 with fail
         have yE:ei (λx=>x=T) W0 (wx.setCell ⟨T,i,none⟩ (.bool true)):=HM.1.store _ rfl;have nh:=HM.2.set i true;have ZM:(wx.setCell ⟨T,i,none⟩ (.bool true)).heap[G]? =some (.cells #[.int .u8 2,.bool false,.string (bs []),.int .i32 0,.int .i32 0,.slice a2 0 c2] 97):=(yE.same G (by have:=HW.2.2.2;omega) (by have:=HW.2.2.2.2.2;omega)).trans HW.1;obtain⟨W1,gZ⟩:=dS (wx.setCell ⟨T,i,none⟩ (.bool true));rw[<-gZ]at yE nh ZM⊢;have H1:=jS yE nh ZM;clear yE nh ZM gZ Qh Uz y0;go_wp2_with fail;go_loopg [19] (L+1-i) (λq s19 wy=>∃m:Nat,q=L+1-m/\s19=.int .i64 m/\Hid (ei (λx=>x=T) W0 wy/\jl wy T (L+1) (λk=>Fs S s .fq fj i k||decide (i<=k/\k<=m))/\far S s true i m))
         case atStart=>exact⟨i,rfl,rfl,aa ⟨H1.1,H1.2.1.congr λk _=>by
          by_cases e:k=i
          ·subst e;simp
          ·rw[if_neg e,decide_eq_false (by omega),Bool.or_false],af _,by rw[<-H.2.2.2.2.2.1];omega,.inr λm' h h1 h2=>by omega⟩⟩
         case round=>
          obtain⟨m,rfl,rfl,HY⟩:=hrel;obtain⟨wy,hwy⟩:=dS wr;subst hwy;have hmle:m<=L:=by rw[H.2.2.2.2.2.1];exact HY.2.2.2.1
          have gT:wy.heap[G]? =some (.cells #[.int .u8 2,.bool false,.string (bs []),.int .i32 0,.int .i32 0,.slice a2 0 c2] 97):=(HY.1.same G (by have:=HW.2.2.2;omega) (by have:=HW.2.2.2.2.2;omega)).trans HW.1;have y0:wy.cell? ⟨G,0,none⟩=some (.int .u8 2):=cell_of gT rfl;clear gT;by_cases hmL:m<L
          ·have VV:decide ((m:Int)<(L:Int))=true:=(by simp;omega);have hwm:=gW ((m:Int)+1) (by omega);have Qh:=HY.2.1.cell (k:=m+1) (by omega);have Uz:=HY.2.1.frozen (m+1);have i3:(m:Int)+1<(L:Int)+1:=(by omega);have i4:(0:Int)<=(m:Int)+1:=by omega
           have i5:(m:Int)<(L:Int):=(by omega);have i6:(0:Int)<=(m:Int):=by omega
           have R7:m<s.length:=by rw[<-H.2.2.2.2.2.1];exact hmL
           ·go_wp2_with fail;go_roundg (L+1- (m+1))
            case measure=>omega
            case rel=>exact⟨m+1,rfl,rfl,aa ⟨HY.1.store _ rfl,(HY.2.1.set (m+1) true).congr λk _=>by
             by_cases e:k=m+1
             ·subst e;rw[if_pos rfl,decide_eq_true (by have:=HY.2.2.1;omega),Bool.or_true]
             ·rw[if_neg e];congr 1;rw[decide_eq_decide];omega,Iu HY.2.2 R7 (.inl rfl)⟩⟩
          ·have VV:decide ((m:Int)<(L:Int))=false:=(by simp;omega);go_wp2_with fail;go_roundg (L+1- (i+1))
           case measure=>omega
           case rel=>exact⟨i+1,rfl,rfl,by omega,aa (qB.out _ _ HY.1 HY.2.1 λk hk=>by rw[EX (S:=S) (s:=s) (g:=.fq) (sup:=true) rfl HY.2.2 (.inl (by rw[<-H.2.2.2.2.2.1];omega)) k (by rw[<-H.2.2.2.2.2.1];omega)])⟩
       |one=>
        as_aux_lemma=>
         simp only[eC]at y0;clear y1 y2 y3 y4;by_cases hiL:i<L
         ·have VV:decide ((i:Int)<(L:Int))=true:=(by simp;omega);obtain⟨ch,gP⟩:∃ch,s[i]? =some ch:=⟨_,ah (by rw[<-H.2.2.2.2.2.1];exact hiL)⟩;obtain⟨bt,ot,rfl,VW⟩:=rh HRX.2 gP;have qT:=f75 S ((ch:Nat):Int) (.slice asp LS cs) wx HRX.1 (by rw[<-H.2.2.2.2.2.2];exact B5);rw[qz]at qT;obtain⟨B,hB⟩:=dS (S.contains ch);rw[<-hB]at qT;have Qh:=HM.2.cell (k:=i+1) (by omega);have Uz:=HM.2.frozen (i+1);have i3:(i:Int)+1<(L:Int)+1:=by omega
          have i4:(0:Int)<=(i:Int)+1:=(by omega);have i5:(i:Int)<(L:Int):=by omega
          obtain⟨y,hy⟩:=dS (((ch:Nat):Int):Int);rw[<-hy]at qT VW;have HC:=jS qT hB gP;clear qT hB gP hy;go_wp2_with fail;refine HC.1.mono ?_;rintro e w4 ⟨rfl,rfl⟩;cases B with
          |true=>
           go_wp2_with fail;go_roundg (L+1- (i+1))
           case measure=>omega
           case rel=>exact⟨i+1,rfl,rfl,by omega,aa (qB.out _ _ HM.1 HM.2 λk _=>by rw[tZ,mH HC.2.2,<-HC.2.1];simp)⟩
          |false=>
           go_wp2_with fail;go_roundg (L+1- (i+1))
           case measure=>omega
           case rel=>exact⟨i+1,rfl,rfl,by omega,aa (qB.out _ _ (HM.1.store _ rfl) (HM.2.set (i+1) true) λk _=>by rw[tZ,mH HC.2.2,<-HC.2.1,Ad];rfl)⟩
         ·have VV:decide ((i:Int)<(L:Int))=false:=(by simp;omega);go_wp2_with fail;go_roundg (L+1- (i+1))
          case measure=>omega
          case rel=>exact⟨i+1,rfl,rfl,by omega,aa (qB.out _ _ HM.1 HM.2 λk _=>by rw[tZ,Bh (bz (by rw[<-H.2.2.2.2.2.1];omega))];simp)⟩
       |set tN ng=>
        as_aux_lemma=>
         simp only[eC,mF,ja]at y0 y1 y2;clear y3 y4;by_cases hiL:i<L
         ·have VV:decide ((i:Int)<(L:Int))=true:=(by simp;omega);obtain⟨ch,gP⟩:∃ch,s[i]? =some ch:=⟨_,ah (by rw[<-H.2.2.2.2.2.1];exact hiL)⟩;obtain⟨bt,ot,rfl,VW⟩:=rh HRX.2 gP;have Hj:=HR.2.2.2.2.1;have Kc:=HR.2.2.2.2.2;simp only[sN]at Hj;simp only[kc]at Kc;have ic:tN.length<=100:=ao (eI tN).1 Kc;obtain⟨cap,sM,j7,kb⟩:=pP Hj.2.1 (by omega) wx.drew;have Dn:=pt wx.drew j7 kb (ay _ _);obtain⟨W3,kl⟩:=dS (wx.drew.drew.alloc (.cells ((tN.map λc=>Value.int .i32 ((c:Nat):Int)).toArray++Array.replicate (cap-tN.length) (.int .i32 0)) 21));rw[<-kl]at sM Dn;have gQ:Below wx.heap.size wx W3:=(by rw[kl];go_grown);have qT:=f75 tN ((ch:Nat):Int) _ W3 Dn (by omega);rw[qz]at qT;obtain⟨B,hB⟩:=dS (tN.contains ch);rw[<-hB]at qT;obtain⟨nu,Ux⟩:=dS tN.length;rw[<-Ux]at sM qT;have OS:=HM.2.keep gQ;have Qh:=OS.cell (k:=i+1) (by omega);have Uz:=OS.frozen (i+1);have i3:(i:Int)+1<(L:Int)+1:=(by omega);have i4:(0:Int)<=(i:Int)+1:=by omega
          have i5:(i:Int)<(L:Int):=(by omega);obtain⟨y,hy⟩:=dS (((ch:Nat):Int):Int);rw[<-hy]at qT VW;have z1:=dF gQ _ _ y1;have z2:=dF gQ _ _ y2;have z3:=dF gQ _ _ VW;have HC:=rr qT hB gP OS (HM.1.then (ei.grown gQ));clear qT hB gP hy Hj Kc Dn OS gQ kl Ux j7 kb;go_upto_region 36 with fail
          refine dP (λw'=>w'.cell? ⟨G,1,none⟩=some (.bool ng)/\w'.cell? ⟨G,2,none⟩=some (.string (bs tN))/\w'.cell? ⟨bt,ot+i,none⟩=some (.int .i32 y)) [(true,0),(true,1),(true,2),(true,3),(true,4),(true,5),(true,6),(true,8),(true,9),(true,10),(true,11),(true,13),(true,14),(false,7),(false,12),(true,15)] (by kernel_rfl) (by kernel_rfl) ⟨y1,y2,VW⟩ (λhHeld=> ?_);iterate 13
           refine dL (v:= ?_) rfl (λ_ _ _ h=>h) (by rfl) ?_ hHeld ?_;rotate_left
           ·intro w hSw;obtain⟨qV,yG,hS3⟩:=hSw;(try dsimp only at qV yG hS3);go_simp
            try with_reducible rfl
           simp only[Act.put,iX]
          refine dM rfl (λK hK=> ?_);go_simp;refine hK.out _ _ ⟨z1,z2,z3⟩ (λdW=> ?_);clear hK K;refine dM rfl (λK hK=> ?_);go_simp;refine HC.1.mono ?_;rintro e w4 ⟨rfl,rfl⟩;refine hK.out _ _ ⟨z1,z2,z3⟩ (λiU=> ?_);clear hK K;refine dL (v:= ?_) rfl (λ_ _ _ h=>h) (by rfl) ?_ iU ?_;rotate_left
          ·intro w hSw;go_simp
           try with_reducible rfl
          simp only[Act.put,iX];clear hHeld dW iU;refine dX rfl ?_;cases B<;>cases ng<;>
          ·go_wp2_with fail;go_roundg (L+1- (i+1))
           case measure=>omega
           case rel=>first
            |exact⟨i+1,rfl,rfl,by omega,aa (qB.out _ _ HC.2.2.2.2 HC.2.2.2.1 λk _=>by rw[tZ,mH HC.2.2.1,<-HC.2.1];simp)⟩
            |exact⟨i+1,rfl,rfl,by omega,aa (qB.out _ _ (HC.2.2.2.2.store _ rfl) (HC.2.2.2.1.set (i+1) true) λk _=>by rw[tZ,mH HC.2.2.1,<-HC.2.1,Ad];rfl)⟩
         ·have VV:decide ((i:Int)<(L:Int))=false:=(by simp;omega);go_wp2_with fail;go_big_quiet (fail);go_wp2_with fail;go_roundg (L+1- (i+1))
          case measure=>omega
          case rel=>exact⟨i+1,rfl,rfl,by omega,aa (qB.out _ _ (HM.1.then (ei.grown (below_drewN (ay _ _) _))) (HM.2.keep (below_drewN (ay _ _) _)) λk _=>by rw[tZ,Bh (bz (by rw[<-H.2.2.2.2.2.1];omega))];simp)⟩
       |range lo hi ng=>
        as_aux_lemma=>
         simp only[eC,mF,yI,yJ]at y0 y1 y3 y4;clear y2;by_cases hiL:i<L
         ·have VV:decide ((i:Int)<(L:Int))=true:=(by simp;omega);obtain⟨ch,gP⟩:∃ch,s[i]? =some ch:=⟨_,ah (by rw[<-H.2.2.2.2.2.1];exact hiL)⟩;obtain⟨bt,ot,rfl,VW⟩:=rh HRX.2 gP;have Qh:=HM.2.cell (k:=i+1) (by omega);have Uz:=HM.2.frozen (i+1);have i3:(i:Int)+1<(L:Int)+1:=by omega
          have i4:(0:Int)<=(i:Int)+1:=(by omega);have i5:(i:Int)<(L:Int):=by omega
          obtain⟨y,hy⟩:=dS (((ch:Nat):Int):Int);rw[<-hy]at VW;obtain⟨x,hx⟩:=dS (uA lo hi ng ch);have Jl:x=((decide ((lo:Int)<=y)&&decide (y<=(hi:Int))) != ng):=by rw[hx,hy];rfl
          have HC:=eo gP hx;clear gP hy hx;go_upto_region 39 with fail
          have oJ:=aa Jl;clear Jl;by_cases e1:(lo:Int)<=y
          ·have q8:=aa e1;go_big_quiet (fail);go_wp2_with fail
           ·rename_i hz;have hxv:x=true:=by rw[oJ.out,decide_eq_true q8.out];revert hz;cases decide (y<=(hi:Int))<;>cases ng<;>simp
            have HXV:=aa hxv;clear hxv hz;go_roundg (L+1- (i+1))
            case measure=>omega
            case rel=>exact⟨i+1,rfl,rfl,by omega,aa (qB.out _ _ ((HM.1.then (ei.grown (below_drewN (ay _ _) _))).store _ rfl) ((HM.2.keep (below_drewN (ay _ _) _)).set (i+1) true) λk _=>by rw[tZ,mH HC.1,<-HC.2,HXV.out,Ad])⟩
           ·rename_i hz;have hxv:x=false:=by rw[oJ.out,decide_eq_true q8.out];revert hz;cases decide (y<=(hi:Int))<;>cases ng<;>simp
            have HXV:=aa hxv;clear hxv hz;go_roundg (L+1- (i+1))
            case measure=>omega
            case rel=>exact⟨i+1,rfl,rfl,by omega,aa (qB.out _ _ (HM.1.then (ei.grown (below_drewN (ay _ _) _))) (HM.2.keep (below_drewN (ay _ _) _)) λk _=>by rw[tZ,mH HC.1,<-HC.2,HXV.out];simp)⟩
          ·have q8:=aa e1;cases ng with
           |true=>
            have HXV:Hid (x=true):=aa (by rw[oJ.out,decide_eq_false (by have:=q8.out;omega)];rfl);go_big_quiet (fail);go_wp2_with fail;go_roundg (L+1- (i+1))
            case measure=>omega
            case rel=>exact⟨i+1,rfl,rfl,by omega,aa (qB.out _ _ ((HM.1.then (ei.grown (below_drewN (ay _ _) _))).store _ rfl) ((HM.2.keep (below_drewN (ay _ _) _)).set (i+1) true) λk _=>by rw[tZ,mH HC.1,<-HC.2,HXV.out,Ad])⟩
           |false=>
            have HXV:Hid (x=false):=aa (by rw[oJ.out,decide_eq_false (by have:=q8.out;omega)];rfl);go_big_quiet (fail);go_wp2_with fail;go_roundg (L+1- (i+1))
            case measure=>omega
            case rel=>exact⟨i+1,rfl,rfl,by omega,aa (qB.out _ _ (HM.1.then (ei.grown (below_drewN (ay _ _) _))) (HM.2.keep (below_drewN (ay _ _) _)) λk _=>by rw[tZ,mH HC.1,<-HC.2,HXV.out];simp)⟩
         ·have VV:decide ((i:Int)<(L:Int))=false:=(by simp;omega);go_wp2_with fail;go_big_quiet (fail);go_wp2_with fail;go_roundg (L+1- (i+1))
          case measure=>omega
          case rel=>exact⟨i+1,rfl,rfl,by omega,aa (qB.out _ _ (HM.1.then (ei.grown (below_drewN (ay _ _) _))) (HM.2.keep (below_drewN (ay _ _) _)) λk _=>by rw[tZ,Bh (bz (by rw[<-H.2.2.2.2.2.1];omega))];simp)⟩
     ·have BH:decide ((i:Int)<(L:Int)+1)=false:=(by simp;omega);go_wp2_with fail;go_roundg (n- (j+1))
      case measure=>omega
      case rel=>have hi:i=L+1:=(by omega);have h1:=HM.2;rw[hi]at h1;have h2:=HE.out wx _ (Xi.out wx HM.1) h1 (by rw[OX S s g fj (by rw[<-HGK.1];exact HGK.2),RU,H.2.2.2.2.2.1]);exact⟨j+1,rfl,rfl,by omega,_,T,aa h2⟩
  ·have jA:decide ((j:Int)<(n:Int))=false:=(by simp;omega);go_wp2_with fail;go_ret;have h1:=HJ.2.2.2.1;rw[aL (by rw[<-H.1];omega),km]at h1;exact⟨_,bj,rfl,HJ.1,by rw[<-H.2.2.2.2.1,h1];exact HJ.2.1,HJ.2.2.2.2⟩
theorem f31 (w0:World) (S s:List dE) (vs vt:Value) (hs:dV s) (Mg:s.length<=1000000) (B5:S.length<=1000000):∀(N:Nat) (gl:List Gb),SizeOf.sizeOf gl<=N->iY gl->fU gl->∀(v vf:Value) (bf:Nat) (f:List Bool) (w:World),tV w0 (ox gl) v->Below w0.heap.size w0 w->ek w vs S->ek w vt s->oN w vf f bf->f.length=s.length+1->Calls prog 31 #[v,vs,vt,vf] w λe w'=>Endp S s w w' bf f gl e
 |0,gl,h,hg,Jq,v,vf,bf,f,w,h1,h2,h3,h4,h5,h6=>f31s w0 S s vs vt hs Mg B5 gl hg Jq (λks hk k tG=>by have:=jJ hk tG;omega) v vf bf f w h1 h2 h3 h4 h5 h6
 |N+1,gl,h,hg,Jq,v,vf,bf,f,w,h1,h2,h3,h4,h5,h6=>f31s w0 S s vs vt hs Mg B5 gl hg Jq (λks hk k tG=>f31 w0 S s vs vt hs Mg B5 N k (by have:=jJ hk tG;omega) (by
   have a:=xh hg hk;simp only[sN]at a;exact AR a.2 tG) (by
   have a:=rH Jq hk;simp only[kc]at a;exact xZ a tG)) v vf bf f w h1 h2 h3 h4 h5 h6
end Go.Proofs.YtfejflhgaphilaaGreatDoor
