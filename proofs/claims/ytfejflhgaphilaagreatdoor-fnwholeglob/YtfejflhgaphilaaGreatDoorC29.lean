/- The sorted map's leaf takes a text. The sorted map takes a text: Set. -/
import Derived.Test.YtfejflhgaphilaaGreatDoorC28
set_option linter.all false
set_option maxRecDepth 100000
set_option maxHeartbeats 64000000
open Go.Proofs.Tryz
namespace Go.Proofs.YtfejflhgaphilaaGreatDoor
open Go.RowKit Gm
variable {w w':World} {M lo:Nat} {l:List (List UInt8)}
def Grew (w w':World) (Rz:Nat) (l:List (List UInt8)) (k:List UInt8) (e:Ending):Prop:=∃L E c,e=.returned (.tuple #[.iface 208 (.pointer (some ⟨L,0,none⟩)),.nilIface])/\jQ w' L E (ins l k) c/\ei (λb=>b=Rz) w w'/\w'.heap[Rz]? =some (.cells #[.bool (decide ((ins l k).length=l.length+1))] 4 (0,0))/\w.heap.size<=E/\w.heap.size<=L
theorem f230 (L E c Rz:Nat) (l:List (List UInt8)) (q:Option Addr) (k:List UInt8) (w:World) (h:jQ w L E l c) (hs:KO l) (hlen:l.length<=31) (hLR:L≠Rz) (hER:E≠Rz) (Z1:w.heap[Rz]? =some (.cells #[.bool false] 4 (0,0))):Calls prog 230 #[.pointer (some ⟨L,0,none⟩),.string (sk k),.int .i64 0,.iface 374 (.pointer q),.bool false,.pointer (some ⟨Rz,0,none⟩)] w λe w'=>Grew w w' Rz l k e:=by
 have HC:=aa (f228 L E c l q k w h hs);obtain⟨n,hn⟩:=dS l.length;obtain⟨P,hP⟩:=dS (pos k l);have hPn:P<=n:=by rw[hP,hn];exact wK k l
 have hnc:n<=c:=by rw[hn];exact h.cap
 have lJ:=h.small;rw[<-hP]at HC;rw[<-hn]at hlen;have H:=rr h hs Z1 hn hP;clear h hs Z1 hn hP;obtain⟨K,hK⟩:=dS (sk k);rw[<-hK]at HC⊢;have HK:=aa hK;clear hK;have ZA:(Instr.makeSlice 212 (.int .i64 (n:Int)) (.int .i64 (n:Int))).run prog=λwx=>.ok (.slice (some ⟨wx.heap.size,0,none⟩) n n) (wx.alloc (.cells (oC n) 211)):=by funext wx;exact LZ n (by omega) wx
 have hmk1:(Instr.makeSlice 212 (.int .i64 ((n:Int)+1)) (.int .i64 ((n:Int)+1))).run prog=λwx=>.ok (.slice (some ⟨wx.heap.size,0,none⟩) (n+1) (n+1)) (wx.alloc (.cells (oC (n+1)) 211)):=by funext wx;exact LZ (n+1) (by omega) wx
 have hwn:=gW ((n:Int)+1) (by omega);have hwP:=gW ((P:Int)+1) (by omega);go_enter func230,ntmps230;go_wp2_with fail;refine HC.mono ?_;rintro e w1 ⟨rfl,eu⟩;have hL1:=H.1.below eu;have B7:w1.heap[Rz]? =some (.cells #[.bool false] 4 (0,0)):=by
  have eR:Rz<w.heap.size:=by
   rcases aV Rz w.heap.size with e|e
   ·exact e
   ·have:=H.2.2.1;rw[aO e]at this;cases this
  exact(eu.block Rz eR).trans H.2.2.1
 have y0:w1.cell? ⟨L,0,none⟩=some (.slice (some ⟨E,0,none⟩) n c):=by rw[H.2.2.2.1];exact cell_of hL1.head rfl
 have H1:=jS eu hL1 B7;clear eu hL1 B7;go_upto_region 2 with fail
 go_cut [15]from 27 to 50 (λs15 wx=>∃X,s15=.bool X/\Hid (X=decide (l[P]? =some k)/\Below w1.heap.size w1 wx))
 case first=>
  by_cases hPl:P<n
  ·have i1:(P:Int)<(n:Int):=(by omega);have i0:(0:Int)<=(P:Int):=by omega
   obtain⟨y,hy⟩:∃y,l[P]? =some y:=⟨_,ah (by rw[<-H.2.2.2.1];exact hPl)⟩;have y1:=(H1.2.1.ir P y hy).1;have HP:=aa (λwx=>f322 (.pointer q) y k wx);obtain⟨R,hR⟩:=dS (EZ y k);obtain⟨Y,hY⟩:=dS (sk y);rw[<-hR,<-hY,<-HK.out]at HP;rw[<-hY]at y1;have HX:Hid ((R==0)=decide (l[P]? =some k)):=aa (by
    rw[hy,hR];unfold EZ;by_cases h1:y<k
    ·have:y≠k:=λe=>by subst e;exact absurd h1 (List.lt_irrefl y)
     simp[h1,this]
    ·by_cases h2:k<y
     ·have:y≠k:=λe=>by subst e;exact absurd h2 (List.lt_irrefl y)
      simp[h1,h2,this]
     ·have:y=k:=Classical.byContradiction λe=>h2 (sj h1 e);subst this;simp[List.lt_irrefl])
   clear hy hR hY;refine dP (λw'=>w'=w1.drew) [(true,0),(true,1),(true,2),(true,3),(true,4),(true,5),(true,6),(true,7),(true,8),(true,9),(true,10),(true,11),(true,12),(true,13),(true,14),(true,15),(true,16),(true,17),(true,18),(true,19),(true,20),(false,21),(true,22),(true,23)] (by kernel_rfl) (by kernel_rfl) rfl (λhHeld=> ?_);iterate 19
    refine dL (v:= ?_) rfl (λ_ _ _ h=>h) (by rfl) ?_ hHeld ?_;rotate_left
    ·rintro _ rfl;go_simp
     try with_reducible rfl
    simp only[Act.put,iX]
   refine dL (v:=.func (.method "Compare") #[.iface 374 (.pointer q)] #[]) rfl (λ_ _ _ h=>h) (by rfl) ?_ hHeld ?_
   ·intro wz _;kernel_rfl
   simp only[Act.put,iX];refine dL (v:= ?_) rfl (λ_ _ _ h=>h) (by rfl) ?_ hHeld ?_;rotate_left
   ·rintro _ rfl;go_simp
    try with_reducible rfl
   simp only[Act.put,iX];have hm:=LK (.pointer q);refine dM rfl (λK hK=> ?_);go_simp;refine(HP.out _).mono ?_;rintro e w4 ⟨rfl,rfl⟩;refine hK.out _ _ rfl (λiU=> ?_);clear hK K;iterate 2
    refine dL (v:= ?_) rfl (λ_ _ _ h=>h) (by rfl) ?_ iU ?_;rotate_left
    ·intro w hSw;go_simp
     try with_reducible rfl
    simp only[Act.put,iX]
   clear hHeld iU;refine dX rfl ?_;go_wp2_with fail;go_meet
   case rel=>exact⟨_,rfl,aa ⟨HX.out,by go_grown⟩⟩
  ·have hdP:decide ((P:Int)<(n:Int))=false:=(by simp;omega);go_big_quiet (fail);go_wp2_with fail;go_meet
   case rel=>exact⟨_,rfl,aa ⟨by rw[bz (by rw[<-H.2.2.2.1];omega)];rfl,below_drewN (ay _ _) _⟩⟩
 case rest=>
  obtain⟨X,rfl,HX⟩:=hcut;have V5:=H1.2.1.below HX.2;have zn:wc.heap[Rz]? =some (.cells #[.bool false] 4 (0,0)):=by
   have eR:Rz<w1.heap.size:=by
    rcases aV Rz w1.heap.size with e|e
    ·exact e
    ·have:=H1.2.2;rw[aO e]at this;cases this
   exact(HX.2.block Rz eR).trans H1.2.2
  have y0:wc.cell? ⟨L,0,none⟩=some (.slice (some ⟨E,0,none⟩) n c):=by rw[H.2.2.2.1];exact cell_of V5.head rfl
  have jq:Below w.heap.size w wc:=H1.1.trans (HX.2.mono H1.1.size);have H2:=jS V5 zn jq;clear V5 zn jq;cases X with
  |true=>
   have hk:l[P]? =some k:=(by have:=HX.1.symm;simpa using this);have hPl:P<n:=(by rw[H.2.2.2.1];exact(aB.1 hk).1);have EJ:ins l k=l:=by unfold ins;rw[<-H.2.2.2.2,if_pos hk]
   have gO:=F5 wc n;obtain⟨W3,kl⟩:=dS (wc.alloc (.cells (oC n) 211));obtain⟨N,hN⟩:=dS wc.heap.size;have gQ:Below wc.heap.size wc W3:=by rw[kl];go_grown
   rw[<-kl,<-hN]at gO;have XW:=H2.1.below gQ;have hNL:N≠L/\N≠E/\N≠Rz:=by
    have a1:=H2.1.lt;have a2:=H2.1.gu;have a3:Rz<wc.heap.size:=by
     rcases aV Rz wc.heap.size with e|e
     ·exact e
     ·have:=H2.2.1;rw[aO e]at this;cases this
    omega
   have y1:W3.cell? ⟨L,0,none⟩=some (.slice (some ⟨E,0,none⟩) n c):=dF gQ _ _ y0;have H4:=Ur gO gQ XW hNL hN hk EJ;clear gO gQ XW hNL hk EJ;have hcp:=sS (P:=prog) W3 212 212 3 211 2 N 0 n n ⟨E,0,none⟩ n c (pc (List.replicate n [])).toArray 211 (pc l) underlying212 Tryz.uh H4.1 (by rw[fQ,<-H.2.2.2.1,show Nat.min n n=n from Nat.min_self n]) (λj v hj=>xr H4.2.2.1.ir 0 j v (by rw[Nat.zero_mul,cm];exact hj)) (by rw[fQ,<-H.2.2.2.1];simp[fQ]) (D7 _);rw[show Nat.min n n=n from Nat.min_self n]at hcp;have mD:=k8.copy (w:=W3) H4.1 0 l;rw[Nat.zero_mul]at mD;obtain⟨W4,qU⟩:=dS (W3.setRow N ((pc (List.replicate n [])).toArray.toList.take 0++pc l++(pc (List.replicate n [])).toArray.toList.drop (0+(pc l).length)).toArray);rw[<-qU]at mD hcp;have OC:(List.replicate n ([]:List UInt8)).take 0++l++(List.replicate n ([]:List UInt8)).drop (0+l.length)=l:=by rw[<-H.2.2.2.1];simp
   rw[OC]at mD;have Sp:ei (λb=>b=N) W3 W4:=by rw[qU];exact uZ _ _ _
   clear qU;have e4:=mD.ir P k H4.2.2.2.2.2.1;rw[<-HK.out]at e4;have e5:=e4.1;have e6:=e4.2;have g1:=el (i:=P*2) mD;have g2:=el (i:=P*2+1) mD;have i5:(P:Int)<(n:Int):=by omega
   have i6:(0:Int)<=(P:Int):=(by omega);have ni:=mD.set P k;rw[<-HK.out]at ni;have VE:l.set P k=l:=by obtain⟨e1,e2⟩:=aB.1 H4.2.2.2.2.2.1;rw[<-e2];exact List.set_getElem_self _
   rw[VE]at ni;have H5:=eo ni Sp;clear mD OC Sp e4 ni VE;go_upto_region 18 with fail
   rw[<-kl,<-hN];clear hN kl y0;go_upto_region 25 with fail
   obtain⟨W5,yF⟩:=dS ((W4.setCell ⟨N,P*2,none⟩ (.string K)).setCell ⟨N,P*2+1,none⟩ (.int .i64 0));rw[<-yF];have Uw:k8 W5 N l:=(by rw[yF];exact H5.1);have AF:ei (λb=>b=N) W3 W5:=by rw[yF];exact(H5.2.store _ rfl).store _ rfl
   have H7:=eo Uw AF;clear Uw AF yF e5 e6 g1 g2 i5;have ZO:decide ((32:Int)<(n:Int))=false:=(by simp;omega);go_wp2_with fail;go_ret2;have Y3:=heap_alloc_new W5 (.cells #[.slice (some ⟨N,0,none⟩) n n] 214);have tH:Below W5.heap.size W5 (W5.alloc (.cells #[.slice (some ⟨N,0,none⟩) n n] 214)):=(by go_grown);have pJ:ei (λb=>b=N) W3 (W5.alloc (.cells #[.slice (some ⟨N,0,none⟩) n n] 214)):=H7.2.then (ei.grown tH);have Z4:N<W3.heap.size/\¬N<wc.heap.size:=(by have:=H4.1.lt;have:=H4.2.2.2.2.1;omega);have Z2:Rz<wc.heap.size:=by
    rcases aV Rz wc.heap.size with e|e
    ·exact e
    ·have:=H2.2.1;rw[aO e]at this;cases this
   have BW:l.length=n:=H.2.2.2.1.symm;refine⟨W5.heap.size,N,n,rfl,?_,?_,?_,by have:=H4.2.2.2.2.1;have:=H2.2.2.size;omega,by have:=H7.2.size;have:=H4.2.1.size;have:=H2.2.2.size;omega⟩
   ·rw[H4.2.2.2.2.2.2];exact⟨by rw[BW];exact Y3,(show k8 _ N l from(tH.block N H7.1.lt).trans H7.1).ir,by rw[BW];exact af _,by omega,by have:=H7.1.lt;rw[ab];omega⟩
   ·have Sr:ei (λb=>b=Rz) w wc:=ei.grown H2.2.2;exact(Sr.then (ei.grown H4.2.1)).trans pJ (λ_ _ h=>h) (λb hb e=>by subst e;exact absurd (ai hb Sr.size) Z4.2)
   ·rw[H4.2.2.2.2.2.2,decide_eq_false (by omega)];exact((pJ.same Rz (by omega) (by have:=H4.2.2.2.1.2.2;omega)).trans (H4.2.1.block Rz Z2)).trans H2.2.1
  |false=>
   have z0:wc.cell? ⟨Rz,0,none⟩=some (.bool false):=cell_of H2.2.1 rfl;have z1:=el (i:=0) H2.2.1;go_upto_region 21 with fail
   obtain⟨W2,lz⟩:=dS (wc.setCell ⟨Rz,0,none⟩ (.bool true));have kb:ei (λb=>b=Rz) wc W2:=by rw[lz];exact ei.cell rfl
   have hR3:W2.heap[Rz]? =some (.cells #[.bool true] 4 (0,0)):=(by rw[lz,dG H2.2.1];rfl);have hL3:jQ W2 L E l c:=H2.1.fo kb hLR hER;rw[<-lz];clear lz z0 z1 y0;have y0:W2.cell? ⟨L,0,none⟩=some (.slice (some ⟨E,0,none⟩) n c):=(by rw[H.2.2.2.1];exact cell_of hL3.head rfl);have H3:=jS kb hR3 hL3;clear kb hR3 hL3;go_upto_region 22 with fail
   have gO:=F5 W2 (n+1);obtain⟨W3,kl⟩:=dS (W2.alloc (.cells (oC (n+1)) 211));obtain⟨N,hN⟩:=dS W2.heap.size;rw[<-kl,<-hN]at gO⊢;have gQ:Below W2.heap.size W2 W3:=(by rw[kl];go_grown);have XW:=H3.2.2.below gQ;have hNL:N≠L/\N≠E/\N≠Rz:=by
    have a1:=H3.2.2.lt;have a2:=H3.2.2.gu;have a3:Rz<W2.heap.size:=by
     rcases aV Rz W2.heap.size with e|e
     ·exact e
     ·have:=H3.2.1;rw[aO e]at this;cases this
    omega
   have y1:W3.cell? ⟨L,0,none⟩=some (.slice (some ⟨E,0,none⟩) n c):=dF gQ _ _ y0;have H4:=rr gO gQ XW hNL hN;clear gO gQ XW hNL hN kl y0;have f1:(P:Int)<=(n:Int)+1:=by omega
   have f0:(0:Int)<=(P:Int):=(by omega);have f2:(P:Int)<=(c:Int):=by omega
   refine dP (λw'=>w'=W3.drew) [(true,0),(true,1),(true,2),(true,3),(true,4),(true,5),(true,6),(true,7),(true,8)] (by kernel_rfl) (by kernel_rfl) rfl (λhHeld=> ?_);iterate 9
    refine dL (v:= ?_) rfl (λ_ _ _ h=>h) (by rfl) ?_ hHeld ?_;rotate_left
    ·rintro _ rfl;go_simp
     try with_reducible rfl
    simp only[Act.put,iX]
   refine dX rfl ?_;clear hHeld;have yw:(l.take P).length=P:=(by rw[bn,<-H.2.2.2.1];omega);have MS:=aa yw;clear yw;have EG:Jh W3.drew E l:=H4.2.2.1.ir;have HL4:=aa EG;clear EG;refine iM rfl (.tmp 154) (.tmp 160) 212 212 rfl 211 2 underlying212 Tryz.uh _ _ _ _ _ _ _ rfl rfl (pc (List.replicate (n+1) [])).toArray 211 H4.1 (pc (l.take P)) ?len ?src ?fit (D7 _) ?_
   case len=>rw[fQ,MS.out,show Nat.min P P=P from Nat.min_self P]
   case src=>intro j v hj;have mV:j<(pc (l.take P)).length:=(aB.1 hj).1;exact xr HL4.out 0 j v (by rw[Nat.zero_mul,cm,<-Lr]at*;rw[dw]at hj;split at hj;exact hj;cases hj)
   case fit=>rw[fQ,MS.out];simp[fQ];omega
   have mD:=k8.copy (w:=W3.drew) H4.1 0 (l.take P);rw[Nat.zero_mul]at mD;obtain⟨W4,qU⟩:=dS (W3.drew.setRow N ((pc (List.replicate (n+1) [])).toArray.toList.take 0++pc (l.take P)++(pc (List.replicate (n+1) [])).toArray.toList.drop (0+(pc (l.take P)).length)).toArray);rw[<-qU]at mD⊢;have OC:(List.replicate (n+1) ([]:List UInt8)).take 0++l.take P++(List.replicate (n+1) ([]:List UInt8)).drop (0+(l.take P).length)=l.take P++List.replicate (n+1-P) []:=(by rw[MS.out,cm,List.drop_replicate];rfl);rw[OC]at mD;have Sp:ei (λb=>b=N) W3 W4:=(ei.grown (by go_grown:Below W3.heap.size W3 W3.drew)).then (by rw[qU];exact uZ _ _ _)
   have hp4:(l.take P++List.replicate (n+1-P) ([]:List UInt8))[P]? =some []:=(by rw[aR (by rw[MS.out];exact af _),MS.out,cO,List.getElem?_replicate,if_pos (by omega)]);have e4:=mD.ir P [] hp4;have e5:=e4.1;have e6:=e4.2;have g1:=el (i:=P*2) mD;have g2:=el (i:=P*2+1) mD;have i5:(P:Int)<(n:Int)+1:=by omega
   have ni:=mD.set P k;rw[<-HK.out]at ni;have VE:(l.take P++List.replicate (n+1-P) ([]:List UInt8)).set P k=l.take P++k::List.replicate (n-P) []:=by rw[List.set_append_right _ _ (by rw[MS.out];exact af _),MS.out,cO,show n+1-P=(n-P)+1 by omega,List.replicate_succ,List.set_cons_zero]
   rw[VE]at ni;have H5:=eo ni Sp;clear mD qU OC Sp hp4 e4 ni VE y1;go_upto_region 24 with fail
   obtain⟨W5,yF⟩:=dS ((W4.setCell ⟨N,P*2,none⟩ (.string K)).setCell ⟨N,P*2+1,none⟩ (.int .i64 0));rw[<-yF];have Uw:k8 W5 N (l.take P++k::List.replicate (n-P) []):=(by rw[yF];exact H5.1);have AF:ei (λb=>b=N) W3 W5:=by rw[yF];exact(H5.2.store _ rfl).store _ rfl
   have UD:jQ W5 L E l c:=H4.2.2.1.fo AF (cE H4.2.2.2.1.1) (cE H4.2.2.2.1.2.1);have y1:W5.cell? ⟨L,0,none⟩=some (.slice (some ⟨E,0,none⟩) n c):=by rw[H.2.2.2.1];exact cell_of UD.head rfl
   have H6:=jS Uw AF UD;clear Uw AF UD yF e5 e6 g1 g2 i5;have i6:(0:Int)<=(P:Int)+1:=(by omega);have i7:(P:Int)+1<=(n:Int)+1:=by omega
   have i8:((P:Int)+1).toNat=P+1:=(by omega);have i9:(P:Int)<=(n:Int):=by omega
   have EJ:ins l k=l.take P++k::l.drop P:=(by have:=HX.1;unfold ins;rw[<-H.2.2.2.2,if_neg (by intro e;rw[e]at this;simp at this)]);have mY:P<n\/(n=P/\c=P)\/(n=P/\¬c=P):=(by omega);rcases mY with eR|⟨e1,e2⟩|⟨e1,e2⟩
   ·have f3:¬n=P:=(by omega);have f4:¬c=P:=by omega
    refine dP (λw'=>w'=W5.drew) [(true,0),(true,1),(true,2),(true,3),(true,4),(true,5),(true,6),(true,7),(true,8),(true,9)] (by kernel_rfl) (by kernel_rfl) rfl (λhHeld=> ?_);iterate 10
     refine dL (v:= ?_) rfl (λ_ _ _ h=>h) (by rfl) ?_ hHeld ?_;rotate_left
     ·rintro _ rfl;go_simp
      try with_reducible rfl
     simp only[Act.put,iX]
    refine dX rfl ?_;clear hHeld;have hdl:(l.drop P).length=n-P:=(by rw[bT,<-H.2.2.2.1]);have HDL:=aa hdl;clear hdl;have HL5:=aa (show Jh W5.drew E l from H6.2.2.ir);refine iM rfl (.tmp 171) (.tmp 177) 212 212 rfl 211 2 underlying212 Tryz.uh _ _ _ _ _ _ _ rfl rfl (pc (l.take P++k::List.replicate (n-P) [])).toArray 211 H6.1 (pc (l.drop P)) ?len ?src ?fit (D7 _) ?_
    case len=>rw[fQ,HDL.out,show Nat.min (n-P) (n-P)=n-P from Nat.min_self _]
    case src=>intro j v hj;exact xr HL5.out P j v (by rw[<-Lu,cK]at hj;exact hj)
    case fit=>rw[fQ,HDL.out];simp[fQ,MS.out];omega
    have mC:=k8.copy (w:=W5.drew) H6.1 (P+1) (l.drop P);have Y2:(l.take P++k::List.replicate (n-P) []).take (P+1)++l.drop P++(l.take P++k::List.replicate (n-P) []).drop (P+1+(l.drop P).length)=ins l k:=by have hd:(l.take P++k::List.replicate (n-P) ([]:List UInt8)).drop (P+1+(n-P))=[]:=aL (by rw[aj,MS.out,aH,List.length_replicate];omega);rw[EJ,HDL.out,hd,bd,List.take_append,MS.out,aP (by rw[MS.out];omega),show P+1-P=1 by omega,de,List.take_zero,aD];rfl
    obtain⟨W6,Dr⟩:=dS (W5.drew.setRow N ((pc (l.take P++k::List.replicate (n-P) [])).toArray.toList.take ((P+1)*2)++(pc (l.drop P))++(pc (l.take P++k::List.replicate (n-P) [])).toArray.toList.drop (((P+1)*2)+(pc (l.drop P)).length)).toArray);rw[<-Dr]at mC⊢;rw[Y2]at mC;have Hs:ei (λb=>b=N) W3 W6:=(H6.2.1.then (ei.grown (by go_grown:Below W5.heap.size W5 W5.drew))).then (by rw[Dr];exact uZ _ _ _)
    have H7:=eo mC Hs;clear mC Hs Dr;have ZO:decide ((32:Int)<(n:Int)+1)=false:=(by simp;omega);go_wp2_with fail;go_ret2;have BW:(ins l k).length=n+1:=by rw[EJ];simp[MS.out];rw[<-H.2.2.2.1];omega
    have Y3:=heap_alloc_new W6 (.cells #[.slice (some ⟨N,0,none⟩) (n+1) (n+1)] 214);have tH:Below W6.heap.size W6 (W6.alloc (.cells #[.slice (some ⟨N,0,none⟩) (n+1) (n+1)] 214)):=by go_grown
    have pJ:ei (λb=>b=N) W3 (W6.alloc (.cells #[.slice (some ⟨N,0,none⟩) (n+1) (n+1)] 214)):=H7.2.then (ei.grown tH);have Z4:N<W3.heap.size/\¬N<W2.heap.size:=by have:=H4.1.lt;have:=H4.2.2.2.2;omega
    have Z2:Rz<W2.heap.size:=by
     rcases aV Rz W2.heap.size with e|e
     ·exact e
     ·have:=H3.2.1;rw[aO e]at this;cases this
    refine⟨W6.heap.size,N,n+1,rfl,⟨by rw[BW];exact Y3,(show k8 _ N (ins l k)from(tH.block N H7.1.lt).trans H7.1).ir,by rw[BW];exact af _,by omega,by have:=H7.1.lt;rw[ab];omega⟩,?_,?_,by have:=H4.2.2.2.2;have:=H3.1.size;have:=H2.2.2.size;omega,by have:=H7.2.size;have:=H4.2.1.size;have:=H3.1.size;have:=H2.2.2.size;omega⟩
    ·have Sr:ei (λb=>b=Rz) w W2:=(ei.grown H2.2.2).then H3.1
     exact(Sr.then (ei.grown H4.2.1)).trans pJ (λ_ _ h=>h) (λb hb e=>by subst e;exact absurd (ai hb Sr.size) Z4.2)
    ·rw[BW,<-H.2.2.2.1,decide_eq_true rfl];exact((pJ.same Rz (by omega) (by omega)).trans (H4.2.1.block Rz Z2)).trans H3.2.1
   ·subst e1;subst e2;refine dP (λw'=>w'=W5.drew) [(true,0),(true,1),(true,2),(true,3),(true,4),(true,5),(true,6),(true,7),(true,8),(true,9)] (by kernel_rfl) (by kernel_rfl) rfl (λhHeld=> ?_);iterate 10
     refine dL (v:= ?_) rfl (λ_ _ _ h=>h) (by rfl) ?_ hHeld ?_;rotate_left
     ·rintro _ rfl;go_simp
      try with_reducible rfl
     simp only[Act.put,iX]
    refine dX rfl ?_;clear hHeld;refine iM rfl (.tmp 171) (.tmp 177) 212 212 rfl 211 2 underlying212 Tryz.uh _ _ _ _ _ _ _ rfl rfl (pc (l.take c++k::List.replicate (c-c) [])).toArray 211 H6.1 ([]:List Value) ?len ?src ?fit (by simp) ?_
    case len=>simp
    case src=>intro j v hj;simp at hj
    case fit=>simp
    have mC:=k8.same (w:=W5.drew) H6.1 0;have Y2:l.take c++k::List.replicate (c-c) []=ins l k:=by rw[EJ,cO,List.replicate_zero,aL (by rw[<-H.2.2.2.1];exact af _)]
    obtain⟨W6,Dr⟩:=dS (W5.drew.setRow N ((pc (l.take c++k::List.replicate (c-c) [])).toArray.toList.take 0++([]:List Value)++(pc (l.take c++k::List.replicate (c-c) [])).toArray.toList.drop (0+([]:List Value).length)).toArray);rw[<-Dr]at mC⊢;rw[Y2]at mC;have Hs:ei (λb=>b=N) W3 W6:=(H6.2.1.then (ei.grown (by go_grown:Below W5.heap.size W5 W5.drew))).then (by rw[Dr];exact uZ _ _ _)
    have H7:=eo mC Hs;clear mC Hs Dr;have ZO:decide ((32:Int)<(c:Int)+1)=false:=(by simp;omega);go_wp2_with fail;go_ret2;have BW:(ins l k).length=c+1:=by rw[EJ];simp[MS.out];rw[<-H.2.2.2.1];omega
    have Y3:=heap_alloc_new W6 (.cells #[.slice (some ⟨N,0,none⟩) (c+1) (c+1)] 214);have tH:Below W6.heap.size W6 (W6.alloc (.cells #[.slice (some ⟨N,0,none⟩) (c+1) (c+1)] 214)):=by go_grown
    have pJ:ei (λb=>b=N) W3 (W6.alloc (.cells #[.slice (some ⟨N,0,none⟩) (c+1) (c+1)] 214)):=H7.2.then (ei.grown tH);have Z4:N<W3.heap.size/\¬N<W2.heap.size:=by have:=H4.1.lt;have:=H4.2.2.2.2;omega
    have Z2:Rz<W2.heap.size:=by
     rcases aV Rz W2.heap.size with e|e
     ·exact e
     ·have:=H3.2.1;rw[aO e]at this;cases this
    refine⟨W6.heap.size,N,c+1,rfl,⟨by rw[BW];exact Y3,(show k8 _ N (ins l k)from(tH.block N H7.1.lt).trans H7.1).ir,by rw[BW];exact af _,by omega,by have:=H7.1.lt;rw[ab];omega⟩,?_,?_,by have:=H4.2.2.2.2;have:=H3.1.size;have:=H2.2.2.size;omega,by have:=H7.2.size;have:=H4.2.1.size;have:=H3.1.size;have:=H2.2.2.size;omega⟩
    ·have Sr:ei (λb=>b=Rz) w W2:=(ei.grown H2.2.2).then H3.1
     exact(Sr.then (ei.grown H4.2.1)).trans pJ (λ_ _ h=>h) (λb hb e=>by subst e;exact absurd (ai hb Sr.size) Z4.2)
    ·rw[BW,<-H.2.2.2.1,decide_eq_true rfl];exact((pJ.same Rz (by omega) (by omega)).trans (H4.2.1.block Rz Z2)).trans H3.2.1
   ·subst e1;refine dP (λw'=>w'=W5.drew) [(true,0),(true,1),(true,2),(true,3),(true,4),(true,5),(true,6),(true,7),(true,8),(true,9)] (by kernel_rfl) (by kernel_rfl) rfl (λhHeld=> ?_);iterate 10
     refine dL (v:= ?_) rfl (λ_ _ _ h=>h) (by rfl) ?_ hHeld ?_;rotate_left
     ·rintro _ rfl;go_simp
      try with_reducible rfl
     simp only[Act.put,iX]
    refine dX rfl ?_;clear hHeld;refine iM rfl (.tmp 171) (.tmp 177) 212 212 rfl 211 2 underlying212 Tryz.uh _ _ _ _ _ _ _ rfl rfl (pc (l.take n++k::List.replicate (n-n) [])).toArray 211 H6.1 ([]:List Value) ?len ?src ?fit (by simp) ?_
    case len=>simp
    case src=>intro j v hj;simp at hj
    case fit=>simp
    have mC:=k8.same (w:=W5.drew) H6.1 0;have Y2:l.take n++k::List.replicate (n-n) []=ins l k:=by rw[EJ,cO,List.replicate_zero,aL (by rw[<-H.2.2.2.1];exact af _)]
    obtain⟨W6,Dr⟩:=dS (W5.drew.setRow N ((pc (l.take n++k::List.replicate (n-n) [])).toArray.toList.take 0++([]:List Value)++(pc (l.take n++k::List.replicate (n-n) [])).toArray.toList.drop (0+([]:List Value).length)).toArray);rw[<-Dr]at mC⊢;rw[Y2]at mC;have Hs:ei (λb=>b=N) W3 W6:=(H6.2.1.then (ei.grown (by go_grown:Below W5.heap.size W5 W5.drew))).then (by rw[Dr];exact uZ _ _ _)
    have H7:=eo mC Hs;clear mC Hs Dr;have ZO:decide ((32:Int)<(n:Int)+1)=false:=(by simp;omega);go_wp2_with fail;go_ret2;have BW:(ins l k).length=n+1:=by rw[EJ];simp[MS.out];rw[<-H.2.2.2.1];omega
    have Y3:=heap_alloc_new W6 (.cells #[.slice (some ⟨N,0,none⟩) (n+1) (n+1)] 214);have tH:Below W6.heap.size W6 (W6.alloc (.cells #[.slice (some ⟨N,0,none⟩) (n+1) (n+1)] 214)):=by go_grown
    have pJ:ei (λb=>b=N) W3 (W6.alloc (.cells #[.slice (some ⟨N,0,none⟩) (n+1) (n+1)] 214)):=H7.2.then (ei.grown tH);have Z4:N<W3.heap.size/\¬N<W2.heap.size:=by have:=H4.1.lt;have:=H4.2.2.2.2;omega
    have Z2:Rz<W2.heap.size:=by
     rcases aV Rz W2.heap.size with e|e
     ·exact e
     ·have:=H3.2.1;rw[aO e]at this;cases this
    refine⟨W6.heap.size,N,n+1,rfl,⟨by rw[BW];exact Y3,(show k8 _ N (ins l k)from(tH.block N H7.1.lt).trans H7.1).ir,by rw[BW];exact af _,by omega,by have:=H7.1.lt;rw[ab];omega⟩,?_,?_,by have:=H4.2.2.2.2;have:=H3.1.size;have:=H2.2.2.size;omega,by have:=H7.2.size;have:=H4.2.1.size;have:=H3.1.size;have:=H2.2.2.size;omega⟩
    ·have Sr:ei (λb=>b=Rz) w W2:=(ei.grown H2.2.2).then H3.1
     exact(Sr.then (ei.grown H4.2.1)).trans pJ (λ_ _ h=>h) (λb hb e=>by subst e;exact absurd (ai hb Sr.size) Z4.2)
    ·rw[BW,<-H.2.2.2.1,decide_eq_true rfl];exact((pJ.same Rz (by omega) (by omega)).trans (H4.2.1.block Rz Z2)).trans H3.2.1
structure SMap (w:World) (M:Nat) (l:List (List UInt8)):Prop where
 Un:KO l
 body:(l=[]/\w.heap[M]? =some (.cells #[.int .i64 0,.nilIface,.nilIface] 198 (0,0)))\/(l≠[]/\∃L E c q,w.heap[M]? =some (.cells #[.int .i64 (l.length:Nat),.iface 208 (.pointer (some ⟨L,0,none⟩)),.iface 374 (.pointer q)] 198 (0,0))/\jQ w L E l c)
theorem SMap.lt (h:SMap w M l):M<w.heap.size:=by
 rcases aV M w.heap.size with e|e
 ·exact e
 ·rcases h.body with⟨_,h1⟩|⟨_,_,_,_,_,h1,_⟩<;>(rw[aO e]at h1;cases h1)
theorem SMap.below (h:SMap w M l) (hb:Below w.heap.size w w'):SMap w' M l:=by
 refine⟨h.Un,?_⟩;rcases h.body with⟨h0,h1⟩|⟨h0,L,E,c,q,h1,h2⟩
 ·exact .inl ⟨h0,(hb.block M h.lt).trans h1⟩
 ·exact .inr ⟨h0,L,E,c,q,(hb.block M h.lt).trans h1,h2.below hb⟩
def Qo (w:World) (M lo:Nat):Prop:=lo<=M/\∀L,w.cell? ⟨M,1,none⟩=some (.iface 208 (.pointer (some ⟨L,0,none⟩)))->lo<=L/\∀E n c,w.cell? ⟨L,0,none⟩=some (.slice (some ⟨E,0,none⟩) n c)->lo<=E
theorem Qo.intro {L E:Nat} {v0 v2:Value} {n c:Nat} (h:w.heap[M]? =some (.cells #[v0,.iface 208 (.pointer (some ⟨L,0,none⟩)),v2] 198 (0,0))) (h2:w.heap[L]? =some (.cells #[.slice (some ⟨E,0,none⟩) n c] 214 (0,0))) (h3:lo<=M) (h4:lo<=L) (h5:lo<=E):Qo w M lo:=by refine⟨h3,λL' hL=> ?_⟩;rw[cell_of (v:=.iface 208 (.pointer (some ⟨L,0,none⟩))) h (i:=1) rfl]at hL;simp only[ae,bA,bD,aY,true_and,and_true]at hL;subst hL;refine⟨h4,λE' n' c' hE=> ?_⟩;rw[cell_of (v:=.slice (some ⟨E,0,none⟩) n c) h2 (i:=0) rfl]at hE;simp only[ae,au,aY,and_true]at hE;rw[<-hE.1];exact h5
theorem SMap.keep (h:SMap w M l) (hf:Qo w M lo) (hk:∀b,lo<=b->b<w.heap.size->w'.heap[b]? =w.heap[b]?) (hs:w.heap.size<=w'.heap.size):SMap w' M l/\Qo w' M lo:=by
 have hM:=hk M hf.1 h.lt;rcases h.body with⟨h0,h1⟩|⟨h0,L,E,c,q,h1,h2⟩
 ·refine⟨⟨h.Un,.inl ⟨h0,hM.trans h1⟩⟩,hf.1,λL hL=> ?_⟩;rw[cell_of (v:=.nilIface) (hM.trans h1) (i:=1) rfl]at hL;simp at hL
 ·obtain⟨f1,f2⟩:=hf.2 L (cell_of h1 rfl);have f3:=f2 E _ _ (cell_of h2.head rfl);have hL:=hk L f1 h2.lt;have hE:=hk E f3 h2.gu;exact⟨⟨h.Un,.inr ⟨h0,L,E,c,q,hM.trans h1,⟨hL.trans h2.head,λi k ZI=>⟨(aF hE).trans (h2.ir i k ZI).1,(aF hE).trans (h2.ir i k ZI).2⟩,h2.cap,h2.small,ai h2.gu hs⟩⟩⟩,Qo.intro (hM.trans h1) (hL.trans h2.head) hf.1 f1 f3⟩
theorem AE (w:World) (o1 o2 o3:Obj):(((w.alloc o1).alloc o2).alloc o3).heap[w.heap.size]? =some o1/\(((w.alloc o1).alloc o2).alloc o3).heap[w.heap.size+1]? =some o2/\(((w.alloc o1).alloc o2).alloc o3).heap[w.heap.size+1+1]? =some o3:=by
 refine⟨?_,?_,?_⟩
 ·rw[heap_alloc_old _ _ (by rw[ab,ab];omega)];exact heap_alloc2_old _ _ _
 ·rw[heap_alloc_old _ _ (by rw[ab,ab];omega)];exact heap_alloc2_new _ _ _
 ·have:=heap_alloc_new ((w.alloc o1).alloc o2) o3;rw[ab,ab]at this;exact this
theorem f95n (M:Nat) (k:List UInt8) (w:World) (h:SMap w M []):Calls prog 95 #[.pointer (some ⟨M,0,none⟩),.string (sk k),.int .i64 0,.bool false] w λe w'=>∃M',e=.returned (.pointer (some ⟨M',0,none⟩))/\SMap w' M' [k]/\Below w.heap.size w w'/\Qo w' M' w.heap.size:=by
 have hh:w.heap[M]? =some (.cells #[.int .i64 0,.nilIface,.nilIface] 198 (0,0)):=by
  rcases h.body with⟨_,h1⟩|⟨h0,_⟩
  ·exact h1
  ·exact absurd rfl h0
 have y1:w.cell? ⟨M,1,none⟩=some .nilIface:=cell_of hh rfl;have y2:w.cell? ⟨M,2,none⟩=some .nilIface:=cell_of hh rfl;have eR:=h.lt;have HC:=aa (f135 (sk k) w);have eu:Below w.heap.size w (w.alloc (.cells #[] 375)):=by go_grown
 obtain⟨W1,gZ⟩:=dS (w.alloc (.cells #[] 375));rw[<-gZ]at HC eu;have kR:W1.heap.size=w.heap.size+1:=by rw[gZ,ab]
 have Jp:=(eu.block M eR).trans hh;have jx:=aa (f136 M 0 .nilIface .nilIface W1 Jp (.inl ⟨rfl,rfl⟩));have z1:W1.cell? ⟨M,1,none⟩=some .nilIface:=cell_of Jp rfl;obtain⟨K,hK⟩:=dS (sk k);rw[<-hK]at HC⊢;have H:=rr eu kR eR Jp hK;clear hh h eR eu kR gZ Jp hK;go_enter func95,ntmps95;go_wp2_with fail;refine HC.mono ?_;rintro e w1 ⟨rfl,rfl⟩;go_wp2_with fail;refine jx.mono ?_;rintro e w2 ⟨rfl,rfl⟩;go_upto_region 8 with fail
 have x1:=dJ z1 (.cells #[.int .i64 0,.nilIface,.iface 374 (.pointer (some ⟨w.heap.size,0,none⟩))] 198);go_wp2_with fail;go_ret;obtain⟨a1,a2,a3⟩:=AE w1 (.cells #[.int .i64 1,.iface 208 (.pointer (some ⟨w1.heap.size+1+1,0,none⟩)),.iface 374 (.pointer (some ⟨w.heap.size,0,none⟩))] 198) (.cells #[.string K,.int .i64 0] 211) (.cells #[.slice (some ⟨w1.heap.size+1,0,none⟩) 1 1] 214);rw[H.2.2.2.2]at a2;refine⟨w1.heap.size,rfl,⟨by simp[KO],.inr ⟨by simp,w1.heap.size+1+1,w1.heap.size+1,1,some ⟨w.heap.size,0,none⟩,a1,⟨a3,(show k8 _ _ [k]from by rw[H.2.2.2.2];exact a2).ir,af _,by omega,by rw[ab,ab,ab];omega⟩⟩⟩,H.1.trans ?_,Qo.intro a1 a3 (by have:=H.2.1;omega) (by have:=H.2.1;omega) (by have:=H.2.1;omega)⟩;have:Below w1.heap.size w1 (((w1.alloc (.cells #[.int .i64 1,.iface 208 (.pointer (some ⟨w1.heap.size+1+1,0,none⟩)),.iface 374 (.pointer (some ⟨w.heap.size,0,none⟩))] 198)).alloc (.cells #[.string K,.int .i64 0] 211)).alloc (.cells #[.slice (some ⟨w1.heap.size+1,0,none⟩) 1 1] 214)):=by go_grown
 exact this.mono H.1.size
theorem Vi (v:Value) (w:World):(method 196 208 v "pub-bracken/pub/immutable.set").run prog w=.ok (230,v) w:=by kernel_rfl
theorem f95c (M:Nat) (l:List (List UInt8)) (k:List UInt8) (w:World) (h:SMap w M l) (eK:l≠[]) (hlen:l.length<=31):Calls prog 95 #[.pointer (some ⟨M,0,none⟩),.string (sk k),.int .i64 0,.bool false] w λe w'=>∃M',e=.returned (.pointer (some ⟨M',0,none⟩))/\SMap w' M' (ins l k)/\Below w.heap.size w w'/\Qo w' M' w.heap.size:=by
 have eR:=h.lt;have hs:=h.Un;rcases h.body with⟨h0,_⟩|⟨_,L,E,c,q,hh,hL⟩
 ·exact absurd h0 eK
 obtain⟨n,hn⟩:=dS l.length;rw[<-hn]at hh hlen;have y0:w.cell? ⟨M,0,none⟩=some (.int .i64 (n:Nat)):=cell_of hh rfl;have y1:w.cell? ⟨M,1,none⟩=some (.iface 208 (.pointer (some ⟨L,0,none⟩))):=cell_of hh rfl;have y2:w.cell? ⟨M,2,none⟩=some (.iface 374 (.pointer q)):=cell_of hh rfl;have jx:=aa (f136 M (n:Nat) _ _ w hh (.inr ⟨_,_,rfl,rfl⟩));obtain⟨W1,gZ⟩:=dS (w.alloc (.cells #[.int .i64 (n:Nat),.iface 208 (.pointer (some ⟨L,0,none⟩)),.iface 374 (.pointer q)] 198));obtain⟨M',hM'⟩:=dS w.heap.size;rw[<-gZ,<-hM']at jx;have eu:Below w.heap.size w W1:=by rw[gZ];go_grown
 have tF:W1.heap[M']? =some (.cells #[.int .i64 (n:Nat),.iface 208 (.pointer (some ⟨L,0,none⟩)),.iface 374 (.pointer q)] 198):=by rw[gZ,hM'];exact heap_alloc_new _ _
 have gB:W1.heap.size=w.heap.size+1:=by rw[gZ,ab]
 have H:=jj9 hs hL hn eu tF gB hM' eR hh;have x0:W1.cell? ⟨M',2,none⟩=some (.iface 374 (.pointer q)):=cell_of tF rfl;have x1:=el (i:=2) tF;clear hs hL hn eu tF gB hM' eR hh gZ h;have hm:=Vi (.pointer (some ⟨L,0,none⟩));go_enter func95,ntmps95;go_wp2_with fail;refine jx.mono ?_;rintro e w2 ⟨rfl,rfl⟩;go_upto_region 8 with fail
 have EF:(w2.setCell ⟨M',2,none⟩ (.iface 374 (.pointer q))).heap[M']? =some (.cells #[.int .i64 (n:Nat),.iface 208 (.pointer (some ⟨L,0,none⟩)),.iface 374 (.pointer q)] 198):=by rw[dG H.2.2.2.2.1];rfl
 have sw:ei (λb=>b=M') w2 (w2.setCell ⟨M',2,none⟩ (.iface 374 (.pointer q))):=ei.cell rfl;obtain⟨W3,kl⟩:=dS (w2.setCell ⟨M',2,none⟩ (.iface 374 (.pointer q)));have Us:W3.heap.size=w.heap.size+1:=by rw[kl,aK];exact H.2.2.2.2.2.1
 rw[<-kl]at EF sw⊢;have J':∀b,b<w.heap.size->W3.heap[b]? =w.heap[b]? :=λb hb=>(sw.same b (by have:=H.2.2.2.2.2.1;omega) (by have:=H.2.2.2.2.2.2.1;omega)).trans (H.2.2.2.1.block b hb);have gQ:Below w.heap.size w W3:=H.2.2.2.1.trans (sw.below H.2.2.2.1.size λb e=>by subst e;have:=H.2.2.2.2.2.2.1;omega);have z1:=dF gQ _ _ y1;have mZ:Below W3.heap.size W3 (W3.alloc (.cells #[.bool false] 4)):=by go_grown
 have VI:=heap_alloc_new W3 (.cells #[.bool false] 4);obtain⟨Rz,Z1⟩:=dS W3.heap.size;obtain⟨W4,qU⟩:=dS (W3.alloc (.cells #[.bool false] 4));rw[<-qU]at mZ VI;rw[<-Z1]at VI;have jq:Below w.heap.size w W4:=gQ.trans (mZ.mono gQ.size);have XW:=H.2.1.below jq;have V7:=aa (f230 L E c Rz l q k W4 XW H.1 (by rw[<-H.2.2.1];exact hlen) (by have:=H.2.1.lt;omega) (by have:=H.2.1.gu;omega) VI);have z2:W4.cell? ⟨M,1,none⟩=some (.iface 208 (.pointer (some ⟨L,0,none⟩))):=dF jq _ _ y1;have H4:=rr jq (dF jq _ _ y0) ((mZ.block M' (by have:=H.2.2.2.2.2.2.1;omega)).trans EF) Z1 Us;clear gQ mZ VI XW jq sw EF J' kl Us y0 y1 y2 x0 x1;go_upto_region 13 with fail
 rw[<-qU,<-Z1];clear qU Z1 z1;go_wp2_with fail;refine V7.mono ?_;rintro e w5 ⟨L',E',c',rfl,UD,AF,Uw,SK,hLL5⟩;have hMR:M'≠Rz/\M≠Rz/\M≠M':=by have:=H4.2.2.2;have:=H.2.2.2.2.2.2.1;have:=H.2.2.2.2.2.2.2.1;omega
 have hm5:w5.heap[M']? =some (.cells #[.int .i64 (n:Nat),.iface 208 (.pointer (some ⟨L,0,none⟩)),.iface 374 (.pointer q)] 198):=by
  refine(AF.same M' ?_ hMR.1).trans H4.2.2.1;rcases aV M' W4.heap.size with e|e
  ·exact e
  ·have:=H4.2.2.1;rw[aO e]at this;cases this
 have v0:w5.cell? ⟨M,0,none⟩=some (.int .i64 (n:Nat)):=(aF (w:=W4) (AF.same M (ai H.2.2.2.2.2.2.2.1 H4.1.size) hMR.2.1)).trans H4.2.1;have v1:w5.cell? ⟨M',0,none⟩=some (.int .i64 (n:Nat)):=cell_of hm5 rfl;have v2:w5.cell? ⟨M',1,none⟩=some (.iface 208 (.pointer (some ⟨L,0,none⟩))):=cell_of hm5 rfl;have v3:=el (i:=0) hm5;have v4:=el (i:=1) hm5;obtain⟨x,hx⟩:=dS (decide ((ins l k).length=l.length+1));rw[<-hx]at Uw;have v5:w5.cell? ⟨Rz,0,none⟩=some (.bool x):=cell_of Uw rfl;have H5:=Fp UD AF Uw hMR hm5 hx;have HL5:Hid (W4.heap.size<=L'/\W4.heap.size<=E'):=aa ⟨hLL5,SK⟩;have HE5:Hid (M'<E'):=aa (by
  have h1:M'<W4.heap.size:=by
   rcases aV M' W4.heap.size with e|e
   ·exact e
   ·have:=H4.2.2.1;rw[aO e]at this;cases this
  omega)
 clear UD AF Uw hm5 hx hMR z2 SK hLL5;go_upto_region 16 with fail
 go_upto_region 18 with fail
 have hm6:((w5.setCell ⟨M',0,none⟩ (.int .i64 (n:Nat))).setCell ⟨M',1,none⟩ (.iface 208 (.pointer (some ⟨L',0,none⟩)))).heap[M']? =some (.cells #[.int .i64 (n:Nat),.iface 208 (.pointer (some ⟨L',0,none⟩)),.iface 374 (.pointer q)] 198):=by rw[dG (dG H5.2.2.2.2.1 _)];rfl
 have BZ:ei (λb=>b=M') w5 ((w5.setCell ⟨M',0,none⟩ (.int .i64 (n:Nat))).setCell ⟨M',1,none⟩ (.iface 208 (.pointer (some ⟨L',0,none⟩)))):=(ei.cell (S:=λb=>b=M') rfl).store _ rfl;obtain⟨W6,Dr⟩:=dS ((w5.setCell ⟨M',0,none⟩ (.int .i64 (n:Nat))).setCell ⟨M',1,none⟩ (.iface 208 (.pointer (some ⟨L',0,none⟩))));rw[<-Dr]at hm6 BZ⊢;have hRw:Rz<w5.heap.size:=by
  rcases aV Rz w5.heap.size with e|e
  ·exact e
  ·have:=H5.2.2.1;rw[aO e]at this;cases this
 have u5:W6.cell? ⟨Rz,0,none⟩=some (.bool x):=(aF (w:=w5) (BZ.same Rz hRw (cE H5.2.2.2.1.1))).trans v5;have u0:W6.cell? ⟨M',0,none⟩=some (.int .i64 (n:Nat)):=cell_of hm6 rfl;have u1:=el (i:=0) hm6;have hnL:L'≠M'/\E'≠M':=by
  have h1:w5.heap[M']? =_:=H5.2.2.2.2.1;constructor
  ·intro e;have h2:=H5.1.head;rw[e,h1]at h2;simp at h2
  ·have:=H4.2.2.2;have:=H.2.2.2.2.2.2.1;have:=HE5.out;omega
 have hL6:jQ W6 L' E' (ins l k) c':=H5.1.fo BZ hnL.1 hnL.2;have gE:Below w.heap.size w W6:=by have h1:Below w.heap.size w w5:=H4.1.trans (H5.2.1.below H4.1.size λb e=>by subst e;have:=H4.2.2.2;omega);exact h1.trans (BZ.below h1.size λb e=>by subst e;have:=H.2.2.2.2.2.2.1;omega)
 have H6:=sW hm6 hL6 gE hnL;have hwn:=gW ((n:Int)+1) (by omega);have hne2:ins l k≠[]:=by intro e;have:=(uv k k l).2 (.inr rfl);rw[e]at this;simp at this
 have HNE:=aa hne2;clear hm6 BZ Dr hRw hL6 gE hnL v0 v1 v2 v3 v4 v5 hne2 eK;cases x with
 |true=>
  go_wp2_with fail;go_ret;have h7:(W6.setCell ⟨M',0,none⟩ (.int .i64 ((n:Int)+1))).heap[M']? =some (.cells #[.int .i64 (((ins l k).length:Nat):Int),.iface 208 (.pointer (some ⟨L',0,none⟩)),.iface 374 (.pointer q)] 198):=by have e:(ins l k).length=n+1:=(by have:=H5.2.2.2.2.2.symm;rw[decide_eq_true_eq,<-H.2.2.1]at this;exact this);rw[dG H6.1,e];rfl
  have c7:ei (λb=>b=M') W6 (W6.setCell ⟨M',0,none⟩ (.int .i64 ((n:Int)+1))):=ei.cell rfl;have hl7:=H6.2.1.fo c7 H6.2.2.2.1 H6.2.2.2.2;exact⟨M',rfl,⟨zh k l H.1,.inr ⟨HNE.out,L',E',c',q,h7,hl7⟩⟩,H6.2.2.1.trans (c7.below H6.2.2.1.size λb e=>by subst e;have:=H.2.2.2.2.2.2.1;omega),Qo.intro h7 hl7.head (by have:=H.2.2.2.2.2.2.1;omega) (ao H4.1.size HL5.1) (ao H4.1.size HL5.2)⟩
 |false=>
  go_wp2_with fail;go_ret;have e:(ins l k).length=n:=by have h1:=H5.2.2.2.2.2.symm;rw[decide_eq_false_iff_not,<-H.2.2.1]at h1;have h2:=Vt k l;have:=H.2.2.1;omega
  have h7:=H6.1;rw[<-e]at h7;exact⟨M',rfl,⟨zh k l H.1,.inr ⟨HNE.out,L',E',c',q,h7,H6.2.1⟩⟩,H6.2.2.1,Qo.intro h7 H6.2.1.head (by have:=H.2.2.2.2.2.2.1;omega) (ao H4.1.size HL5.1) (ao H4.1.size HL5.2)⟩
theorem f44 (M:Nat) (l:List (List UInt8)) (k:List UInt8) (w:World) (h:SMap w M l) (hlen:l.length<=31):Calls prog 44 #[.pointer (some ⟨M,0,none⟩),.string (sk k),.int .i64 0] w λe w'=>∃M',e=.returned (.pointer (some ⟨M',0,none⟩))/\SMap w' M' (ins l k)/\Below w.heap.size w w'/\Qo w' M' w.heap.size:=by
 have hC:Calls prog 95 #[.pointer (some ⟨M,0,none⟩),.string (sk k),.int .i64 0,.bool false] w λe w'=>∃M',e=.returned (.pointer (some ⟨M',0,none⟩))/\SMap w' M' (ins l k)/\Below w.heap.size w w'/\Qo w' M' w.heap.size:=by
  by_cases eK:l=[]
  ·subst eK;rw[Ew];exact f95n M k w h
  ·exact f95c M l k w h eK hlen
 have HC:=aa hC;clear hC h;go_enter func44,ntmps44;go_wp2_with fail;refine HC.mono ?_;rintro e w2 ⟨M',rfl,h1,h2⟩;have H2:=eo h1 h2;clear h1 h2;go_wp2_with fail;go_ret;exact⟨M',rfl,H2.1,H2.2⟩
end Go.Proofs.YtfejflhgaphilaaGreatDoor
