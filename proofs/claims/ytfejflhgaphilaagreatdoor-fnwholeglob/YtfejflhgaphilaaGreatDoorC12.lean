/- A pattern with state matches a text just where its tree says so. The lexer looks at, reads and gives back a character. -/
import Derived.Test.YtfejflhgaphilaaGreatDoorC11
import Derived.Test.YtfejflhgaphilaaGreatDoorC02
import Derived.Defers
import Derived.Deep.RegionHeld3
import Derived.Test.YtfejflhgaphilaaGreatDoorC09
set_option linter.all false
set_option maxRecDepth 100000
set_option maxHeartbeats 64000000
open Go.Proofs.Tryz
namespace Go.Proofs.YtfejflhgaphilaaGreatDoor
open Go.RowKit Gm
variable {root:T} {w':World}
theorem LI.YD (h:DE root) {S:List dE} {n B:Nat} (hB:wT n root 1<=B\/(root.free=true/\(vT n root v1).h<=B)) (hn:S.length<=n):LI root S n B ⟨[],[]⟩ [] true S:=by have:=LI.start h hB hn;unfold LI at this⊢;rw[ig]at this⊢;exact this
structure Bk (w:World) (b:Nat) (u:Value) (state:Bool) (ed:Nat) (eP:List dE):Prop where
 m:w.cell? ⟨b,3,none⟩=some u
 state:w.cell? ⟨b,4,none⟩=some (.bool state)
 min:w.cell? ⟨b,5,none⟩=some (.int .i64 ed)
 eP:w.cell? ⟨b,6,none⟩=some (.string (bs eP))
theorem eY.fresh (w:World) (o:Obj) (s:List dE):eY ((w.alloc o).alloc (.cells #[.slice none 0 0,.slice none 0 0,.slice none 0 0] 165)) w.heap.size (w.heap.size+1) ⟨.slice none 0 0,.slice none 0 0,.slice none 0 0⟩ s 0 ⟨[],[]⟩:=by
 have gO:∀(wx:World) (B sp:Nat) (S:SV),oq wx B sp S s (.slice none 0 0) []:=λwx B sp S=>⟨[],rfl,⟨rfl,.inl ⟨rfl,rfl⟩⟩,λi c pv h=>by simp at h⟩;have h1:=heap_alloc_new (w.alloc o) (.cells #[.slice none 0 0,.slice none 0 0,.slice none 0 0] 165);rw[ab]at h1;refine⟨h1,by omega,gO _ _ _ _,gO _ _ _ _,.inl rfl,⟨λb h=> ?_,λb h=> ?_,λb h=> ?_⟩,by simp,by simp,by simp[BT],by simp[Wh]⟩
 ·simp[Value.ownBlock]at h
 ·simp[Value.ownBlock]at h
 ·simp[Value.ownBlock]at h
theorem eF.empty (w:World):eF w (.slice none 0 0) []:=⟨none,0,rfl,af _,by simp,λh=>(h rfl).elim⟩
structure vh (w wr:World) (root:T) (s:List dE) (k C top:Nat) (p:List Nat) (kd:Bool) (r:List dE) (st:St) (S:SV) (tot:Nat) (pa:Option Addr) (pc:Nat):Prop where
 li:LI root s s.length k st p kd r
 st:eY wr w.heap.size (w.heap.size+1) S s tot st
 box:wr.heap[w.heap.size]? =some (.cells #[.int .i64 (off s r),.slice pa p.length pc,.int .i64 0,.pointer (some ⟨w.heap.size+1,0,none⟩),.int .i64 (if kd then 0 else 1),.int .i64 0] 151 (0,0))
 path:eF wr (.slice pa p.length pc) p
 pl:PL (w.heap.size+1) S (.slice pa p.length pc)
 free:yT w.heap.size (w.heap.size+1) S
 below:Below w.heap.size w wr
 cost:tot+(k+1)*C<=top
theorem vh.next {w la:World} {s:List dE} {B' C top H9:Nat} {p':List Nat} {kd':Bool} {r':List dE} {yo:St} {Wo:SV} {M5:Nat} {qa:Option Addr} {qc:Nat} {u0 u1 y0 y1 y4:Value} {kx:Int} (BW:LI root s s.length B' yo p' kd' r') (g1:eY la w.heap.size (w.heap.size+1) Wo s M5 yo) (k9:yT H9 (w.heap.size+1) Wo) (kx':yT w.heap.size (w.heap.size+1) Wo) (b9:la.heap[H9]? =some (.cells #[u0,u1] 162 (0,0))) (bx:la.heap[w.heap.size]? =some (.cells #[y0,y1,.int .i64 0,.pointer (some ⟨w.heap.size+1,0,none⟩),y4,.int .i64 0] 151 (0,0))) (hH:w.heap.size<H9) (g3:eF la (.slice qa p'.length qc) p') (g4:PL (w.heap.size+1) Wo (.slice qa p'.length qc)) (hb:Below w.heap.size w la) (hc:M5+(B'+1)*C<=top) (hk:kx=if kd' then 0 else 1):vh w ((((((la.setCell ⟨H9,0,none⟩ (.int .i64 (off s r'))).setCell ⟨H9,1,none⟩ (.slice qa p'.length qc)).setCell ⟨w.heap.size,0,none⟩ (.int .i64 (off s r'))).setCell ⟨w.heap.size,4,none⟩ (.int .i64 kx)).setCell ⟨w.heap.size,1,none⟩ (.slice qa p'.length qc)).setCell ⟨w.heap.size,2,none⟩ (.int .i64 0)) root s B' C top p' kd' r' yo Wo M5 qa qc:=by
 have e1:=dG (i:=0) b9 (.int .i64 (off s r'));have e2:=dG (i:=1) e1 (.slice qa p'.length qc);have x1:=(aq la ⟨H9,0,none⟩ (.int .i64 (off s r')) w.heap.size (show w.heap.size≠H9 by omega)).trans bx;have x2:=(aq _ ⟨H9,1,none⟩ (.slice qa p'.length qc) w.heap.size (show w.heap.size≠H9 by omega)).trans x1;have x3:=dG (i:=0) x2 (.int .i64 (off s r'));have x4:=dG (i:=4) x3 (.int .i64 kx);have x5:=dG (i:=1) x4 (.slice qa p'.length qc);have x6:=dG (i:=2) x5 (.int .i64 0);have f1:=g1.boxed (i:=0) k9 b9 (by decide) (.int .i64 (off s r'));have f2:=f1.boxed (i:=1) k9 e1 (by decide) (.slice qa p'.length qc);have f3:=f2.boxed (i:=0) kx' x2 (by decide) (.int .i64 (off s r'));have f4:=f3.boxed (i:=4) kx' x3 (by decide) (.int .i64 kx);have f5:=f4.boxed (i:=1) kx' x4 (by decide) (.slice qa p'.length qc);have f6:=f5.boxed (i:=2) kx' x5 (by decide) (.int .i64 0);have q1:=g3.boxed (i:=0) b9 (by decide) (.int .i64 (off s r'));have q2:=q1.boxed (i:=1) e1 (by decide) (.slice qa p'.length qc);have q3:=q2.boxed (i:=0) x2 (by decide) (.int .i64 (off s r'));have q4:=q3.boxed (i:=4) x3 (by decide) (.int .i64 kx);have q5:=q4.boxed (i:=1) x4 (by decide) (.slice qa p'.length qc);have q6:=q5.boxed (i:=2) x5 (by decide) (.int .i64 0);refine⟨BW,f6,?_,q6,g4,kx',?_,hc⟩
 ·rw[x6,<-hk];rfl
 ·have b1:=hb.setCell (p:=⟨H9,0,none⟩) (show w.heap.size<=H9 by omega) (.int .i64 (off s r'));have b2:=b1.setCell (p:=⟨H9,1,none⟩) (show w.heap.size<=H9 by omega) (.slice qa p'.length qc);have b3:=b2.setCell (p:=⟨w.heap.size,0,none⟩) (af _) (.int .i64 (off s r'));have b4:=b3.setCell (p:=⟨w.heap.size,4,none⟩) (af _) (.int .i64 kx);have b5:=b4.setCell (p:=⟨w.heap.size,1,none⟩) (af _) (.slice qa p'.length qc);exact b5.setCell (p:=⟨w.heap.size,2,none⟩) (af _) (.int .i64 0)
theorem f30 (b:Nat) (root:T) (u:Value) (ed:Nat) (eP s:List dE) (w:World) (hP:Bk w b u true ed eP) (hR:Rp w w.heap.size root u) (hT:fE w) (h3:3<=w.heap.size) (ez:dV s) (ry:dV eP) (hlen:(enc s).length<=1000000) (EC:DE root) (hh:uH root<=1000000) (B0:Nat) (hB0:wT s.length root 1<=B0\/(root.free=true/\(vT s.length root v1).h<=B0)) (rC:(B0+1)*fT root 0<=1000000000000) (PY:Bool) (EL:PY=true↔D root s []) (R3:D root s []->ed<=(enc s).length/\eP.isSuffixOf s=true):Calls prog 30 #[.pointer (some ⟨b,0,none⟩),.string (bs s)] w λe w'=>e=.returned (.bool PY)/\Below w.heap.size w w':=by
 obtain⟨p1,p2,p3,p4⟩:=hP;have q1:=dJ p1 (.cells #[.int .i64 0,.slice none 0 0,.int .i64 0,.pointer none,.int .i64 0,.int .i64 0] 151);have q2:=dJ p2 (.cells #[.int .i64 0,.slice none 0 0,.int .i64 0,.pointer none,.int .i64 0,.int .i64 0] 151);have q3:=dJ p3 (.cells #[.int .i64 0,.slice none 0 0,.int .i64 0,.pointer none,.int .i64 0,.int .i64 0] 151);have q4:=dJ p4 (.cells #[.int .i64 0,.slice none 0 0,.int .i64 0,.pointer none,.int .i64 0,.int .i64 0] 151);have Qi:((bs s).size:Int)=(enc s).length:=by rw[dQ]
 by_cases hA:(enc s).length<ed
 ·have Qa:PY=false:=by
   cases PY with
   |false=>rfl
   |true=>have:=(R3 (EL.1 rfl)).1;omega
  have ht:decide (((enc s).length:Int)<(ed:Int))=true:=by simpa using hA
  subst Qa;clear EL R3 EC
  go_enter_defers func30,ntmps30
  go_wp2_with fail;exact⟨_,results_tmp rfl _ _ _,rfl,by go_grown⟩
 ·have ht:decide (((enc s).length:Int)<(ed:Int))=false:=by simpa using hA
  by_cases hB:eP.isSuffixOf s=true
  ·have hS:=aa (O2 ry ez hlen hB)
   go_enter_defers func30,ntmps30
   go_wp2_with fail;refine(hS.out _).mono ?_;rintro e w1 ⟨rfl,rfl⟩;go_wp2_with fail;refine(f72 _).mono ?_;rintro e w1 ⟨rfl,rfl⟩;go_wp2_with fail;clear q1 q2 q3 q4 p2 p3 p4;have HR:=aa hR;have HRT:=aa EC;have HB:=aa hB0;have HC:=aa rC;have Ub:=aa EL;have iw:=jS ez hlen hh;clear hR EC hB0 rC EL ez hlen hh R3 hS hA hB ht ry;go_loopg [] B0 (λk wr=>∃(p:List Nat) (kd:Bool) (r:List dE) (st:St) (S:SV) (tot:Nat) (pa:Option Addr) (pc:Nat),Hid (vh w wr root s k (fT root 0) ((B0+1)*fT root 0) p kd r st S tot pa pc))
   case atStart=>
    refine⟨[],true,s,⟨[],[]⟩,⟨.slice none 0 0,.slice none 0 0,.slice none 0 0⟩,0,none,0,aa ⟨LI.YD HRT.out HB.out (af _),eY.fresh w _ s,?_,eF.empty _,?_,⟨by omega,by simp[Value.ownBlock],by simp[Value.ownBlock],by simp[Value.ownBlock]⟩,by go_grown,by omega⟩⟩
    ·have h0:off s s=0:=(by unfold off;omega);rw[h0,heap_alloc_old _ _ (by rw[ab];omega)];exact heap_alloc_new w _
    ·intro b' o' n' c' e hn;simp at e
   case round=>
    obtain⟨p,kd,r,st,S,tot,pa,pc,HL⟩:=hrel;obtain⟨kz,hkz⟩:=dS ((if kd then 0 else 1):Int);have AK:=HL.box;rw[<-hkz]at AK;have HBOX:=aa AK;have HKZ:=aa hkz;clear hkz AK;obtain⟨z0,z1,z2,z3,z4,z5⟩:=eA HBOX.out;have Xr:r<:+s:=HL.li.1;have uD:(enc r).length<=(enc s).length:=by obtain⟨v,hv⟩:=Xr;rw[<-hv];simp
    have uK:b<w.heap.size:=bp w _ p1;have p1':wr.cell? ⟨b,3,none⟩=some u:=((Old.ft HL.below (af _)).cell uK).trans p1;obtain⟨ty,v,f,rfl,hm,UB,hC⟩:=La (B:=w.heap.size) (sp:=w.heap.size+1) (txt:=s) h3 iw.1 iw.2.1 root w u HR.out HRT.wf;have Bs:=aa hC;have HLR:=eo Xr uD;clear hC;have s1:(0:Int)<=off s r:=(by unfold off;omega);have s2:off s r<=((bs s).size:Int):=by rw[dQ];unfold off;omega
    obtain⟨k0,vC⟩:=dS ((enc s).length- (enc r).length);have s3:(off s r).toNat=k0:=by unfold off;omega
    have s4:(bs s).extract k0 (bs s).size=bs r:=(by rw[vC];exact Be Xr);have s5:k0<=(bs s).size:=by rw[dQ];omega
    have HK0:=aa vC;clear vC Xr uD Qi;go_wp2_with fail;refine wp_region_noPanic ?_;refine dP (λw'=>w'.cell? ⟨w.heap.size,0,none⟩=some (.int .i64 (off s r))/\w'.cell? ⟨w.heap.size,1,none⟩=some (.slice pa p.length pc)/\w'.cell? ⟨w.heap.size,2,none⟩=some (.int .i64 0)/\w'.cell? ⟨w.heap.size,3,none⟩=some (.pointer (some ⟨w.heap.size+1,0,none⟩))/\w'.cell? ⟨w.heap.size,4,none⟩=some (.int .i64 kz)/\w'.cell? ⟨w.heap.size,5,none⟩=some (.int .i64 0)/\w'.cell? ⟨b,3,none⟩=some (.iface ty v)) [(true,0),(true,1),(true,2),(true,3),(true,4),(true,5),(true,6),(true,7),(true,8),(true,9),(true,10),(false,11),(false,12),(true,13),(true,14),(false,15)] (by kernel_rfl) (by kernel_rfl) ⟨z0,z1,z2,z3,z4,z5,p1'⟩ (λhHeld=> ?_);iterate 11
     refine dL (v:= ?_) rfl (λ_ _ _ h=>h) (by rfl) ?_ hHeld ?_;rotate_left
     ·intro w hSw;(try dsimp only at hSw);go_simp
      try with_reducible rfl
     simp only[Act.put,iX]
    refine dM rfl (λK hK=> ?_);go_simp;have Hp:pO s r (.slice pa p.length pc) (w.heap.size+1) ⟨p,0,kd,0,true⟩=.agg #[.int .i64 (off s r),.slice pa p.length pc,.int .i64 0,.pointer (some ⟨w.heap.size+1,0,none⟩),.int .i64 kz,.int .i64 0]:=by unfold pO;rw[HKZ.out];rfl
    have HOL:=aa (Old.ft HL.below (af _));have fI:=Bs.out wr.drew tot S r st ⟨p,0,kd,0,true⟩ (.slice pa p.length pc) (Rp.keep (w':=wr.drew) ⟨HOL.same⟩ root _ HR.out) ((hT.keep (w':=wr.drew) HL.below.size (HOL.same 1 (by omega)) (HOL.same 2 (by omega)))) HL.st.drew (HL.path.lk (by go_grown)) HL.pl HLR.1 (aU _) rfl (by simpa using HL.li.2.2.2.1) (by have:=iw.2.2;show 0+uH root<=_;omega) (by have h1:=HL.cost;have h2:=HC.out;rw[du,cz]at h1;show tot+fT root 0<=_;omega);rw[Hp]at fI;refine fI.mono ?_;clear fI Hp s1 s2 s3 s4 s5;rintro e w7 ⟨rfl,S',e1,e2⟩;obtain⟨k',ok,ie⟩:=mg r (M root ⟨p,0,kd,0,true⟩ r st).1;rw[ie];have Cn:=aa ie;have jq:Below w.heap.size w w7:=⟨e2.os.trans HL.below.os,e2.tape.trans HL.below.tape,e2.output.trans HL.below.output,ao HL.below.size e2.size,λc hc=>((Old.xM HL.st.drew e2).same c hc).trans (HL.below.block c hc)⟩;have q8:=aa e1;have yS:=aa (HL.st.trans (HL.st.below (by go_grown)) e2);have HY:=aa (HL.free.keep (show w.heap.size<wr.drew.heap.size from(bc.1 HBOX.out).1) e2);clear e1 e2 ie z0 z1 z2 z3 z4 z5;have Fe:=aa jq;have Wr:=aa (((Old.ft jq (af _)).cell uK).trans p1);have KR:=aa (HY.2.trans HBOX.out);clear jq;dsimp only;obtain⟨z0,z1,z2,z3,z4,z5⟩:=eA KR.out;refine hK.out _ _ ⟨z0,z1,z2,z3,z4,z5,Wr.out⟩ (λhHeld=> ?_);clear hK K p1';refine dM rfl (λK hK=> ?_);go_simp;refine hK.out _ _ hHeld (λdW=> ?_);clear hK K dW;iterate 2
     refine dL (v:= ?_) rfl (λ_ _ _ h=>h) (by rfl) ?_ hHeld ?_;rotate_left
     ·intro w hSw;(try dsimp only at hSw);go_simp
      try with_reducible rfl
     simp only[Act.put,iX]
    refine dM rfl (λK hK=> ?_);go_simp;refine hK.out _ _ hHeld (λdW=> ?_);clear hK K dW;refine dX rfl ?_;clear hHeld;go_wp2_with fail;refine NoPanic.normal ?_;have s1:(0:Int)<=off s r:=(by unfold off;have:=HLR.2;omega);have s2:off s r<=((bs s).size:Int):=by rw[dQ];unfold off;omega
    have s3:(off s r).toNat=k0:=(by rw[HK0.out];unfold off;omega);have s4:(bs s).extract k0 (bs s).size=bs r:=by rw[HK0.out];exact Be HLR.1
    have s5:k0<=(bs s).size:=(by rw[dQ,HK0.out];omega);by_cases oe:(M root ⟨p,0,kd,0,true⟩ r st).1=some []
    ·have ie:=Cn.out;rw[oe]at ie;simp only[gC,gd,aG,Int.natCast_zero,Int.sub_zero,bS,cl,bq,b8,bX,true_and,and_true]at ie;obtain⟨rfl,rfl⟩:=ie;have hq:(((enc r).length:Int)==((bs r).size:Int))=true:=(by rw[dQ];simp);have hD:=Ub.2 ((LI.step HRT.out (af _) HL.li).1 oe);subst hD;clear oe;go_wp2_with fail;refine leaves_cons (f:=73) (args:=#[.pointer (some ⟨w.heap.size+1,0,none⟩)]) (by simp) (by simp[go_sem]) ?_;refine(f73d .returning q8.out).mono ?_;rintro e u' UQ ⟨rfl,rfl,hb⟩;exact⟨_,results_tmp rfl _ _ _,rfl,Fe.trans hb⟩
    ·have mY:ok=false\/(ok=true/\(k'==((bs r).size:Int))=false):=by
      have ie:=Cn.out;cases yB:(M root ⟨p,0,kd,0,true⟩ r st).1 with
      |none=>rw[yB]at ie;simp only[gC,bS,cl,bq,b8,bX,true_and,and_true]at ie;exact .inl ie.2.symm
      |some rn=>
       rw[yB]at ie;simp only[gC,bS,cl,bq,b8,bX,true_and,and_true]at ie;refine .inr ⟨ie.2.symm,?_⟩;rw[<-ie.1,beq_eq_false_iff_ne,dQ];cases rn with
       |nil=>exact(oe yB).elim
       |cons c rn=>rw[et,aj];have:=(ec c).1;omega
     have TX:=aa ((LI.step HRT.out (af _) HL.li).2 oe);obtain⟨st',Zd⟩:=dS (M root ⟨p,0,kd,0,true⟩ r st).2;have Jc:=aa Zd;obtain⟨vs0,vs1,tC,_,_⟩:=q8.stars.form;obtain⟨vk0,vk1,vB,_,_⟩:=q8.stack.form;rw[<-Zd]at tC vB;have c0:=q8.cells.1;have c1:=q8.cells.2.1;rw[tC]at c0;rw[vB]at c1;have HVS:=aa tC;have HVK:=aa vB;have d0:=dJ c0 (.cells #[.int .i64 0,.slice none 0 0] 162);have d1:=dJ c1 (.cells #[.int .i64 0,.slice none 0 0] 162);have d2:=dJ z3 (.cells #[.int .i64 0,.slice none 0 0] 162);obtain⟨ns,J9⟩:=dS st'.stars.length;obtain⟨nk,sY⟩:=dS st'.stack.length;rw[<-J9]at c0 d0;rw[<-sY]at c1 d1;have HNS:=aa J9;have BK:=aa sY;clear Zd oe tC vB J9 sY;by_cases Zq:0<ns
     ·have EE:decide ((0:Int)<(ns:Int))=true:=(by simpa using Zq);obtain⟨ld,c,Ht⟩:∃ld c,st'.stars=ld++[c]:=by
       have eK:st'.stars≠[]:=(by have:=HNS.out;exact bG.1 (by omega));exact⟨_,_,(cV eK).symm⟩
      have T9:=aa Ht;have Wt:=aa (q8.keep (show Below w7.heap.size w7 (w7.alloc (.cells #[.int .i64 0,.slice none 0 0] 162))by go_grown));rw[<-Jc.out]at Wt;have HF9:=aa (q8.free (af w7.heap.size));have HB9:=aa (heap_alloc_new w7 (.cells #[.int .i64 0,.slice none 0 0] 162));have HX9:=aa ((heap_alloc_old w7 (.cells #[.int .i64 0,.slice none 0 0] 162) (bc.1 KR.out).1).trans KR.out);have hH:w.heap.size<w7.heap.size:=(bc.1 KR.out).1;clear Ht;rcases mY with rfl|⟨rfl,hq⟩
      all_goals
       go_wp2_with fail;refine(f74s Wt.out ld c T9.out).mono ?_;rintro e la ⟨pv,Wo,rfl,g1,g2,g3,g4⟩;obtain⟨qa,qc,rfl⟩:∃qa qc,pv=.slice qa c.path.length qc:=by obtain⟨a,k,h,_⟩:=g3;exact⟨a,k,h⟩
       have k9:=HF9.keep (by rw[ab];omega) g2;have kx:=HY.1.keep (by rw[ab];omega) g2;have b9:=k9.2.trans HB9.out;have bx:=kx.2.trans HX9.out;obtain⟨y0,y1,y2,y3,y4,y5⟩:=eA bx;have x0:la.cell? ⟨w7.heap.size,0,none⟩=some (.int .i64 0):=by simp[World.cell?,b9]
       have x1:la.cell? ⟨w7.heap.size,1,none⟩=some (.slice none 0 0):=(by simp[World.cell?,b9]);have x2:la.frozen? ⟨w7.heap.size,0,none⟩=false:=by simp[World.frozen?,b9]
       have x3:la.frozen? ⟨w7.heap.size,1,none⟩=false:=(by simp[World.frozen?,b9]);have xf:∀i,la.frozen? ⟨w.heap.size,i,none⟩=false:=λi=>by simp[World.frozen?,bx]
       have xf0:=xf 0;have xf1:=xf 1;have xf2:=xf 2;have xf4:=xf 4;have K9:=aa k9.1;have KX:=aa kx.1;have BB9:=aa b9;have BBX:=aa bx;have G1:=aa g1;have G2:=aa g2;have G34:=eo g3 g4;clear g1 g2 g3 g4 k9 kx b9 bx xf;have rD:Below w.heap.size w la:=by have hbo:=Old.xM Wt.out G2.out;have hg:=G2.out;exact⟨hg.os.trans Fe.os,hg.tape.trans Fe.tape,hg.output.trans Fe.output,ao Fe.size (ao (by rw[ab];omega) hg.size),λc hc=>(hbo.same c hc).trans ((heap_alloc_old w7 _ (by omega)).trans (Fe.block c hc))⟩
       have HB10:=aa rD;clear rD;go_wp2_with fail;obtain⟨B',Qj,BW⟩:=TX.1 ld c (by rw[<-Jc.out];exact T9.out);rw[<-Jc.out]at BW;go_roundg B'
       case measure=>exact Qj
       case rel=>refine⟨c.path,false,c.rem,_,Wo,_,qa,qc,aa (vh.next BW G1.out K9.out KX.out BB9.out BBX.out hH G34.1 G34.2 HB10.out ?_ rfl)⟩;have h1:=HL.cost;have h2:(B'+1+1)*fT root 0<=(gk+1)*fT root 0:=bB _ (by omega);rw[du (B'+1),cz]at h2;omega
     ·have EE:decide ((0:Int)<(ns:Int))=false:=(by simpa using Zq);have qS:st'.stars=[]:=b7.1 (by rw[<-HNS.out];omega);have HNIL:=aa qS;clear qS;by_cases Xz:0<nk
      ·have hp2:decide ((0:Int)<(nk:Int))=true:=(by simpa using Xz);obtain⟨ld,c,Ht⟩:∃ld c,st'.stack=ld++[c]:=by
        have eK:st'.stack≠[]:=(by have:=BK.out;exact bG.1 (by omega));exact⟨_,_,(cV eK).symm⟩
       have T9:=aa Ht;have Wt:=aa (q8.keep (show Below w7.heap.size w7 (w7.alloc (.cells #[.int .i64 0,.slice none 0 0] 162))by go_grown));rw[<-Jc.out]at Wt;have HF9:=aa (q8.free (af w7.heap.size));have HB9:=aa (heap_alloc_new w7 (.cells #[.int .i64 0,.slice none 0 0] 162));have HX9:=aa ((heap_alloc_old w7 (.cells #[.int .i64 0,.slice none 0 0] 162) (bc.1 KR.out).1).trans KR.out);have hH:w.heap.size<w7.heap.size:=(bc.1 KR.out).1;clear Ht;rcases mY with rfl|⟨rfl,hq⟩
       all_goals
        go_wp2_with fail;refine(f74k Wt.out ld c T9.out).mono ?_;rintro e la ⟨pv,Wo,rfl,g1,g2,g3,g4⟩;obtain⟨qa,qc,rfl⟩:∃qa qc,pv=.slice qa c.path.length qc:=by obtain⟨a,k,h,_⟩:=g3;exact⟨a,k,h⟩
        have k9:=HF9.keep (by rw[ab];omega) g2;have kx:=HY.1.keep (by rw[ab];omega) g2;have b9:=k9.2.trans HB9.out;have bx:=kx.2.trans HX9.out;obtain⟨y0,y1,y2,y3,y4,y5⟩:=eA bx;have x0:la.cell? ⟨w7.heap.size,0,none⟩=some (.int .i64 0):=by simp[World.cell?,b9]
        have x1:la.cell? ⟨w7.heap.size,1,none⟩=some (.slice none 0 0):=(by simp[World.cell?,b9]);have x2:la.frozen? ⟨w7.heap.size,0,none⟩=false:=by simp[World.frozen?,b9]
        have x3:la.frozen? ⟨w7.heap.size,1,none⟩=false:=(by simp[World.frozen?,b9]);have xf:∀i,la.frozen? ⟨w.heap.size,i,none⟩=false:=λi=>by simp[World.frozen?,bx]
        have xf0:=xf 0;have xf1:=xf 1;have xf2:=xf 2;have xf4:=xf 4;have K9:=aa k9.1;have KX:=aa kx.1;have BB9:=aa b9;have BBX:=aa bx;have G1:=aa g1;have G2:=aa g2;have G34:=eo g3 g4;clear g1 g2 g3 g4 k9 kx b9 bx xf;have rD:Below w.heap.size w la:=by have hbo:=Old.xM Wt.out G2.out;have hg:=G2.out;exact⟨hg.os.trans Fe.os,hg.tape.trans Fe.tape,hg.output.trans Fe.output,ao Fe.size (ao (by rw[ab];omega) hg.size),λc hc=>(hbo.same c hc).trans ((heap_alloc_old w7 _ (by omega)).trans (Fe.block c hc))⟩
        have HB10:=aa rD;clear rD;go_wp2_with fail;obtain⟨B',Qj,BW⟩:=TX.2.1 (by rw[<-Jc.out];exact HNIL.out) ld c (by rw[<-Jc.out];exact T9.out);go_roundg B'
        case measure=>exact Qj
        case rel=>refine⟨c.path,true,c.rem,_,Wo,_,qa,qc,aa (vh.next BW (by have:=G1.out;rw[HNIL.out]at this;exact this) K9.out KX.out BB9.out BBX.out hH G34.1 G34.2 HB10.out ?_ rfl)⟩;have h1:=HL.cost;have h2:(B'+1+1)*fT root 0<=(gk+1)*fT root 0:=bB _ (by omega);rw[du (B'+1),cz]at h2;omega
      ·have hp2:decide ((0:Int)<(nk:Int))=false:=(by simpa using Xz);have XD:st'.stack=[]:=b7.1 (by rw[<-BK.out];omega);have Qa:PY=false:=by
        cases PY with
        |false=>rfl
        |true=>exact(TX.2.2 (by rw[<-Jc.out];exact HNIL.out) (by rw[<-Jc.out];exact XD) (Ub.1 rfl)).elim
       subst Qa;have Wt:=aa (q8.keep (show Below w7.heap.size w7 (w7.alloc (.cells #[.int .i64 0,.slice none 0 0] 162))by go_grown));clear XD;rcases mY with rfl|⟨rfl,hq⟩
       all_goals
        go_wp2_with fail;refine leaves_cons (f:=73) (args:=#[.pointer (some ⟨w.heap.size+1,0,none⟩)]) (by simp) (by simp[go_sem]) ?_;refine(f73d .returning Wt.out).mono ?_;rintro e u' UQ ⟨rfl,rfl,hb⟩;exact⟨_,results_tmp rfl _ _ _,rfl,(Fe.trans ((show Below w7.heap.size w7 (w7.alloc (.cells #[.int .i64 0,.slice none 0 0] 162))by go_grown).mono Fe.size)).trans hb⟩
  ·have Qa:PY=false:=by
    cases PY with
    |false=>rfl
    |true=>exact(hB (R3 (EL.1 rfl)).2).elim
   subst Qa;have hS:=aa (O2 ry ez hlen (bF.2 hB));clear EL R3 EC hB
   go_enter_defers func30,ntmps30
   go_wp2_with fail;refine(hS.out _).mono ?_;rintro e w1 ⟨rfl,rfl⟩;go_wp2_with fail;exact⟨_,results_tmp rfl _ _ _,rfl,by go_grown⟩
theorem Wb:(e1 65533).length=3:=by decide
section
variable {w:World} {B L tl:Nat} {txt rest:List dE} {q:List Tok} {vq:Value} {lr gI:Int} {hr:Bool}
theorem er.below (h:er w B L txt rest tl q vq lr gI hr) (hb:Below w.heap.size w w'):er w' B L txt rest tl q vq lr gI hr:=h.keep λb uK=>hb.block b (by
 rcases uK with rfl|uK
 ·exact h.lt.1
 ·exact(h.lt.2 b uK).2)
theorem kA.ft {vq:Value} (hb:Below w.heap.size w w'):kA w w' L vq vq:=⟨ei.grown hb,λ_ h=>.inl h⟩
theorem f192 (h:er w B L txt rest tl q vq lr gI hr) (hT:fE w) (ez:dV txt):Calls prog 192 #[.pointer (some ⟨L,0,none⟩)] w λe w'=>e=.returned (.tuple #[.int .i32 (hd rest),.int .i64 (wd rest)])/\Below w.heap.size w w':=by
 obtain⟨c0,c1,_⟩:=gg h.gu;have ry:=h.eP;have oa:(enc rest).length<=(enc txt).length:=by obtain⟨u,hu⟩:=ry;rw[<-hu];simp
 have hL:=h.lt.1;cases rest with
 |nil=>
  have hq:(off txt []==((bs txt).size:Int))=true:=by rw[dQ];simp[off]
  have hq':(off txt []==((enc txt).length:Int))=true:=by simp[off]
  have hbsz:((bs txt).size:Int)=(enc txt).length:=by rw[dQ]
  clear h;go_enter func192,ntmps192;go_wp2_with fail;refine dP (λw'=>w'.cell? ⟨L,0,none⟩=some (.string (bs txt))/\w'.cell? ⟨L,1,none⟩=some (.int .i64 (off txt []))) [(true,0),(true,1),(true,2),(true,3),(true,4),(true,5),(true,6),(true,7),(true,8)] (by kernel_rfl) (by kernel_rfl) ⟨c0,c1⟩ (λhHeld=> ?_);iterate 9
   refine dL (v:= ?_) rfl (λ_ _ _ h=>h) (by rfl) ?_ hHeld ?_;rotate_left
   ·intro w hSw;(try dsimp only at hSw);go_simp
    try with_reducible rfl
   simp only[Act.put,iX]
  refine dX rfl ?_;clear hHeld;go_wp2_with fail;go_ret2;exact⟨rfl,by go_grown⟩
 |cons c r=>
  have hcr:mz c:=fg (eM ez ry);have hd:=iC (r:=r) hcr;have h1:=ec c;have ka:(enc (c::r)).length=(e1 c).length+(enc r).length:=by simp
  have hq:(off txt (c::r)==((bs txt).size:Int))=false:=by rw[beq_eq_false_iff_ne,dQ];unfold off;omega
  have hq':(off txt (c::r)==((enc txt).length:Int))=false:=by rw[beq_eq_false_iff_ne];unfold off;omega
  have s1:(0:Int)<=off txt (c::r):=by unfold off;omega
  have s2:off txt (c::r)<=((bs txt).size:Int):=by rw[dQ];unfold off;omega
  have s2':off txt (c::r)<=((enc txt).length:Int):=by unfold off;omega
  obtain⟨k0,vC⟩:=dS ((enc txt).length- (enc (c::r)).length);have s3:(off txt (c::r)).toNat=k0:=by unfold off;omega
  have s4:(bs txt).extract k0 (bs txt).size=bs (c::r):=by rw[vC];exact Be ry
  have s5:k0<=(bs txt).size:=by rw[dQ];omega
  have hbsz:((bs txt).size:Int)=(enc txt).length:=by rw[dQ]
  have h65:((c:Int)==65533)=false\/(((c:Int)==65533)=true/\(((e1 c).length:Int)==1)=false):=by
   by_cases e:c=65533
   ·right;subst e;exact⟨rfl,by rw[Wb];rfl⟩
   ·left;exact beq_eq_false_iff_ne.2 (λh=>e (dC (show((c:Nat):Int)=((65533:Nat):Int)from h)))
  have HD:=aa hd;have HK:=aa vC;clear h hd vC ka;rcases h65 with g1|⟨g1,g2⟩
  all_goals
   go_enter func192,ntmps192;go_wp2_with fail;refine dP (λw'=>w'.cell? ⟨L,0,none⟩=some (.string (bs txt))/\w'.cell? ⟨L,1,none⟩=some (.int .i64 (off txt (c::r)))) [(true,0),(true,1),(true,2),(true,3),(true,4),(true,5),(true,6),(true,7),(true,8)] (by kernel_rfl) (by kernel_rfl) ⟨c0,c1⟩ (λhHeld=> ?_);iterate 9
    refine dL (v:= ?_) rfl (λ_ _ _ h=>h) (by rfl) ?_ hHeld ?_;rotate_left
    ·intro w hSw;(try dsimp only at hSw);go_simp
     try with_reducible rfl
    simp only[Act.put,iX]
   refine dX rfl ?_;clear hHeld;go_wp2_with fail;refine dP (λw'=>w'.cell? ⟨L,0,none⟩=some (.string (bs txt))/\w'.cell? ⟨L,1,none⟩=some (.int .i64 (off txt (c::r)))) [(true,0),(true,1),(true,2),(true,3),(true,4),(true,5),(true,6),(true,7),(true,8),(false,9),(false,10),(true,11),(true,12),(false,13)] (by kernel_rfl) (by kernel_rfl) ⟨c0,c1⟩ (λhHeld=> ?_);iterate 9
    refine dL (v:= ?_) rfl (λ_ _ _ h=>h) (by rfl) ?_ hHeld ?_;rotate_left
    ·intro w hSw;(try dsimp only at hSw);go_simp
     try with_reducible rfl
    simp only[Act.put,iX]
   refine dM rfl (λK hK=> ?_);go_simp;have ZZ:fE w.drew.drew:=hT.below (B:=w.heap.size) (by go_grown) (af _);refine(Tryz.utf8_DecodeRuneInString _ _ ZZ.qN).mono ?_;rintro e w1 ⟨rfl,eu⟩;rw[HD.out];have jq:Below w.heap.size w w1:=(show Below w.heap.size w w.drew.drew by go_grown).trans eu;have d0:=dY c0 jq hL;have d1:=dY c1 jq hL;clear hHeld;dsimp only;refine hK.out _ _ ⟨d0,d1⟩ (λhHeld=> ?_);clear hK K;refine dM rfl (λK hK=> ?_);go_simp;refine hK.out _ _ hHeld (λdW=> ?_);clear hK K dW;iterate 2
    refine dL (v:= ?_) rfl (λ_ _ _ h=>h) (by rfl) ?_ hHeld ?_;rotate_left
    ·intro w hSw;(try dsimp only at hSw);go_simp
     try with_reducible rfl
    simp only[Act.put,iX]
   refine dM rfl (λK hK=> ?_);go_simp;refine hK.out _ _ hHeld (λdW=> ?_);clear hK K dW;refine dX rfl ?_;clear hHeld;go_wp2_with fail;go_ret2;exact⟨rfl,jq⟩
theorem Qp (r:List dE):wd r<=4:=by
 cases r with
 |nil=>simp[wd]
 |cons c r=>exact(ec c).2
theorem wR (h:rest<:+txt) (hlen:(enc txt).length<=1000000):0<=off txt rest/\off txt rest<=1000000:=by
 have oa:(enc rest).length<=(enc txt).length:=by obtain⟨u,hu⟩:=h;rw[<-hu];simp
 unfold off;omega
theorem tail_suffix {r:List dE}:r.tail<:+r:=List.tail_suffix r
theorem f171 (h:er w B L txt rest tl q vq lr gI hr) (hT:fE w) (ez:dV txt) (hlen:(enc txt).length<=1000000):Calls prog 171 #[.pointer (some ⟨L,0,none⟩)] w λe w'=>e=.returned (.int .i32 (hd rest))/\er w' B L txt rest.tail tl q vq (hd rest) (wd rest) false/\kA w w' L vq vq:=by
 obtain⟨c0,c1,c2,c3,c4,c5,c6,c7,cf⟩:=gg h.gu;have hb:=wR h.eP hlen;have hw:=Qp rest;have GN:=gW (off txt rest+wd rest) (by omega);have HWR:=aa GN;clear GN;have f7:=cf 7;cases hr with
 |true=>obtain⟨rfl,rfl⟩:=h.mem rfl;have H:=aa h;clear h cf;obtain⟨g1,g2⟩:=H.put 7 (.bool false) (txt':=txt) (rest':=rest) (tl':=tl) (lr':=hd rest) (lsz':=wd rest) (hr':=false) rfl H.eP (λh=>by cases h);have G1:=aa g1;have G2:=aa g2;clear g1 g2;obtain⟨d0,d1,d2,d3,d4,d5,d6,d7,df⟩:=gg G1.gu;clear df;go_enter func171,ntmps171;go_wp2_with fail;refine(f191 (L:=L) _ _ _ G1.gu rfl HWR.out).mono ?_;rintro e w' ⟨rfl,rfl⟩;obtain⟨g1,g2⟩:=G1.put 1 (.int .i64 (off txt rest+wd rest)) (txt':=txt) (rest':=rest.tail) (tl':=tl) (lr':=hd rest) (lsz':=wd rest) (hr':=false) (by rw[DP];rfl) (tail_suffix.trans H.eP) (λh=>by cases h);have G3:=aa g1;have G4:=aa g2;clear g1 g2;obtain⟨d0,d1,d2,d3,d4,d5,d6,d7,df⟩:=gg G3.gu;clear df;go_wp2_with fail;go_ret;exact⟨rfl,G3.out,G2.trans G4.out⟩
 |false=>have hpk:=f192 h hT ez;have H:=aa h;have Wv:=aa hpk;clear h cf hpk;go_enter func171,ntmps171;go_wp2_with fail;refine Wv.mono ?_;rintro e w1 ⟨rfl,eu⟩;have o4:=aa eu;have H1:=aa (H.below eu);clear eu;go_wp2_with fail;refine(f191 (L:=L) _ _ _ H1.gu rfl HWR.out).mono ?_;rintro e w' ⟨rfl,rfl⟩;obtain⟨g1,g2⟩:=H1.put 1 (.int .i64 (off txt rest+wd rest)) (txt':=txt) (rest':=rest.tail) (tl':=tl) (lr':=lr) (lsz':=gI) (hr':=false) (by rw[DP];rfl) (tail_suffix.trans H.eP) (λh=>by cases h);have G3:=aa g1;have G4:=aa g2;clear g1 g2;obtain⟨d0,d1,d2,d3,d4,d5,d6,d7,df⟩:=gg G3.gu;have df5:=df 5;clear df;obtain⟨g1,g2⟩:=G3.put 5 (.int .i32 (hd rest)) (txt':=txt) (rest':=rest.tail) (tl':=tl) (lr':=hd rest) (lsz':=gI) (hr':=false) rfl G3.eP (λh=>by cases h);have G5:=aa g1;have G6:=aa g2;clear g1 g2;obtain⟨_,_,_,_,_,_,_,_,df⟩:=gg G5.gu;have df6:=df 6;clear df;obtain⟨g1,g2⟩:=G5.put 6 (.int .i64 (wd rest)) (txt':=txt) (rest':=rest.tail) (tl':=tl) (lr':=hd rest) (lsz':=wd rest) (hr':=false) rfl G3.eP (λh=>by cases h);have G7:=aa g1;have G8:=aa g2;clear g1 g2;have e6:((w1.setCell ⟨L,1,none⟩ (.int .i64 (off txt rest+wd rest))).setCell ⟨L,5,none⟩ (.int .i32 (hd rest))).cell? ⟨L,6,none⟩=some (.int .i64 gI):=(gg G5.gu).2.2.2.2.2.2.1;go_wp2_with fail;go_ret;exact⟨rfl,G7.out,(((kA.ft o4.out).trans G4.out).trans G6.out).trans G8.out⟩
theorem f177 {r0:List dE} (h:er w B L txt r0.tail tl q vq (hd r0) (wd r0) false) (hs:r0<:+txt) (hlen:(enc txt).length<=1000000):Calls prog 177 #[.pointer (some ⟨L,0,none⟩)] w λe w'=>e=.returned (.tuple #[])/\er w' B L txt r0 tl q vq (hd r0) (wd r0) true/\kA w w' L vq vq:=by
 obtain⟨c0,c1,c2,c3,c4,c5,c6,c7,cf⟩:=gg h.gu;have hb:=wR hs hlen;have hw:=Qp r0;have ho:=DP (txt:=txt) (r:=r0);have hneg:=gW (-(wd r0:Int)) (by omega);have GN:=gW (off txt r0.tail+ -(wd r0:Int)) (by omega);have Hu:off txt r0.tail+ -(wd r0:Int)=off txt r0:=by omega
 have HWR:=aa GN;have HBK:=aa Hu;have H:=aa h;clear GN Hu h cf ho;go_enter func177,ntmps177;go_wp2_with fail;refine(f191 (L:=L) _ _ _ H.gu rfl HWR.out).mono ?_;rintro e w' ⟨rfl,rfl⟩;rw[HBK.out];obtain⟨g1,g2⟩:=H.put 1 (.int .i64 (off txt r0)) (txt':=txt) (rest':=r0) (tl':=tl) (lr':=hd r0) (lsz':=wd r0) (hr':=false) rfl hs (λh=>by cases h);have G1:=aa g1;have G2:=aa g2;clear g1 g2;obtain⟨_,_,_,_,_,_,_,_,df⟩:=gg G1.gu;have df7:=df 7;have d7:=(gg G1.gu).2.2.2.2.2.2.2.1;clear df;obtain⟨g1,g2⟩:=G1.put 7 (.bool true) (txt':=txt) (rest':=r0) (tl':=tl) (lr':=hd r0) (lsz':=wd r0) (hr':=true) rfl hs (λ_=>⟨rfl,rfl⟩);have G3:=aa g1;have G4:=aa g2;clear g1 g2;go_wp2_with fail;go_end0;exact⟨rfl,G3.out,G2.trans G4.out⟩
end
end Go.Proofs.YtfejflhgaphilaaGreatDoor
