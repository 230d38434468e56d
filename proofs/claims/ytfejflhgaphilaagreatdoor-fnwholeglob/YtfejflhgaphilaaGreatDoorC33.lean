/- A script over the sorted map: texts are put in one by one, then the items are taken. -/
import Derived.Test.YtfejflhgaphilaaGreatDoorC31
import Derived.Deep.AppendLies
import Derived.Deep.Onto
set_option linter.all false
set_option maxRecDepth 100000
set_option maxHeartbeats 64000000
open Go.Proofs.Tryz
namespace Go.Proofs.YtfejflhgaphilaaGreatDoor
open Go.RowKit Gm
def sQ (op:Int) (at':Nat) (t:List UInt8):List Value:=[.int .u8 op,.int .i64 at',.int .i64 0,.string (sk t),.int .i64 0,.int .i64 0,.int .i64 0]
structure xz (w:World) (b:Nat) (ts:List (List UInt8)):Prop where
 put:∀i t,ts[i]? =some t->∀f v,(sQ 0 i t)[f]? =some v->w.cell? ⟨b,i*7+f,none⟩=some v
 last:∀f v,(sQ 3 ts.length [])[f]? =some v->w.cell? ⟨b,ts.length*7+f,none⟩=some v
 gu:b<w.heap.size
def qM (ms:List Nat):List Value:=ms.map λM=>.pointer (some ⟨M,0,none⟩)
theorem Tryz.Vy:(prog.info? 114).map (λi=>(i.zero,i.size,i.bytes))=some (some (.pointer none),1,8):=by kernel_rfl
theorem Tryz.Ex:(prog.info? 37).map (λi=>(i.zero,i.size,i.bytes))=some (some (.agg #[.int .i64 0,.int .i64 0,.bool false,.slice none 0 0]),4,48):=by kernel_rfl
structure Put (w0 wr:World) (i:Nat) (ts:List (List UInt8)) (s7 s8:Value):Prop where
 below:Below w0.heap.size w0 wr
 rows:∃g7 c7 ms xs M,s7=.slice (some ⟨g7,0,none⟩) (i+1) c7/\wr.ownsRow w0.heap.size 114 1 s7 (i+1) (qM ms)/\ms[i]? =some M/\SMap wr M ((ts.take i).foldl ins [])/\wr.ownsRow w0.heap.size 37 4 s8 i xs/\xs.length=i*4/\s8.ownBlock≠some g7
structure Fk (w0 wr:World) (ts:List (List UInt8)) (s8:Value):Prop where
 below:Below w0.heap.size w0 wr
 row:∃xs pv B,wr.ownsRow w0.heap.size 37 4 s8 (ts.length+1) (xs++[.int .i64 0,.int .i64 ((ts.foldl ins []).length:Nat),.bool false,pv])/\xs.length=ts.length*4/\w0.heap.size<=B/\wr.ownsRow B 39 3 pv (ts.foldl ins []).length (sp (ts.foldl ins []))
theorem A0 (ts:List (List UInt8)):∀l,(ts.foldl ins l).length<=l.length+ts.length:=by
 induction ts with
 |nil=>intro l;simp
 |cons t ts ih=>intro l;have:=ih (ins l t);have:=JZ t l;simp only[List.foldl_cons,aH];omega
theorem f22 (ts:List (List UInt8)) (b c:Nat) (w:World) (fY:ts.length<=30) (h:xz w b ts):Calls prog 22 #[.agg #[.func (.func 53) #[] #[],.func (.func 54) #[] #[],.func (.func 56) #[] #[]],.nilIface,.slice (some ⟨b,0,none⟩) (ts.length+1) c] w λe w'=>∃v,e=.returned v/\Fk w w' ts v:=by
 obtain⟨n,hn⟩:=dS ts.length;rw[<-hn]at fY⊢;have H:=eo h hn;clear h hn;go_enter func22,ntmps22;go_wp2_with fail;have mQ:Below w.heap.size w (w.alloc (.cells #[.func (.func 53) #[] #[],.func (.func 54) #[] #[],.func (.func 56) #[] #[]] 73)):=by go_grown
 have HC:=aa (f42 (w.alloc (.cells #[.func (.func 53) #[] #[],.func (.func 54) #[] #[],.func (.func 56) #[] #[]] 73)));refine HC.mono ?_;rintro e w1 ⟨rfl,rfl⟩;go_wp2_with fail;obtain⟨a1,a2,a3⟩:=AE w (.cells #[.func (.func 53) #[] #[],.func (.func 54) #[] #[],.func (.func 56) #[] #[]] 73) (.cells #[.int .i64 0,.nilIface,.nilIface] 198) (.cells #[.pointer (some ⟨w.heap.size+1,0,none⟩)] 114);have hbL:Below w.heap.size w (((w.alloc (.cells #[.func (.func 53) #[] #[],.func (.func 54) #[] #[],.func (.func 56) #[] #[]] 73)).alloc (.cells #[.int .i64 0,.nilIface,.nilIface] 198)).alloc (.cells #[.pointer (some ⟨w.heap.size+1,0,none⟩)] 114)):=by go_grown
 have Uv:(((w.alloc (.cells #[.func (.func 53) #[] #[],.func (.func 54) #[] #[],.func (.func 56) #[] #[]] 73)).alloc (.cells #[.int .i64 0,.nilIface,.nilIface] 198)).alloc (.cells #[.pointer (some ⟨w.heap.size+1,0,none⟩)] 114)).heap.size=w.heap.size+3:=by rw[ab,ab,ab]
 obtain⟨WL,ZY⟩:=dS (((w.alloc (.cells #[.func (.func 53) #[] #[],.func (.func 54) #[] #[],.func (.func 56) #[] #[]] 73)).alloc (.cells #[.int .i64 0,.nilIface,.nilIface] 198)).alloc (.cells #[.pointer (some ⟨w.heap.size+1,0,none⟩)] 114));have Ki:Below (w.heap.size+1) (w.alloc (.cells #[.func (.func 53) #[] #[],.func (.func 54) #[] #[],.func (.func 56) #[] #[]] 73)) WL:=by rw[ZY];go_grown
 rw[<-ZY]at a1 a2 a3 hbL Uv⊢;obtain⟨W1,gZ⟩:=dS (w.alloc (.cells #[.func (.func 53) #[] #[],.func (.func 54) #[] #[],.func (.func 56) #[] #[]] 73));have kR:W1.heap.size=w.heap.size+1:=by rw[gZ,ab]
 rw[<-gZ,<-kR]at Ki;rw[<-gZ]at mQ;have vz:W1.heap[w.heap.size]? =some (.cells #[.func (.func 53) #[] #[],.func (.func 54) #[] #[],.func (.func 56) #[] #[]] 73):=by rw[gZ];exact heap_alloc_new _ _
 obtain⟨X,hX⟩:=dS w.heap.size;rw[<-hX]at a1 a2 a3 Uv kR vz⊢;have H0:=sW vz mQ kR hX;have oK:Hid (Put W1 WL 0 ts (.slice (some ⟨X+2,0,none⟩) 1 1) (.slice none 0 0)):=aa ⟨Ki,X+2,1,[X+1],[],X+1,rfl,⟨rfl,.inr ⟨X+2,1,_,rfl,by omega,a3,af _,by decide,rfl,rfl⟩⟩,rfl,⟨by simp[KO],.inl ⟨rfl,a2⟩⟩,⟨rfl,.inl ⟨rfl,rfl⟩⟩,rfl,by simp[Value.ownBlock]⟩;clear a1 a2 a3 hbL Uv ZY Ki kR gZ mQ vz hX HC;go_loopg [24,7,8] (n+1) (λk s24 s7 s8 wr=>∃i:Nat,k=n+1-i/\s24=.int .i64 i/\((i<=n/\Hid (Put W1 wr i ts s7 s8))\/(i=n+1/\Hid (Fk W1 wr ts s8))))
 case atStart=>exact⟨0,rfl,rfl,.inl ⟨aU _,oK⟩⟩
 case round=>
  obtain⟨i,rfl,rfl,⟨hi,HP⟩|⟨rfl,HA⟩⟩:=hrel
  ·obtain⟨wA,Xj⟩:=dS wr;subst Xj;obtain⟨Js,g7,c7,ms,xs,M,rfl,r7,hM,hS,r8,BV,eK⟩:=HP.out;obtain⟨a8,c8,rfl,_,_⟩:=d' r8;have jq:Below w.heap.size w wA:=H0.2.1.trans (Js.mono H0.2.1.size);have kY:=gW ((i:Int)+1) (by omega);have BH:decide ((i:Int)<(n:Int)+1)=true:=(by simp;omega);have i1:(0:Int)<=(i:Int):=by omega
   have i2:(i:Int)<(n:Int)+1:=(by omega);have i3:(i:Int)<(i:Int)+1:=by omega
   have y7:wA.cell? ⟨g7,i,none⟩=some (.pointer (some ⟨M,0,none⟩)):=(by rw[r7.cellAt i (by omega)];simp[qM,hM]);have VD:wA.heap[X]? =some (.cells #[.func (.func 53) #[] #[],.func (.func 54) #[] #[],.func (.func 56) #[] #[]] 73):=(Js.block X (by have:=H0.2.2.1;omega)).trans H0.1;by_cases jn:i<n
   ·obtain⟨t,ht⟩:∃t,ts[i]? =some t:=⟨_,ah (by rw[<-H.2];exact jn)⟩;have hp:=H.1.put i t ht;have z0:=dF jq _ _ (hp 0 _ rfl);have z1:=dF jq _ _ (hp 1 _ rfl);have z2:=dF jq _ _ (hp 2 _ rfl);have z3:=dF jq _ _ (hp 3 _ rfl);have z4:=dF jq _ _ (hp 4 _ rfl);have z5:=dF jq _ _ (hp 5 _ rfl);have z6:=dF jq _ _ (hp 6 _ rfl);rw[bL]at z0;obtain⟨K,hK⟩:=dS (sk t);rw[<-hK]at z3;have K0:=aa (f43 i (i+1) (by omega) (by omega) (wA.alloc (.cells #[.int .u8 0,.int .i64 i,.int .i64 0,.string K,.int .i64 0,.int .i64 0,.int .i64 0] 29)));have Yv:=dJ y7 (.cells #[.int .u8 0,.int .i64 i,.int .i64 0,.string K,.int .i64 0,.int .i64 0,.int .i64 0] 29);have HA:=jj9 ht hK Js r7 hM hS r8 BV (And.intro eK (And.intro jq VD));clear ht hK Js r7 hM hS r8 BV eK jq VD hp y7 HP oK;go_wp2_with fail;refine K0.mono ?_;rintro e w2 ⟨rfl,rfl⟩;go_upto_region 8 with fail
    obtain⟨A1,xY⟩:=dS wA.heap.size;obtain⟨A2,yH⟩:=dS (A1+1);have b1:=heap_alloc2_old wA (.cells #[.int .u8 0,.int .i64 i,.int .i64 0,.string K,.int .i64 0,.int .i64 0,.int .i64 0] 29) (.cells #[.int .i64 0,.int .i64 0,.bool false,.slice none 0 0] 37);have b2:=heap_alloc2_new wA (.cells #[.int .u8 0,.int .i64 i,.int .i64 0,.string K,.int .i64 0,.int .i64 0,.int .i64 0] 29) (.cells #[.int .i64 0,.int .i64 0,.bool false,.slice none 0 0] 37);obtain⟨wC,Ey⟩:=dS ((wA.alloc (.cells #[.int .u8 0,.int .i64 i,.int .i64 0,.string K,.int .i64 0,.int .i64 0,.int .i64 0] 29)).alloc (.cells #[.int .i64 0,.int .i64 0,.bool false,.slice none 0 0] 37));have Hv:Below wA.heap.size wA wC:=by rw[Ey];go_grown
    have RM:wC.heap.size=A2+1:=(by rw[Ey,ab,ab,<-xY,yH]);rw[<-Ey,<-xY]at b1 b2⊢;rw[<-yH]at b2⊢;have x0:wC.cell? ⟨X,0,none⟩=some (.func (.func 53) #[] #[]):=dF Hv _ _ (cell_of HA.2.2.2.2.2.2.2.2.2.2 rfl);have q0:wC.cell? ⟨A1,0,none⟩=some (.int .u8 0):=cell_of b1 rfl;have q2:wC.cell? ⟨A1,2,none⟩=some (.int .i64 0):=cell_of b1 rfl;have q3:wC.cell? ⟨A1,3,none⟩=some (.string K):=cell_of b1 rfl;have q4:wC.cell? ⟨A1,4,none⟩=some (.int .i64 0):=cell_of b1 rfl;have OT:SMap wC.drew M ((ts.take i).foldl ins []):=(HA.2.2.2.2.2.1.below Hv).below (by go_grown);have eR:((ts.take i).foldl ins []).length<=31:=by have:=A0 (ts.take i) [];rw[bn]at this;simp only[aG]at this;omega
    have V7:=f44 M ((ts.take i).foldl ins []) t wC.drew OT eR;rw[<-HA.2.1]at V7;have Bs:=aa V7;have HC53:=aa (f53 (.int .i64 0) (.string K) wC.drew);have HB:=Ur b1 b2 Hv RM xY yH eR;clear b1 b2 Hv RM xY yH eR V7 OT Ey Yv z0 z1 z2 z3 z4 z5 z6;go_upto_region 10 with fail
    refine dP (λw'=>Below wC.heap.size wC w') [(true,0),(true,1),(true,2),(true,3),(true,4),(true,5),(true,6),(true,8),(true,9),(false,7),(false,10)] (by kernel_rfl) (by kernel_rfl) (by go_grown) (λhHeld=> ?_);iterate 9
     refine dL (v:= ?_) rfl (λ_ _ _ h=>h) (by rfl) ?_ hHeld ?_;rotate_left
     ·intro wz hSw;have k0:=dF hSw _ _ x0;have k2:=dF hSw _ _ q2;have k3:=dF hSw _ _ q3;have k4:=dF hSw _ _ q4;go_simp
      try with_reducible rfl
     simp only[Act.put,iX]
    refine dM rfl (λKK mE=> ?_);go_simp;refine HC53.mono ?_;rintro e w4 ⟨rfl,rfl⟩;refine mE.out _ _ (by go_grown) (λiU=> ?_);clear mE KK;refine dM rfl (λKK mE=> ?_);go_simp;refine Bs.mono ?_;rintro e w5 ⟨M',rfl,Z0,jF,hf5⟩;refine mE.out _ _ ((by go_grown:Below wC.heap.size wC wC.drew).trans jF) (λmh=> ?_);clear mE KK hHeld iU mh;refine dX rfl ?_;have AM:Below wC.heap.size wC w5:=(by go_grown:Below wC.heap.size wC wC.drew).trans jF;have p0:=dF AM _ _ q0;have b1':=(AM.block A1 (by have:=HB.2.2.2;omega)).trans HB.1;have E2:=(AM.block A2 (by have:=HB.2.2.2;omega)).trans HB.2.1;have e5:(ts.take (i+1)).foldl ins []=ins ((ts.take i).foldl ins []) t:=by rw[ca,HA.1,List.foldl_append];rfl
    have R4:ins ((ts.take i).foldl ins []) t≠[]:=(by intro e;have:=(uv t t ((ts.take i).foldl ins [])).2 (.inr rfl);rw[e]at this;simp at this);obtain⟨h0,L,E,cc,q,Z5,UD⟩:ins ((ts.take i).foldl ins []) t≠[]/\∃L E cc q,w5.heap[M']? =some (.cells #[.int .i64 ((ins ((ts.take i).foldl ins []) t).length:Nat),.iface 208 (.pointer (some ⟨L,0,none⟩)),.iface 374 (.pointer q)] 198 (0,0))/\jQ w5 L E (ins ((ts.take i).foldl ins []) t) cc:=by
     rcases Z0.body with⟨e,_⟩|h
     ·exact absurd e R4
     ·exact h
    obtain⟨m,hm⟩:=dS (ins ((ts.take i).foldl ins []) t).length;rw[<-hm]at Z5;have KZ:=aa (f49 M' (m:Nat) _ _ w5 Z5);have v1:w5.cell? ⟨A2,1,none⟩=some (.int .i64 0):=cell_of E2 rfl;have v2:=el (i:=1) E2;have H5:=Fp AM Z0 hf5 b1' E2 e5;clear AM Z0 hf5 b1' E2 e5 R4 Z5 UD hm h0 jF q0 q2 q3 q4 x0;go_upto_region 39 with fail
    go_wp2_with fail;refine KZ.mono ?_;rintro e w6 ⟨rfl,rfl⟩;go_upto_region 40 with fail
    have ZB:(w6.setCell ⟨A2,1,none⟩ (.int .i64 (m:Nat))).heap[A2]? =some (.cells #[.int .i64 0,.int .i64 (m:Nat),.bool false,.slice none 0 0] 37):=(by rw[dG H5.2.2.2.2.1];rfl);have pJ:ei (λb=>b=A2) w6 (w6.setCell ⟨A2,1,none⟩ (.int .i64 (m:Nat))):=ei.cell rfl;obtain⟨W7,Mr⟩:=dS (w6.setCell ⟨A2,1,none⟩ (.int .i64 (m:Nat)));rw[<-Mr]at ZB pJ⊢;have uE:∀b,b<wA.heap.size->W7.heap[b]? =wA.heap[b]? :=λb hb=>by have h1:=HB.2.2.1.size;have h2:=HB.2.2.2;exact(pJ.same b (ai hb (ao h1 H5.1.size)) (by omega)).trans ((H5.1.block b (ai hb h1)).trans (HB.2.2.1.block b hb))
    have hA7:wA.heap.size<=W7.heap.size:=ao HB.2.2.1.size (ao H5.1.size pJ.size);have hr7:W7.ownsRow W1.heap.size 114 1 (.slice (some ⟨g7,0,none⟩) (i+1) c7) (i+1) (qM ms):=dI HA.2.2.2.1 λg hg=>uE g (HA.2.2.2.1.lt g hg).2;have RQ:W7.ownsRow W1.heap.size 37 4 (.slice a8 i c8) i xs:=dI HA.2.2.2.2.2.2.1 λg hg=>uE g (HA.2.2.2.2.2.2.1.lt g hg).2;have AH:Below W1.heap.size W1 W7:=by have h1:Below W1.heap.size W1 w6:=HA.2.2.1.trans ((HB.2.2.1.trans (H5.1.mono HB.2.2.1.size)).mono HA.2.2.1.size);refine h1.trans (pJ.below h1.size λb e=> ?_);have:=HB.2.2.2;have:=HA.2.2.1.size;omega
    have hg7:=HA.2.2.2.1.lt g7 rfl;have H7:=YT ZB pJ uE hA7 hr7 RQ AH hg7;clear ZB pJ uE hA7 hr7 RQ AH hg7 Mr v1 v2;obtain⟨i0,hi0,gD,gB,gF⟩:=info_parts Tryz.Vy;obtain⟨j0,BG,vC,uF,EI⟩:=info_parts Tryz.Ex;go_wp2_with (at_builtin;refine wpList_append_lies _ rfl (.tmp 160) (.tmp 162) 116 rfl W1.heap.size 114 i0 (.pointer none) 1 8 underlying116 hi0 gD gB gF rfl (by decide) (.slice (some ⟨g7,0,none⟩) (i+1) c7) (i+1) (qM ms) rfl ?lG ⟨W7.heap.size,0,none⟩ 1 1 [.pointer (some ⟨M',0,none⟩)] rfl rfl ?lF ?lE (by decide) ?lD ?lC ?lB (W7.heap.size+1) ?my ?Q0)
    case lG=>exact H7.2.2.2.2.1.alloc _
    case lF=>exact World.news_of_block (heap_alloc_new W7 _)
    case lE=>intro u hu;simp only[aE]at hu;subst hu;rfl
    case lD=>unfold maxLen;omega
    case lC=>omega
    case lB=>rw[ab];have:=H7.2.2.2.2.2.2.1.size;omega
    case my=>rw[ab]
    case Q0=>
     intro g9 PV w8 Hd Kd SD R9;obtain⟨q1,q2,q3,q4,q5⟩:=Kd;have VU:∀b,b<W7.heap.size->b≠g7->w8.heap[b]? =W7.heap[b]? :=λb hb hn=>by refine(q5 b (by rw[ab];omega) λe=>hn ?_).trans (heap_alloc_old _ _ hb);simp only[Value.ownBlock,ae]at e;exact e
     have Zf:W7.heap.size+1<=w8.heap.size:=(by rw[ab]at q4;exact q4);have SM:A2<W7.heap.size:=by have:=HB.2.2.2.1;have:=H5.1.size;have:=H7.2.1.size;omega
     have SN:A2≠g7:=(by have:=H7.2.2.2.2.2.2.2.2;have:=HB.2.2.2;omega);have R8:=(VU A2 SM SN).trans H7.1;have u0:w8.cell? ⟨A2,0,none⟩=some (.int .i64 0):=cell_of R8 rfl;have u1:w8.cell? ⟨A2,1,none⟩=some (.int .i64 (m:Nat)):=cell_of R8 rfl;have u2:w8.cell? ⟨A2,2,none⟩=some (.bool false):=cell_of R8 rfl;have u3:w8.cell? ⟨A2,3,none⟩=some (.slice none 0 0):=cell_of R8 rfl;have V9:∀g,(Value.slice a8 i c8).ownBlock=some g->g≠g7/\g<wA.heap.size:=λg hg=>⟨λe=>by subst e;exact HA.2.2.2.2.2.2.2.2.1 hg,(HA.2.2.2.2.2.2.1.lt g hg).2⟩;have RP:w8.ownsRow W1.heap.size 37 4 (.slice a8 i c8) i xs:=dI H7.2.2.2.2.2.1 λg hg=>VU g (ai (V9 g hg).2 H7.2.2.2.1) (V9 g hg).1;have SC:g9=g7\/g9=W7.heap.size+1:=by
      rcases SD with e|e
      ·simp only[Value.ownBlock,ae]at e;exact .inl e.symm
      ·exact .inr e
     have RG:w8.os=W7.os/\w8.tape=W7.tape/\w8.output=W7.output:=⟨q1.trans rfl,q2.trans rfl,q3.trans rfl⟩;have H8:=YT Hd VU Zf RP SC R9 V9 RG;clear Hd q1 q2 q3 q4 q5 SD R9 VU Zf SM SN R8 V9 RP SC RG;go_wp2_with (at_builtin;refine wpList_append_lies _ rfl (.tmp 164) (.tmp 166) 30 rfl W1.heap.size 37 j0 (.agg #[.int .i64 0,.int .i64 0,.bool false,.slice none 0 0]) 4 48 underlying30 BG vC uF EI rfl (by decide) (.slice a8 i c8) i xs rfl ?lG ⟨w8.heap.size,0,none⟩ 1 1 [.int .i64 0,.int .i64 (m:Nat),.bool false,.slice none 0 0] rfl rfl ?lF ?lE (by decide) ?lD ?lC ?lB (w8.heap.size+1) ?my ?Q0)
     case lG=>exact H8.2.2.2.1.alloc _
     case lF=>exact World.news_of_block (heap_alloc_new w8 _)
     case lE=>intro u hu;simp only[az,ba,or_false]at hu;rcases hu with rfl|rfl|rfl|rfl<;>rfl
     case lD=>unfold maxLen;omega
     case lC=>omega
     case lB=>rw[ab];have:=H7.2.2.2.2.2.2.1.size;have:=H8.2.2.1;omega
     case my=>rw[ab]
     case Q0=>
      intro gA TE la od qp uM Az;obtain⟨q1,q2,q3,q4,q5⟩:=qp;have Hk:∀b,b<w8.heap.size->(Value.slice a8 i c8).ownBlock≠some b->la.heap[b]? =w8.heap[b]? :=λb hb hn=>
       (q5 b (by rw[ab];omega) λe=>hn e.symm).trans (heap_alloc_old _ _ hb)
      have yy:w8.heap.size+1<=la.heap.size:=(by rw[ab]at q4;exact q4);have Sh:(Value.slice a8 i c8).ownBlock≠some g9:=λe=>by
       have h1:=H8.2.2.2.2.2.2.1 g9 e;have:=H7.2.2.2.1;rcases H8.2.2.2.2.1 with e|e
       ·exact h1.1 e
       ·omega
      have GY:la.ownsRow W1.heap.size 114 1 (.slice (some ⟨g9,0,none⟩) (i+1+1) PV) (i+1+1) (qM ms++[.pointer (some ⟨M',0,none⟩)]):=dI H8.1 λg hg=>by simp only[Value.ownBlock,ae]at hg;subst hg;exact Hk g9 H8.2.2.2.2.2.1 Sh
      have AL:Below W1.heap.size W1 la:=by
       have h7:=H7.2.2.2.2.2.2.1;have h8:=H8.2.2.2.2.2.2.2;refine⟨(q1.trans h8.1).trans h7.os,(q2.trans h8.2.1).trans h7.tape,(q3.trans h8.2.2).trans h7.output,by have:=h7.size;have:=H8.2.2.1;omega,λb hb=> ?_⟩;have h9:=h7.size;refine(Hk b (by have:=H8.2.2.1;omega) λe=> ?_).trans ((H8.2.1 b (by omega) ?_).trans (h7.block b hb))
       ·have:=(HA.2.2.2.2.2.2.1.lt b e).1;omega
       ·have:=H7.2.2.2.2.2.2.2.1;omega
      have gY:=H5.2.1.keep H5.2.2.1 (w':=la) (λb J' hb=>by have hlo':A2+1<=b:=(by have:=HB.2.2.2.1;simpa[<-this]using J');have h7s:=H7.2.1.size;have h7g:=H7.2.2.2.2.2.2.2.2;have hAA:=HB.2.2.2;refine(Hk b (by have:=H8.2.2.1;omega) λe=> ?_).trans ((H8.2.1 b (by omega) (by omega)).trans (H7.2.1.same b hb (by omega)));have:=(H8.2.2.2.2.2.2.1 b e).2;omega) (by have:=H7.2.1.size;have:=H8.2.2.1;omega);have R0:(Value.slice (some ⟨gA,0,none⟩) (i+1) TE).ownBlock≠some g9:=λe=>by
       simp only[Value.ownBlock,ae]at e;subst e;rcases uM with e|e
       ·exact Sh e
       ·have:=H8.2.2.2.2.2.1;omega
      have Me:=HA.2.2.2.1.1;have HF:=Fp od GY AL gY R0 Me;clear od GY AL gY R0 Me Hk yy Sh q1 q2 q3 q4 q5 uM Az;go_wp2_with fail;go_roundg (n+1- (i+1))
      case measure=>omega
      case rel=>
       have qo:ms.length=i+1:=(by have:=HF.2.2.2.2.2;simpa[qM]using this);refine⟨i+1,rfl,rfl,.inl ⟨by omega,aa ⟨HF.2.2.1,g9,PV,ms++[M'],xs++[.int .i64 0,.int .i64 (m:Nat),.bool false,.slice none 0 0],M',rfl,?_,?_,?_,HF.1,?_,HF.2.2.2.2.1⟩⟩⟩
       ·have:=HF.2.1;rw[show qM (ms++[M'])=qM ms++[.pointer (some ⟨M',0,none⟩)]by simp[qM]];exact this
       ·rw[aR (by omega),qo];simp
       ·rw[H5.2.2.2.2.2];exact HF.2.2.2.1.1
       ·rw[aj,HA.2.2.2.2.2.2.2.1];simp;omega
   ·have sL:i=n:=(by omega);subst sL;have hp:=H.1.last;rw[<-H.2]at hp;have z0:=dF jq _ _ (hp 0 _ rfl);have z1:=dF jq _ _ (hp 1 _ rfl);have z2:=dF jq _ _ (hp 2 _ rfl);have z3:=dF jq _ _ (hp 3 _ rfl);have z4:=dF jq _ _ (hp 4 _ rfl);have z5:=dF jq _ _ (hp 5 _ rfl);have z6:=dF jq _ _ (hp 6 _ rfl);rw[bL]at z0;obtain⟨K,hK⟩:=dS (sk []);rw[<-hK]at z3;have K0:=aa (f43 i (i+1) (by omega) (by omega) (wA.alloc (.cells #[.int .u8 3,.int .i64 i,.int .i64 0,.string K,.int .i64 0,.int .i64 0,.int .i64 0] 29)));have Yv:=dJ y7 (.cells #[.int .u8 3,.int .i64 i,.int .i64 0,.string K,.int .i64 0,.int .i64 0,.int .i64 0] 29);have tD:ts.take i=ts:=aP (by rw[H.2];exact af _);rw[tD]at hS;have HA:=rr Js hS r8 BV VD;clear hK Js r7 hM hS r8 BV eK jq VD hp y7 HP oK tD;go_wp2_with fail;refine K0.mono ?_;rintro e w2 ⟨rfl,rfl⟩;go_upto_region 8 with fail
    obtain⟨A1,xY⟩:=dS wA.heap.size;obtain⟨A2,yH⟩:=dS (A1+1);have b1:=heap_alloc2_old wA (.cells #[.int .u8 3,.int .i64 i,.int .i64 0,.string K,.int .i64 0,.int .i64 0,.int .i64 0] 29) (.cells #[.int .i64 0,.int .i64 0,.bool false,.slice none 0 0] 37);have b2:=heap_alloc2_new wA (.cells #[.int .u8 3,.int .i64 i,.int .i64 0,.string K,.int .i64 0,.int .i64 0,.int .i64 0] 29) (.cells #[.int .i64 0,.int .i64 0,.bool false,.slice none 0 0] 37);obtain⟨wC,Ey⟩:=dS ((wA.alloc (.cells #[.int .u8 3,.int .i64 i,.int .i64 0,.string K,.int .i64 0,.int .i64 0,.int .i64 0] 29)).alloc (.cells #[.int .i64 0,.int .i64 0,.bool false,.slice none 0 0] 37));have Hv:Below wA.heap.size wA wC:=by rw[Ey];go_grown
    have RM:wC.heap.size=A2+1:=(by rw[Ey,ab,ab,<-xY,yH]);rw[<-Ey,<-xY]at b1 b2⊢;rw[<-yH]at b2⊢;have x0:wA.cell? ⟨X,0,none⟩=some (.func (.func 53) #[] #[]):=cell_of HA.2.2.2.2 rfl;have x1:wA.cell? ⟨X,1,none⟩=some (.func (.func 54) #[] #[]):=cell_of HA.2.2.2.2 rfl;have x2:wA.cell? ⟨X,2,none⟩=some (.func (.func 56) #[] #[]):=cell_of HA.2.2.2.2 rfl;have q0:wC.cell? ⟨A1,0,none⟩=some (.int .u8 3):=cell_of b1 rfl;have OT:SMap wC.drew M (ts.foldl ins []):=(HA.2.1.below Hv).below (by go_grown);have eR:(ts.foldl ins []).length<=30:=by have:=A0 ts [];rw[<-H.2]at this;simp only[aG]at this;omega
    have HC48:=aa (f48 M (ts.foldl ins []) wC.drew OT);have HB:=YT b1 b2 Hv RM xY yH eR OT;clear b1 b2 Hv RM xY yH eR OT Ey Yv z0 z1 z2 z3 z4 z5 z6;go_upto_region 16 with fail
    refine dP (λw'=>Below wA.heap.size wA w') [(true,0),(true,1),(true,4),(false,2),(false,3),(true,6),(false,5),(false,7),(true,8)] (by kernel_rfl) (by kernel_rfl) (HB.2.2.1.trans ((by go_grown:Below wC.heap.size wC wC.drew).mono HB.2.2.1.size)) (λhHeld=> ?_);iterate 3
     refine dL (v:= ?_) rfl (λ_ _ _ h=>h) (by rfl) ?_ hHeld ?_;rotate_left
     ·intro wz hSw;have k0:=dF hSw _ _ x0;have k1:=dF hSw _ _ x1;have k2:=dF hSw _ _ x2;go_simp
      try with_reducible rfl
     simp only[Act.put,iX]
    refine dM rfl (λKK mE=> ?_);go_simp;refine HC48.mono ?_;rintro e w4 ⟨rfl,Kh,mZ⟩;have xg:Below wC.heap.size wC w4:=(by go_grown:Below wC.heap.size wC wC.drew).trans mZ;have XY:wC.drew.heap.size<w4.heap.size:=by
     rcases Kh with⟨_,h⟩|⟨_,_,_,_,_,h,_⟩
     ·exact bp _ _ h
     ·exact h.lt
    refine mE.out _ _ (HB.2.2.1.trans (xg.mono HB.2.2.1.size)) (λiU=> ?_);clear mE KK;have HC47:=aa (f47 wC.drew.heap.size (ts.foldl ins []) w4 Kh XY (by have:=HB.2.2.2.2.2.2.1;omega));refine dM rfl (λKK mE=> ?_);go_simp;refine HC47.mono ?_;rintro e w5 ⟨pv,B,rfl,hB,qR,gP⟩;have gJ:wC.drew.heap.size=wC.heap.size:=rfl;have jF:Below wC.heap.size wC w5:=xg.trans (gP.below xg.size λb e=>by rw[e,gJ];exact af _);have qq:Below wA.heap.size wA w5:=HB.2.2.1.trans (jF.mono HB.2.2.1.size);refine mE.out _ _ qq (λmh=> ?_);clear mE KK;refine dL (v:= ?_) rfl (λ_ _ _ h=>h) (by rfl) ?_ mh ?_;rotate_left
    ·intro wz hSw;go_simp
     try with_reducible rfl
    simp only[Act.put,iX];obtain⟨m,hm⟩:=dS (ts.foldl ins []).length;have KZ:Hid (Calls prog 49 #[.pointer (some ⟨M,0,none⟩)] w5 λe w'=>e=.returned (.int .i64 (m:Nat))/\w'=w5):=aa (by
     have h5:SMap w5 M (ts.foldl ins []):=(show SMap wC M (ts.foldl ins [])from HA.2.1.below HB.2.2.1).below jF;rcases h5.body with⟨e,h⟩|⟨_,L,E,cc,q,h,_⟩
     ·rw[hm,e];exact f49 M 0 _ _ w5 h
     ·rw[hm];exact f49 M _ _ _ w5 h)
    refine dM rfl (λKK mE=> ?_);go_simp;refine KZ.mono ?_;rintro e w6 ⟨rfl,rfl⟩;refine mE.out _ _ qq (λtJ=> ?_);clear mE KK;obtain⟨ap,cp,RR,_,_⟩:=d' qR;rw[<-hm]at RR;subst RR;have HM:=aa hm;clear hm;have E2:=(jF.block A2 (by have:=HB.2.2.2;omega)).trans HB.2.1;have v3:w6.cell? ⟨A2,3,none⟩=some (.slice none 0 0):=cell_of E2 rfl;have f3:=el (i:=3) E2;have b3:(w6.setCell ⟨A2,3,none⟩ (.slice ap m cp)).heap[A2]? =some (.cells #[.int .i64 0,.int .i64 0,.bool false,.slice ap m cp] 37):=(by rw[dG E2];rfl);have BZ:ei (λb=>b=A2) w6 (w6.setCell ⟨A2,3,none⟩ (.slice ap m cp)):=ei.cell rfl;obtain⟨W6,Dr⟩:=dS (w6.setCell ⟨A2,3,none⟩ (.slice ap m cp));refine dM rfl (λKK mE=> ?_);go_simp;rw[<-Dr]at b3 BZ⊢;clear Dr;have xW:Below wA.heap.size wA W6:=qq.trans (BZ.below qq.size λb e=>by subst e;have:=HB.2.2.2;omega);refine mE.out _ _ xW (λAO=> ?_);clear mE KK;refine dL (v:= ?_) rfl (λ_ _ _ h=>h) (by rfl) ?_ AO ?_;rotate_left
    ·intro wz hSw;go_simp
     try with_reducible rfl
    simp only[Act.put,iX];refine dX rfl ?_;have c1:W6.cell? ⟨A2,1,none⟩=some (.int .i64 0):=cell_of b3 rfl;have f1:=el (i:=1) b3;have b4:(W6.setCell ⟨A2,1,none⟩ (.int .i64 (m:Nat))).heap[A2]? =some (.cells #[.int .i64 0,.int .i64 (m:Nat),.bool false,.slice ap m cp] 37):=(by rw[dG b3];rfl);have pJ:ei (λb=>b=A2) w6 (W6.setCell ⟨A2,1,none⟩ (.int .i64 (m:Nat))):=BZ.store _ rfl;go_upto_region 34 with fail
    obtain⟨W7,Mr⟩:=dS (W6.setCell ⟨A2,1,none⟩ (.int .i64 (m:Nat)));rw[<-Mr]at b4 pJ⊢;have Ia:A1≠A2/\A1=wA.heap.size/\A2=wA.heap.size+1:=(by have:=HB.2.2.2;omega);have hp0:W7.cell? ⟨A1,0,none⟩=some (.int .u8 3):=(aF (w:=w6) (pJ.same A1 (by have:=jF.size;have:=HB.2.2.2;omega) Ia.1)).trans (dF jF _ _ q0);have u0:W7.cell? ⟨A2,0,none⟩=some (.int .i64 0):=cell_of b4 rfl;have u1:W7.cell? ⟨A2,1,none⟩=some (.int .i64 (m:Nat)):=cell_of b4 rfl;have u2:W7.cell? ⟨A2,2,none⟩=some (.bool false):=cell_of b4 rfl;have u3:W7.cell? ⟨A2,3,none⟩=some (.slice ap m cp):=cell_of b4 rfl;have RQ:W7.ownsRow W1.heap.size 37 4 (.slice a8 i c8) i xs:=dI HA.2.2.1 λg hg=>by have gT:=(HA.2.2.1.lt g hg).2;exact(pJ.same g (ai gT qq.size) (by omega)).trans (qq.block g gT)
    have AH:Below W1.heap.size W1 W7:=(by have h1:Below W1.heap.size W1 w6:=HA.1.trans (qq.mono HA.1.size);refine h1.trans (pJ.below h1.size λb e=> ?_);have:=HA.1.size;omega);have RS:W7.ownsRow B 39 3 (.slice ap m cp) (ts.foldl ins []).length (sp (ts.foldl ins [])):=dI qR λg hg=>pJ.same g (qR.lt g hg).2 (by have:=(qR.lt g hg).1;have:=xg.size;have:=HB.2.2.2;omega);have hBA:wA.heap.size<=B:=(by have:=xg.size;have:=HB.2.2.1.size;omega);have H7:=rr RQ AH RS hBA (ao qq.size pJ.size);clear Ia RQ AH RS hBA pJ b4 b3 Mr BZ xW hHeld iU mh tJ AO c1 f1 v3 f3 E2 qR gP jF qq mZ xg Kh XY gJ hB;obtain⟨j0,BG,vC,uF,EI⟩:=info_parts Tryz.Ex;go_wp2_with (at_builtin;refine wpList_append_lies _ rfl (.tmp 164) (.tmp 166) 30 rfl W1.heap.size 37 j0 (.agg #[.int .i64 0,.int .i64 0,.bool false,.slice none 0 0]) 4 48 underlying30 BG vC uF EI rfl (by decide) (.slice a8 i c8) i xs rfl ?lG ⟨W7.heap.size,0,none⟩ 1 1 [.int .i64 0,.int .i64 (m:Nat),.bool false,.slice ap m cp] rfl rfl ?lF ?lE (by decide) ?lD ?lC ?lB (W7.heap.size+1) ?my ?Q0)
    case lG=>exact H7.1.alloc _
    case lF=>exact World.news_of_block (heap_alloc_new W7 _)
    case lE=>intro u hu;simp only[az,ba,or_false]at hu;rcases hu with rfl|rfl|rfl|rfl<;>rfl
    case lD=>unfold maxLen;omega
    case lC=>omega
    case lB=>rw[ab];have:=H7.2.1.size;omega
    case my=>rw[ab]
    case Q0=>
     intro gA TE la od qp uM Az;obtain⟨q1,q2,q3,q4,q5⟩:=qp;have Hk:∀b,b<W7.heap.size->(Value.slice a8 i c8).ownBlock≠some b->la.heap[b]? =W7.heap[b]? :=λb hb hn=>
      (q5 b (by rw[ab];omega) λe=>hn e.symm).trans (heap_alloc_old _ _ hb)
     have yy:W7.heap.size+1<=la.heap.size:=(by rw[ab]at q4;exact q4);have AL:Below W1.heap.size W1 la:=by have h7:=H7.2.1;refine⟨q1.trans h7.os,q2.trans h7.tape,q3.trans h7.output,by have:=h7.size;omega,λb hb=> ?_⟩;refine(Hk b (by have:=h7.size;omega) λe=> ?_).trans (h7.block b hb);have:=(HA.2.2.1.lt b e).1;omega
     have Ha:la.ownsRow B 39 3 (.slice ap m cp) (ts.foldl ins []).length (sp (ts.foldl ins [])):=dI H7.2.2.1 λg hg=>by have gT:=H7.2.2.1.lt g hg;refine Hk g gT.2 λe=> ?_;have:=(HA.2.2.1.lt g e).2;have:=H7.2.2.2.1;omega
     have HF:=jS od AL Ha;clear od AL Ha Hk yy q1 q2 q3 q4 q5 uM Az;go_wp2_with fail;go_roundg (i+1- (i+1))
     case measure=>omega
     case rel=>
      refine⟨i+1,rfl,rfl,.inr ⟨rfl,aa ⟨HF.2.1,xs,.slice ap m cp,B,?_,?_,?_,HF.2.2⟩⟩⟩
      ·have:=HF.1;rw[HM.out]at this;rw[<-H.2];rw[HM.out];exact this
      ·rw[HA.2.2.2.1,H.2]
      ·have:=HA.1.size;have:=H7.2.2.2.1;omega
  ·have BH:decide (((n+1:Nat):Int)<(n:Int)+1)=false:=(by simp);go_wp2_with fail;go_ret;obtain⟨h1,xs,pv,B,h2,h3,h4,h5⟩:=HA.out;have hs:w.heap.size<=W1.heap.size:=H0.2.1.size;exact⟨_,rfl,H0.2.1.trans (h1.mono hs),xs,pv,B,h2.mono hs,h3,ao hs h4,h5⟩
end Go.Proofs.YtfejflhgaphilaaGreatDoor
