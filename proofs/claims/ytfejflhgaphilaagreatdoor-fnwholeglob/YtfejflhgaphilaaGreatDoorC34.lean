/- A script over the sorted map with numbers. Sorted at texts: the script is run inside a function that catches panics. -/
import Derived.Test.YtfejflhgaphilaaGreatDoorC32
import Derived.Test.YtfejflhgaphilaaGreatDoorC33
import Derived.Defers
import Derived.Recover
set_option linter.all false
set_option maxRecDepth 100000
set_option maxHeartbeats 64000000
open Go.Proofs.Tryz
namespace Go.Proofs.YtfejflhgaphilaaGreatDoor
open Go.RowKit Gm
def QM (at':Nat) (t:Int):List Value:=[.int .u8 0,.int .i64 at',.int .i64 (ik t),.string ⟨#[]⟩,.int .i64 7,.int .i64 0,.int .i64 0]
def QL (at':Nat):List Value:=[.int .u8 3,.int .i64 at',.int .i64 0,.string ⟨#[]⟩,.int .i64 0,.int .i64 0,.int .i64 0]
structure sC (w:World) (b:Nat) (ts:List Int):Prop where
 put:∀i t,ts[i]? =some t->∀f v,(QM i t)[f]? =some v->w.cell? ⟨b,i*7+f,none⟩=some v
 last:∀f v,(QL ts.length)[f]? =some v->w.cell? ⟨b,ts.length*7+f,none⟩=some v
 gu:b<w.heap.size
theorem Tryz.Vx:(prog.info? 130).map (λi=>(i.zero,i.size,i.bytes))=some (some (.pointer none),1,8):=by kernel_rfl
structure PutI (w0 wr:World) (i:Nat) (ts:List Int) (s7 s8:Value):Prop where
 below:Below w0.heap.size w0 wr
 rows:∃g7 c7 ms xs M,s7=.slice (some ⟨g7,0,none⟩) (i+1) c7/\wr.ownsRow w0.heap.size 130 1 s7 (i+1) (qM ms)/\ms[i]? =some M/\kW wr M ((ts.take i).foldl iB [])/\wr.ownsRow w0.heap.size 37 4 s8 i xs/\xs.length=i*4/\s8.ownBlock≠some g7
structure vy (w0 wr:World) (ts:List Int) (s8:Value):Prop where
 below:Below w0.heap.size w0 wr
 row:∃xs pv B,wr.ownsRow w0.heap.size 37 4 s8 (ts.length+1) (xs++[.int .i64 0,.int .i64 ((ts.foldl iB []).length:Nat),.bool false,pv])/\xs.length=ts.length*4/\w0.heap.size<=B/\wr.ownsRow B 39 3 pv (ts.foldl iB []).length (QQ (ts.foldl iB []))
theorem Dy (ts:List Int):∀l,(ts.foldl iB l).length<=l.length+ts.length:=by
 induction ts with
 |nil=>intro l;simp
 |cons t ts ih=>intro l;have:=ih (iB l t);have:=GM t l;simp only[List.foldl_cons,aH];omega
theorem f25 (ts:List Int) (b c:Nat) (w:World) (fY:ts.length<=1) (h:sC w b ts):Calls prog 25 #[.agg #[.func (.func 67) #[] #[],.func (.func 68) #[] #[],.func (.func 69) #[] #[]],.nilIface,.slice (some ⟨b,0,none⟩) (ts.length+1) c] w λe w'=>∃v,e=.returned v/\vy w w' ts v:=by
 obtain⟨n,hn⟩:=dS ts.length;rw[<-hn]at fY⊢;have H:=eo h hn;clear h hn;go_enter func25,ntmps25;go_wp2_with fail;have mQ:Below w.heap.size w (w.alloc (.cells #[.func (.func 67) #[] #[],.func (.func 68) #[] #[],.func (.func 69) #[] #[]] 83)):=by go_grown
 have HC:=aa (f57 (w.alloc (.cells #[.func (.func 67) #[] #[],.func (.func 68) #[] #[],.func (.func 69) #[] #[]] 83)));refine HC.mono ?_;rintro e w1 ⟨rfl,rfl⟩;go_wp2_with fail;obtain⟨a1,a2,a3⟩:=AE w (.cells #[.func (.func 67) #[] #[],.func (.func 68) #[] #[],.func (.func 69) #[] #[]] 83) (.cells #[.int .i64 0,.nilIface,.nilIface] 218) (.cells #[.pointer (some ⟨w.heap.size+1,0,none⟩)] 130);have hbL:Below w.heap.size w (((w.alloc (.cells #[.func (.func 67) #[] #[],.func (.func 68) #[] #[],.func (.func 69) #[] #[]] 83)).alloc (.cells #[.int .i64 0,.nilIface,.nilIface] 218)).alloc (.cells #[.pointer (some ⟨w.heap.size+1,0,none⟩)] 130)):=by go_grown
 have Uv:(((w.alloc (.cells #[.func (.func 67) #[] #[],.func (.func 68) #[] #[],.func (.func 69) #[] #[]] 83)).alloc (.cells #[.int .i64 0,.nilIface,.nilIface] 218)).alloc (.cells #[.pointer (some ⟨w.heap.size+1,0,none⟩)] 130)).heap.size=w.heap.size+3:=by rw[ab,ab,ab]
 obtain⟨WL,ZY⟩:=dS (((w.alloc (.cells #[.func (.func 67) #[] #[],.func (.func 68) #[] #[],.func (.func 69) #[] #[]] 83)).alloc (.cells #[.int .i64 0,.nilIface,.nilIface] 218)).alloc (.cells #[.pointer (some ⟨w.heap.size+1,0,none⟩)] 130));have Ki:Below (w.heap.size+1) (w.alloc (.cells #[.func (.func 67) #[] #[],.func (.func 68) #[] #[],.func (.func 69) #[] #[]] 83)) WL:=by rw[ZY];go_grown
 rw[<-ZY]at a1 a2 a3 hbL Uv⊢;obtain⟨W1,gZ⟩:=dS (w.alloc (.cells #[.func (.func 67) #[] #[],.func (.func 68) #[] #[],.func (.func 69) #[] #[]] 83));have kR:W1.heap.size=w.heap.size+1:=by rw[gZ,ab]
 rw[<-gZ,<-kR]at Ki;rw[<-gZ]at mQ;have vz:W1.heap[w.heap.size]? =some (.cells #[.func (.func 67) #[] #[],.func (.func 68) #[] #[],.func (.func 69) #[] #[]] 83):=by rw[gZ];exact heap_alloc_new _ _
 obtain⟨X,hX⟩:=dS w.heap.size;rw[<-hX]at a1 a2 a3 Uv kR vz⊢;have H0:=sW vz mQ kR hX;have oK:Hid (PutI W1 WL 0 ts (.slice (some ⟨X+2,0,none⟩) 1 1) (.slice none 0 0)):=aa ⟨Ki,X+2,1,[X+1],[],X+1,rfl,⟨rfl,.inr ⟨X+2,1,_,rfl,by omega,a3,af _,by decide,rfl,rfl⟩⟩,rfl,⟨by trivial,.inl ⟨rfl,a2⟩⟩,⟨rfl,.inl ⟨rfl,rfl⟩⟩,rfl,by simp[Value.ownBlock]⟩;clear a1 a2 a3 hbL Uv ZY Ki kR gZ mQ vz hX HC;go_loopg [24,7,8] (n+1) (λk s24 s7 s8 wr=>∃i:Nat,k=n+1-i/\s24=.int .i64 i/\((i<=n/\Hid (PutI W1 wr i ts s7 s8))\/(i=n+1/\Hid (vy W1 wr ts s8))))
 case atStart=>exact⟨0,rfl,rfl,.inl ⟨aU _,oK⟩⟩
 case round=>
  obtain⟨i,rfl,rfl,⟨hi,HP⟩|⟨rfl,HA⟩⟩:=hrel
  ·obtain⟨wA,Xj⟩:=dS wr;subst Xj;obtain⟨Js,g7,c7,ms,xs,M,rfl,r7,hM,hS,r8,BV,eK⟩:=HP.out;obtain⟨a8,c8,rfl,_,_⟩:=d' r8;have jq:Below w.heap.size w wA:=H0.2.1.trans (Js.mono H0.2.1.size);have kY:=gW ((i:Int)+1) (by omega);have BH:decide ((i:Int)<(n:Int)+1)=true:=(by simp;omega);have i1:(0:Int)<=(i:Int):=by omega
   have i2:(i:Int)<(n:Int)+1:=(by omega);have i3:(i:Int)<(i:Int)+1:=by omega
   have y7:wA.cell? ⟨g7,i,none⟩=some (.pointer (some ⟨M,0,none⟩)):=(by rw[r7.cellAt i (by omega)];simp[qM,hM]);have VD:wA.heap[X]? =some (.cells #[.func (.func 67) #[] #[],.func (.func 68) #[] #[],.func (.func 69) #[] #[]] 83):=(Js.block X (by have:=H0.2.2.1;omega)).trans H0.1;by_cases jn:i<n
   ·obtain⟨t,ht⟩:∃t,ts[i]? =some t:=⟨_,ah (by rw[<-H.2];exact jn)⟩;have hp:=H.1.put i t ht;have z0:=dF jq _ _ (hp 0 _ rfl);have z1:=dF jq _ _ (hp 1 _ rfl);have z2:=dF jq _ _ (hp 2 _ rfl);have z3:=dF jq _ _ (hp 3 _ rfl);have z4:=dF jq _ _ (hp 4 _ rfl);have z5:=dF jq _ _ (hp 5 _ rfl);have z6:=dF jq _ _ (hp 6 _ rfl);rw[bL]at z0;obtain⟨K,hK⟩:=dS (ik t);rw[<-hK]at z2;have K0:=aa (f43 i (i+1) (by omega) (by omega) (wA.alloc (.cells #[.int .u8 0,.int .i64 i,.int .i64 K,.string ⟨#[]⟩,.int .i64 7,.int .i64 0,.int .i64 0] 29)));have Yv:=dJ y7 (.cells #[.int .u8 0,.int .i64 i,.int .i64 K,.string ⟨#[]⟩,.int .i64 7,.int .i64 0,.int .i64 0] 29);have HA:=jj9 ht hK Js r7 hM hS r8 BV (And.intro eK (And.intro jq VD));clear ht hK Js r7 hM hS r8 BV eK jq VD hp y7 HP oK;go_wp2_with fail;refine K0.mono ?_;rintro e w2 ⟨rfl,rfl⟩;go_upto_region 8 with fail
    obtain⟨A1,xY⟩:=dS wA.heap.size;obtain⟨A2,yH⟩:=dS (A1+1);have b1:=heap_alloc2_old wA (.cells #[.int .u8 0,.int .i64 i,.int .i64 K,.string ⟨#[]⟩,.int .i64 7,.int .i64 0,.int .i64 0] 29) (.cells #[.int .i64 0,.int .i64 0,.bool false,.slice none 0 0] 37);have b2:=heap_alloc2_new wA (.cells #[.int .u8 0,.int .i64 i,.int .i64 K,.string ⟨#[]⟩,.int .i64 7,.int .i64 0,.int .i64 0] 29) (.cells #[.int .i64 0,.int .i64 0,.bool false,.slice none 0 0] 37);obtain⟨wC,Ey⟩:=dS ((wA.alloc (.cells #[.int .u8 0,.int .i64 i,.int .i64 K,.string ⟨#[]⟩,.int .i64 7,.int .i64 0,.int .i64 0] 29)).alloc (.cells #[.int .i64 0,.int .i64 0,.bool false,.slice none 0 0] 37));have Hv:Below wA.heap.size wA wC:=by rw[Ey];go_grown
    have RM:wC.heap.size=A2+1:=(by rw[Ey,ab,ab,<-xY,yH]);rw[<-Ey,<-xY]at b1 b2⊢;rw[<-yH]at b2⊢;have x0:wC.cell? ⟨X,0,none⟩=some (.func (.func 67) #[] #[]):=dF Hv _ _ (cell_of HA.2.2.2.2.2.2.2.2.2.2 rfl);have q0:wC.cell? ⟨A1,0,none⟩=some (.int .u8 0):=cell_of b1 rfl;have q2:wC.cell? ⟨A1,2,none⟩=some (.int .i64 K):=cell_of b1 rfl;have q3:wC.cell? ⟨A1,3,none⟩=some (.string ⟨#[]⟩):=cell_of b1 rfl;have q4:wC.cell? ⟨A1,4,none⟩=some (.int .i64 7):=cell_of b1 rfl;have OT:kW wC.drew M ((ts.take i).foldl iB []):=(HA.2.2.2.2.2.1.below Hv).below (by go_grown);have eR:((ts.take i).foldl iB []).length<=0:=by have:=Dy (ts.take i) [];rw[bn]at this;simp only[aG]at this;omega
    have V7:=f58 M ((ts.take i).foldl iB []) t wC.drew OT eR;rw[<-HA.2.1]at V7;have Bs:=aa V7;have HC53:=aa (f67 (.int .i64 K) (.string ⟨#[]⟩) wC.drew);have HB:=Ur b1 b2 Hv RM xY yH eR;clear b1 b2 Hv RM xY yH eR V7 OT Ey Yv z0 z1 z2 z3 z4 z5 z6;go_upto_region 10 with fail
    refine dP (λw'=>Below wC.heap.size wC w') [(true,0),(true,1),(true,2),(true,3),(true,4),(true,5),(true,6),(true,8),(true,9),(false,7),(false,10)] (by kernel_rfl) (by kernel_rfl) (by go_grown) (λhHeld=> ?_);iterate 9
     refine dL (v:= ?_) rfl (λ_ _ _ h=>h) (by rfl) ?_ hHeld ?_;rotate_left
     ·intro wz hSw;have k0:=dF hSw _ _ x0;have k2:=dF hSw _ _ q2;have k3:=dF hSw _ _ q3;have k4:=dF hSw _ _ q4;go_simp
      try with_reducible rfl
     simp only[Act.put,iX]
    refine dM rfl (λKK mE=> ?_);go_simp;refine HC53.mono ?_;rintro e w4 ⟨rfl,rfl⟩;refine mE.out _ _ (by go_grown) (λiU=> ?_);clear mE KK;refine dM rfl (λKK mE=> ?_);go_simp;refine Bs.mono ?_;rintro e w5 ⟨M',rfl,Z0,jF,hf5⟩;refine mE.out _ _ ((by go_grown:Below wC.heap.size wC wC.drew).trans jF) (λmh=> ?_);clear mE KK hHeld iU mh;refine dX rfl ?_;have AM:Below wC.heap.size wC w5:=(by go_grown:Below wC.heap.size wC wC.drew).trans jF;have p0:=dF AM _ _ q0;have b1':=(AM.block A1 (by have:=HB.2.2.2;omega)).trans HB.1;have E2:=(AM.block A2 (by have:=HB.2.2.2;omega)).trans HB.2.1;have e5:(ts.take (i+1)).foldl iB []=iB ((ts.take i).foldl iB []) t:=by rw[ca,HA.1,List.foldl_append];rfl
    have R4:iB ((ts.take i).foldl iB []) t≠[]:=(by intro e;have:=(Rj t t ((ts.take i).foldl iB [])).2 (.inr rfl);rw[e]at this;simp at this);obtain⟨h0,L,E,cc,q,Z5,UD⟩:iB ((ts.take i).foldl iB []) t≠[]/\∃L E cc q,w5.heap[M']? =some (.cells #[.int .i64 ((iB ((ts.take i).foldl iB []) t).length:Nat),.iface 228 (.pointer (some ⟨L,0,none⟩)),.iface 382 (.pointer q)] 218 (0,0))/\kf w5 L E (iB ((ts.take i).foldl iB []) t) cc:=by
     rcases Z0.body with⟨e,_⟩|h
     ·exact absurd e R4
     ·exact h
    obtain⟨m,hm⟩:=dS (iB ((ts.take i).foldl iB []) t).length;rw[<-hm]at Z5;have KZ:=aa (f63 M' (m:Nat) _ _ w5 Z5);have v1:w5.cell? ⟨A2,1,none⟩=some (.int .i64 0):=cell_of E2 rfl;have v2:=el (i:=1) E2;have H5:=Fp AM Z0 hf5 b1' E2 e5;clear AM Z0 hf5 b1' E2 e5 R4 Z5 UD hm h0 jF q0 q2 q3 q4 x0;go_upto_region 39 with fail
    go_wp2_with fail;refine KZ.mono ?_;rintro e w6 ⟨rfl,rfl⟩;go_upto_region 40 with fail
    have ZB:(w6.setCell ⟨A2,1,none⟩ (.int .i64 (m:Nat))).heap[A2]? =some (.cells #[.int .i64 0,.int .i64 (m:Nat),.bool false,.slice none 0 0] 37):=(by rw[dG H5.2.2.2.2.1];rfl);have pJ:ei (λb=>b=A2) w6 (w6.setCell ⟨A2,1,none⟩ (.int .i64 (m:Nat))):=ei.cell rfl;obtain⟨W7,Mr⟩:=dS (w6.setCell ⟨A2,1,none⟩ (.int .i64 (m:Nat)));rw[<-Mr]at ZB pJ⊢;have uE:∀b,b<wA.heap.size->W7.heap[b]? =wA.heap[b]? :=λb hb=>by have h1:=HB.2.2.1.size;have h2:=HB.2.2.2;exact(pJ.same b (ai hb (ao h1 H5.1.size)) (by omega)).trans ((H5.1.block b (ai hb h1)).trans (HB.2.2.1.block b hb))
    have hA7:wA.heap.size<=W7.heap.size:=ao HB.2.2.1.size (ao H5.1.size pJ.size);have hr7:W7.ownsRow W1.heap.size 130 1 (.slice (some ⟨g7,0,none⟩) (i+1) c7) (i+1) (qM ms):=dI HA.2.2.2.1 λg hg=>uE g (HA.2.2.2.1.lt g hg).2;have RQ:W7.ownsRow W1.heap.size 37 4 (.slice a8 i c8) i xs:=dI HA.2.2.2.2.2.2.1 λg hg=>uE g (HA.2.2.2.2.2.2.1.lt g hg).2;have AH:Below W1.heap.size W1 W7:=by have h1:Below W1.heap.size W1 w6:=HA.2.2.1.trans ((HB.2.2.1.trans (H5.1.mono HB.2.2.1.size)).mono HA.2.2.1.size);refine h1.trans (pJ.below h1.size λb e=> ?_);have:=HB.2.2.2;have:=HA.2.2.1.size;omega
    have hg7:=HA.2.2.2.1.lt g7 rfl;have H7:=YT ZB pJ uE hA7 hr7 RQ AH hg7;clear ZB pJ uE hA7 hr7 RQ AH hg7 Mr v1 v2;obtain⟨i0,hi0,gD,gB,gF⟩:=info_parts Tryz.Vx;obtain⟨j0,BG,vC,uF,EI⟩:=info_parts Tryz.Ex;go_wp2_with (at_builtin;refine wpList_append_lies _ rfl (.tmp 160) (.tmp 162) 132 rfl W1.heap.size 130 i0 (.pointer none) 1 8 underlying132 hi0 gD gB gF rfl (by decide) (.slice (some ⟨g7,0,none⟩) (i+1) c7) (i+1) (qM ms) rfl ?lG ⟨W7.heap.size,0,none⟩ 1 1 [.pointer (some ⟨M',0,none⟩)] rfl rfl ?lF ?lE (by decide) ?lD ?lC ?lB (W7.heap.size+1) ?my ?Q0)
    case lG=>exact H7.2.2.2.2.1.alloc _
    case lF=>exact World.news_of_block (heap_alloc_new W7 _)
    case lE=>intro u hu;simp only[aE]at hu;subst hu;rfl
    case lD=>unfold maxLen;omega
    case lC=>omega
    case lB=>rw[ab];have:=H7.2.2.2.2.2.2.1.size;omega
    case my=>rw[ab]
    case Q0=>
     intro g9 PV w8 Hd Kd SD R9;obtain⟨q1,q2,q3,q4,q5⟩:=Kd;have VU:∀b,b<W7.heap.size->b≠g7->w8.heap[b]? =W7.heap[b]? :=λb hb hn=>by refine(q5 b (by rw[ab];omega) λe=>hn ?_).trans (heap_alloc_old _ _ hb);simp only[Value.ownBlock,ae]at e;exact e
     have Zf:W7.heap.size+1<=w8.heap.size:=(by rw[ab]at q4;exact q4);have SM:A2<W7.heap.size:=by have:=HB.2.2.2.1;have:=H5.1.size;have:=H7.2.1.size;omega
     have SN:A2≠g7:=(by have:=H7.2.2.2.2.2.2.2.2;have:=HB.2.2.2;omega);have R8:=(VU A2 SM SN).trans H7.1;have u0:w8.cell? ⟨A2,0,none⟩=some (.int .i64 0):=cell_of R8 rfl;have u1:w8.cell? ⟨A2,1,none⟩=some (.int .i64 (m:Nat)):=cell_of R8 rfl;have u2:w8.cell? ⟨A2,2,none⟩=some (.bool false):=cell_of R8 rfl;have u3:w8.cell? ⟨A2,3,none⟩=some (.slice none 0 0):=cell_of R8 rfl;have V9:∀g,(Value.slice a8 i c8).ownBlock=some g->g≠g7/\g<wA.heap.size:=λg hg=>⟨λe=>by subst e;exact HA.2.2.2.2.2.2.2.2.1 hg,(HA.2.2.2.2.2.2.1.lt g hg).2⟩;have RP:w8.ownsRow W1.heap.size 37 4 (.slice a8 i c8) i xs:=dI H7.2.2.2.2.2.1 λg hg=>VU g (ai (V9 g hg).2 H7.2.2.2.1) (V9 g hg).1;have SC:g9=g7\/g9=W7.heap.size+1:=by
      rcases SD with e|e
      ·simp only[Value.ownBlock,ae]at e;exact .inl e.symm
      ·exact .inr e
     have RG:w8.os=W7.os/\w8.tape=W7.tape/\w8.output=W7.output:=⟨q1.trans rfl,q2.trans rfl,q3.trans rfl⟩;have H8:=YT Hd VU Zf RP SC R9 V9 RG;clear Hd q1 q2 q3 q4 q5 SD R9 VU Zf SM SN R8 V9 RP SC RG;go_wp2_with (at_builtin;refine wpList_append_lies _ rfl (.tmp 164) (.tmp 166) 30 rfl W1.heap.size 37 j0 (.agg #[.int .i64 0,.int .i64 0,.bool false,.slice none 0 0]) 4 48 underlying30 BG vC uF EI rfl (by decide) (.slice a8 i c8) i xs rfl ?lG ⟨w8.heap.size,0,none⟩ 1 1 [.int .i64 0,.int .i64 (m:Nat),.bool false,.slice none 0 0] rfl rfl ?lF ?lE (by decide) ?lD ?lC ?lB (w8.heap.size+1) ?my ?Q0)
     case lG=>exact H8.2.2.2.1.alloc _
     case lF=>exact World.news_of_block (heap_alloc_new w8 _)
     case lE=>intro u hu;simp only[az,ba,or_false]at hu;rcases hu with rfl|rfl|rfl|rfl<;>rfl
     case lD=>unfold maxLen;omega
     case lC=>omega
     case lB=>rw[ab];have:=H7.2.2.2.2.2.2.1.size;have:=H8.2.2.1;omega
     case my=>rw[ab]
     case Q0=>
      intro gA TE la od qp uM Az;obtain⟨q1,q2,q3,q4,q5⟩:=qp;have Hk:∀b,b<w8.heap.size->(Value.slice a8 i c8).ownBlock≠some b->la.heap[b]? =w8.heap[b]? :=λb hb hn=>
       (q5 b (by rw[ab];omega) λe=>hn e.symm).trans (heap_alloc_old _ _ hb)
      have yy:w8.heap.size+1<=la.heap.size:=(by rw[ab]at q4;exact q4);have Sh:(Value.slice a8 i c8).ownBlock≠some g9:=λe=>by
       have h1:=H8.2.2.2.2.2.2.1 g9 e;have:=H7.2.2.2.1;rcases H8.2.2.2.2.1 with e|e
       ·exact h1.1 e
       ·omega
      have GY:la.ownsRow W1.heap.size 130 1 (.slice (some ⟨g9,0,none⟩) (i+1+1) PV) (i+1+1) (qM ms++[.pointer (some ⟨M',0,none⟩)]):=dI H8.1 λg hg=>by simp only[Value.ownBlock,ae]at hg;subst hg;exact Hk g9 H8.2.2.2.2.2.1 Sh
      have AL:Below W1.heap.size W1 la:=by
       have h7:=H7.2.2.2.2.2.2.1;have h8:=H8.2.2.2.2.2.2.2;refine⟨(q1.trans h8.1).trans h7.os,(q2.trans h8.2.1).trans h7.tape,(q3.trans h8.2.2).trans h7.output,by have:=h7.size;have:=H8.2.2.1;omega,λb hb=> ?_⟩;have h9:=h7.size;refine(Hk b (by have:=H8.2.2.1;omega) λe=> ?_).trans ((H8.2.1 b (by omega) ?_).trans (h7.block b hb))
       ·have:=(HA.2.2.2.2.2.2.1.lt b e).1;omega
       ·have:=H7.2.2.2.2.2.2.2.1;omega
      have gY:=H5.2.1.keep H5.2.2.1 (w':=la) (λb J' hb=>by have hlo':A2+1<=b:=(by have:=HB.2.2.2.1;simpa[<-this]using J');have h7s:=H7.2.1.size;have h7g:=H7.2.2.2.2.2.2.2.2;have hAA:=HB.2.2.2;refine(Hk b (by have:=H8.2.2.1;omega) λe=> ?_).trans ((H8.2.1 b (by omega) (by omega)).trans (H7.2.1.same b hb (by omega)));have:=(H8.2.2.2.2.2.2.1 b e).2;omega) (by have:=H7.2.1.size;have:=H8.2.2.1;omega);have R0:(Value.slice (some ⟨gA,0,none⟩) (i+1) TE).ownBlock≠some g9:=λe=>by
       simp only[Value.ownBlock,ae]at e;subst e;rcases uM with e|e
       ·exact Sh e
       ·have:=H8.2.2.2.2.2.1;omega
      have Me:=HA.2.2.2.1.1;have HF:=Fp od GY AL gY R0 Me;clear od GY AL gY R0 Me Hk yy Sh q1 q2 q3 q4 q5 uM Az;go_wp2_with fail;go_roundg (n+1- (i+1))
      case measure=>omega
      case rel=>
       have qo:ms.length=i+1:=(by have:=HF.2.2.2.2.2;simpa[qM]using this);refine⟨i+1,rfl,rfl,.inl ⟨by omega,aa ⟨HF.2.2.1,g9,PV,ms++[M'],xs++[.int .i64 0,.int .i64 (m:Nat),.bool false,.slice none 0 0],M',rfl,?_,?_,?_,HF.1,?_,HF.2.2.2.2.1⟩⟩⟩
       ·have:=HF.2.1;rw[show qM (ms++[M'])=qM ms++[.pointer (some ⟨M',0,none⟩)]by simp[qM]];exact this
       ·rw[aR (by omega),qo];simp
       ·rw[H5.2.2.2.2.2];exact HF.2.2.2.1.1
       ·rw[aj,HA.2.2.2.2.2.2.2.1];simp;omega
   ·have sL:i=n:=(by omega);subst sL;have hp:=H.1.last;rw[<-H.2]at hp;have z0:=dF jq _ _ (hp 0 _ rfl);have z1:=dF jq _ _ (hp 1 _ rfl);have z2:=dF jq _ _ (hp 2 _ rfl);have z3:=dF jq _ _ (hp 3 _ rfl);have z4:=dF jq _ _ (hp 4 _ rfl);have z5:=dF jq _ _ (hp 5 _ rfl);have z6:=dF jq _ _ (hp 6 _ rfl);rw[bL]at z0;have K0:=aa (f43 i (i+1) (by omega) (by omega) (wA.alloc (.cells #[.int .u8 3,.int .i64 i,.int .i64 0,.string ⟨#[]⟩,.int .i64 0,.int .i64 0,.int .i64 0] 29)));have Yv:=dJ y7 (.cells #[.int .u8 3,.int .i64 i,.int .i64 0,.string ⟨#[]⟩,.int .i64 0,.int .i64 0,.int .i64 0] 29);have tD:ts.take i=ts:=aP (by rw[H.2];exact af _);rw[tD]at hS;have HA:=rr Js hS r8 BV VD;clear Js r7 hM hS r8 BV eK jq VD hp y7 HP oK tD;go_wp2_with fail;refine K0.mono ?_;rintro e w2 ⟨rfl,rfl⟩;go_upto_region 8 with fail
    obtain⟨A1,xY⟩:=dS wA.heap.size;obtain⟨A2,yH⟩:=dS (A1+1);have b1:=heap_alloc2_old wA (.cells #[.int .u8 3,.int .i64 i,.int .i64 0,.string ⟨#[]⟩,.int .i64 0,.int .i64 0,.int .i64 0] 29) (.cells #[.int .i64 0,.int .i64 0,.bool false,.slice none 0 0] 37);have b2:=heap_alloc2_new wA (.cells #[.int .u8 3,.int .i64 i,.int .i64 0,.string ⟨#[]⟩,.int .i64 0,.int .i64 0,.int .i64 0] 29) (.cells #[.int .i64 0,.int .i64 0,.bool false,.slice none 0 0] 37);obtain⟨wC,Ey⟩:=dS ((wA.alloc (.cells #[.int .u8 3,.int .i64 i,.int .i64 0,.string ⟨#[]⟩,.int .i64 0,.int .i64 0,.int .i64 0] 29)).alloc (.cells #[.int .i64 0,.int .i64 0,.bool false,.slice none 0 0] 37));have Hv:Below wA.heap.size wA wC:=by rw[Ey];go_grown
    have RM:wC.heap.size=A2+1:=(by rw[Ey,ab,ab,<-xY,yH]);rw[<-Ey,<-xY]at b1 b2⊢;rw[<-yH]at b2⊢;have x0:wA.cell? ⟨X,0,none⟩=some (.func (.func 67) #[] #[]):=cell_of HA.2.2.2.2 rfl;have x1:wA.cell? ⟨X,1,none⟩=some (.func (.func 68) #[] #[]):=cell_of HA.2.2.2.2 rfl;have x2:wA.cell? ⟨X,2,none⟩=some (.func (.func 69) #[] #[]):=cell_of HA.2.2.2.2 rfl;have q0:wC.cell? ⟨A1,0,none⟩=some (.int .u8 3):=cell_of b1 rfl;have OT:kW wC.drew M (ts.foldl iB []):=(HA.2.1.below Hv).below (by go_grown);have eR:(ts.foldl iB []).length<=1:=by have:=Dy ts [];rw[<-H.2]at this;simp only[aG]at this;omega
    have HC48:=aa (f62 M (ts.foldl iB []) wC.drew OT);have HB:=YT b1 b2 Hv RM xY yH eR OT;clear b1 b2 Hv RM xY yH eR OT Ey Yv z0 z1 z2 z3 z4 z5 z6;go_upto_region 16 with fail
    refine dP (λw'=>Below wA.heap.size wA w') [(true,0),(true,1),(true,4),(false,2),(false,3),(true,6),(false,5),(false,7),(true,8)] (by kernel_rfl) (by kernel_rfl) (HB.2.2.1.trans ((by go_grown:Below wC.heap.size wC wC.drew).mono HB.2.2.1.size)) (λhHeld=> ?_);iterate 3
     refine dL (v:= ?_) rfl (λ_ _ _ h=>h) (by rfl) ?_ hHeld ?_;rotate_left
     ·intro wz hSw;have k0:=dF hSw _ _ x0;have k1:=dF hSw _ _ x1;have k2:=dF hSw _ _ x2;go_simp
      try with_reducible rfl
     simp only[Act.put,iX]
    refine dM rfl (λKK mE=> ?_);go_simp;refine HC48.mono ?_;rintro e w4 ⟨rfl,Kh,mZ⟩;have xg:Below wC.heap.size wC w4:=(by go_grown:Below wC.heap.size wC wC.drew).trans mZ;have XY:wC.drew.heap.size<w4.heap.size:=by
     rcases Kh with⟨_,h⟩|⟨_,_,_,_,_,h,_⟩
     ·exact bp _ _ h
     ·exact h.lt
    refine mE.out _ _ (HB.2.2.1.trans (xg.mono HB.2.2.1.size)) (λiU=> ?_);clear mE KK;have HC47:=aa (f61 wC.drew.heap.size (ts.foldl iB []) w4 Kh XY (by have:=HB.2.2.2.2.2.2.1;omega));refine dM rfl (λKK mE=> ?_);go_simp;refine HC47.mono ?_;rintro e w5 ⟨pv,B,rfl,hB,qR,gP⟩;have gJ:wC.drew.heap.size=wC.heap.size:=rfl;have jF:Below wC.heap.size wC w5:=xg.trans (gP.below xg.size λb e=>by rw[e,gJ];exact af _);have qq:Below wA.heap.size wA w5:=HB.2.2.1.trans (jF.mono HB.2.2.1.size);refine mE.out _ _ qq (λmh=> ?_);clear mE KK;refine dL (v:= ?_) rfl (λ_ _ _ h=>h) (by rfl) ?_ mh ?_;rotate_left
    ·intro wz hSw;go_simp
     try with_reducible rfl
    simp only[Act.put,iX];obtain⟨m,hm⟩:=dS (ts.foldl iB []).length;have KZ:Hid (Calls prog 63 #[.pointer (some ⟨M,0,none⟩)] w5 λe w'=>e=.returned (.int .i64 (m:Nat))/\w'=w5):=aa (by
     have h5:kW w5 M (ts.foldl iB []):=(show kW wC M (ts.foldl iB [])from HA.2.1.below HB.2.2.1).below jF;rcases h5.body with⟨e,h⟩|⟨_,L,E,cc,q,h,_⟩
     ·rw[hm,e];exact f63 M 0 _ _ w5 h
     ·rw[hm];exact f63 M _ _ _ w5 h)
    refine dM rfl (λKK mE=> ?_);go_simp;refine KZ.mono ?_;rintro e w6 ⟨rfl,rfl⟩;refine mE.out _ _ qq (λtJ=> ?_);clear mE KK;obtain⟨ap,cp,RR,_,_⟩:=d' qR;rw[<-hm]at RR;subst RR;have HM:=aa hm;clear hm;have E2:=(jF.block A2 (by have:=HB.2.2.2;omega)).trans HB.2.1;have v3:w6.cell? ⟨A2,3,none⟩=some (.slice none 0 0):=cell_of E2 rfl;have f3:=el (i:=3) E2;have b3:(w6.setCell ⟨A2,3,none⟩ (.slice ap m cp)).heap[A2]? =some (.cells #[.int .i64 0,.int .i64 0,.bool false,.slice ap m cp] 37):=(by rw[dG E2];rfl);have BZ:ei (λb=>b=A2) w6 (w6.setCell ⟨A2,3,none⟩ (.slice ap m cp)):=ei.cell rfl;obtain⟨W6,Dr⟩:=dS (w6.setCell ⟨A2,3,none⟩ (.slice ap m cp));refine dM rfl (λKK mE=> ?_);go_simp;rw[<-Dr]at b3 BZ⊢;clear Dr;have xW:Below wA.heap.size wA W6:=qq.trans (BZ.below qq.size λb e=>by subst e;have:=HB.2.2.2;omega);refine mE.out _ _ xW (λAO=> ?_);clear mE KK;refine dL (v:= ?_) rfl (λ_ _ _ h=>h) (by rfl) ?_ AO ?_;rotate_left
    ·intro wz hSw;go_simp
     try with_reducible rfl
    simp only[Act.put,iX];refine dX rfl ?_;have c1:W6.cell? ⟨A2,1,none⟩=some (.int .i64 0):=cell_of b3 rfl;have f1:=el (i:=1) b3;have b4:(W6.setCell ⟨A2,1,none⟩ (.int .i64 (m:Nat))).heap[A2]? =some (.cells #[.int .i64 0,.int .i64 (m:Nat),.bool false,.slice ap m cp] 37):=(by rw[dG b3];rfl);have pJ:ei (λb=>b=A2) w6 (W6.setCell ⟨A2,1,none⟩ (.int .i64 (m:Nat))):=BZ.store _ rfl;go_upto_region 34 with fail
    obtain⟨W7,Mr⟩:=dS (W6.setCell ⟨A2,1,none⟩ (.int .i64 (m:Nat)));rw[<-Mr]at b4 pJ⊢;have Ia:A1≠A2/\A1=wA.heap.size/\A2=wA.heap.size+1:=(by have:=HB.2.2.2;omega);have hp0:W7.cell? ⟨A1,0,none⟩=some (.int .u8 3):=(aF (w:=w6) (pJ.same A1 (by have:=jF.size;have:=HB.2.2.2;omega) Ia.1)).trans (dF jF _ _ q0);have u0:W7.cell? ⟨A2,0,none⟩=some (.int .i64 0):=cell_of b4 rfl;have u1:W7.cell? ⟨A2,1,none⟩=some (.int .i64 (m:Nat)):=cell_of b4 rfl;have u2:W7.cell? ⟨A2,2,none⟩=some (.bool false):=cell_of b4 rfl;have u3:W7.cell? ⟨A2,3,none⟩=some (.slice ap m cp):=cell_of b4 rfl;have RQ:W7.ownsRow W1.heap.size 37 4 (.slice a8 i c8) i xs:=dI HA.2.2.1 λg hg=>by have gT:=(HA.2.2.1.lt g hg).2;exact(pJ.same g (ai gT qq.size) (by omega)).trans (qq.block g gT)
    have AH:Below W1.heap.size W1 W7:=(by have h1:Below W1.heap.size W1 w6:=HA.1.trans (qq.mono HA.1.size);refine h1.trans (pJ.below h1.size λb e=> ?_);have:=HA.1.size;omega);have RS:W7.ownsRow B 39 3 (.slice ap m cp) (ts.foldl iB []).length (QQ (ts.foldl iB [])):=dI qR λg hg=>pJ.same g (qR.lt g hg).2 (by have:=(qR.lt g hg).1;have:=xg.size;have:=HB.2.2.2;omega);have hBA:wA.heap.size<=B:=(by have:=xg.size;have:=HB.2.2.1.size;omega);have H7:=rr RQ AH RS hBA (ao qq.size pJ.size);clear Ia RQ AH RS hBA pJ b4 b3 Mr BZ xW hHeld iU mh tJ AO c1 f1 v3 f3 E2 qR gP jF qq mZ xg Kh XY gJ hB;obtain⟨j0,BG,vC,uF,EI⟩:=info_parts Tryz.Ex;go_wp2_with (at_builtin;refine wpList_append_lies _ rfl (.tmp 164) (.tmp 166) 30 rfl W1.heap.size 37 j0 (.agg #[.int .i64 0,.int .i64 0,.bool false,.slice none 0 0]) 4 48 underlying30 BG vC uF EI rfl (by decide) (.slice a8 i c8) i xs rfl ?lG ⟨W7.heap.size,0,none⟩ 1 1 [.int .i64 0,.int .i64 (m:Nat),.bool false,.slice ap m cp] rfl rfl ?lF ?lE (by decide) ?lD ?lC ?lB (W7.heap.size+1) ?my ?Q0)
    case lG=>exact H7.1.alloc _
    case lF=>exact World.news_of_block (heap_alloc_new W7 _)
    case lE=>intro u hu;simp only[az,ba,or_false]at hu;rcases hu with rfl|rfl|rfl|rfl<;>rfl
    case lD=>unfold maxLen;omega
    case lC=>omega
    case lB=>rw[ab];have:=H7.2.1.size;omega
    case my=>rw[ab]
    case Q0=>
     intro gA TE la od qp uM Az;obtain⟨q1,q2,q3,q4,q5⟩:=qp;have Hk:∀b,b<W7.heap.size->(Value.slice a8 i c8).ownBlock≠some b->la.heap[b]? =W7.heap[b]? :=λb hb hn=>
      (q5 b (by rw[ab];omega) λe=>hn e.symm).trans (heap_alloc_old _ _ hb)
     have yy:W7.heap.size+1<=la.heap.size:=(by rw[ab]at q4;exact q4);have AL:Below W1.heap.size W1 la:=by have h7:=H7.2.1;refine⟨q1.trans h7.os,q2.trans h7.tape,q3.trans h7.output,by have:=h7.size;omega,λb hb=> ?_⟩;refine(Hk b (by have:=h7.size;omega) λe=> ?_).trans (h7.block b hb);have:=(HA.2.2.1.lt b e).1;omega
     have Ha:la.ownsRow B 39 3 (.slice ap m cp) (ts.foldl iB []).length (QQ (ts.foldl iB [])):=dI H7.2.2.1 λg hg=>by have gT:=H7.2.2.1.lt g hg;refine Hk g gT.2 λe=> ?_;have:=(HA.2.2.1.lt g e).2;have:=H7.2.2.2.1;omega
     have HF:=jS od AL Ha;clear od AL Ha Hk yy q1 q2 q3 q4 q5 uM Az;go_wp2_with fail;go_roundg (i+1- (i+1))
     case measure=>omega
     case rel=>
      refine⟨i+1,rfl,rfl,.inr ⟨rfl,aa ⟨HF.2.1,xs,.slice ap m cp,B,?_,?_,?_,HF.2.2⟩⟩⟩
      ·have:=HF.1;rw[HM.out]at this;rw[<-H.2];rw[HM.out];exact this
      ·rw[HA.2.2.2.1,H.2]
      ·have:=HA.1.size;have:=H7.2.2.2.1;omega
  ·have BH:decide (((n+1:Nat):Int)<(n:Int)+1)=false:=(by simp);go_wp2_with fail;go_ret;obtain⟨h1,xs,pv,B,h2,h3,h4,h5⟩:=HA.out;have hs:w.heap.size<=W1.heap.size:=H0.2.1.size;exact⟨_,rfl,H0.2.1.trans (h1.mono hs),xs,pv,B,h2.mono hs,h3,ao hs h4,h5⟩
theorem f41 (p:Addr) (x:Bool) (w:World) (hc:w.cell? p=some (.bool x)) (hz:w.frozen? p=false):CallsD prog 41 #[.pointer (some p)] .returning w λe u' w'=>e=.returned (.tuple #[])/\u'=.returning/\w'=w.setCell p (.bool false):=by refine callsD_of_wpS func41 rfl λc₀ cs hu=> ?_;apply wpS_region;simp[wpOpsS,go_sem,recoverD,hu,ntmps41,Exit.thenS,hc,hz,bodyPostS,results,Tryz.results41];cases c₀;simp_all
theorem f20 (g:FuncId) (cap:Array Value) (w:World) (R:World->Prop) (eg:∀args w,(callFunc g args).run prog w=.ok (.enter g args) w) (h:Calls prog g cap (w.alloc (.cells #[.bool false] 4)) λe w'=>e=.returned (.tuple #[])/\R w'/\w'.heap[w.heap.size]? =some (.cells #[.bool false] 4 (0,0))):Calls prog 20 #[.func (.func g) #[] cap] w λe w'=>e=.returned (.bool false)/\∃w2,R w2/\ei (λb=>b=w.heap.size) w2 w':=by
 have hmf:∀(fn:Fn) (first cap:Array Value) (w:World),(Instr.makeFunc fn first cap).run prog w=.ok (.func fn first cap) w:=λ_ _ _ _=>rfl;have HC:=aa h;clear h
 go_enter_defers func20,ntmps20
 go_wp2_with fail;refine HC.mono ?_;rintro e w2 ⟨rfl,hR,hb⟩;have c0:w2.cell? ⟨w.heap.size,0,none⟩=some (.bool false):=cell_of hb rfl;have c1:=el (i:=0) hb;have d0:(w2.setCell ⟨w.heap.size,0,none⟩ (.bool false)).cell? ⟨w.heap.size,0,none⟩=some (.bool false):=cell_of (dG hb _) rfl;have d1:=el (i:=0) (dG hb (i:=0) (v:=.bool false));have e0:((w2.setCell ⟨w.heap.size,0,none⟩ (.bool false)).setCell ⟨w.heap.size,0,none⟩ (.bool false)).cell? ⟨w.heap.size,0,none⟩=some (.bool false):=cell_of (dG (dG hb _) _) rfl;have HR:=aa hR;clear hR hb;go_wp2_with fail;refine leaves_cons (f:=41) (args:=#[.pointer (some ⟨w.heap.size,0,none⟩)]) (by simp) (by simp[go_sem]) ?_;refine(f41 ⟨w.heap.size,0,none⟩ false _ d0 d1).mono ?_;rintro e u' w3 ⟨rfl,rfl,rfl⟩;simp[Leaves,settle,results,Tryz.results20,go_sem,e0];exact⟨w2,HR.out,(ei.cell (S:=λb=>b=w.heap.size) rfl).store _ rfl⟩
structure MZ (w:World) (B:Nat) (text:Bool) (steps:Value):Prop where
 b0:w.heap[B]? =some (.cells #[.bool text] 4 (0,0))
 b1:w.heap[B+1]? =some (.cells #[.int .u8 0,.int .i64 0] 34 (0,0))
 b2:w.heap[B+2]? =some (.cells #[steps] 27 (0,0))
 b3:w.heap[B+3]? =some (.cells #[.slice none 0 0] 30 (0,0))
theorem f21 (B:Nat) (ts:List (List UInt8)) (b c:Nat) (w:World) (hB:MZ w B true (.slice (some ⟨b,0,none⟩) (ts.length+1) c)) (fY:ts.length<=30) (h:xz w b ts):Calls prog 21 #[.pointer (some ⟨B,0,none⟩),.pointer (some ⟨B+1,0,none⟩),.pointer (some ⟨B+2,0,none⟩),.pointer (some ⟨B+3,0,none⟩)] w λe w'=>e=.returned (.tuple #[])/\∃v w5,Fk w w5 ts v/\w'=w5.setCell ⟨B+3,0,none⟩ v:=by
 obtain⟨n,hn⟩:=dS ts.length;have c0:w.cell? ⟨B,0,none⟩=some (.bool true):=cell_of hB.b0 rfl;have c1:w.cell? ⟨B+1,0,none⟩=some (.int .u8 0):=cell_of hB.b1 rfl;have c1':w.cell? ⟨B+1,1,none⟩=some (.int .i64 0):=cell_of hB.b1 rfl;have c2:w.cell? ⟨B+2,0,none⟩=some (.slice (some ⟨b,0,none⟩) (n+1) c):=by rw[hn];exact cell_of hB.b2 rfl
 have H:=sW hB h fY hn;clear hB h fY hn;go_enter func21,ntmps21;go_wp2_with fail;refine dP (λw'=>Below w.heap.size w w') [(true,1),(true,3),(false,0),(false,2),(false,4)] (by kernel_rfl) (by kernel_rfl) (by go_grown) (λhHeld=> ?_);iterate 2
  refine dL (v:= ?_) rfl (λ_ _ _ h=>h) (by rfl) ?_ hHeld ?_;rotate_left
  ·intro wz hSw;have k1:=dF hSw _ _ c1;have k1':=dF hSw _ _ c1';have k2:=dF hSw _ _ c2;go_simp
   try with_reducible rfl
  simp only[Act.put,iX]
 refine dM rfl (λKK mE=> ?_);go_simp;refine(f23 _).mono ?_;rintro e w2 ⟨rfl,eT⟩;have mN:Below w.heap.size w w2:=(by go_grown:Below w.heap.size w w.drew).trans eT;refine mE.out _ _ mN (λiU=> ?_);clear mE KK;refine dM rfl (λKK mE=> ?_);go_simp;refine(f24 0 _).mono ?_;rintro e w3 ⟨rfl,gQ⟩;have nZ:Below w.heap.size w w3:=mN.trans (gQ.mono mN.size);refine mE.out _ _ nZ (λmh=> ?_);clear mE KK;have Mh:xz w3 b ts:=⟨λi t ht f v hf=>dF nZ _ _ (H.2.1.put i t ht f v hf),λf v hf=>dF nZ _ _ (H.2.1.last f v hf),ai H.2.1.gu nZ.size⟩;have HC:=aa (f22 ts b c w3 H.2.2.1 Mh);rw[<-H.2.2.2]at HC;refine dM rfl (λKK mE=> ?_);go_simp;refine HC.mono ?_;rintro e w5 ⟨v,rfl,ha⟩;have Ut:Below w.heap.size w w5:=nZ.trans (ha.below.mono nZ.size);refine mE.out _ _ Ut (λtJ=> ?_);clear mE KK hHeld iU mh tJ;refine dX rfl ?_;obtain⟨av,cv,tC,_,_⟩:=d' ha.row.choose_spec.choose_spec.choose_spec.1;have V8:B+3<w.heap.size:=by
  rcases aV (B+3) w.heap.size with e|e
  ·exact e
  ·have:=H.1.b3;rw[aO e]at this;cases this
 have jF:=(Ut.block (B+3) V8).trans H.1.b3;have y3:w5.cell? ⟨B+3,0,none⟩=some (.slice none 0 0):=cell_of jF rfl;have y4:=el (i:=0) jF;have HA:=eo ha nZ;subst tC;clear ha mN nZ Ut eT gQ jF V8 Mh;go_wp2_with fail;go_end0;obtain⟨ha,nZ⟩:=HA.out;obtain⟨h1,xs,pv,B',h2,h3,h4,h5⟩:=ha;exact⟨rfl,_,w5,⟨nZ.trans (h1.mono nZ.size),xs,pv,B',h2.mono nZ.size,h3,ao nZ.size h4,h5⟩,rfl⟩
theorem Fk.fo {w w0 w1 w':World} {ts:List (List UInt8)} {v:Value} (h:Fk w0 w1 ts v) (hb:Below w.heap.size w w0) (hc:ei (λb=>w.heap.size<=b/\b<w0.heap.size) w1 w'):Fk w w' ts v:=by
 obtain⟨h1,xs,pv,B,h2,h3,h4,h5⟩:=h;have eu:Below w.heap.size w w1:=hb.trans (h1.mono hb.size);refine⟨eu.trans (hc.below eu.size λb e=>e.1),xs,pv,B,dI (h2.mono hb.size) λg hg=> ?_,h3,ao hb.size h4,dI h5 λg hg=> ?_⟩
 ·have:=h2.lt g hg;exact hc.same g this.2 (by omega)
 ·have:=h5.lt g hg;exact hc.same g this.2 (by omega)
theorem IG (args:Array Value) (w:World):(callFunc 21 args).run prog w=.ok (.enter 21 args) w:=enters_of func21 (by kernel_rfl) rfl args w
theorem f7 (ts:List (List UInt8)) (b c:Nat) (w:World) (fY:ts.length<=30) (h:xz w b ts):Calls prog 7 #[.bool true,.agg #[.int .u8 0,.int .i64 0],.slice (some ⟨b,0,none⟩) (ts.length+1) c] w λe w'=>∃v,e=.returned (.tuple #[v,.bool true])/\Fk w w' ts v:=by
 obtain⟨n,hn⟩:=dS ts.length;rw[<-hn];have H:=jS h fY hn;clear h fY hn;have hmf:∀(fn:Fn) (first cap:Array Value) (w:World),(Instr.makeFunc fn first cap).run prog w=.ok (.func fn first cap) w:=λ_ _ _ _=>rfl;obtain⟨a1,a2,a3⟩:=AE w (.cells #[.bool true] 4) (.cells #[.int .u8 0,.int .i64 0] 34) (.cells #[.slice (some ⟨b,0,none⟩) (n+1) c] 27);obtain⟨W3,kl⟩:=dS (((w.alloc (.cells #[.bool true] 4)).alloc (.cells #[.int .u8 0,.int .i64 0] 34)).alloc (.cells #[.slice (some ⟨b,0,none⟩) (n+1) c] 27));have gQ:Below w.heap.size w W3:=by rw[kl];go_grown
 have EB:W3.heap.size=w.heap.size+3:=by rw[kl,ab,ab,ab]
 rw[<-kl]at a1 a2 a3;have a4:=heap_alloc_new W3 (.cells #[.slice none 0 0] 30);have mZ:Below W3.heap.size W3 (W3.alloc (.cells #[.slice none 0 0] 30)):=by go_grown
 obtain⟨W4,qU⟩:=dS (W3.alloc (.cells #[.slice none 0 0] 30));have OG:W4.heap.size=w.heap.size+4:=by rw[qU,ab,EB]
 rw[<-qU]at a4 mZ;have jF:Below W4.heap.size W4 (W4.alloc (.cells #[.bool false] 4)):=by go_grown
 have Jn:(W4.alloc (.cells #[.bool false] 4)).heap.size=w.heap.size+5:=by rw[ab,OG]
 have Qb:=heap_alloc_new W4 (.cells #[.bool false] 4);obtain⟨W5,yF⟩:=dS (W4.alloc (.cells #[.bool false] 4));rw[<-yF]at jF Jn Qb;have EK:Below w.heap.size w W4:=gQ.trans (mZ.mono gQ.size);have AJ:Below w.heap.size w W5:=EK.trans (jF.mono EK.size);have up:∀x o,x<W3.heap.size->W3.heap[x]? =some o->W5.heap[x]? =some o:=λx o hx h=>(jF.block x (by omega)).trans ((mZ.block x hx).trans h);have AK:MZ W5 w.heap.size true (.slice (some ⟨b,0,none⟩) (n+1) c):=⟨up _ _ (by omega) a1,up _ _ (by omega) a2,up _ _ (by omega) a3,(jF.block (w.heap.size+3) (by omega)).trans (by rw[<-EB];exact a4)⟩;have Mh:xz W5 b ts:=⟨λi t ht f v hf=>dF AJ _ _ (H.1.put i t ht f v hf),λf v hf=>dF AJ _ _ (H.1.last f v hf),ai H.1.gu AJ.size⟩;have h21:=f21 w.heap.size ts b c W5 (by rw[<-H.2.2];exact AK) H.2.1 Mh;have hC:=f20 21 #[.pointer (some ⟨w.heap.size,0,none⟩),.pointer (some ⟨w.heap.size+1,0,none⟩),.pointer (some ⟨w.heap.size+1+1,0,none⟩),.pointer (some ⟨w.heap.size+1+1+1,0,none⟩)] W4 (λw'=>∃v w5,Fk W5 w5 ts v/\w'=w5.setCell ⟨w.heap.size+3,0,none⟩ v) IG (by rw[<-yF];refine h21.mono ?_;rintro e w' ⟨rfl,v,w5,ha,rfl⟩;refine⟨rfl,⟨v,w5,ha,rfl⟩,?_⟩;rw[aq _ _ _ _ (show W4.heap.size≠w.heap.size+3 by omega)];exact(ha.below.block W4.heap.size (by omega)).trans Qb);have HC:=rr hC EK jF OG Jn;have HX:=eo AK.b3 AJ;clear hC EK AJ gQ mZ jF EB OG Jn Qb a1 a2 a3 a4 up AK Mh h21 yF;go_enter func7,ntmps7;go_wp2_with fail;rw[<-kl,<-qU];clear kl qU;refine HC.1.mono ?_;rintro e w6 ⟨rfl,w2,⟨v,w5,ha,rfl⟩,gP⟩;obtain⟨av,cv,tC,_,_⟩:=d' ha.row.choose_spec.choose_spec.choose_spec.1;rw[<-H.2.2]at tC;have h5b:w5.heap[w.heap.size+3]? =some (.cells #[.slice none 0 0] 30 (0,0)):=(ha.below.block (w.heap.size+3) (by have:=HC.2.2.2.2;omega)).trans HX.1;have V':w6.heap[w.heap.size+3]? =some (.cells #[v] 30 (0,0)):=by rw[gP.same (w.heap.size+3) (by rw[aK];have:=ha.below.size;have:=HC.2.2.2.2;omega) (by have:=HC.2.2.2.1;omega),dG h5b];rfl
 have y0:w6.cell? ⟨w.heap.size+1+1+1,0,none⟩=some v:=cell_of V' rfl;have y1:w6.frozen? ⟨w.heap.size+1+1+1,0,none⟩=false:=el (i:=0) V';have Sk:Fk w (w6.setCell ⟨w.heap.size+3,0,none⟩ v) ts v:=ha.fo HX.2 (by
  refine(ei.cell (S:=λb=>w.heap.size<=b/\b<W5.heap.size) ?_).trans ((gP.mono (T:=λb=>w.heap.size<=b/\b<W5.heap.size) ?_).store _ ?_) (λ_ _ h=>h) (λ_ _ h=>h)
  ·have:=HC.2.2.2.2;omega
  ·intro b _ e;subst e;have:=HC.2.2.2;omega
  ·have:=HC.2.2.2.2;omega)
 subst tC;have HF:=eo Sk V';clear Sk V' h5b ha gP;go_wp2_with fail;have e0:(w6.setCell ⟨w.heap.size+1+1+1,0,none⟩ (.slice av (n+1) cv)).cell? ⟨w.heap.size+1+1+1,0,none⟩=some (.slice av (n+1) cv):=cell_of (dG HF.2 _) rfl;refine bodyPost_ret (v:=.tuple #[.slice av (n+1) cv,.bool true]) (by simp[results,Tryz.results7,go_sem,e0]) rfl ?_;exact⟨_,rfl,HF.1⟩
end Go.Proofs.YtfejflhgaphilaaGreatDoor
