/- A point of a star is saved. The package's own searches in texts: what they find, in characters. -/
import Derived.Test.YtfejflhgaphilaaGreatDoorC05
import Derived.Test.YtfejflhgaphilaaGreatDoorC03
import Derived.Lib.OthersKept
import Derived.Handy
set_option linter.all false
set_option maxRecDepth 100000
set_option maxHeartbeats 64000000
open Go.Proofs.Tryz
namespace Go.Proofs.YtfejflhgaphilaaGreatDoor
open Go.RowKit Gm
variable {c B k:Nat}
theorem nC {w:World} {v0 v1 v2 v3 v4 v5:Value} {t:TypeId} (h:w.heap[c]? =some (.cells #[v0,v1,v2,v3,v4,v5] t (0,0))):w.cell? ⟨c,0,none⟩=some v0/\w.cell? ⟨c,3,none⟩=some v3/\w.cell? ⟨c,5,none⟩=some v5:=by refine⟨by simp[World.cell?,h],by simp[World.cell?,h],by simp[World.cell?,h]⟩
theorem eY.frozen {w:World} {sp tot:Nat} {S:SV} {txt:List dE} {st:St} (hs:eY w B sp S txt tot st):w.frozen? ⟨sp,0,none⟩=false/\w.frozen? ⟨sp,1,none⟩=false/\w.frozen? ⟨sp,2,none⟩=false:=by simp[World.frozen?,hs.gu]
section
variable {w:World} {B sp tot:Nat} {S:SV} {txt:List dE} {st:St}
theorem SS (x:Ctx) (vp:Value) (rem:List dE) (z k kd:Int) (reset:Bool) (hs:eY w B sp S txt tot st) (hp:eF w vp x.path) (nG:PL sp S vp) (kT:x.floor<=st.stars.length) (hz:IntKind.i64.wrap (z+k)=off txt rem) (ht:tot+x.depth+1<=1000000000000) (hlen:¬x.path.length<x.depth) (RO:reset=true):Calls prog 225 #[.agg #[.int .i64 z,vp,.int .i64 x.depth,.pointer (some ⟨sp,0,none⟩),.int .i64 kd,.int .i64 x.floor],.int .i64 k,.bool reset] w λe w'=>e=.returned (.tuple #[])/\∃S',eY w' B sp S' txt (tot+x.depth+1) (eJ x st rem reset)/\Fr w w' sp S S':=by
 obtain⟨l1,l2,l3,l4⟩:=hs.lt;obtain⟨pa,pc,rfl⟩:∃pa pc,vp=.slice pa x.path.length pc:=by obtain⟨a,c,h,_⟩:=hp;exact⟨a,c,h⟩
 have HT:=aa ht;have UL:=aa kT;clear ht kT;have HB:Below w.heap.size w (w.alloc (.cells #[.int .i64 z,.slice pa x.path.length pc,.int .i64 x.depth,.pointer (some ⟨sp,0,none⟩),.int .i64 kd,.int .i64 x.floor] 151)):=by go_grown
 have jo:(w.alloc (.cells #[.int .i64 z,.slice pa x.path.length pc,.int .i64 x.depth,.pointer (some ⟨sp,0,none⟩),.int .i64 kd,.int .i64 x.floor] 151)).heap[w.heap.size]? =some (.cells #[.int .i64 z,.slice pa x.path.length pc,.int .i64 x.depth,.pointer (some ⟨sp,0,none⟩),.int .i64 kd,.int .i64 x.floor] 151):=heap_alloc_new _ _;have RF:decide ((x.path.length:Int)<(x.depth:Int))=false:=by simp;omega
 have HQ:Hid ((if x.path.length<x.depth then gR x.depth x.path else x.path)=x.path):=aa (if_neg hlen);have HRE:=aa RO;subst RO;go_enter func225,ntmps225;go_wp2_with fail;have KT:=(hs.keep HB).more (show tot<=tot+x.depth by omega);have WA:=hs.below HB;have HP0:=hp.fr nG WA;obtain⟨w2,mN⟩:=dS (w.alloc (.cells #[.int .i64 z,.slice pa x.path.length pc,.int .i64 x.depth,.pointer (some ⟨sp,0,none⟩),.int .i64 kd,.int .i64 x.floor] 151));rw[<-mN]at KT WA HP0 jo⊢;have oL:=aa KT;have Fa:=aa WA;have Jf:=aa HP0;have qZ:=aa jo;have HV:Hid (S.vs.ownBlock=S.vs.ownBlock):=aa rfl;obtain⟨S1,qV⟩:=dS S;rw[<-qV]at oL;replace Fa:Hid (Fr w w2 sp S S1):=qV▸Fa;replace Jf:Hid (eF w2 (.slice pa x.path.length pc) x.path/\PL sp S1 (.slice pa x.path.length pc)):=qV▸Jf;replace HV:Hid (S1.vs.ownBlock=S.vs.ownBlock):=qV▸HV;clear KT WA HP0 jo mN HB qV;obtain⟨c0,c1,c2⟩:=oL.cells;obtain⟨va,vc,tC,Me,hvm⟩:=oL.stars.form;obtain⟨x0,x3,x5⟩:=nC qZ.out;rw[tC]at c0;have fs:=(oL.frozen);have Si:=UL.out;have i1:(0:Int)<=(x.floor:Int):=by omega
 have i2:(x.floor:Int)<=(vc:Int):=by omega
 refine ev (λw'=>w'.cell? ⟨w.heap.size,3,none⟩=some (.pointer (some ⟨sp,0,none⟩))/\w'.cell? ⟨w.heap.size,5,none⟩=some (.int .i64 x.floor)/\w'.cell? ⟨sp,0,none⟩=some (.slice va st.stars.length vc)) [0,1,2,3,4,5,6,7,8,9,10,11] [] (by kernel_rfl) (by kernel_rfl) ⟨x3,x5,c0⟩ (λhHeld=> ?_);iterate 12
  refine fc (v:= ?_) rfl (λ_ _ _ h=>h) (by rfl) ?_ hHeld ?_;rotate_left
  ·intro w hSw;(try dsimp only at hSw);go_simp
   try with_reducible rfl
  simp only[Act.put,iX]
 refine fe ?_;refine ff rfl ?_;clear i1 i2;go_wp2_with fail;obtain⟨d1,d2⟩:=oL.cuts x.floor Si;have sM:oy S1.vs x.floor=.slice va x.floor vc:=by rw[tC];rfl
 rw[sM]at d1 d2;have P6:=aa (hs.trans Fa.out d2);have MU:=aa (Jf.1.fr Jf.2 d2);have oJ:Hid (_=_):=aa ((aq w2 ⟨sp,0,none⟩ (.slice va x.floor vc) _ (show w.heap.size≠sp by omega)).trans qZ.out);have tS:=aa d1;obtain⟨S2,yG⟩:∃S2,S2=({S1 with vs:=.slice va x.floor vc}:SV):=⟨_,rfl⟩;obtain⟨w3,nZ⟩:=dS (w2.setCell ⟨sp,0,none⟩ (.slice va x.floor vc));obtain⟨yo,J3⟩:∃yo,yo=({st with stars:=st.stars.take x.floor}:St):=⟨_,rfl⟩;rw[<-yG,<-nZ]at P6 MU;rw[<-yG,<-nZ,<-J3]at tS;rw[<-nZ]at oJ;replace HV:Hid (S2.vs.ownBlock=S.vs.ownBlock):=aa (by rw[yG];show Value.ownBlock (.slice va x.floor vc)=_;rw[<-sM,lh];exact HV.out);have ew:(w2.setCell ⟨sp,0,none⟩ (.slice va x.floor vc)).drew=w3.drew:=by rw[nZ]
 rw[ew];have Wz:Hid (Fr w w3.drew sp S S2):=aa (hs.trans P6.out (tS.below (by go_grown)));have HP3:Hid (eF w3.drew (.slice pa x.path.length pc) (x.path)/\PL sp S2 (.slice pa x.path.length pc)):=aa (MU.1.fr MU.2 (tS.below (by go_grown)));have E8:Hid (eY w3.drew B sp S2 txt (tot+x.depth) yo):=aa tS.drew;have MQ:Hid (w3.drew.heap[w.heap.size]? =_):=oJ;obtain⟨w4,VF⟩:=dS w3.drew;rw[<-VF]at Wz HP3 E8 MQ⊢;have oK:Hid (yo.stars=(if true=true then st.stars.take x.floor else st.stars)/\yo.stack=st.stack):=aa (by subst J3;exact⟨rfl,rfl⟩);clear hHeld c0 c1 c2 x0 x3 x5 tC Me hvm fs Si d1 d2 sM P6 MU oJ tS yG nZ J3 ew VF oL Fa Jf qZ;obtain⟨i0,hi,gD,gB,gF⟩:=info_parts Tryz.uz;obtain⟨c0,c1,c2⟩:=E8.cells;obtain⟨x0,x3,x5⟩:=nC MQ.out;obtain⟨qH,ED,gh,Mj⟩:=E8.stars;obtain⟨m1,m2,m3,m4⟩:=E8.lt;have hn:=E8.nY;have hB:=E8.base;have mT:=Wz.size;have z1:=dJ c0 (.cells #[.int .i64 (off txt rem),(.slice pa x.path.length pc)] 162);have z3:=dJ x3 (.cells #[.int .i64 (off txt rem),(.slice pa x.path.length pc)] 162);have z0:=dJ x0 (.cells #[.int .i64 (off txt rem),(.slice pa x.path.length pc)] 162);have HN:Hid (some w.heap.size≠S2.vs.ownBlock):=λe=>by have:=(l2 _ ((HV.out).symm.trans e.symm)).1;omega
 have HK:Hid (S2.vs.ownBlock≠some sp):=λe=>(E8.apart.s sp e).1 rfl;refine ev (λw'=>w'.cell? ⟨w.heap.size,3,none⟩=some (.pointer (some ⟨sp,0,none⟩))/\w'.cell? ⟨w.heap.size,0,none⟩=some (.int .i64 z)/\w'.cell? ⟨sp,0,none⟩=some S2.vs) [0,1,2,3,4,5,6,7,8,9,10,11,12] [13,14,15,16] (by kernel_rfl) (by kernel_rfl) ⟨x3,x0,c0⟩ (λhHeld=> ?_);iterate 13
  refine fc (v:= ?_) rfl (λ_ _ _ h=>h) (by rfl) ?_ hHeld ?_;rotate_left
  ·intro w hSw;(try dsimp only at hSw);go_simp
   try with_reducible rfl
  simp only[Act.put,iX]
 refine fe ?_;refine ep rfl (λK hK=> ?_);go_simp;refine hK.out _ _ ⟨z3,z0,z1⟩ (λdW=> ?_);clear hK K hHeld dW;refine ep rfl (λK hK=> ?_);refine step_append_lies _ rfl (.tmp 46) (.tmp 53) 163 rfl B 162 i0 (.agg #[.int .i64 0,.slice none 0 0]) 2 32 underlying163 hi gD gB gF rfl (by decide) S2.vs yo.stars.length (ia txt yo.stars qH) rfl ?_ ⟨w4.heap.size,0,none⟩ 1 1 [.int .i64 (off txt rem),(.slice pa x.path.length pc)] rfl rfl ?_ ?_ (by decide) ?_ ?_ ?_ (w4.heap.size+1) ?_ ?_
 ·exact dI gh λg hg=>heap_alloc_old _ _ (m2 g hg).1
 ·exact me rfl _ _ _
 ·exact uo _ _ _ _ _
 ·have:=HT.out;unfold maxLen;omega
 ·have:=HT.out;omega
 ·simp;omega
 ·simp
 intro g cap w5 ly gT gK jg;have HW:Below w4.heap.size w4 (w4.drew.alloc (.cells #[.int .i64 (off txt rem),(.slice pa x.path.length pc)] 162)):=by go_grown
 obtain⟨d0,d1,d2',df⟩:=E8.pA HW gT HK.out;have KS:(w5.cell? ⟨w.heap.size,3,none⟩=some (.pointer (some ⟨sp,0,none⟩))/\w5.cell? ⟨w.heap.size,0,none⟩=some (.int .i64 z)/\w5.cell? ⟨sp,0,none⟩=some S2.vs):=by
  refine⟨?_,?_,d0⟩
  ·exact(gT.cell_far ⟨w.heap.size,3,none⟩ (by simp;omega) HN.out).trans z3
  ·exact(gT.cell_far ⟨w.heap.size,0,none⟩ (by simp;omega) HN.out).trans z0
 have yC:=E8.p5 (c:=⟨x.path,rem⟩) ED Mj HW HP3.1 HP3.2 ly gT (by simpa using gK);have P5:=aa yC;clear yC Mj gh;refine hK.out _ _ KS (λdW=> ?_);clear hK K dW;simp only[Act.put,iX];refine ep rfl (λK hK=> ?_);go_simp;refine hK.out _ _ KS (λdW=> ?_);clear hK K dW;refine ep rfl (λK hK=> ?_);go_simp;refine hK.out _ _ KS (λdW=> ?_);clear hK K dW;refine ff rfl ?_;go_wp2_with fail;go_end0;refine⟨rfl,_,?_,hs.trans Wz.out P5.2⟩;have e1:=P5.1;obtain⟨e2,e3⟩:=oK.out;have e4:eJ x st rem true={yo with stars:=yo.stars++[⟨x.path,rem⟩]}:=by
  unfold eJ;rw[HQ.out]
  first
   |rfl
   |(obtain⟨s1,s2⟩:=yo
     simp only at e2 e3;subst e2;subst e3;rfl)
 rw[e4];exact e1
theorem SU (x:Ctx) (vp:Value) (rem:List dE) (z k kd:Int) (reset:Bool) (hs:eY w B sp S txt tot st) (hp:eF w vp x.path) (nG:PL sp S vp) (kT:x.floor<=st.stars.length) (hz:IntKind.i64.wrap (z+k)=off txt rem) (ht:tot+x.depth+1<=1000000000000) (hlen:¬x.path.length<x.depth) (RO:reset=false):Calls prog 225 #[.agg #[.int .i64 z,vp,.int .i64 x.depth,.pointer (some ⟨sp,0,none⟩),.int .i64 kd,.int .i64 x.floor],.int .i64 k,.bool reset] w λe w'=>e=.returned (.tuple #[])/\∃S',eY w' B sp S' txt (tot+x.depth+1) (eJ x st rem reset)/\Fr w w' sp S S':=by
 obtain⟨l1,l2,l3,l4⟩:=hs.lt;obtain⟨pa,pc,rfl⟩:∃pa pc,vp=.slice pa x.path.length pc:=by obtain⟨a,c,h,_⟩:=hp;exact⟨a,c,h⟩
 have HT:=aa ht;have UL:=aa kT;clear ht kT;have HB:Below w.heap.size w (w.alloc (.cells #[.int .i64 z,.slice pa x.path.length pc,.int .i64 x.depth,.pointer (some ⟨sp,0,none⟩),.int .i64 kd,.int .i64 x.floor] 151)):=by go_grown
 have jo:(w.alloc (.cells #[.int .i64 z,.slice pa x.path.length pc,.int .i64 x.depth,.pointer (some ⟨sp,0,none⟩),.int .i64 kd,.int .i64 x.floor] 151)).heap[w.heap.size]? =some (.cells #[.int .i64 z,.slice pa x.path.length pc,.int .i64 x.depth,.pointer (some ⟨sp,0,none⟩),.int .i64 kd,.int .i64 x.floor] 151):=heap_alloc_new _ _;have RF:decide ((x.path.length:Int)<(x.depth:Int))=false:=by simp;omega
 have HQ:Hid ((if x.path.length<x.depth then gR x.depth x.path else x.path)=x.path):=aa (if_neg hlen);have HRE:=aa RO;subst RO;go_enter func225,ntmps225;go_wp2_with fail;have KT:=(hs.keep HB).more (show tot<=tot+x.depth by omega);have WA:=hs.below HB;have HP0:=hp.fr nG WA;obtain⟨w2,mN⟩:=dS (w.alloc (.cells #[.int .i64 z,.slice pa x.path.length pc,.int .i64 x.depth,.pointer (some ⟨sp,0,none⟩),.int .i64 kd,.int .i64 x.floor] 151));rw[<-mN]at KT WA HP0 jo⊢;have oL:=aa KT;have Fa:=aa WA;have Jf:=aa HP0;have qZ:=aa jo;have HV:Hid (S.vs.ownBlock=S.vs.ownBlock):=aa rfl;obtain⟨S1,qV⟩:=dS S;rw[<-qV]at oL;replace Fa:Hid (Fr w w2 sp S S1):=qV▸Fa;replace Jf:Hid (eF w2 (.slice pa x.path.length pc) x.path/\PL sp S1 (.slice pa x.path.length pc)):=qV▸Jf;replace HV:Hid (S1.vs.ownBlock=S.vs.ownBlock):=qV▸HV;clear KT WA HP0 jo mN HB qV;have oK:Hid (st.stars=(if false=true then st.stars.take x.floor else st.stars)/\st.stack=st.stack):=aa ⟨rfl,rfl⟩;obtain⟨i0,hi,gD,gB,gF⟩:=info_parts Tryz.uz;obtain⟨c0,c1,c2⟩:=oL.cells;obtain⟨x0,x3,x5⟩:=nC qZ.out;obtain⟨qH,ED,gh,Mj⟩:=oL.stars;obtain⟨m1,m2,m3,m4⟩:=oL.lt;have hn:=oL.nY;have hB:=oL.base;have mT:=Fa.size;have z1:=dJ c0 (.cells #[.int .i64 (off txt rem),(.slice pa x.path.length pc)] 162);have z3:=dJ x3 (.cells #[.int .i64 (off txt rem),(.slice pa x.path.length pc)] 162);have z0:=dJ x0 (.cells #[.int .i64 (off txt rem),(.slice pa x.path.length pc)] 162);have HN:Hid (some w.heap.size≠S1.vs.ownBlock):=λe=>by have:=(l2 _ ((HV.out).symm.trans e.symm)).1;omega
 have HK:Hid (S1.vs.ownBlock≠some sp):=λe=>(oL.apart.s sp e).1 rfl;refine ev (λw'=>w'.cell? ⟨w.heap.size,3,none⟩=some (.pointer (some ⟨sp,0,none⟩))/\w'.cell? ⟨w.heap.size,0,none⟩=some (.int .i64 z)/\w'.cell? ⟨sp,0,none⟩=some S1.vs) [0,1,2,3,4,5,6,7,8,9,10,11,12] [13,14,15,16] (by kernel_rfl) (by kernel_rfl) ⟨x3,x0,c0⟩ (λhHeld=> ?_);iterate 13
  refine fc (v:= ?_) rfl (λ_ _ _ h=>h) (by rfl) ?_ hHeld ?_;rotate_left
  ·intro w hSw;(try dsimp only at hSw);go_simp
   try with_reducible rfl
  simp only[Act.put,iX]
 refine fe ?_;refine ep rfl (λK hK=> ?_);go_simp;refine hK.out _ _ ⟨z3,z0,z1⟩ (λdW=> ?_);clear hK K hHeld dW;refine ep rfl (λK hK=> ?_);refine step_append_lies _ rfl (.tmp 46) (.tmp 53) 163 rfl B 162 i0 (.agg #[.int .i64 0,.slice none 0 0]) 2 32 underlying163 hi gD gB gF rfl (by decide) S1.vs st.stars.length (ia txt st.stars qH) rfl ?_ ⟨w2.heap.size,0,none⟩ 1 1 [.int .i64 (off txt rem),(.slice pa x.path.length pc)] rfl rfl ?_ ?_ (by decide) ?_ ?_ ?_ (w2.heap.size+1) ?_ ?_
 ·exact dI gh λg hg=>heap_alloc_old _ _ (m2 g hg).1
 ·exact me rfl _ _ _
 ·exact uo _ _ _ _ _
 ·have:=HT.out;unfold maxLen;omega
 ·have:=HT.out;omega
 ·simp;omega
 ·simp
 intro g cap w5 ly gT gK jg;have HW:Below w2.heap.size w2 (w2.drew.alloc (.cells #[.int .i64 (off txt rem),(.slice pa x.path.length pc)] 162)):=by go_grown
 obtain⟨d0,d1,d2',df⟩:=oL.pA HW gT HK.out;have KS:(w5.cell? ⟨w.heap.size,3,none⟩=some (.pointer (some ⟨sp,0,none⟩))/\w5.cell? ⟨w.heap.size,0,none⟩=some (.int .i64 z)/\w5.cell? ⟨sp,0,none⟩=some S1.vs):=by
  refine⟨?_,?_,d0⟩
  ·exact(gT.cell_far ⟨w.heap.size,3,none⟩ (by simp;omega) HN.out).trans z3
  ·exact(gT.cell_far ⟨w.heap.size,0,none⟩ (by simp;omega) HN.out).trans z0
 have yC:=oL.p5 (c:=⟨x.path,rem⟩) ED Mj HW Jf.1 Jf.2 ly gT (by simpa using gK);have P5:=aa yC;clear yC Mj gh;refine hK.out _ _ KS (λdW=> ?_);clear hK K dW;simp only[Act.put,iX];refine ep rfl (λK hK=> ?_);go_simp;refine hK.out _ _ KS (λdW=> ?_);clear hK K dW;refine ep rfl (λK hK=> ?_);go_simp;refine hK.out _ _ KS (λdW=> ?_);clear hK K dW;refine ff rfl ?_;go_wp2_with fail;go_end0;refine⟨rfl,_,?_,hs.trans Fa.out P5.2⟩;have e1:=P5.1;obtain⟨e2,e3⟩:=oK.out;have e4:eJ x st rem false={st with stars:=st.stars++[⟨x.path,rem⟩]}:=by
  unfold eJ;rw[HQ.out]
  first
   |rfl
   |(obtain⟨s1,s2⟩:=st
     simp only at e2 e3;subst e2;subst e3;rfl)
 rw[e4];exact e1
theorem SW (x:Ctx) (vp:Value) (rem:List dE) (z k kd:Int) (reset:Bool) (hs:eY w B sp S txt tot st) (hp:eF w vp x.path) (nG:PL sp S vp) (kT:x.floor<=st.stars.length) (hz:IntKind.i64.wrap (z+k)=off txt rem) (ht:tot+x.depth+1<=1000000000000) (hlen:x.path.length<x.depth) (RO:reset=true):Calls prog 225 #[.agg #[.int .i64 z,vp,.int .i64 x.depth,.pointer (some ⟨sp,0,none⟩),.int .i64 kd,.int .i64 x.floor],.int .i64 k,.bool reset] w λe w'=>e=.returned (.tuple #[])/\∃S',eY w' B sp S' txt (tot+x.depth+1) (eJ x st rem reset)/\Fr w w' sp S S':=by
 obtain⟨l1,l2,l3,l4⟩:=hs.lt;obtain⟨pa,pc,rfl⟩:∃pa pc,vp=.slice pa x.path.length pc:=by obtain⟨a,c,h,_⟩:=hp;exact⟨a,c,h⟩
 have HT:=aa ht;have UL:=aa kT;clear ht kT;have HB:Below w.heap.size w (w.alloc (.cells #[.int .i64 z,.slice pa x.path.length pc,.int .i64 x.depth,.pointer (some ⟨sp,0,none⟩),.int .i64 kd,.int .i64 x.floor] 151)):=by go_grown
 have jo:(w.alloc (.cells #[.int .i64 z,.slice pa x.path.length pc,.int .i64 x.depth,.pointer (some ⟨sp,0,none⟩),.int .i64 kd,.int .i64 x.floor] 151)).heap[w.heap.size]? =some (.cells #[.int .i64 z,.slice pa x.path.length pc,.int .i64 x.depth,.pointer (some ⟨sp,0,none⟩),.int .i64 kd,.int .i64 x.floor] 151):=heap_alloc_new _ _;have RF:decide ((x.path.length:Int)<(x.depth:Int))=true:=by simp;omega
 have HQ:Hid ((if x.path.length<x.depth then gR x.depth x.path else x.path)=gR x.depth x.path):=aa (if_pos hlen);have HRE:=aa RO;subst RO;go_enter func225,ntmps225;go_wp2_with fail;refine(f224 x.depth (hs.keep HB) (by omega) (by have:=HT.out;omega)).mono ?_;rintro e w1 ⟨b,o,cap,rfl,ha,ho,nj⟩;obtain⟨n0,g0⟩:=ha.far (c:=w.heap.size) (by simp[ab]) (by omega) (λe=>by have:=(l4 _ e).1;omega);rw[jo]at g0;have SG:=ha.outer hs HB;have OK:eF w1 (.slice pa x.path.length pc) x.path:=(hp.fr nG (SG.done hs (by simp;omega) (by simp;have:=HT.out;unfold maxLen;omega) ho (by simpa using nj)).2.1).1;have HG:=aa g0;clear ha jo g0
 go_wp2_with (with_reducible refine mO (op:=⟨some 25,_,_,_,_,_⟩) SG OK ?_ (.tmp 23) (.tmp 24) ?_ x.depth x.depth ?_ ?_ ?_ ?_
              ·rfl
              ·rfl
              ·exact List.length_replicate
              ·rfl
              ·rfl
              intro w2 v2 Hy mN pT;have WC:=aa Hy;have qZ:=aa ((mN _ n0).trans HG.out);clear Hy mN pT OK SG)
 have VK:(List.take x.depth x.path++(List.replicate x.depth 0).drop x.path.length)=gR x.depth x.path:=by simp[gR]
 have HA:=WC.out;rw[VK]at HA;have sy:(gR x.depth x.path).length=x.depth:=im _ _;obtain⟨e1,e2,e3,e4⟩:=HA.done hs (by omega) (by rw[sy];have:=HT.out;unfold maxLen;omega) ho (by rw[sy];exact nj);rw[sy]at e1 e2 e3 e4;have HV:Hid (S.vs.ownBlock=S.vs.ownBlock):=aa rfl;obtain⟨S1,qV⟩:∃S1,S1=({S with va:=.slice (some ⟨b,0,none⟩) (o+x.depth) cap}:SV):=⟨_,rfl⟩;replace HV:Hid (S1.vs.ownBlock=S.vs.ownBlock):=aa (by rw[qV]);rw[<-qV]at e1 e2 e4;have oL:=aa e1;have Fa:=aa e2;have Jf:=eo e3 e4;clear HA e1 e2 e3 e4 qV WC HG HB VK sy;obtain⟨c0,c1,c2⟩:=oL.cells;obtain⟨va,vc,tC,Me,hvm⟩:=oL.stars.form;obtain⟨x0,x3,x5⟩:=nC qZ.out;rw[tC]at c0;have fs:=(oL.frozen);have Si:=UL.out;have i1:(0:Int)<=(x.floor:Int):=by omega
 have i2:(x.floor:Int)<=(vc:Int):=by omega
 refine ev (λw'=>w'.cell? ⟨w.heap.size,3,none⟩=some (.pointer (some ⟨sp,0,none⟩))/\w'.cell? ⟨w.heap.size,5,none⟩=some (.int .i64 x.floor)/\w'.cell? ⟨sp,0,none⟩=some (.slice va st.stars.length vc)) [0,1,2,3,4,5,6,7,8,9,10,11] [] (by kernel_rfl) (by kernel_rfl) ⟨x3,x5,c0⟩ (λhHeld=> ?_);iterate 12
  refine fc (v:= ?_) rfl (λ_ _ _ h=>h) (by rfl) ?_ hHeld ?_;rotate_left
  ·intro w hSw;(try dsimp only at hSw);go_simp
   try with_reducible rfl
  simp only[Act.put,iX]
 refine fe ?_;refine ff rfl ?_;clear i1 i2;go_wp2_with fail;obtain⟨d1,d2⟩:=oL.cuts x.floor Si;have sM:oy S1.vs x.floor=.slice va x.floor vc:=by rw[tC];rfl
 rw[sM]at d1 d2;have P6:=aa (hs.trans Fa.out d2);have MU:=aa (Jf.1.fr Jf.2 d2);have oJ:Hid (_=_):=aa ((aq w2 ⟨sp,0,none⟩ (.slice va x.floor vc) _ (show w.heap.size≠sp by omega)).trans qZ.out);have tS:=aa d1;obtain⟨S2,yG⟩:∃S2,S2=({S1 with vs:=.slice va x.floor vc}:SV):=⟨_,rfl⟩;obtain⟨w3,nZ⟩:=dS (w2.setCell ⟨sp,0,none⟩ (.slice va x.floor vc));obtain⟨yo,J3⟩:∃yo,yo=({st with stars:=st.stars.take x.floor}:St):=⟨_,rfl⟩;rw[<-yG,<-nZ]at P6 MU;rw[<-yG,<-nZ,<-J3]at tS;rw[<-nZ]at oJ;replace HV:Hid (S2.vs.ownBlock=S.vs.ownBlock):=aa (by rw[yG];show Value.ownBlock (.slice va x.floor vc)=_;rw[<-sM,lh];exact HV.out);have ew:(w2.setCell ⟨sp,0,none⟩ (.slice va x.floor vc)).drew=w3.drew:=by rw[nZ]
 rw[ew];have Wz:Hid (Fr w w3.drew sp S S2):=aa (hs.trans P6.out (tS.below (by go_grown)));have HP3:Hid (eF w3.drew (.slice (some ⟨b,o,none⟩) x.depth x.depth) ((gR x.depth x.path))/\PL sp S2 (.slice (some ⟨b,o,none⟩) x.depth x.depth)):=aa (MU.1.fr MU.2 (tS.below (by go_grown)));have E8:Hid (eY w3.drew B sp S2 txt (tot+x.depth) yo):=aa tS.drew;have MQ:Hid (w3.drew.heap[w.heap.size]? =_):=oJ;obtain⟨w4,VF⟩:=dS w3.drew;rw[<-VF]at Wz HP3 E8 MQ⊢;have oK:Hid (yo.stars=(if true=true then st.stars.take x.floor else st.stars)/\yo.stack=st.stack):=aa (by subst J3;exact⟨rfl,rfl⟩);clear hHeld c0 c1 c2 x0 x3 x5 tC Me hvm fs Si d1 d2 sM P6 MU oJ tS yG nZ J3 ew VF oL Fa Jf qZ;obtain⟨i0,hi,gD,gB,gF⟩:=info_parts Tryz.uz;obtain⟨c0,c1,c2⟩:=E8.cells;obtain⟨x0,x3,x5⟩:=nC MQ.out;obtain⟨qH,ED,gh,Mj⟩:=E8.stars;obtain⟨m1,m2,m3,m4⟩:=E8.lt;have hn:=E8.nY;have hB:=E8.base;have mT:=Wz.size;have z1:=dJ c0 (.cells #[.int .i64 (off txt rem),(.slice (some ⟨b,o,none⟩) x.depth x.depth)] 162);have z3:=dJ x3 (.cells #[.int .i64 (off txt rem),(.slice (some ⟨b,o,none⟩) x.depth x.depth)] 162);have z0:=dJ x0 (.cells #[.int .i64 (off txt rem),(.slice (some ⟨b,o,none⟩) x.depth x.depth)] 162);have HN:Hid (some w.heap.size≠S2.vs.ownBlock):=λe=>by have:=(l2 _ ((HV.out).symm.trans e.symm)).1;omega
 have HK:Hid (S2.vs.ownBlock≠some sp):=λe=>(E8.apart.s sp e).1 rfl;refine ev (λw'=>w'.cell? ⟨w.heap.size,3,none⟩=some (.pointer (some ⟨sp,0,none⟩))/\w'.cell? ⟨w.heap.size,0,none⟩=some (.int .i64 z)/\w'.cell? ⟨sp,0,none⟩=some S2.vs) [0,1,2,3,4,5,6,7,8,9,10,11,12] [13,14,15,16] (by kernel_rfl) (by kernel_rfl) ⟨x3,x0,c0⟩ (λhHeld=> ?_);iterate 13
  refine fc (v:= ?_) rfl (λ_ _ _ h=>h) (by rfl) ?_ hHeld ?_;rotate_left
  ·intro w hSw;(try dsimp only at hSw);go_simp
   try with_reducible rfl
  simp only[Act.put,iX]
 refine fe ?_;refine ep rfl (λK hK=> ?_);go_simp;refine hK.out _ _ ⟨z3,z0,z1⟩ (λdW=> ?_);clear hK K hHeld dW;refine ep rfl (λK hK=> ?_);refine step_append_lies _ rfl (.tmp 46) (.tmp 53) 163 rfl B 162 i0 (.agg #[.int .i64 0,.slice none 0 0]) 2 32 underlying163 hi gD gB gF rfl (by decide) S2.vs yo.stars.length (ia txt yo.stars qH) rfl ?_ ⟨w4.heap.size,0,none⟩ 1 1 [.int .i64 (off txt rem),(.slice (some ⟨b,o,none⟩) x.depth x.depth)] rfl rfl ?_ ?_ (by decide) ?_ ?_ ?_ (w4.heap.size+1) ?_ ?_
 ·exact dI gh λg hg=>heap_alloc_old _ _ (m2 g hg).1
 ·exact me rfl _ _ _
 ·exact uo _ _ _ _ _
 ·have:=HT.out;unfold maxLen;omega
 ·have:=HT.out;omega
 ·simp;omega
 ·simp
 intro g cap w5 ly gT gK jg;have HW:Below w4.heap.size w4 (w4.drew.alloc (.cells #[.int .i64 (off txt rem),(.slice (some ⟨b,o,none⟩) x.depth x.depth)] 162)):=by go_grown
 obtain⟨d0,d1,d2',df⟩:=E8.pA HW gT HK.out;have KS:(w5.cell? ⟨w.heap.size,3,none⟩=some (.pointer (some ⟨sp,0,none⟩))/\w5.cell? ⟨w.heap.size,0,none⟩=some (.int .i64 z)/\w5.cell? ⟨sp,0,none⟩=some S2.vs):=by
  refine⟨?_,?_,d0⟩
  ·exact(gT.cell_far ⟨w.heap.size,3,none⟩ (by simp;omega) HN.out).trans z3
  ·exact(gT.cell_far ⟨w.heap.size,0,none⟩ (by simp;omega) HN.out).trans z0
 have yC:=E8.p5 (c:=⟨(gR x.depth x.path),rem⟩) ED Mj HW HP3.1 HP3.2 ly gT (by simpa using gK);have P5:=aa yC;clear yC Mj gh;refine hK.out _ _ KS (λdW=> ?_);clear hK K dW;simp only[Act.put,iX];refine ep rfl (λK hK=> ?_);go_simp;refine hK.out _ _ KS (λdW=> ?_);clear hK K dW;refine ep rfl (λK hK=> ?_);go_simp;refine hK.out _ _ KS (λdW=> ?_);clear hK K dW;refine ff rfl ?_;go_wp2_with fail;go_end0;refine⟨rfl,_,?_,hs.trans Wz.out P5.2⟩;have e1:=P5.1;obtain⟨e2,e3⟩:=oK.out;have e4:eJ x st rem true={yo with stars:=yo.stars++[⟨(gR x.depth x.path),rem⟩]}:=by
  unfold eJ;rw[HQ.out]
  first
   |rfl
   |(obtain⟨s1,s2⟩:=yo
     simp only at e2 e3;subst e2;subst e3;rfl)
 rw[e4];exact e1
theorem SX (x:Ctx) (vp:Value) (rem:List dE) (z k kd:Int) (reset:Bool) (hs:eY w B sp S txt tot st) (hp:eF w vp x.path) (nG:PL sp S vp) (kT:x.floor<=st.stars.length) (hz:IntKind.i64.wrap (z+k)=off txt rem) (ht:tot+x.depth+1<=1000000000000) (hlen:x.path.length<x.depth) (RO:reset=false):Calls prog 225 #[.agg #[.int .i64 z,vp,.int .i64 x.depth,.pointer (some ⟨sp,0,none⟩),.int .i64 kd,.int .i64 x.floor],.int .i64 k,.bool reset] w λe w'=>e=.returned (.tuple #[])/\∃S',eY w' B sp S' txt (tot+x.depth+1) (eJ x st rem reset)/\Fr w w' sp S S':=by
 obtain⟨l1,l2,l3,l4⟩:=hs.lt;obtain⟨pa,pc,rfl⟩:∃pa pc,vp=.slice pa x.path.length pc:=by obtain⟨a,c,h,_⟩:=hp;exact⟨a,c,h⟩
 have HT:=aa ht;have UL:=aa kT;clear ht kT;have HB:Below w.heap.size w (w.alloc (.cells #[.int .i64 z,.slice pa x.path.length pc,.int .i64 x.depth,.pointer (some ⟨sp,0,none⟩),.int .i64 kd,.int .i64 x.floor] 151)):=by go_grown
 have jo:(w.alloc (.cells #[.int .i64 z,.slice pa x.path.length pc,.int .i64 x.depth,.pointer (some ⟨sp,0,none⟩),.int .i64 kd,.int .i64 x.floor] 151)).heap[w.heap.size]? =some (.cells #[.int .i64 z,.slice pa x.path.length pc,.int .i64 x.depth,.pointer (some ⟨sp,0,none⟩),.int .i64 kd,.int .i64 x.floor] 151):=heap_alloc_new _ _;have RF:decide ((x.path.length:Int)<(x.depth:Int))=true:=by simp;omega
 have HQ:Hid ((if x.path.length<x.depth then gR x.depth x.path else x.path)=gR x.depth x.path):=aa (if_pos hlen);have HRE:=aa RO;subst RO;go_enter func225,ntmps225;go_wp2_with fail;refine(f224 x.depth (hs.keep HB) (by omega) (by have:=HT.out;omega)).mono ?_;rintro e w1 ⟨b,o,cap,rfl,ha,ho,nj⟩;obtain⟨n0,g0⟩:=ha.far (c:=w.heap.size) (by simp[ab]) (by omega) (λe=>by have:=(l4 _ e).1;omega);rw[jo]at g0;have SG:=ha.outer hs HB;have OK:eF w1 (.slice pa x.path.length pc) x.path:=(hp.fr nG (SG.done hs (by simp;omega) (by simp;have:=HT.out;unfold maxLen;omega) ho (by simpa using nj)).2.1).1;have HG:=aa g0;clear ha jo g0
 go_wp2_with (with_reducible refine mO (op:=⟨some 25,_,_,_,_,_⟩) SG OK ?_ (.tmp 23) (.tmp 24) ?_ x.depth x.depth ?_ ?_ ?_ ?_
              ·rfl
              ·rfl
              ·exact List.length_replicate
              ·rfl
              ·rfl
              intro w2 v2 Hy mN pT;have WC:=aa Hy;have qZ:=aa ((mN _ n0).trans HG.out);clear Hy mN pT OK SG)
 have VK:(List.take x.depth x.path++(List.replicate x.depth 0).drop x.path.length)=gR x.depth x.path:=by simp[gR]
 have HA:=WC.out;rw[VK]at HA;have sy:(gR x.depth x.path).length=x.depth:=im _ _;obtain⟨e1,e2,e3,e4⟩:=HA.done hs (by omega) (by rw[sy];have:=HT.out;unfold maxLen;omega) ho (by rw[sy];exact nj);rw[sy]at e1 e2 e3 e4;have HV:Hid (S.vs.ownBlock=S.vs.ownBlock):=aa rfl;obtain⟨S1,qV⟩:∃S1,S1=({S with va:=.slice (some ⟨b,0,none⟩) (o+x.depth) cap}:SV):=⟨_,rfl⟩;replace HV:Hid (S1.vs.ownBlock=S.vs.ownBlock):=aa (by rw[qV]);rw[<-qV]at e1 e2 e4;have oL:=aa e1;have Fa:=aa e2;have Jf:=eo e3 e4;clear HA e1 e2 e3 e4 qV WC HG HB VK sy;have oK:Hid (st.stars=(if false=true then st.stars.take x.floor else st.stars)/\st.stack=st.stack):=aa ⟨rfl,rfl⟩;obtain⟨i0,hi,gD,gB,gF⟩:=info_parts Tryz.uz;obtain⟨c0,c1,c2⟩:=oL.cells;obtain⟨x0,x3,x5⟩:=nC qZ.out;obtain⟨qH,ED,gh,Mj⟩:=oL.stars;obtain⟨m1,m2,m3,m4⟩:=oL.lt;have hn:=oL.nY;have hB:=oL.base;have mT:=Fa.size;have z1:=dJ c0 (.cells #[.int .i64 (off txt rem),(.slice (some ⟨b,o,none⟩) x.depth x.depth)] 162);have z3:=dJ x3 (.cells #[.int .i64 (off txt rem),(.slice (some ⟨b,o,none⟩) x.depth x.depth)] 162);have z0:=dJ x0 (.cells #[.int .i64 (off txt rem),(.slice (some ⟨b,o,none⟩) x.depth x.depth)] 162);have HN:Hid (some w.heap.size≠S1.vs.ownBlock):=λe=>by have:=(l2 _ ((HV.out).symm.trans e.symm)).1;omega
 have HK:Hid (S1.vs.ownBlock≠some sp):=λe=>(oL.apart.s sp e).1 rfl;refine ev (λw'=>w'.cell? ⟨w.heap.size,3,none⟩=some (.pointer (some ⟨sp,0,none⟩))/\w'.cell? ⟨w.heap.size,0,none⟩=some (.int .i64 z)/\w'.cell? ⟨sp,0,none⟩=some S1.vs) [0,1,2,3,4,5,6,7,8,9,10,11,12] [13,14,15,16] (by kernel_rfl) (by kernel_rfl) ⟨x3,x0,c0⟩ (λhHeld=> ?_);iterate 13
  refine fc (v:= ?_) rfl (λ_ _ _ h=>h) (by rfl) ?_ hHeld ?_;rotate_left
  ·intro w hSw;(try dsimp only at hSw);go_simp
   try with_reducible rfl
  simp only[Act.put,iX]
 refine fe ?_;refine ep rfl (λK hK=> ?_);go_simp;refine hK.out _ _ ⟨z3,z0,z1⟩ (λdW=> ?_);clear hK K hHeld dW;refine ep rfl (λK hK=> ?_);refine step_append_lies _ rfl (.tmp 46) (.tmp 53) 163 rfl B 162 i0 (.agg #[.int .i64 0,.slice none 0 0]) 2 32 underlying163 hi gD gB gF rfl (by decide) S1.vs st.stars.length (ia txt st.stars qH) rfl ?_ ⟨w2.heap.size,0,none⟩ 1 1 [.int .i64 (off txt rem),(.slice (some ⟨b,o,none⟩) x.depth x.depth)] rfl rfl ?_ ?_ (by decide) ?_ ?_ ?_ (w2.heap.size+1) ?_ ?_
 ·exact dI gh λg hg=>heap_alloc_old _ _ (m2 g hg).1
 ·exact me rfl _ _ _
 ·exact uo _ _ _ _ _
 ·have:=HT.out;unfold maxLen;omega
 ·have:=HT.out;omega
 ·simp;omega
 ·simp
 intro g cap w5 ly gT gK jg;have HW:Below w2.heap.size w2 (w2.drew.alloc (.cells #[.int .i64 (off txt rem),(.slice (some ⟨b,o,none⟩) x.depth x.depth)] 162)):=by go_grown
 obtain⟨d0,d1,d2',df⟩:=oL.pA HW gT HK.out;have KS:(w5.cell? ⟨w.heap.size,3,none⟩=some (.pointer (some ⟨sp,0,none⟩))/\w5.cell? ⟨w.heap.size,0,none⟩=some (.int .i64 z)/\w5.cell? ⟨sp,0,none⟩=some S1.vs):=by
  refine⟨?_,?_,d0⟩
  ·exact(gT.cell_far ⟨w.heap.size,3,none⟩ (by simp;omega) HN.out).trans z3
  ·exact(gT.cell_far ⟨w.heap.size,0,none⟩ (by simp;omega) HN.out).trans z0
 have yC:=oL.p5 (c:=⟨(gR x.depth x.path),rem⟩) ED Mj HW Jf.1 Jf.2 ly gT (by simpa using gK);have P5:=aa yC;clear yC Mj gh;refine hK.out _ _ KS (λdW=> ?_);clear hK K dW;simp only[Act.put,iX];refine ep rfl (λK hK=> ?_);go_simp;refine hK.out _ _ KS (λdW=> ?_);clear hK K dW;refine ep rfl (λK hK=> ?_);go_simp;refine hK.out _ _ KS (λdW=> ?_);clear hK K dW;refine ff rfl ?_;go_wp2_with fail;go_end0;refine⟨rfl,_,?_,hs.trans Fa.out P5.2⟩;have e1:=P5.1;obtain⟨e2,e3⟩:=oK.out;have e4:eJ x st rem false={st with stars:=st.stars++[⟨(gR x.depth x.path),rem⟩]}:=by
  unfold eJ;rw[HQ.out]
  first
   |rfl
   |(obtain⟨s1,s2⟩:=st
     simp only at e2 e3;subst e2;subst e3;rfl)
 rw[e4];exact e1
theorem f225 (x:Ctx) (vp:Value) (rem:List dE) (z k kd:Int) (reset:Bool) (hs:eY w B sp S txt tot st) (hp:eF w vp x.path) (nG:PL sp S vp) (kT:x.floor<=st.stars.length) (hz:IntKind.i64.wrap (z+k)=off txt rem) (ht:tot+x.depth+1<=1000000000000):Calls prog 225 #[.agg #[.int .i64 z,vp,.int .i64 x.depth,.pointer (some ⟨sp,0,none⟩),.int .i64 kd,.int .i64 x.floor],.int .i64 k,.bool reset] w λe w'=>e=.returned (.tuple #[])/\∃S',eY w' B sp S' txt (tot+x.depth+1) (eJ x st rem reset)/\Fr w w' sp S S':=by
 by_cases h:x.path.length<x.depth
 ·cases reset with
  |true=>exact SW x vp rem z k kd true hs hp nG kT hz ht h rfl
  |false=>exact SX x vp rem z k kd false hs hp nG kT hz ht h rfl
 ·cases reset with
  |true=>exact SS x vp rem z k kd true hs hp nG kT hz ht h rfl
  |false=>exact SU x vp rem z k kd false hs hp nG kT hz ht h rfl
end
theorem nF {w:World} {u v:List dE} (hc:mz c) (hk:w.heap[k]? =some (.stringIter (bs (u++c::v)) (enc u).length)) (ty:TypeId):(Instr.next (.pointer (some ⟨k,0,none⟩)) true ty).run prog w=.ok (.tuple #[.bool true,.int .i64 ((enc u).length:Nat),.int .i32 (c:Nat)]) (w.iterAt k (bs (u++c::v)) ((enc u).length+(e1 c).length)):=by
 have h1:=(ec c).1;have eR:(enc u).length<(bs (u++c::v)).size:=by rw[dQ];simp;omega
 rw[Lib.run_next_any_at w k _ _ ty hk eR];have hd:Utf8.decode (bs (u++c::v)) (enc u).length=(c,(e1 c).length):=nJ hc _ (enc v) _ (by simp);rw[hd]
theorem pD {w:World} {u:List dE} (hk:w.heap[k]? =some (.stringIter (bs u) (enc u).length)) (ty:TypeId):(Instr.next (.pointer (some ⟨k,0,none⟩)) true ty).run prog w=.ok (.tuple #[.bool false]) w:=Lib.run_next_end_at w k _ _ ty hk (by rw[dQ];omega)
def Fz (sep r:List dE):Int:=if iz sep r then-1 else((enc (r.takeWhile λc=> !sep.contains c)).length:Int)
theorem World.jt (w:World) (s:ByteArray) (pos:Nat):(w.iter s pos).heap.size=w.heap.size+1:=by simp[World.iter]
theorem ku {a w:World} (h:Below B a w) (hB:B<=w.heap.size) (s:ByteArray) (pos:Nat):Below B a (w.iter s pos):=h.alloc hB _
theorem f257 (r sep:List dE) (w:World) (hr:dV r) (hs:dV sep) (hl:(enc r).length<=1000000):Calls prog 257 #[.string (bs r),.string (bs sep)] w λe w'=>e=.returned (.int .i64 (Fz sep r))/\Below w.heap.size w w':=by
 go_enter func257,ntmps257;go_wp2;obtain⟨K,hK⟩:=dS w.heap.size
 go_loopw [] (λwr=>∃u v,r=u++v/\(∀c∈u,c∉sep)/\wr.heap[K]? =some (.stringIter (bs r) (enc u).length)/\Below w.heap.size w wr/\K<wr.heap.size) (λwr=>(bs r).size+1-wr.iterPos K)
 case atStart=>exact⟨[],r,rfl,by simp,by rw[hK];exact dz _ _ _,ku (ay _ _) (af _) _ _,by rw[hK,World.jt];omega⟩
 case round=>
  obtain⟨u,v,Zg,hu,hk,hb,Hh⟩:=hrel;obtain⟨wo,rfl⟩:=dS (wr:World);have HP:=aa (iterPos_of hk);have HU:=aa hu;clear hu;cases v with
  |nil=>simp only[bd]at Zg;subst Zg;have hn:=λty=>pD hk ty;subst hK;go_wp2;go_ret;exact⟨sg (by simp only[Fz];rw[if_pos ((jf _ _).2 HU.out)]),hb⟩
  |cons c v=>
   subst Zg;have hc:mz c:=hr c (by simp);have hn:=λty=>nF hc hk ty;subst hK;go_wp2;rw[Lib.iterAt_size];have uF:=Lib.iterAt_heap wo w.heap.size _ _ ((enc u).length+(e1 c).length) hk;have eu:=Lib.below_iterAt hb (af _) (bs (u++c::v)) ((enc u).length+(e1 c).length);have gJ:=Lib.iterAt_size wo w.heap.size (bs (u++c::v)) ((enc u).length+(e1 c).length);generalize wo.iterAt w.heap.size (bs (u++c::v)) ((enc u).length+(e1 c).length)=w1 at uF eu gJ;have hwl:w.heap.size<w1.heap.size:=(by omega);rw[<-gJ];clear hn hk hb gJ
   go_loopw [] (λw2=>∃a b,sep=a++b/\c∉a/\w2.heap[w1.heap.size]? =some (.stringIter (bs sep) (enc a).length)/\w2.heap[w.heap.size]? =some (.stringIter (bs (u++c::v)) ((enc u).length+(e1 c).length))/\Below w.heap.size w w2/\w1.heap.size<w2.heap.size) (λw2=>(bs sep).size+1-w2.iterPos w1.heap.size)
   case atStart=>refine⟨[],sep,rfl,by simp,dz _ _ _,?_,ku eu (by omega) _ _,by rw[World.jt];omega⟩;exact(Below.heap_alloc w1 _ w.heap.size (by omega)).trans uF
   case round=>
    obtain⟨a,b,tI,ha,EI,hk3,eT,Qc⟩:=hrel;have HA:=aa ha;clear ha;have MU:=aa (iterPos_of EI);cases b with
    |nil=>
     simp only[bd]at tI;subst tI;have hn:=λty=>pD EI ty;go_wp2;have h1:=(ec c).1;refine⟨⟨u++[c],v,by simp,?_,by simpa using hk3,eT,by omega⟩,?_⟩
     ·intro x hx;rcases ar.1 hx with hx|hx
      ·exact HU.out x hx
      ·simp only[az,ba,or_false]at hx;subst hx;exact HA.out
     ·rw[HP.out,iterPos_of hk3,dQ];simp;omega
    |cons d b=>
     subst tI;have hd:mz d:=hs d (by simp);have hn:=λty=>nF hd EI ty;by_cases he:c=d
     ·subst he;go_wp2;go_ret;refine⟨sg ?_,eT.trans (Lib.below_iterAt (ay _ _) (by omega) _ _)⟩;simp only[Fz];rw[if_neg (by rw[jf];exactλh=>h c (by simp) (by simp))];have:(u++c::v).takeWhile (λx=> !(a++c::b).contains x)=u:=by
       rw[List.takeWhile_append_of_pos (by intro x hx;simpa using HU.out x hx)];simp
      rw[this]
     ·have eK:((c:Int)==((d:Nat):Int))=false:=beq_eq_false_iff_ne.2 (λe=>he (by exact_mod_cast e));have HE:=aa he;clear he;go_wp2;have h1:=(ec d).1;refine⟨⟨a++[d],b,by simp,?_,?_,?_,Lib.below_iterAt eT (by omega) _ _,by rw[Lib.iterAt_size];exact Qc⟩,?_⟩
      ·intro hx;rcases ar.1 hx with hx|hx
       ·exact HA.out hx
       ·simp only[az,ba,or_false]at hx;exact HE.out hx
      ·simpa using Lib.iterAt_heap _ _ _ _ _ EI
      ·rw[Lib.iterAt_other _ _ _ _ _ (by omega)];exact hk3
      ·rw[MU.out,iterPos_of (Lib.iterAt_heap _ _ _ _ _ EI),dQ];simp;omega
def qW (t:List UInt8):List UInt8->Option Nat
 | []=>if t.isPrefixOf []then some 0 else none
 |b::s=>if t.isPrefixOf (b::s)then some 0 else(qW t s).map (·+1)
def zv (s t:List UInt8):Int:=match qW t s with|some k=>(k:Int)|none=> -1
theorem xw {t:List UInt8}:∀{s:List UInt8} {k:Nat},k<=s.length->t.isPrefixOf (s.drop k)=true->(∀j,j<k->t.isPrefixOf (s.drop j)=false)->qW t s=some k
 | [],k,hk,h,hb=>by have:k=0:=(by simpa using hk);subst this;simp only[bK]at h;simp[qW,h]
 |b::s,0,hk,h,hb=>by simp only[bK]at h;simp[qW,h]
 |b::s,k+1,hk,h,hb=>by have h0:=hb 0 (by omega);simp only[bK]at h0;have:=xw (t:=t) (s:=s) (k:=k) (by simpa using hk) (by simpa using h) (λj hj=>by have:=hb (j+1) (by omega);simpa using this);simp[qW,h0,this]
theorem xx {t:List UInt8}:∀{s:List UInt8},(∀j,j<=s.length->t.isPrefixOf (s.drop j)=false)->qW t s=none
 | [],h=>by have:=h 0 (by simp);simp only[bK]at this;simp[qW,this]
 |b::s,h=>by have h0:=h 0 (by simp);simp only[bK]at h0;have:=xx (t:=t) (s:=s) (λj hj=>by have:=h (j+1) (by simpa using hj);simpa using this);simp[qW,h0,this]
theorem MF {t:List UInt8}:∀{s:List UInt8} {k:Nat},qW t s=some k->k<=s.length/\t.isPrefixOf (s.drop k)=true/\∀j,j<k->t.isPrefixOf (s.drop j)=false
 | [],k,h=>by simp only[qW]at h;split at h<;>simp at h;rename_i hp;subst h;exact⟨by simp,by simpa using hp,λj hj=>by omega⟩
 |b::s,k,h=>by
  simp only[qW]at h;split at h
  ·rename_i hp;simp at h;subst h;exact⟨by simp,by simpa using hp,λj hj=>by omega⟩
  ·rename_i hp;simp only[aX]at h;obtain⟨k',hk',rfl⟩:=h;obtain⟨h1,h2,h3⟩:=MF hk';refine⟨by simpa using h1,by simpa using h2,λj hj=> ?_⟩;cases j with
   |zero=>rw[bK];exact bF.2 hp
   |succ j=>simpa using h3 j (by omega)
theorem I1 {t:List UInt8}:∀{s:List UInt8},qW t s=none->∀j,t.isPrefixOf (s.drop j)=false
 | [],h,j=>by simp only[qW]at h;split at h<;>simp at h;rename_i hp;rw[List.drop_nil];exact bF.2 hp
 |b::s,h,j=>by
  simp only[qW]at h;split at h
  ·simp at h
  ·rename_i hp;simp only[Option.map_eq_none_iff]at h;cases j with
   |zero=>rw[bK];exact bF.2 hp
   |succ j=>simpa using I1 h j
theorem JF (s t:ByteArray) (k:Nat):((s.extract k (k+t.size)).toList==t.toList)=t.data.toList.isPrefixOf (s.data.toList.drop k):=by
 rw[Lib.toList_data,Lib.toList_data,Lib.extract_data,bO,beq_iff_eq,bE];have hl:t.data.toList.length=t.size:=(Lib.size_eq t).symm;have hd:(s.data.toList.drop k).take (k+t.size-k)=(s.data.toList.drop k).take t.data.toList.length:=by rw[hl];congr 1;omega
 constructor
 ·intro e;rw[dp,<-hd];exact e.symm
 ·intro e;rw[hd];exact(dp.1 e).symm
theorem f258 (s t:ByteArray) (w:World) (hs:s.size<=1000000) (ht:t.size<=1000000):Calls prog 258 #[.string s,.string t] w λe w'=>e=.returned (.int .i64 (zv s.data.toList t.data.toList))/\w'=w:=by
 have Mg:s.data.toList.length=s.size:=(Lib.size_eq s).symm;have yw:t.data.toList.length=t.size:=(Lib.size_eq t).symm;have HS:=aa Mg;clear Mg;have HT:=aa yw;clear yw;go_enter func258,ntmps258;go_wp2
 go_loop [5] (λi=>∃k:Nat,k<=s.size+1/\i=.int .i64 k/\∀j,j<k->t.data.toList.isPrefixOf (s.data.toList.drop j)=false) (λi=>s.size+1- (intOf i).toNat)
 case atStart=>exact⟨0,by omega,rfl,λj h=>by omega⟩
 case round=>
  obtain⟨k,hk,rfl,hb⟩:=hrel;have HB:=aa hb;clear hb;by_cases eR:k+t.size<=s.size
  ·have iW:=JF s t k;by_cases hp:t.data.toList.isPrefixOf (s.data.toList.drop k)=true
   ·rw[hp]at iW;have HP:=aa hp;clear hp;go_wp2;go_ret;exact⟨sg (by simp only[zv];rw[xw (by rw[HS.out];omega) HP.out HB.out]),rfl⟩
   ·rw[bF.2 hp]at iW;have HP:=aa (bF.2 hp);clear hp;go_wp2;go_round
    case rel=>exact⟨k+1,by omega,by go_num,λj hj=>if e:j<k then HB.out j e else by have:j=k:=by omega
                                                                                   subst this;exact HP.out⟩
    case measure=>simp[intOf];omega
  ·go_wp2;go_ret;refine⟨sg ?_,rfl⟩;simp only[zv];rw[xx];intro j hj;by_cases e:j<k
   ·exact HB.out j e
   ·rw[bF];intro hp;have:=(bE.1 hp).length_le;rw[bT,HS.out,HT.out]at this;rw[HS.out]at hj;omega
theorem UN (sep r:List dE):decide (0<=Fz sep r)= !iz sep r:=by rw[bO,decide_eq_true_iff];simp only[Fz];cases iz sep r<;>simp
theorem f306 (r sep:List dE) (w:World) (hr:dV r) (hs:dV sep) (hl:(enc r).length<=1000000):Calls prog 306 #[.string (bs r),.string (bs sep)] w λe w'=>e=.returned (.bool (!iz sep r))/\Below w.heap.size w w':=by rw[<-UN];go_enter func306,ntmps306;go_wp2_with (go_at_call 257;refine(f257 _ _ _ hr hs hl).mono ?_;rintro e w' ⟨rfl,hb⟩);go_ret;exact⟨rfl,hb⟩
theorem ib (r:List dE):(bs r).toList.isEmpty=r.isEmpty:=by
 rw[Lib.toList_data,eE];cases r with
 |nil=>rfl
 |cons c r=>
  have:=(ec c).1;rw[et];cases h:e1 c with
  |nil=>exact absurd h (X' c)
  |cons b l=>rfl
theorem Bd:bs []=⟨#[]⟩:=rfl
theorem f305 (r sep:List dE) (w:World) (hr:dV r) (hs:dV sep) (hl:(enc r).length<=1000000):Calls prog 305 #[.string (bs r),.string (bs sep)] w λe w'=>e=.returned (.bool (iz sep r))/\Below w.heap.size w w':=by
 cases sep with
 |nil=>
  have hn:iz [] r=true:=by simp[iz]
  rw[hn,Bd];go_enter func305,ntmps305;go_wp2_with fail;go_ret;exact⟨rfl,ay _ _⟩
 |cons c sep=>have he:(bs (c::sep)).toList.isEmpty=false:=ib _;go_enter func305,ntmps305;go_wp2_with (go_at_call 306;refine(f306 _ _ _ hr hs hl).mono ?_;rintro e w' ⟨rfl,hb⟩);go_ret;exact⟨by simp,hb⟩
theorem Jy {t r:List dE} (ht:dV t) (eK:t≠[]) (hr:dV r):decide (0<=zv (enc r) (enc t))=nf t r:=by
 rw[bO,decide_eq_true_iff];simp only[zv];cases h:qW (enc t) (enc r)with
 |none=>
  have hn:=I1 h;have:nf t r=false:=by rw[bF];intro hi;obtain⟨u,v,rfl⟩:=(mB t r).1 hi;have:=hn (enc u).length;rw[dR,dR,dn,bF]at this;exact this (bE.2 (cB _ _))
  rw[this];simp
 |some k=>
  obtain⟨h1,h2,_⟩:=MF h;obtain⟨y,hy⟩:=bE.1 h2;have:enc r=(enc r).take k++(enc t++y):=by rw[hy,bN]
  obtain⟨u,v,h3,_⟩:=sA ht eK hr this;rw[(mB t r).2 ⟨u,v,h3⟩];simp
theorem f313 (r t:List dE) (w:World) (hr:dV r) (ht:dV t) (eK:t≠[]) (hl:(enc r).length<=1000000) (eR:(enc t).length<=1000000):Calls prog 313 #[.string (bs r),.string (bs t)] w λe w'=>e=.returned (.bool (nf t r))/\w'=w:=by rw[<-Jy ht eK hr];go_enter func313,ntmps313;go_wp2_with (go_at_call 258;refine(f258 _ _ _ (by rw[dQ];exact hl) (by rw[dQ];exact eR)).mono ?_;rintro e w' ⟨rfl,rfl⟩);go_ret;exact⟨by rw[eE,eE];rfl,rfl⟩
end Go.Proofs.YtfejflhgaphilaaGreatDoor
