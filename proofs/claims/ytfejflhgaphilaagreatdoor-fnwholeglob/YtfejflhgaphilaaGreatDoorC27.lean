/- The closure that pushes items onto a row: texts. The reference's small functions: a character in a list, a text that is valid, a plain character. Patterns in memory, part by part: what the reference's walks read. Sorted lists of texts: a text put in at its place, and that this is what sorting and st -/
import Derived.Test.YtfejflhgaphilaaGreatDoorC26
import Derived.Test.YtfejflhgaphilaaGreatDoorC22
import Derived.Test.YtfejflhgaphilaaGreatDoorC09
import Derived.Test.YtfejflhgaphilaaGreatDoorC14
import Derived.Test.YtfejflhgaphilaaGreatDoorC25
import Derived.Deep.CutBlock
import Derived.Handy
import Derived.Lib.SlicesCompact
set_option linter.all false
set_option maxRecDepth 100000
set_option maxHeartbeats 64000000
open Go.Proofs.Tryz
namespace Go.Proofs.YtfejflhgaphilaaGreatDoor
open Go.RowKit Gm
theorem px {w:World} {v:Value} {rs:List dE} (h:ek w v rs):∃a c,v=.slice a rs.length c:=by
 rcases h with⟨rfl,rfl⟩|⟨b,o,cap,rfl,_⟩
 ·exact⟨_,_,rfl⟩
 ·exact⟨_,_,rfl⟩
theorem xN (l:List T):l=[]\/∃i x,l=i++[x]:=by
 rcases List.eq_nil_or_concat l with h|⟨i,x,h⟩
 ·exact .inl h
 ·exact .inr ⟨i,x,by simpa using h⟩
theorem B8 (t:List dE) (w:World) (B Sb C:Nat) (vq:Value) (us:List Value) (G:List Nat) (v:Value) (F:List Nat) (ho:iv w B Sb C vq [] us G) (hf:Fit w B Sb C vq G (.text t) v F) (hlen:us.length+iJ (.text t)<=1000000000) (fY:eD []+ix (.text t)<=4000000000000000000):Calls prog 184 #[v,.pointer (some ⟨C,0,none⟩),.pointer (some ⟨Sb,0,none⟩)] w λe w'=>e=.returned (.tuple #[])/\∃fb fV G',iv w' B Sb C fb (push (.text t) []) fV G'/\MM w w' Sb vq fb G F G'/\fV.length<=us.length+iJ (.text t):=by
 have e:push (.text t) []=[]++[.text t]:=by simp[push]
 rw[e];clear e;have h:=hf.tr;simp only[Tr]at h;obtain⟨b,rfl,hF,hb⟩:=h;obtain⟨a,u4,VG⟩:=ho.shape;subst VG;have ic:us=[]:=by have:=ho.tr;simp only[eW]at this;exact this.1
 have rB:decide (0<us.length)=false:=by rw[ic];rfl
 clear hF hb ic;have eH:=jX (.pointer (some ⟨b,0,none⟩));have tg:=sd (.pointer (some ⟨b,0,none⟩));have gw:=il (.pointer (some ⟨b,0,none⟩));obtain⟨i0,hi,gD,gB,gF⟩:=info_parts fG;have kh:=aa ho;have yR:=aa hf;have fP:=aa hlen;have lJ:=ho.cells.1;obtain⟨vv,pE⟩:=dS (Value.iface 250 (.pointer (some ⟨b,0,none⟩)));have HV:=aa pE;clear ho hf hlen fY pE;go_enter func184,ntmps184;go_wp2_with (at_builtin;refine wpList_append_lies _ rfl _ _ 236 rfl B 153 i0 .nilIface 1 16 underlying236 hi gD gB gF rfl (by decide) (.slice a us.length u4) us.length us rfl ?lG ⟨w.heap.size,0,none⟩ 1 1 [.iface 250 (.pointer (some ⟨b,0,none⟩))] rfl rfl ?lF ?lE (by decide) ?lD ?lC ?lB (w.heap.size+1) ?my ?_)
 case lG=>exact kh.own.alloc _
 case lF=>exact World.news_of_block (heap_alloc_new w _)
 case lE=>intro u hu;simp only[aE]at hu;subst hu;rfl
 case lD=>have:=fP.out;unfold maxLen;omega
 case lC=>have:=fP.out;omega
 case lB=>have:=kh.ge.1;have:=kh.lt.1;simp;omega
 case my=>simp
 intro g cap w1 ly gT gK jg;obtain⟨z1,z2,z3⟩:=kh.grow yR.out (wa:=w.alloc (.cells #[.iface 250 (.pointer (some ⟨b,0,none⟩))] 153)) (H:=w.heap.size+1) (by go_grown) (by omega) ly gT gK jg;have s1:w1.cell? ⟨Sb,0,none⟩=some (.slice a us.length u4):=by simp[World.cell?,z1]
 have s2:w1.frozen? ⟨Sb,0,none⟩=false:=by simp[World.frozen?,z1]
 have HZ:=eo z2 z3;clear ly gT gK jg z1 z2 z3;go_wp2_with fail;go_end0;exact⟨rfl,_,_,_,HZ.1,HZ.2,by simp only[aj,aH,aG,iJ];omega⟩
theorem yK (t:List dE) (init:List T) (x:T) (hx:x.fz=false) (w:World) (B Sb C:Nat) (vq:Value) (us:List Value) (G:List Nat) (v:Value) (F:List Nat) (ho:iv w B Sb C vq (init++[x]) us G) (hf:Fit w B Sb C vq G (.text t) v F) (hlen:us.length+iJ (.text t)<=1000000000) (fY:eD (init++[x])+ix (.text t)<=4000000000000000000):Calls prog 184 #[v,.pointer (some ⟨C,0,none⟩),.pointer (some ⟨Sb,0,none⟩)] w λe w'=>e=.returned (.tuple #[])/\∃fb fV G',iv w' B Sb C fb (push (.text t) (init++[x])) fV G'/\MM w w' Sb vq fb G F G'/\fV.length<=us.length+iJ (.text t):=by
 have e:push (.text t) (init++[x])=(init++[x])++[.text t]:=by cases x<;>first|(simp[T.fz]at hx;done)|simp[push]
 rw[e];clear e;have h:=hf.tr;simp only[Tr]at h;obtain⟨b,rfl,hF,hb⟩:=h;obtain⟨g0,u4,oP,u,G0,Fx,VG,Jm,hG,_,BF,eB,_,_,_,_,_⟩:=ho.last;obtain⟨s,p,rfl,Xl⟩:=Ag BF hx;obtain⟨m,hm⟩:=dS (oP.length+1);obtain⟨r,hr⟩:=dS oP.length;rw[<-hm]at VG;rw[<-hr]at eB;subst VG;have hmu:us.length=m:=by rw[Jm,hm];simp
 have qo:m<=1000000000:=by omega
 have rB:decide (0<m)=true:=decide_eq_true (by omega);have kY:IntKind.i64.wrap ((m:Int)-1)=(r:Int):=by rw[aW]<;>omega
 have i1:(0:Int)<=(r:Int):=by omega
 have i2:(r:Int)<(m:Int):=by omega
 clear hF hb Jm hG BF hm hr hx hmu qo;have eH:=jX (.pointer (some ⟨b,0,none⟩));have tg:=sd (.pointer (some ⟨b,0,none⟩));have gw:=il (.pointer (some ⟨b,0,none⟩));obtain⟨i0,hi,gD,gB,gF⟩:=info_parts fG;have kh:=aa ho;have yR:=aa hf;have fP:=aa hlen;have lJ:=ho.cells.1;obtain⟨vv,pE⟩:=dS (Value.iface 250 (.pointer (some ⟨b,0,none⟩)));have HV:=aa pE;clear ho hf hlen fY pE;go_enter func184,ntmps184;go_wp2_with (at_builtin;refine wpList_append_lies _ rfl _ _ 236 rfl B 153 i0 .nilIface 1 16 underlying236 hi gD gB gF rfl (by decide) (.slice (some ⟨g0,0,none⟩) m u4) us.length us rfl ?lG ⟨w.heap.size,0,none⟩ 1 1 [.iface 250 (.pointer (some ⟨b,0,none⟩))] rfl rfl ?lF ?lE (by decide) ?lD ?lC ?lB (w.heap.size+1) ?my ?_)
 case lG=>exact kh.own.alloc _
 case lF=>exact World.news_of_block (heap_alloc_new w _)
 case lE=>intro u hu;simp only[aE]at hu;subst hu;rfl
 case lD=>have:=fP.out;unfold maxLen;omega
 case lC=>have:=fP.out;omega
 case lB=>have:=kh.ge.1;have:=kh.lt.1;simp;omega
 case my=>simp
 intro g cap w1 ly gT gK jg;obtain⟨z1,z2,z3⟩:=kh.grow yR.out (wa:=w.alloc (.cells #[.iface 250 (.pointer (some ⟨b,0,none⟩))] 153)) (H:=w.heap.size+1) (by go_grown) (by omega) ly gT gK jg;have s1:w1.cell? ⟨Sb,0,none⟩=some (.slice (some ⟨g0,0,none⟩) m u4):=by simp[World.cell?,z1]
 have s2:w1.frozen? ⟨Sb,0,none⟩=false:=by simp[World.frozen?,z1]
 have HZ:=eo z2 z3;clear ly gT gK jg z1 z2 z3;go_wp2_with fail;go_end0;exact⟨rfl,_,_,_,HZ.1,HZ.2,by simp only[aj,aH,aG,iJ];omega⟩
theorem A6 (t:List dE) (init:List T) (p:List dE) (w:World) (B Sb C:Nat) (vq:Value) (us:List Value) (G:List Nat) (v:Value) (F:List Nat) (ho:iv w B Sb C vq (init++[.text p]) us G) (hf:Fit w B Sb C vq G (.text t) v F) (hlen:us.length+iJ (.text t)<=1000000000) (fY:eD (init++[.text p])+ix (.text t)<=4000000000000000000):Calls prog 184 #[v,.pointer (some ⟨C,0,none⟩),.pointer (some ⟨Sb,0,none⟩)] w λe w'=>e=.returned (.tuple #[])/\∃fb fV G',iv w' B Sb C fb (push (.text t) (init++[.text p])) fV G'/\MM w w' Sb vq fb G F G'/\fV.length<=us.length+iJ (.text t):=by
 have e:push (.text t) (init++[.text p])=init++[.text (p++t)]:=by simp[push]
 rw[e];clear e;have h:=hf.tr;simp only[Tr]at h;obtain⟨b,rfl,rfl,hb⟩:=h;obtain⟨g0,u4,oP,u,G0,Fx,rfl,rfl,rfl,nh,BF,eB,Ke,yD,XL,ZL,_⟩:=ho.last;simp only[Tr]at BF;obtain⟨b1,rfl,rfl,eu⟩:=BF;have ka:(bs p).size+(bs t).size<=9223372036854775807:=by rw[ej]at fY;simp only[eD,ix]at fY;rw[dQ,dQ];omega
 have s0:=ho.cells.1;have s1:w.cell? ⟨b1,0,none⟩=some (.string (bs p)):=by simp[World.cell?,eu]
 have s2:w.cell? ⟨b,0,none⟩=some (.string (bs t)):=by simp[World.cell?,hb]
 have OM:b<w.heap.size:=hf.lt b (by simp);have hlb1:b1<w.heap.size:=ho.lt.2.2.2 b1 (by simp);have hlS:=ho.lt.1;obtain⟨W,hWe⟩:=dS (w.alloc (.cells #[.string (bs p++bs t)] 252)).drew;have hW:Below w.heap.size w W:=by rw[hWe];go_grown
 have pG:W.heap[w.heap.size]? =some (.cells #[.string (bs (p++t))] 252 (0,0)):=by rw[hWe,<-lv];exact heap_alloc_new w _
 have hWs:w.heap.size<W.heap.size:=by rw[hWe];show w.heap.size<(w.alloc _).heap.size;rw[ab];omega
 obtain⟨k1,k2⟩:=ho.QZ (x':=.text (p++t)) (u':=.iface 250 (.pointer (some ⟨w.heap.size,0,none⟩))) (F':=[w.heap.size]) nh (ei.grown hW) (by simp only[Tr];exact⟨_,rfl,rfl,pG⟩) (by simp) (λz hz=>by
  have e:z=w.heap.size:=by simpa using hz
  have hB:=ho.ge.1;refine⟨λhm=> ?_,by omega,by have:=ho.lt.2.1;omega,by omega,by omega,by omega⟩;have:=ho.lt.2.2.2 z (bu _ hm);omega)
 have z0:=dY s0 hW hlS;have z1:=dY s1 hW hlb1;have z2:=dY s2 hW OM;have z3:=dY eB hW yD;have z4:W.frozen? ⟨g0,oP.length,none⟩=false:=(dt (w:=w) (a:=⟨g0,oP.length,none⟩) (hW.block g0 yD)).trans Ke;obtain⟨m,hm⟩:=dS (oP.length+1);obtain⟨r,hr⟩:=dS oP.length;have qo:m<=1000000000:=by simp at hlen;omega
 have HK:=jS k1 k2 hlen;rw[<-hm]at s0 z0 HK⊢;rw[<-hr]at eB z3 z4 HK hm;have rB:decide (0<m)=true:=decide_eq_true (by omega);have kY:IntKind.i64.wrap ((m:Int)-1)=(r:Int):=by rw[aW]<;>omega
 have i1:(0:Int)<=(r:Int):=by omega
 have i2:(r:Int)<(m:Int):=by omega
 have HM:=eo hm hr;rw[hWe]at z0 z1 z2 z3 z4 HK;clear k1 k2 hm hr qo hlen fY ho hf hb eu nh Ke XL ZL pG hWs hW hWe;have eH:=jX (.pointer (some ⟨b,0,none⟩));have tg:=sd (.pointer (some ⟨b,0,none⟩));have gw:=il (.pointer (some ⟨b,0,none⟩));have M3:=il (.pointer (some ⟨b1,0,none⟩));go_enter func184,ntmps184;go_wp2_with fail;refine dP (λw'=>w'.cell? ⟨Sb,0,none⟩=some (.slice (some ⟨g0,0,none⟩) m u4)/\w'.cell? ⟨b1,0,none⟩=some (.string (bs p))/\w'.cell? ⟨b,0,none⟩=some (.string (bs t))) [(true,0),(true,1),(true,2),(true,3),(true,4),(true,5),(true,6),(true,7),(true,8),(true,9),(true,10),(true,11),(true,12),(true,13),(false,14),(false,15),(false,16)] (by kernel_rfl) (by kernel_rfl) ⟨s0,s1,s2⟩ (λhHeld=> ?_);iterate 14
  refine dL (v:= ?_) rfl (λ_ _ _ h=>h) (by rfl) ?_ hHeld ?_;rotate_left
  ·intro w hSw;(try dsimp only at hSw);go_simp;(try rw[if_neg (Nat.not_lt.2 ka)])
   try with_reducible rfl
  simp only[Act.put,iX]
 refine dM rfl (λK hK=> ?_);go_simp;refine hK.out _ _ ⟨z0,z1,z2⟩ (λdW=> ?_);clear hK K dW;refine dM rfl (λK hK=> ?_);go_simp;refine hK.out _ _ ⟨z0,z1,z2⟩ (λdW=> ?_);clear hK K dW;refine dM rfl (λK hK=> ?_);go_simp;refine hK.out _ _ ⟨z0,z1,z2⟩ (λdW=> ?_);clear hK K dW hHeld;refine dX rfl ?_;go_wp2_with fail;refine bodyPost_ret (results_none rfl _ _ _) rfl ?_;have uF:=HK.1;have EI:=HK.2.1;have hcomm:((w.alloc (.cells #[.string (bs p++bs t)] 252)).drew).setCell ⟨g0,r,none⟩ (.iface 250 (.pointer (some ⟨w.heap.size,0,none⟩)))=((w.setCell ⟨g0,r,none⟩ (.iface 250 (.pointer (some ⟨w.heap.size,0,none⟩)))).alloc (.cells #[.string (bs p++bs t)] 252)).drew:=by rw[World.setCell_drew,World.setCell_alloc_past _ _ _ _ yD]
 rw[hcomm]at uF EI;refine⟨rfl,_,_,_,uF,⟨EI,λz hz=> ?_,λg hg=>.inl hg⟩,by simp⟩;rcases ar.1 hz with hz|hz
 ·exact .inl (bu _ hz)
 ·right;right;have:z=w.heap.size:=by simpa using hz
  omega
theorem O4 (t:List dE):ke (.text t):=by
 intro w B Sb C vq out us G v F ho hf hlen fY;rcases xN out with rfl|⟨i,x,rfl⟩
 ·exact B8 t w B Sb C vq us G v F ho hf hlen fY
 ·cases hx:x.fz with
  |false=>exact yK t i x hx w B Sb C vq us G v F ho hf hlen fY
  |true=>
   obtain⟨p,rfl⟩:∃p,x=.text p:=by cases x<;>simp[T.fz]at hx;exact⟨_,rfl⟩
   exact A6 t i p w B Sb C vq us G v F ho hf hlen fY
theorem B9 (sep nx:List dE) (tm:Bool) (w:World) (B Sb C:Nat) (vq:Value) (us:List Value) (G:List Nat) (v:Value) (F:List Nat) (ho:iv w B Sb C vq [] us G) (hf:Fit w B Sb C vq G (.star sep nx tm) v F) (hlen:us.length+iJ (.star sep nx tm)<=1000000000) (fY:eD []+ix (.star sep nx tm)<=4000000000000000000):Calls prog 184 #[v,.pointer (some ⟨C,0,none⟩),.pointer (some ⟨Sb,0,none⟩)] w λe w'=>e=.returned (.tuple #[])/\∃fb fV G',iv w' B Sb C fb (push (.star sep nx tm) []) fV G'/\MM w w' Sb vq fb G F G'/\fV.length<=us.length+iJ (.star sep nx tm):=by
 have e:push (.star sep nx tm) []=[]++[.star sep nx tm]:=by simp[push]
 rw[e];clear e;have h:=hf.tr;simp only[Tr]at h;obtain⟨b,vs,rfl,hF,hb,uC,EB⟩:=h;obtain⟨a,u4,VG⟩:=ho.shape;subst VG;have ic:us=[]:=by have:=ho.tr;simp only[eW]at this;exact this.1
 have rB:decide (0<us.length)=false:=by rw[ic];rfl
 clear hF hb uC EB ic;have eH:=iP (.pointer (some ⟨b,0,none⟩));have tg:=r9 (.pointer (some ⟨b,0,none⟩));have gw:=iQ (.pointer (some ⟨b,0,none⟩));have jI:=gV (.pointer (some ⟨b,0,none⟩));obtain⟨i0,hi,gD,gB,gF⟩:=info_parts fG;have kh:=aa ho;have yR:=aa hf;have fP:=aa hlen;have lJ:=ho.cells.1;obtain⟨vv,pE⟩:=dS (Value.iface 255 (.pointer (some ⟨b,0,none⟩)));have HV:=aa pE;clear ho hf hlen fY pE;go_enter func184,ntmps184;go_wp2_with (at_builtin;refine wpList_append_lies _ rfl _ _ 236 rfl B 153 i0 .nilIface 1 16 underlying236 hi gD gB gF rfl (by decide) (.slice a us.length u4) us.length us rfl ?lG ⟨w.heap.size,0,none⟩ 1 1 [.iface 255 (.pointer (some ⟨b,0,none⟩))] rfl rfl ?lF ?lE (by decide) ?lD ?lC ?lB (w.heap.size+1) ?my ?_)
 case lG=>exact kh.own.alloc _
 case lF=>exact World.news_of_block (heap_alloc_new w _)
 case lE=>intro u hu;simp only[aE]at hu;subst hu;rfl
 case lD=>have:=fP.out;unfold maxLen;omega
 case lC=>have:=fP.out;omega
 case lB=>have:=kh.ge.1;have:=kh.lt.1;simp;omega
 case my=>simp
 intro g cap w1 ly gT gK jg;obtain⟨z1,z2,z3⟩:=kh.grow yR.out (wa:=w.alloc (.cells #[.iface 255 (.pointer (some ⟨b,0,none⟩))] 153)) (H:=w.heap.size+1) (by go_grown) (by omega) ly gT gK jg;have s1:w1.cell? ⟨Sb,0,none⟩=some (.slice a us.length u4):=by simp[World.cell?,z1]
 have s2:w1.frozen? ⟨Sb,0,none⟩=false:=by simp[World.frozen?,z1]
 have HZ:=eo z2 z3;clear ly gT gK jg z1 z2 z3;go_wp2_with fail;go_end0;exact⟨rfl,_,_,_,HZ.1,HZ.2,by simp only[aj,aH,aG,iJ];omega⟩
theorem yL (sep nx:List dE) (tm:Bool) (init:List T) (x:T) (hx:x.eL=false) (w:World) (B Sb C:Nat) (vq:Value) (us:List Value) (G:List Nat) (v:Value) (F:List Nat) (ho:iv w B Sb C vq (init++[x]) us G) (hf:Fit w B Sb C vq G (.star sep nx tm) v F) (hlen:us.length+iJ (.star sep nx tm)<=1000000000) (fY:eD (init++[x])+ix (.star sep nx tm)<=4000000000000000000):Calls prog 184 #[v,.pointer (some ⟨C,0,none⟩),.pointer (some ⟨Sb,0,none⟩)] w λe w'=>e=.returned (.tuple #[])/\∃fb fV G',iv w' B Sb C fb (push (.star sep nx tm) (init++[x])) fV G'/\MM w w' Sb vq fb G F G'/\fV.length<=us.length+iJ (.star sep nx tm):=by
 have e:push (.star sep nx tm) (init++[x])=(init++[x])++[.star sep nx tm]:=by cases x<;>first|(simp[T.eL]at hx;done)|simp[push]
 rw[e];clear e;have h:=hf.tr;simp only[Tr]at h;obtain⟨b,vs,rfl,hF,hb,uC,EB⟩:=h;obtain⟨g0,u4,oP,u,G0,Fx,VG,Jm,hG,_,BF,eB,_,_,_,_,_⟩:=ho.last;obtain⟨s,p,rfl,Xl⟩:=rm BF hx;obtain⟨m,hm⟩:=dS (oP.length+1);obtain⟨r,hr⟩:=dS oP.length;rw[<-hm]at VG;rw[<-hr]at eB;subst VG;have hmu:us.length=m:=by rw[Jm,hm];simp
 have qo:m<=1000000000:=by omega
 have rB:decide (0<m)=true:=decide_eq_true (by omega);have kY:IntKind.i64.wrap ((m:Int)-1)=(r:Int):=by rw[aW]<;>omega
 have i1:(0:Int)<=(r:Int):=by omega
 have i2:(r:Int)<(m:Int):=by omega
 clear hF hb uC EB Jm hG BF hm hr hx hmu qo;have eH:=iP (.pointer (some ⟨b,0,none⟩));have tg:=r9 (.pointer (some ⟨b,0,none⟩));have gw:=iQ (.pointer (some ⟨b,0,none⟩));have jI:=gV (.pointer (some ⟨b,0,none⟩));obtain⟨i0,hi,gD,gB,gF⟩:=info_parts fG;have kh:=aa ho;have yR:=aa hf;have fP:=aa hlen;have lJ:=ho.cells.1;obtain⟨vv,pE⟩:=dS (Value.iface 255 (.pointer (some ⟨b,0,none⟩)));have HV:=aa pE;clear ho hf hlen fY pE;go_enter func184,ntmps184;go_wp2_with (at_builtin;refine wpList_append_lies _ rfl _ _ 236 rfl B 153 i0 .nilIface 1 16 underlying236 hi gD gB gF rfl (by decide) (.slice (some ⟨g0,0,none⟩) m u4) us.length us rfl ?lG ⟨w.heap.size,0,none⟩ 1 1 [.iface 255 (.pointer (some ⟨b,0,none⟩))] rfl rfl ?lF ?lE (by decide) ?lD ?lC ?lB (w.heap.size+1) ?my ?_)
 case lG=>exact kh.own.alloc _
 case lF=>exact World.news_of_block (heap_alloc_new w _)
 case lE=>intro u hu;simp only[aE]at hu;subst hu;rfl
 case lD=>have:=fP.out;unfold maxLen;omega
 case lC=>have:=fP.out;omega
 case lB=>have:=kh.ge.1;have:=kh.lt.1;simp;omega
 case my=>simp
 intro g cap w1 ly gT gK jg;obtain⟨z1,z2,z3⟩:=kh.grow yR.out (wa:=w.alloc (.cells #[.iface 255 (.pointer (some ⟨b,0,none⟩))] 153)) (H:=w.heap.size+1) (by go_grown) (by omega) ly gT gK jg;have s1:w1.cell? ⟨Sb,0,none⟩=some (.slice (some ⟨g0,0,none⟩) m u4):=by simp[World.cell?,z1]
 have s2:w1.frozen? ⟨Sb,0,none⟩=false:=by simp[World.frozen?,z1]
 have HZ:=eo z2 z3;clear ly gT gK jg z1 z2 z3;go_wp2_with fail;go_end0;exact⟨rfl,_,_,_,HZ.1,HZ.2,by simp only[aj,aH,aG,iJ];omega⟩
theorem A7 (sep nx:List dE) (tm:Bool) (init:List T) (pq Up:List dE) (Ul:Bool) (w:World) (B Sb C:Nat) (vq:Value) (us:List Value) (G:List Nat) (v:Value) (F:List Nat) (ho:iv w B Sb C vq (init++[.star pq Up Ul]) us G) (hf:Fit w B Sb C vq G (.star sep nx tm) v F) (hlen:us.length+iJ (.star sep nx tm)<=1000000000):Calls prog 184 #[v,.pointer (some ⟨C,0,none⟩),.pointer (some ⟨Sb,0,none⟩)] w λe w'=>e=.returned (.tuple #[])/\∃fb fV G',iv w' B Sb C fb (push (.star sep nx tm) (init++[.star pq Up Ul])) fV G'/\MM w w' Sb vq fb G F G'/\fV.length<=us.length+iJ (.star sep nx tm):=by
 have e:push (.star sep nx tm) (init++[.star pq Up Ul])=if !pq.isEmpty&&sep.isEmpty then init++[.star sep nx tm]else init++[.star pq Up Ul]:=by simp[push]
 rw[e];clear e;have ll:=hf.tr;have h:=hf.tr;simp only[Tr]at h;obtain⟨b,vs,rfl,rfl,hb,uC,EB⟩:=h;obtain⟨g0,u4,oP,u,G0,Fx,rfl,rfl,rfl,nh,BF,eB,Ke,yD,XL,ZL,hlq⟩:=ho.last;clear hlq;simp only[Tr]at BF;obtain⟨b1,vs1,rfl,rfl,eu,yz,kR⟩:=BF;obtain⟨va,vc,rfl⟩:=px uC;obtain⟨va1,vc1,rfl⟩:=px yz;have s0:=ho.cells.1;have s1:w.cell? ⟨b1,0,none⟩=some (.slice va1 pq.length vc1):=by simp[World.cell?,eu]
 have s2:w.cell? ⟨b,0,none⟩=some (.slice va sep.length vc):=by simp[World.cell?,hb]
 obtain⟨k1,k2⟩:=ho.QZ (w':=w) (x':=.star sep nx tm) (u':=.iface 255 (.pointer (some ⟨b,0,none⟩))) (F':=[b]) nh (ei.refl _ _) ll (by simp) (λz hz=>by
  have e:z=b:=by simpa using hz
  subst e;have lI:=hf.nodup;rw[aZ]at lI;refine⟨λhm=>lI.2.2 z (by simp) z (bu _ hm) rfl,λe=>hf.off.1 (by simp[e]),λe=>hf.off.2.1 (by simp[e]),λe=>hf.off.2.2 g0 rfl (by simp[e]),hf.lt z (by simp),hf.ge z (by simp)⟩)
 obtain⟨m,hm⟩:=dS (oP.length+1);obtain⟨r,hr⟩:=dS oP.length;have qo:m<=1000000000:=by simp at hlen;omega
 have HK:=jS k1 k2 ho;rw[<-hm]at s0 HK⊢;rw[<-hr]at eB Ke HK hm;have rB:decide (0<m)=true:=decide_eq_true (by omega);have kY:IntKind.i64.wrap ((m:Int)-1)=(r:Int):=by rw[aW]<;>omega
 have i1:(0:Int)<=(r:Int):=by omega
 have i2:(r:Int)<(m:Int):=by omega
 clear k1 k2 hm hr qo hlen ho hf hb eu nh XL ZL yz kR uC EB ll;have eH:=iP (.pointer (some ⟨b,0,none⟩));have tg:=r9 (.pointer (some ⟨b,0,none⟩));have gw:=iQ (.pointer (some ⟨b,0,none⟩));have jI:=gV (.pointer (some ⟨b,0,none⟩));have Yw:=gV (.pointer (some ⟨b1,0,none⟩));cases pq with
 |nil=>have hz:decide (0<([]:List dE).length)=false:=rfl;go_enter func184,ntmps184;go_wp2_with fail;refine bodyPost_ret (results_none rfl _ _ _) rfl ?_;exact⟨rfl,_,_,_,HK.2.2,⟨ei.refl _ _,λ_ h=>.inl h,λ_ h=>.inl h⟩,by simp only[aj,aH,aG];exact dv _ _⟩
 |cons c1 r1=>
  have hz:decide (0<(c1::r1).length)=true:=by simp
  cases sep with
  |nil=>
   have gF:((([]:List dE).length:Int)==0)=true:=rfl;go_enter func184,ntmps184;go_wp2_with fail;refine bodyPost_ret (results_none rfl _ _ _) rfl ?_;refine⟨rfl,_,_,_,HK.1,⟨HK.2.1,λz hz=> ?_,λg hg=>.inl hg⟩,by simp only[aj,aH,aG];exact dv _ _⟩;rcases ar.1 hz with hz|hz
   ·exact .inl (bu _ hz)
   ·exact .inr (.inl hz)
  |cons c2 r2=>have gF:(((c2::r2).length:Int)==0)=false:=(by rw[beq_eq_false_iff_ne];simp;omega);go_enter func184,ntmps184;go_wp2_with fail;refine bodyPost_ret (results_none rfl _ _ _) rfl ?_;exact⟨rfl,_,_,_,HK.2.2,⟨ei.refl _ _,λ_ h=>.inl h,λ_ h=>.inl h⟩,by simp only[aj,aH,aG];exact dv _ _⟩
theorem O6 (sep nx:List dE) (tm:Bool):ke (.star sep nx tm):=by
 intro w B Sb C vq out us G v F ho hf hlen fY;rcases xN out with rfl|⟨i,x,rfl⟩
 ·exact B9 sep nx tm w B Sb C vq us G v F ho hf hlen fY
 ·cases hx:x.eL with
  |false=>exact yL sep nx tm i x hx w B Sb C vq us G v F ho hf hlen fY
  |true=>
   obtain⟨s1,n1,t1,rfl⟩:∃s1 n1 t1,x=.star s1 n1 t1:=by cases x<;>simp[T.eL]at hx;exact⟨_,_,_,rfl⟩
   exact A7 sep nx tm i s1 n1 t1 w B Sb C vq us G v F ho hf hlen
theorem f75 (rs:List dE) (x:Int) (v:Value) (w:World) (h:ek w v rs) (hl:rs.length<=1000000):Calls prog 75 #[v,.int .i32 x] w λe w'=>e=.returned (.bool (rs.any λc=>((c:Nat):Int)==x))/\w=w':=by
 obtain⟨a,c,rfl⟩:=px h;obtain⟨n,hn⟩:=dS rs.length;rw[<-hn]at h hl⊢;have H:=eo h hn;obtain⟨Z,hZ⟩:=dS (rs.any λc=>((c:Nat):Int)==x);rw[<-hZ];have HZ:=aa hZ;have sq:n<=9223372036854775807:=by omega
 clear h hn hZ;go_enter func75,ntmps75;go_wp2_with fail;go_loopg [9] n (λk s9 wr=>∃j:Nat,k=n-j/\s9=.int .i64 j/\j<=n/\wr=w/\Hid (Z=(rs.drop j).any λc=>((c:Nat):Int)==x))
 case atStart=>exact⟨0,rfl,rfl,aU _,rfl,aa (by rw[HZ.out];rfl)⟩
 case round=>
  obtain⟨j,rfl,rfl,hj,rfl,HJ⟩:=hrel;by_cases gM:j<n
  ·have kY:=gW ((j:Int)+1) (by omega);have jA:decide ((j:Int)<(n:Int))=true:=by simp;omega
   have i1:(0:Int)<=(j:Int):=(by omega);have i2:(j:Int)<(n:Int):=by omega
   have hjr:j<rs.length:=(by rw[<-H.2];exact gM);obtain⟨b,o,cap,hv,eB⟩:∃b o cap,Value.slice a n c=.slice (some ⟨b,o,none⟩) n cap/\wr.cell? ⟨b,o+j,none⟩=some (.int .i32 ((rs[j]:Nat):Int)):=by
    rcases H.1 with⟨_,e⟩|⟨b,o,cap,e,_,_,_,hc⟩
    ·rw[e]at hjr;simp at hjr
    ·rw[<-H.2]at e;exact⟨b,o,cap,e,hc j hjr⟩
   simp only[au]at hv;obtain⟨rfl,hx,rfl⟩:=hv;obtain⟨y,hy⟩:=dS (((rs[j]:Nat):Int):Int);rw[<-hy]at eB;have HD:Hid (Z=(y==x||(rs.drop (j+1)).any λc=>((c:Nat):Int)==x)):=aa (by rw[HJ.out,bo hjr,List.any_cons,hy]);clear hx hy hjr;cases hyx:(y==x)with
   |true=>have HYX:=aa hyx;go_wp2_with fail;go_ret;exact⟨by rw[HD.out,HYX.out];rfl,rfl⟩
   |false=>
    have HYX:=aa hyx;go_wp2_with fail;go_roundg (n- (j+1))
    case measure=>omega
    case rel=>exact⟨j+1,rfl,rfl,by omega,rfl,aa (by rw[HD.out,HYX.out];rfl)⟩
  ·have jA:decide ((j:Int)<(n:Int))=false:=(by simp;omega);go_wp2_with fail;go_ret;exact⟨by rw[HJ.out,aL (by rw[<-H.2];omega)];rfl,rfl⟩
theorem qz (rs:List dE) (c:Nat):(rs.any λd=>((d:Nat):Int)==((c:Nat):Int))=rs.contains c:=by
 induction rs with
 |nil=>rfl
 |cons d rs ih=>
  rw[List.any_cons,List.contains_cons,ih];congr 1;rw[bO,beq_iff_eq,beq_iff_eq];constructor
  ·intro h;exact(dC h).symm
  ·intro h;rw[h]
theorem f18 (s:ByteArray) (w:World) (hs:s.size<=4611686018427387904):Calls prog 18 #[.string s] w λe w'=>∃ok,e=.returned (.bool ok)/\Below w.heap.size w w'/\(ok=true->∃u,dV u/\s=bs u):=by
 go_enter func18,ntmps18;go_wp2_with fail;obtain⟨K,hK⟩:=dS w.heap.size
 go_loopw [] (λwr=>∃u,dV u/\s.data.toList=enc u++s.data.toList.drop (enc u).length/\wr.heap[K]? =some (.stringIter s (enc u).length)/\Below w.heap.size w wr/\K<wr.heap.size) (λwr=>s.size+1-wr.iterPos K)
 case atStart=>exact⟨[],by intro c hc;simp at hc,by simp,by rw[hK];exact dz _ _ _,ku (ay _ _) (af _) _ _,by rw[hK,World.jt];omega⟩
 case round=>
  obtain⟨u,hu,hsu,hk,hb,Hh⟩:=hrel;obtain⟨wo,rfl⟩:=dS (wr:World);have HP:=aa (iterPos_of hk);have HU:=eo hu hsu;clear hu hsu;by_cases eR:(enc u).length<s.size
  ·have hn:=λty=>Lib.run_next_any_at (P:=prog) wo K s (enc u).length ty hk eR;subst hK;by_cases hc:(Utf8.decode s (enc u).length).1=65533
   ·have Ht:(((Utf8.decode s (enc u).length).1:Nat):Int)=65533:=(by rw[hc];rfl);simp only[Ht]at hn;have HB:=aa hb;clear Ht hc;go_wp2_with fail;go_ret;exact⟨false,rfl,Lib.below_iterAt HB.out (af _) _ _,λh=>by cases h⟩
   ·obtain⟨d1,d2,d3⟩:=dec_ok s _ eR hc;obtain⟨c,XS⟩:=dS (Utf8.decode s (enc u).length).1;rw[<-XS]at d1 d2 d3 hc;rw[d3,<-XS]at hn;have eK:(((c:Nat):Int)==65533)=false:=(by rw[beq_eq_false_iff_ne];omega);have HX:=rr d1 d2 hb hk eR;clear d1 d2 d3 hc XS hb hk;go_wp2_with fail;obtain⟨d1,d2,hb,hk,eR⟩:=HX.out;have h1:=(ec c).1;refine⟨⟨u++[c],gS HU.1 (λd hd=>by simp only[aE]at hd;subst hd;exact d1),?_,by simpa using Lib.iterAt_heap _ _ _ _ _ hk,Lib.below_iterAt hb (af _) _ _,by rw[Lib.iterAt_size];exact Hh⟩,?_⟩
    ·have h2:=HU.2;rw[d2]at h2;simpa using h2
    ·rw[HP.out,iterPos_of (Lib.iterAt_heap _ _ _ _ _ hk)];omega
  ·have hn:=λty=>Lib.run_next_end_at (P:=prog) wo K s (enc u).length ty hk (by omega);subst hK;have HX:=eo hb eR;clear hb hk eR;go_wp2_with fail;go_ret;refine⟨true,rfl,HX.1,λ_=>⟨u,HU.1,?_⟩⟩;apply fC;rw[eE,HU.2,aL (by rw[Array.length_toList];exact Nat.le_of_not_lt HX.2),bd]
mutual
def gr:Gb->Gr
 |.text u=>.mk 0 false (bs u) 0 0 []
 |.any=>.mk 1 false (bs []) 0 0 []
 |.fq=>.mk 2 false (bs []) 0 0 []
 |.one=>.mk 3 false (bs []) 0 0 []
 |.set u m=>.mk 4 m (bs u) 0 0 []
 |.range a b m=>.mk 5 m (bs []) (a:Int) (b:Int) []
 |.alt ks=>.mk 6 false (bs []) 0 0 (EM ks)
def ox:List Gb->List Gr
 | []=>[]
 |g::l=>gr g::ox l
def EM:List (List Gb)->List (List Gr)
 | []=>[]
 |k::ks=>ox k::EM ks
end
theorem tK:∀(a b:List Gb),ox (a++b)=ox a++ox b
 | [],b=>rfl
 |g::a,b=>by simp only[aJ,ox,tK a b]
theorem AQ:∀(a b:List (List Gb)),EM (a++b)=EM a++EM b
 | [],b=>rfl
 |g::a,b=>by simp only[aJ,EM,AQ a b]
theorem mi:∀(l:List Gb),(ox l).length=l.length
 | []=>rfl
 |g::l=>by simp only[ox,aH,mi l]
theorem AP:∀(l:List (List Gb)),(EM l).length=l.length
 | []=>rfl
 |g::l=>by simp only[EM,aH,AP l]
theorem oT:∀(a b:List Gb),ey (a++b)=ey a+ey b
 | [],b=>by simp[ey]
 |g::a,b=>by simp only[aJ,ey,oT a b];omega
theorem oU:∀(a b:List (List Gb)),eU (a++b)=eU a+eU b
 | [],b=>by simp[eU]
 |g::a,b=>by simp only[aJ,eU,oU a b];omega
theorem rI:∀(a b:List Gb),fU (a++b)↔fU a/\fU b
 | [],b=>by simp[fU]
 |g::a,b=>by simp only[aJ,fU,rI a b,and_assoc]
theorem rJ:∀(a b:List (List Gb)),iL (a++b)↔iL a/\iL b
 | [],b=>by simp[iL]
 |g::a,b=>by simp only[aJ,iL,rJ a b,and_assoc]
theorem uP:∀(a b:List (List Gb)),jE (a++b)↔jE a/\jE b
 | [],b=>by simp[jE]
 |g::a,b=>by simp only[aJ,jE,uP a b,and_assoc]
theorem IY (g p:Gb) (l r:List Gb):beside g (p::l)↔beside g (p::r):=by cases g<;>cases p<;>simp[beside]
theorem Bf (g:Gb):beside g []:=by cases g<;>simp[beside]
theorem Dv:∀(l:List Gb) (g:Gb),iY l->sN g->(∀p,l.getLast?=some p->beside p [g])->iY (l++[g])
 | [],g,_,h,_=>by simp only[bw,iY];exact⟨h,Bf g,trivial⟩
 | [p],g,h1,h2,h3=>by simp only[aJ,bw,iY]at h1⊢;exact⟨h1.1,h3 p rfl,h2,Bf g,trivial⟩
 |p::q::l,g,h1,h2,h3=>by have:=Dv (q::l) g (by simp only[iY]at h1⊢;exact h1.2.2) h2 (λx hx=>h3 x (by rw[List.getLast?_cons_cons];exact hx));simp only[aJ]at this⊢;unfold iY;exact⟨(by simp only[iY]at h1;exact h1.1),(IY p q _ _).1 (by simp only[iY]at h1;exact h1.2.1),this⟩
def eC:Gb->Int
 |.text _=>0
 |.any=>1
 |.fq=>2
 |.one=>3
 |.set _ _=>4
 |.range _ _ _=>5
 |.alt _=>6
theorem cell_of {w:World} {b i:Nat} {cs:Array Value} {T:TypeId} {v:Value} (h:w.heap[b]? =some (.cells cs T (0,0))) (hv:cs[i]? =some v):w.cell? ⟨b,i,none⟩=some v:=by simp only[World.cell?,h];simpa using hv
def mF:Gb->Bool
 |.set _ n=>n
 |.range _ _ n=>n
 |.text _|.any|.fq|.one|.alt _=>false
def ja:Gb->List Nat
 |.text u=>u
 |.set u _=>u
 |.any|.fq|.one|.range _ _ _|.alt _=>[]
def yI:Gb->Int
 |.range a _ _=>(a:Int)
 |.text _|.any|.fq|.one|.set _ _|.alt _=>0
def yJ:Gb->Int
 |.range _ b _=>(b:Int)
 |.text _|.any|.fq|.one|.set _ _|.alt _=>0
def gm:Gb->List (List Gb)
 |.alt ks=>ks
 |.text _|.any|.fq|.one|.set _ _|.range _ _ _=>[]
theorem gr_mk (g:Gb):gr g=.mk (eC g) (mF g) (bs (ja g)) (yI g) (yJ g) (EM (gm g)):=by cases g<;>rfl
theorem Mu:∀(l:List Gb) (j:Nat),(ox l)[j]? =(l[j]?).map gr
 | [],j=>by simp[ox]
 |g::l,0=>by simp[ox]
 |g::l,j+1=>by simp[ox,Mu l j]
theorem Mv:∀(l:List (List Gb)) (j:Nat),(EM l)[j]? =(l[j]?).map ox
 | [],j=>by simp[EM]
 |g::l,0=>by simp[EM]
 |g::l,j+1=>by simp[EM,Mv l j]
def Kids (w0:World) (ks:List (List Gb)) (a:Option Addr):Prop:=ks.length<=140737488355328/\(ks≠[]->∃b o,a=some ⟨b,o,none⟩/\ua w0 (EM ks) b o)
theorem tV.row {w0:World} {gl:List Gb} {v:Value} (h:tV w0 (ox gl) v):∃a c,v=.slice a gl.length c/\gl.length<=maxLen/\(gl≠[]->∃b o,a=some ⟨b,o,none⟩/\tW w0 (ox gl) b o):=by obtain⟨a,c,h1,h2,h3⟩:=h;rw[mi]at h1 h2;exact⟨a,c,h1,h2,λeK=>h3 (by intro e;apply eK;cases gl with|nil=>rfl|cons x y=>simp[ox]at e)⟩
theorem tW.cells {w0 wr:World} {gl:List Gb} {b o j:Nat} {g:Gb} (h:tW w0 (ox gl) b o) (hb:Below w0.heap.size w0 wr) (hg:gl[j]? =some g):∃a2 c2,wr.cell? ⟨b,o+j*6,none⟩=some (.int .u8 (eC g))/\wr.cell? ⟨b,o+j*6+1,none⟩=some (.bool (mF g))/\wr.cell? ⟨b,o+j*6+2,none⟩=some (.string (bs (ja g)))/\wr.cell? ⟨b,o+j*6+3,none⟩=some (.int .i32 (yI g))/\wr.cell? ⟨b,o+j*6+4,none⟩=some (.int .i32 (yJ g))/\wr.cell? ⟨b,o+j*6+5,none⟩=some (.slice a2 (gm g).length c2)/\Kids w0 (gm g) a2:=by have hA:=tW.at (ox gl) b o j (gr g) h (by rw[Mu,hg];rfl);rw[gr_mk]at hA;simp only[tX]at hA;obtain⟨g0,_,g1,g2,_,g3,g4,a2,c2,g5,g6,g7⟩:=hA;rw[AP]at g5 g6;exact⟨a2,c2,dF hb _ _ g0,dF hb _ _ g1,dF hb _ _ g2,dF hb _ _ g3,dF hb _ _ g4,dF hb _ _ g5,g6,λeK=>g7 (by intro e;apply eK;cases hk:gm g with|nil=>rfl|cons x y=>rw[hk]at e;simp[EM]at e)⟩
theorem ua.kid {w0 wr:World} {ks:List (List Gb)} {b o i:Nat} {k:List Gb} (h:ua w0 (EM ks) b o) (hb:Below w0.heap.size w0 wr) (hk:ks[i]? =some k):∃a c,wr.cell? ⟨b,o+i,none⟩=some (.slice a k.length c)/\tV w0 (ox k) (.slice a k.length c):=by obtain⟨a,c,h1,h2⟩:=ua.at (EM ks) b o i (ox k) h (by rw[Mv,hk];rfl);rw[mi]at h1 h2;exact⟨a,c,dF hb _ _ h1,h2⟩
theorem ei.alloc {S:Nat->Prop} {w w':World} (h:ei S w w') (o:Obj):ei S w (w'.alloc o):=⟨h.os,h.tape,h.output,by rw[ab];have:=h.size;omega,λb hb hn=>(heap_alloc_old w' o (ai hb h.size)).trans (h.same b hb hn)⟩
theorem ei.store {S:Nat->Prop} {w w':World} (h:ei S w w') {b i:Nat} (v:Value) (hb:S b):ei S w (w'.setCell ⟨b,i,none⟩ v):=h.trans (ei.cell (S:=S) hb) (λ_ _ k=>k) (λ_ _ k=>k)
theorem ei.then {S:Nat->Prop} {w w' w2:World} (h:ei S w w') (k:ei S w' w2):ei S w w2:=h.trans k (λ_ _ k=>k) (λ_ _ k=>k)
end Go.Proofs.YtfejflhgaphilaaGreatDoor
namespace Go.Proofs.YtfejflhgaphilaaGreatDoor
open Go.Lib
def pos (k:List UInt8):List (List UInt8)->Nat
 | []=>0
 |x::l=>if x<k then pos k l+1 else 0
def ins (l:List (List UInt8)) (k:List UInt8):List (List UInt8):=if l[pos k l]? =some k then l else l.take (pos k l)++k::l.drop (pos k l)
def KO (l:List (List UInt8)):Prop:=l.Pairwise (·< ·)
theorem sj {x k:List UInt8} (h:¬x<k) (eK:x≠k):k<x:=by
 rcases Std.Trichotomous.rel_or_eq_or_rel_swap (r:=(·< ·:List UInt8->List UInt8->Prop)) (a:=x) (b:=k)with h1|h1|h1
 ·exact absurd h1 h
 ·exact absurd h1 eK
 ·exact h1
theorem wK (k:List UInt8):∀l,pos k l<=l.length
 | []=>af _
 |x::l=>by simp only[pos];split
           ·have:=wK k l;simp;exact this
           ·simp
theorem Q2 (k:List UInt8):∀(l:List (List UInt8)) (i:Nat) (x:List UInt8),i<pos k l->l[i]? =some x->x<k
 | [],i,x,h,hx=>by simp at hx
 |y::l,i,x,h,hx=>by
  simp only[pos]at h;split at h
  ·rename_i hy;cases i with
   |zero=>simp at hx;subst hx;exact hy
   |succ i=>exact Q2 k l i x (by omega) (by simpa using hx)
  ·omega
theorem Q3 (k:List UInt8):∀(l:List (List UInt8)),KO l->∀(i:Nat) (x:List UInt8),pos k l<=i->l[i]? =some x->¬x<k
 | [],_,i,x,h,hx=>by simp at hx
 |y::l,hs,i,x,h,hx=>by
  have h1:=dy.1 hs;simp only[pos]at h;split at h
  ·cases i with
   |zero=>omega
   |succ i=>exact Q3 k l h1.2 i x (by omega) (by simpa using hx)
  ·rename_i hy;cases i with
   |zero=>simp at hx;subst hx;exact hy
   |succ i=>have hm:x∈l:=bh.2 ⟨i,by simpa using hx⟩;intro qI;exact hy (List.lt_trans (h1.1 x hm) qI)
theorem Ew (k:List UInt8):ins [] k=[k]:=by simp[ins,pos]
theorem YV {x k:List UInt8} {l:List (List UInt8)} (h:x<k):ins (x::l) k=x::ins l k:=by simp only[ins,pos,if_pos h,bH,de,cu];split<;>rfl
theorem YX {k:List UInt8} {l:List (List UInt8)}:ins (k::l) k=k::l:=by simp only[ins,pos,if_neg (List.lt_irrefl k)];simp
theorem YW {x k:List UInt8} {l:List (List UInt8)} (h:¬x<k) (eK:x≠k):ins (x::l) k=k::x::l:=by simp only[ins,pos,if_neg h];simp[eK]
theorem Dm (x k:List UInt8) (l:List (List UInt8)):(x<k/\ins (x::l) k=x::ins l k)\/(x=k/\ins (x::l) k=x::l)\/(k<x/\ins (x::l) k=k::x::l):=by
 by_cases h:x<k
 ·exact .inl ⟨h,YV h⟩
 by_cases eK:x=k
 ·subst eK;exact .inr (.inl ⟨rfl,YX⟩)
 ·exact .inr (.inr ⟨sj h eK,YW h eK⟩)
theorem uv (k y:List UInt8):∀l,y∈ins l k↔y∈l\/y=k
 | []=>by simp[Ew]
 |x::l=>by
  rcases Dm x k l with⟨_,e⟩|⟨e0,e⟩|⟨_,e⟩<;>rw[e]
  ·simp only[az,uv k y l,or_assoc]
  ·simp only[az];constructor
   ·intro h;exact .inl h
   ·rintro(h|h)
    ·exact h
    ·exact .inl (h.trans e0.symm)
  ·simp only[az];constructor
   ·rintro(h|h)
    ·exact .inr h
    ·exact .inl h
   ·rintro(h|h)
    ·exact .inr h
    ·exact .inl h
theorem zh (k:List UInt8):∀l,KO l->KO (ins l k)
 | [],_=>by rw[Ew];simp[KO]
 |x::l,h=>by
  have h1:=dy.1 h;rcases Dm x k l with⟨e0,e⟩|⟨e0,e⟩|⟨e0,e⟩<;>rw[e]
  ·refine dy.2 ⟨λy hy=> ?_,zh k l h1.2⟩;rcases(uv k y l).1 hy with hy|hy
   ·exact h1.1 y hy
   ·rw[hy];exact e0
  ·exact h
  ·refine dy.2 ⟨λy hy=> ?_,h⟩;rcases az.1 hy with rfl|hy
   ·exact e0
   ·exact List.lt_trans e0 (h1.1 y hy)
theorem Vt (k:List UInt8) (l:List (List UInt8)):(ins l k).length=l.length\/(ins l k).length=l.length+1:=by
 unfold ins;have:=wK k l;split
 ·exact .inl rfl
 ·right;simp;omega
theorem JZ (k:List UInt8) (l:List (List UInt8)):(ins l k).length<=l.length+1:=by
 unfold ins;have:=wK k l;split
 ·omega
 ·simp;omega
theorem Lg:∀a b:List (List UInt8),KO a->KO b->(∀x,x∈a↔x∈b)->a=b
 | [],[],_,_,_=>rfl
 | [],y::b,_,_,h=>by have:=(h y).2 (by simp);simp at this
 |x::a,[],_,_,h=>by have:=(h x).1 (by simp);simp at this
 |x::a,y::b,ha,hb,h=>by
  have h1:=dy.1 ha;have h2:=dy.1 hb;have exy:x=y:=by
   rcases az.1 ((h x).1 (by simp))with e|e
   ·exact e
   rcases az.1 ((h y).2 (by simp))with e'|e'
   ·exact e'.symm
   ·exact absurd (List.lt_trans (h1.1 y e') (h2.1 x e)) (List.lt_irrefl x)
  subst exy;rw[Lg a b h1.2 h2.2 λz=> ?_];constructor
  ·intro hz;rcases az.1 ((h z).1 (bJ _ hz))with e|e
   ·subst e;exact absurd (h1.1 z hz) (List.lt_irrefl z)
   ·exact e
  ·intro hz;rcases az.1 ((h z).2 (bJ _ hz))with e|e
   ·subst e;exact absurd (h2.1 z hz) (List.lt_irrefl z)
   ·exact e
theorem qL (d:Array (List UInt8)) (hd:∀i j,i<=j->j<d.size->d[i]! <=d[j]!):∀m,m<=d.size->KO (compactUpTo d m)/\∀x,x∈compactUpTo d m↔∃j,j<m/\d[j]! =x
 |0,_=>by have e:compactUpTo d 0=[]:=rfl;rw[e];exact⟨List.Pairwise.nil,λx=>⟨λh=>by simp at h,λ⟨j,h,_⟩=>by omega⟩⟩
 |m+1,hm=>by
  obtain⟨h1,h2⟩:=qL d hd m (by omega);rw[compactUpTo_succ];cases hk:keeps d m with
  |true=>
   simp only[keeps,decide_eq_true_eq]at hk;rw[if_pos rfl];refine⟨List.pairwise_append.2 ⟨h1,List.pairwise_singleton _ _,λa ha b hb=> ?_⟩,λx=> ?_⟩
   ·rw[aE]at hb;subst hb;obtain⟨j,hj,rfl⟩:=(h2 a).1 ha;rcases hk with hk|hk
    ·omega
    have a1:=hd j (m-1) (by omega) (by omega);have a2:=hd (m-1) m (by omega) (by omega);have a3:d[m-1]! <d[m]! :=by refine sj (λh=> ?_) hk;exact absurd a2 (List.not_le.2 h)
    rcases Std.Trichotomous.rel_or_eq_or_rel_swap (r:=(·< ·:List UInt8->List UInt8->Prop)) (a:=d[j]!) (b:=d[m-1]!)with h|h|h
    ·exact List.lt_trans h a3
    ·rw[h];exact a3
    ·exact absurd a1 (List.not_le.2 h)
   ·rw[ar,aE,h2];constructor
    ·rintro(⟨j,h,e⟩|h)
     ·exact⟨j,by omega,e⟩
     ·exact⟨m,by omega,h.symm⟩
    ·rintro⟨j,h,e⟩;by_cases hjm:j=m
     ·subst hjm;exact .inr e.symm
     ·exact .inl ⟨j,by omega,e⟩
  |false=>
   simp only[keeps,decide_eq_false_iff_not,not_or,Decidable.not_not]at hk;rw[if_neg (by simp),bd];refine⟨h1,λx=> ?_⟩;rw[h2];constructor
   ·rintro⟨j,h,e⟩;exact⟨j,by omega,e⟩
   ·rintro⟨j,h,e⟩;by_cases hjm:j=m
    ·subst hjm;exact⟨j-1,by omega,by rw[<-hk.2];exact e⟩
    ·exact⟨j,by omega,e⟩
theorem Oz:∀a b c:List UInt8,decide (a<=b)=true->decide (b<=c)=true->decide (a<=c)=true:=λa b c h1 h2=>by simp only[decide_eq_true_eq]at*;exact List.le_trans h1 h2
theorem OA:∀a b:List UInt8,(decide (a<=b)||decide (b<=a))=true:=λa b=>by simp only[cC,decide_eq_true_eq];exact List.le_total a b
theorem EY (zs:List (List UInt8)):KO (compact (zs.mergeSort λx y=>decide (x<=y)))/\∀x,x∈compact (zs.mergeSort λx y=>decide (x<=y))↔x∈zs:=by
 have hp:(zs.mergeSort λx y=>decide (x<=y)).Pairwise λa b=>decide (a<=b)=true:=List.pairwise_mergeSort Oz OA zs;obtain⟨ys,hys⟩:=dS (zs.mergeSort λx y=>decide (x<=y));rw[<-hys]at hp⊢;have hd:∀i j,i<=j->j<ys.toArray.size->ys.toArray[i]! <=ys.toArray[j]! :=by
  intro i j hij hj;have Kb:j<ys.length:=by simpa using hj
  rw[getElem!_pos _ i (by simp;omega),getElem!_pos _ j hj];simp only[List.getElem_toArray];by_cases e:i=j
  ·subst e;exact List.le_refl _
  ·have:=List.pairwise_iff_getElem.1 hp i j (by omega) Kb (by omega);simpa using this
 have h:=qL ys.toArray hd ys.length (by simp);refine⟨h.1,λx=> ?_⟩;unfold compact;rw[h.2];have e:x∈zs↔x∈ys:=by rw[hys];exact(List.mem_mergeSort (le:=λx y=>decide (x<=y)) (l:=zs) (a:=x)).symm
 rw[e,List.mem_iff_getElem];constructor
 ·rintro⟨j,hj,e⟩;refine⟨j,hj,?_⟩;rw[getElem!_pos _ j (by simpa using hj)]at e;simpa using e
 ·rintro⟨j,hj,e⟩;refine⟨j,hj,?_⟩;rw[getElem!_pos _ j (by simpa using hj)];simpa using e
theorem Rv:∀(ts l:List (List UInt8)),KO l->KO (ts.foldl ins l)/\∀x,x∈ts.foldl ins l↔x∈l\/x∈ts
 | [],l,h=>⟨h,λx=>by simp⟩
 |t::ts,l,h=>by obtain⟨h1,h2⟩:=Rv ts (ins l t) (zh t l h);refine⟨h1,λx=> ?_⟩;simp only[List.foldl_cons];rw[h2,uv,az,or_assoc]
theorem whole (M:List UInt8->Bool) (ts:List (List UInt8)):(ts.foldl ins []).filter M=compact ((ts.filter M).mergeSort λx y=>decide (x<=y)):=by obtain⟨h1,h2⟩:=Rv ts [] List.Pairwise.nil;obtain⟨h3,h4⟩:=EY (ts.filter M);refine Lg _ _ (List.Pairwise.filter _ h1) h3 λx=> ?_;rw[h4,List.mem_filter,List.mem_filter,h2];simp
end Go.Proofs.YtfejflhgaphilaaGreatDoor
