/- Sorted at numbers. The hash map with one key: its head takes the key, its iterator hands it out. What a version of the hash map tells. -/
import Derived.Test.YtfejflhgaphilaaGreatDoorC34
set_option linter.all false
set_option maxRecDepth 100000
set_option maxHeartbeats 64000000
open Go.Proofs.Tryz
namespace Go.Proofs.YtfejflhgaphilaaGreatDoor
open Go.RowKit Gm
variable {w w':World} {L I E c M:Nat} {l:List Int} {j d:Int}
theorem f21I (B:Nat) (ts:List Int) (b c:Nat) (w:World) (hB:MZ w B false (.slice (some ⟨b,0,none⟩) (ts.length+1) c)) (fY:ts.length<=1) (h:sC w b ts):Calls prog 21 #[.pointer (some ⟨B,0,none⟩),.pointer (some ⟨B+1,0,none⟩),.pointer (some ⟨B+2,0,none⟩),.pointer (some ⟨B+3,0,none⟩)] w λe w'=>e=.returned (.tuple #[])/\∃v w5,vy w w5 ts v/\w'=w5.setCell ⟨B+3,0,none⟩ v:=by
 obtain⟨n,hn⟩:=dS ts.length;have c0:w.cell? ⟨B,0,none⟩=some (.bool false):=cell_of hB.b0 rfl;have c1:w.cell? ⟨B+1,0,none⟩=some (.int .u8 0):=cell_of hB.b1 rfl;have c1':w.cell? ⟨B+1,1,none⟩=some (.int .i64 0):=cell_of hB.b1 rfl;have c2:w.cell? ⟨B+2,0,none⟩=some (.slice (some ⟨b,0,none⟩) (n+1) c):=by rw[hn];exact cell_of hB.b2 rfl
 have H:=sW hB h fY hn;clear hB h fY hn;go_enter func21,ntmps21;go_wp2_with fail;refine dP (λw'=>Below w.heap.size w w') [(true,1),(true,3),(false,0),(false,2),(false,4)] (by kernel_rfl) (by kernel_rfl) (by go_grown) (λhHeld=> ?_);iterate 2
  refine dL (v:= ?_) rfl (λ_ _ _ h=>h) (by rfl) ?_ hHeld ?_;rotate_left
  ·intro wz hSw;have k1:=dF hSw _ _ c1;have k1':=dF hSw _ _ c1';have k2:=dF hSw _ _ c2;go_simp
   try with_reducible rfl
  simp only[Act.put,iX]
 refine dM rfl (λKK mE=> ?_);go_simp;refine(f26 _).mono ?_;rintro e w2 ⟨rfl,eT⟩;have mN:Below w.heap.size w w2:=(by go_grown:Below w.heap.size w w.drew).trans eT;refine mE.out _ _ mN (λiU=> ?_);clear mE KK;refine dM rfl (λKK mE=> ?_);go_simp;refine(f27 0 _).mono ?_;rintro e w3 ⟨rfl,gQ⟩;have nZ:Below w.heap.size w w3:=mN.trans (gQ.mono mN.size);refine mE.out _ _ nZ (λmh=> ?_);clear mE KK;have Mh:sC w3 b ts:=⟨λi t ht f v hf=>dF nZ _ _ (H.2.1.put i t ht f v hf),λf v hf=>dF nZ _ _ (H.2.1.last f v hf),ai H.2.1.gu nZ.size⟩;have HC:=aa (f25 ts b c w3 H.2.2.1 Mh);rw[<-H.2.2.2]at HC;refine dM rfl (λKK mE=> ?_);go_simp;refine HC.mono ?_;rintro e w5 ⟨v,rfl,ha⟩;have Ut:Below w.heap.size w w5:=nZ.trans (ha.below.mono nZ.size);refine mE.out _ _ Ut (λtJ=> ?_);clear mE KK hHeld iU mh tJ;refine dX rfl ?_;obtain⟨av,cv,tC,_,_⟩:=d' ha.row.choose_spec.choose_spec.choose_spec.1;have V8:B+3<w.heap.size:=by
  rcases aV (B+3) w.heap.size with e|e
  ·exact e
  ·have:=H.1.b3;rw[aO e]at this;cases this
 have jF:=(Ut.block (B+3) V8).trans H.1.b3;have y3:w5.cell? ⟨B+3,0,none⟩=some (.slice none 0 0):=cell_of jF rfl;have y4:=el (i:=0) jF;have HA:=eo ha nZ;subst tC;clear ha mN nZ Ut eT gQ jF V8 Mh;go_wp2_with fail;go_end0;obtain⟨ha,nZ⟩:=HA.out;obtain⟨h1,xs,pv,B',h2,h3,h4,h5⟩:=ha;exact⟨rfl,_,w5,⟨nZ.trans (h1.mono nZ.size),xs,pv,B',h2.mono nZ.size,h3,ao nZ.size h4,h5⟩,rfl⟩
theorem vy.fo {w0 w1:World} {ts:List Int} {v:Value} (h:vy w0 w1 ts v) (hb:Below w.heap.size w w0) (hc:ei (λb=>w.heap.size<=b/\b<w0.heap.size) w1 w'):vy w w' ts v:=by
 obtain⟨h1,xs,pv,B,h2,h3,h4,h5⟩:=h;have eu:Below w.heap.size w w1:=hb.trans (h1.mono hb.size);refine⟨eu.trans (hc.below eu.size λb e=>e.1),xs,pv,B,dI (h2.mono hb.size) λg hg=> ?_,h3,ao hb.size h4,dI h5 λg hg=> ?_⟩
 ·have:=h2.lt g hg;exact hc.same g this.2 (by omega)
 ·have:=h5.lt g hg;exact hc.same g this.2 (by omega)
theorem f7I (ts:List Int) (b c:Nat) (w:World) (fY:ts.length<=1) (h:sC w b ts):Calls prog 7 #[.bool false,.agg #[.int .u8 0,.int .i64 0],.slice (some ⟨b,0,none⟩) (ts.length+1) c] w λe w'=>∃v,e=.returned (.tuple #[v,.bool true])/\vy w w' ts v:=by
 obtain⟨n,hn⟩:=dS ts.length;rw[<-hn];have H:=jS h fY hn;clear h fY hn;have hmf:∀(fn:Fn) (first cap:Array Value) (w:World),(Instr.makeFunc fn first cap).run prog w=.ok (.func fn first cap) w:=λ_ _ _ _=>rfl;obtain⟨a1,a2,a3⟩:=AE w (.cells #[.bool false] 4) (.cells #[.int .u8 0,.int .i64 0] 34) (.cells #[.slice (some ⟨b,0,none⟩) (n+1) c] 27);obtain⟨W3,kl⟩:=dS (((w.alloc (.cells #[.bool false] 4)).alloc (.cells #[.int .u8 0,.int .i64 0] 34)).alloc (.cells #[.slice (some ⟨b,0,none⟩) (n+1) c] 27));have gQ:Below w.heap.size w W3:=by rw[kl];go_grown
 have EB:W3.heap.size=w.heap.size+3:=by rw[kl,ab,ab,ab]
 rw[<-kl]at a1 a2 a3;have a4:=heap_alloc_new W3 (.cells #[.slice none 0 0] 30);have mZ:Below W3.heap.size W3 (W3.alloc (.cells #[.slice none 0 0] 30)):=by go_grown
 obtain⟨W4,qU⟩:=dS (W3.alloc (.cells #[.slice none 0 0] 30));have OG:W4.heap.size=w.heap.size+4:=by rw[qU,ab,EB]
 rw[<-qU]at a4 mZ;have jF:Below W4.heap.size W4 (W4.alloc (.cells #[.bool false] 4)):=by go_grown
 have Jn:(W4.alloc (.cells #[.bool false] 4)).heap.size=w.heap.size+5:=by rw[ab,OG]
 have Qb:=heap_alloc_new W4 (.cells #[.bool false] 4);obtain⟨W5,yF⟩:=dS (W4.alloc (.cells #[.bool false] 4));rw[<-yF]at jF Jn Qb;have EK:Below w.heap.size w W4:=gQ.trans (mZ.mono gQ.size);have AJ:Below w.heap.size w W5:=EK.trans (jF.mono EK.size);have up:∀x o,x<W3.heap.size->W3.heap[x]? =some o->W5.heap[x]? =some o:=λx o hx h=>(jF.block x (by omega)).trans ((mZ.block x hx).trans h);have AK:MZ W5 w.heap.size false (.slice (some ⟨b,0,none⟩) (n+1) c):=⟨up _ _ (by omega) a1,up _ _ (by omega) a2,up _ _ (by omega) a3,(jF.block (w.heap.size+3) (by omega)).trans (by rw[<-EB];exact a4)⟩;have Mh:sC W5 b ts:=⟨λi t ht f v hf=>dF AJ _ _ (H.1.put i t ht f v hf),λf v hf=>dF AJ _ _ (H.1.last f v hf),ai H.1.gu AJ.size⟩;have h21:=f21I w.heap.size ts b c W5 (by rw[<-H.2.2];exact AK) H.2.1 Mh;have hC:=f20 21 #[.pointer (some ⟨w.heap.size,0,none⟩),.pointer (some ⟨w.heap.size+1,0,none⟩),.pointer (some ⟨w.heap.size+1+1,0,none⟩),.pointer (some ⟨w.heap.size+1+1+1,0,none⟩)] W4 (λw'=>∃v w5,vy W5 w5 ts v/\w'=w5.setCell ⟨w.heap.size+3,0,none⟩ v) IG (by rw[<-yF];refine h21.mono ?_;rintro e w' ⟨rfl,v,w5,ha,rfl⟩;refine⟨rfl,⟨v,w5,ha,rfl⟩,?_⟩;rw[aq _ _ _ _ (show W4.heap.size≠w.heap.size+3 by omega)];exact(ha.below.block W4.heap.size (by omega)).trans Qb);have HC:=rr hC EK jF OG Jn;have HX:=eo AK.b3 AJ;clear hC EK AJ gQ mZ jF EB OG Jn Qb a1 a2 a3 a4 up AK Mh h21 yF;go_enter func7,ntmps7;go_wp2_with fail;rw[<-kl,<-qU];clear kl qU;refine HC.1.mono ?_;rintro e w6 ⟨rfl,w2,⟨v,w5,ha,rfl⟩,gP⟩;obtain⟨av,cv,tC,_,_⟩:=d' ha.row.choose_spec.choose_spec.choose_spec.1;rw[<-H.2.2]at tC;have h5b:w5.heap[w.heap.size+3]? =some (.cells #[.slice none 0 0] 30 (0,0)):=(ha.below.block (w.heap.size+3) (by have:=HC.2.2.2.2;omega)).trans HX.1;have V':w6.heap[w.heap.size+3]? =some (.cells #[v] 30 (0,0)):=by rw[gP.same (w.heap.size+3) (by rw[aK];have:=ha.below.size;have:=HC.2.2.2.2;omega) (by have:=HC.2.2.2.1;omega),dG h5b];rfl
 have y0:w6.cell? ⟨w.heap.size+1+1+1,0,none⟩=some v:=cell_of V' rfl;have y1:w6.frozen? ⟨w.heap.size+1+1+1,0,none⟩=false:=el (i:=0) V';have Sk:vy w (w6.setCell ⟨w.heap.size+3,0,none⟩ v) ts v:=ha.fo HX.2 (by
  refine(ei.cell (S:=λb=>w.heap.size<=b/\b<W5.heap.size) ?_).trans ((gP.mono (T:=λb=>w.heap.size<=b/\b<W5.heap.size) ?_).store _ ?_) (λ_ _ h=>h) (λ_ _ h=>h)
  ·have:=HC.2.2.2.2;omega
  ·intro b _ e;subst e;have:=HC.2.2.2;omega
  ·have:=HC.2.2.2.2;omega)
 subst tC;have HF:=eo Sk V';clear Sk V' h5b ha gP;go_wp2_with fail;have e0:(w6.setCell ⟨w.heap.size+1+1+1,0,none⟩ (.slice av (n+1) cv)).cell? ⟨w.heap.size+1+1+1,0,none⟩=some (.slice av (n+1) cv):=cell_of (dG HF.2 _) rfl;refine bodyPost_ret (v:=.tuple #[.slice av (n+1) cv,.bool true]) (by simp[results,Tryz.results7,go_sem,e0]) rfl ?_;exact⟨_,rfl,HF.1⟩
theorem f165 (A:Int) (w:World):Calls prog 165 #[.int .i64 A] w λe w'=>e=.returned (.iface 399 (.pointer (some ⟨w.heap.size,0,none⟩)))/\w'=w.alloc (.cells #[] 400):=by have h3:=taI3 (.int .i64 A);have h371:=QF (.int .i64 A);have h372:=QE (.int .i64 A);have h21:=W8 (.int .i64 A);have h102:=QH (.int .i64 A);have h5:=taI5 (.int .i64 A);have h373:=QD (.int .i64 A);have h56:=WZ (.int .i64 A);have h178:=QG (.int .i64 A);have Ql:=Xa (.int .i64 A);have h9:=taI9 (.int .i64 A);have h2:=taI2 (.int .i64 A);go_enter func165,ntmps165;go_wp2_with fail;go_ret;exact⟨rfl,rfl⟩
theorem UX (v:Value) (w:World):(Instr.typeAssert (.iface 286 v) 187 367 true).run prog w=.ok (.tuple #[.pointer none,.bool false]) w:=by kernel_rfl
theorem f166 (M:Nat) (sz:Int) (r c:Value) (w:World) (h:w.heap[M]? =some (.cells #[.int .i64 sz,r,c] 189)) (hrc:(r=.nilIface/\c=.nilIface)\/∃p q,r=.iface 286 p/\c=.iface 399 q):Calls prog 166 #[.pointer (some ⟨M,0,none⟩)] w λe w'=>e=.returned (.pointer (some ⟨w.heap.size,0,none⟩))/\w'=w.alloc (.cells #[.int .i64 sz,r,c] 189):=by
 have c0:w.cell? ⟨M,0,none⟩=some (.int .i64 sz):=cell_of h rfl;have c1:w.cell? ⟨M,1,none⟩=some r:=cell_of h rfl;have c2:w.cell? ⟨M,2,none⟩=some c:=cell_of h rfl;clear h;rcases hrc with⟨rfl,rfl⟩|⟨p,q,rfl,rfl⟩<;>
 ·go_enter func166,ntmps166;go_wp2_with fail;go_ret;exact⟨rfl,rfl⟩
theorem f87 (w:World):Calls prog 87 #[.nilIface] w λe w'=>e=.returned (.pointer (some ⟨w.heap.size,0,none⟩))/\w'=w.alloc (.cells #[.int .i64 0,.nilIface,.nilIface] 189):=by go_enter func87,ntmps87;go_wp2_with fail;go_ret;exact⟨rfl,rfl⟩
theorem f39 (M:Nat) (sz:Int) (r c:Value) (w:World) (h:w.heap[M]? =some (.cells #[.int .i64 sz,r,c] 189)):Calls prog 39 #[.pointer (some ⟨M,0,none⟩)] w λe w'=>e=.returned (.int .i64 sz)/\w'=w:=by have c0:w.cell? ⟨M,0,none⟩=some (.int .i64 sz):=cell_of h rfl;clear h;go_enter func39,ntmps39;go_wp2_with fail;go_ret;exact⟨rfl,rfl⟩
theorem f92 (I:Nat) (d:Int) (w:World) (h:w.cell? ⟨I,65,none⟩=some (.int .i64 d)):Calls prog 92 #[.pointer (some ⟨I,0,none⟩)] w λe w'=>e=.returned (.bool (decide (d= -1)))/\w'=w:=by go_enter func92,ntmps92;go_wp2_with fail;go_ret;exact⟨rfl,rfl⟩
structure ky (w:World) (L E:Nat) (l:List Int) (c:Nat):Prop where
 head:w.heap[L]? =some (.cells #[.slice (some ⟨E,0,none⟩) l.length c] 287 (0,0))
 ir:DL w E l
 cap:l.length<=c
 small:c<=1000
 gu:E<w.heap.size
theorem ky.lt (h:ky w L E l c):L<w.heap.size:=by
 rcases aV L w.heap.size with e|e
 ·exact e
 ·have:=h.head;rw[aO e]at this;cases this
theorem ky.below (h:ky w L E l c) (hb:Below w.heap.size w w'):ky w' L E l c:=⟨(hb.block L h.lt).trans h.head,λi k hk=>⟨dF hb _ _ (h.ir i k hk).1,dF hb _ _ (h.ir i k hk).2⟩,h.cap,h.small,ai h.gu hb.size⟩
theorem ky.fo {Rz:Nat} (h:ky w L E l c) (hc:ei (λb=>b=Rz) w w') (h1:L≠Rz) (h2:E≠Rz):ky w' L E l c:=⟨(hc.same L h.lt h1).trans h.head,λi k hk=>⟨(aF (w:=w) (hc.same E h.gu h2)).trans (h.ir i k hk).1,(aF (w:=w) (hc.same E h.gu h2)).trans (h.ir i k hk).2⟩,h.cap,h.small,ai h.gu hc.size⟩
structure j9 (w:World) (M:Nat) (l:List Int):Prop where
 Un:Wn l
 body:(l=[]/\w.heap[M]? =some (.cells #[.int .i64 0,.nilIface,.nilIface] 189 (0,0)))\/(l≠[]/\∃L E c q,w.heap[M]? =some (.cells #[.int .i64 (l.length:Nat),.iface 286 (.pointer (some ⟨L,0,none⟩)),.iface 399 (.pointer q)] 189 (0,0))/\ky w L E l c)
theorem j9.lt (h:j9 w M l):M<w.heap.size:=by
 rcases aV M w.heap.size with e|e
 ·exact e
 ·rcases h.body with⟨_,h1⟩|⟨_,_,_,_,_,h1,_⟩<;>(rw[aO e]at h1;cases h1)
theorem j9.below (h:j9 w M l) (hb:Below w.heap.size w w'):j9 w' M l:=by
 refine⟨h.Un,?_⟩;rcases h.body with⟨h0,h1⟩|⟨h0,L,E,c,q,h1,h2⟩
 ·exact .inl ⟨h0,(hb.block M h.lt).trans h1⟩
 ·exact .inr ⟨h0,L,E,c,q,(hb.block M h.lt).trans h1,h2.below hb⟩
theorem f131n (M:Nat) (k:Int) (w:World) (h:j9 w M []):Calls prog 131 #[.pointer (some ⟨M,0,none⟩),.int .i64 (ik k),.int .i64 7,.bool false] w λe w'=>∃M',e=.returned (.pointer (some ⟨M',0,none⟩))/\j9 w' M' [k]/\Below w.heap.size w w':=by
 have hh:w.heap[M]? =some (.cells #[.int .i64 0,.nilIface,.nilIface] 189 (0,0)):=by
  rcases h.body with⟨_,h1⟩|⟨h0,_⟩
  ·exact h1
  ·exact absurd rfl h0
 have y1:w.cell? ⟨M,1,none⟩=some .nilIface:=cell_of hh rfl;have y2:w.cell? ⟨M,2,none⟩=some .nilIface:=cell_of hh rfl;have eR:=h.lt;have HC:=aa (f165 (ik k) w);have eu:Below w.heap.size w (w.alloc (.cells #[] 400)):=by go_grown
 obtain⟨W1,gZ⟩:=dS (w.alloc (.cells #[] 400));rw[<-gZ]at HC eu;have kR:W1.heap.size=w.heap.size+1:=by rw[gZ,ab]
 have Jp:=(eu.block M eR).trans hh;have jx:=aa (f166 M 0 .nilIface .nilIface W1 Jp (.inl ⟨rfl,rfl⟩));have z1:W1.cell? ⟨M,1,none⟩=some .nilIface:=cell_of Jp rfl;obtain⟨K,hK⟩:=dS (ik k);rw[<-hK]at HC⊢;have H:=rr eu kR eR Jp hK;clear hh h eR eu kR gZ Jp hK;go_enter func131,ntmps131;go_wp2_with fail;refine HC.mono ?_;rintro e w1 ⟨rfl,rfl⟩;go_wp2_with fail;refine jx.mono ?_;rintro e w2 ⟨rfl,rfl⟩;go_upto_region 8 with fail
 have x1:=dJ z1 (.cells #[.int .i64 0,.nilIface,.iface 399 (.pointer (some ⟨w.heap.size,0,none⟩))] 189);go_wp2_with fail;go_ret;obtain⟨a1,a2,a3⟩:=AE w1 (.cells #[.int .i64 1,.iface 286 (.pointer (some ⟨w1.heap.size+1+1,0,none⟩)),.iface 399 (.pointer (some ⟨w.heap.size,0,none⟩))] 189) (.cells #[.int .i64 K,.int .i64 7] 231) (.cells #[.slice (some ⟨w1.heap.size+1,0,none⟩) 1 1] 287);rw[H.2.2.2.2]at a2;refine⟨w1.heap.size,rfl,⟨by simp[Wn],.inr ⟨by simp,w1.heap.size+1+1,w1.heap.size+1,1,some ⟨w.heap.size,0,none⟩,a1,⟨a3,(show ML _ _ [k]from by rw[H.2.2.2.2];exact a2).ir,af _,by omega,by rw[ab,ab,ab];omega⟩⟩⟩,H.1.trans ?_⟩;have:Below w1.heap.size w1 (((w1.alloc (.cells #[.int .i64 1,.iface 286 (.pointer (some ⟨w1.heap.size+1+1,0,none⟩)),.iface 399 (.pointer (some ⟨w.heap.size,0,none⟩))] 189)).alloc (.cells #[.int .i64 K,.int .i64 7] 231)).alloc (.cells #[.slice (some ⟨w1.heap.size+1,0,none⟩) 1 1] 287)):=by go_grown
 exact this.mono H.1.size
theorem f90 (M:Nat) (l:List Int) (k:Int) (w:World) (h:j9 w M l) (hlen:l.length<=0):Calls prog 90 #[.pointer (some ⟨M,0,none⟩),.int .i64 (ik k),.int .i64 7] w λe w'=>∃M',e=.returned (.pointer (some ⟨M',0,none⟩))/\j9 w' M' (iB l k)/\Below w.heap.size w w':=by
 have hC:Calls prog 131 #[.pointer (some ⟨M,0,none⟩),.int .i64 (ik k),.int .i64 7,.bool false] w λe w'=>∃M',e=.returned (.pointer (some ⟨M',0,none⟩))/\j9 w' M' (iB l k)/\Below w.heap.size w w':=by have eK:l=[]:=bM (by omega);subst eK;rw[GL];exact f131n M k w h
 have HC:=aa hC;clear hC h;go_enter func90,ntmps90;go_wp2_with fail;refine HC.mono ?_;rintro e w2 ⟨M',rfl,h1,h2⟩;have H2:=eo h1 h2;clear h1 h2;go_wp2_with fail;go_ret;exact⟨M',rfl,H2.1,H2.2⟩
def iH (w:World) (I L:Nat) (j d:Int):Prop:=∃cs:Array Value,w.heap[I]? =some (.cells cs 194 (0,0))/\cs[1]? =some (.iface 286 (.pointer (some ⟨L,0,none⟩)))/\cs[2]? =some (.int .i64 j)/\cs[65]? =some (.int .i64 d)
theorem iH.lt (h:iH w I L j d):I<w.heap.size:=by
 obtain⟨cs,h1,_⟩:=h;rcases aV I w.heap.size with e|e
 ·exact e
 ·rw[aO e]at h1;cases h1
theorem iH.cells (h:iH w I L j d):w.cell? ⟨I,1,none⟩=some (.iface 286 (.pointer (some ⟨L,0,none⟩)))/\w.cell? ⟨I,2,none⟩=some (.int .i64 j)/\w.cell? ⟨I,65,none⟩=some (.int .i64 d)/\∀i,w.frozen? ⟨I,i,none⟩=false:=by obtain⟨cs,h1,h2,h3,h4⟩:=h;exact⟨cell_of h1 h2,cell_of h1 h3,cell_of h1 h4,λi=>el h1⟩
theorem iH.index (h:iH w I L j d) (x:Int):iH (w.setCell ⟨I,2,none⟩ (.int .i64 x)) I L x d:=by obtain⟨cs,h1,h2,h3,h4⟩:=h;have hs:2<cs.size:=(bc.1 h3).1;exact⟨_,dG h1 _,by simpa using h2,by simp[hs],by simpa using h4⟩
theorem iH.depth (h:iH w I L j d) (x:Int):iH (w.setCell ⟨I,65,none⟩ (.int .i64 x)) I L j x:=by obtain⟨cs,h1,h2,h3,h4⟩:=h;have hs:65<cs.size:=(bc.1 h4).1;exact⟨_,dG h1 _,by simpa using h2,by simpa using h3,by simp[hs]⟩
theorem iH.same (h:iH w I L j d) (e:w'.heap[I]? =w.heap[I]?):iH w' I L j d:=by obtain⟨cs,h1,h2⟩:=h;exact⟨cs,e.trans h1,h2⟩
def Bl (w':World) (I L j n:Nat):Prop:=if j+1<n then iH w' I L (j+1:Nat) 0 else∃x,iH w' I L x (-1)
theorem UY (v:Value) (w:World):(Instr.typeAssert (.iface 286 v) 187 363 true).run prog w=.ok (.tuple #[.pointer none,.bool false]) w:=by kernel_rfl
theorem Lc (v:Value) (w:World):(Instr.typeAssert (.iface 286 v) 187 286 true).run prog w=.ok (.tuple #[v,.bool true]) w:=by kernel_rfl
theorem f134 (I L:Nat) (j:Int) (w:World) (h:iH w I L j 0):Calls prog 134 #[.pointer (some ⟨I,0,none⟩)] w λe w'=>e=.returned (.tuple #[])/\iH w' I L 0 0/\ei (λb=>b=I) w w':=by
 obtain⟨c1,c2,c3,c4⟩:=h.cells;have H:=aa h;have t1:=UY (.pointer (some ⟨L,0,none⟩));have t2:=UX (.pointer (some ⟨L,0,none⟩));have Yn:=c4 2;clear h c4;go_enter func134,ntmps134;go_wp2_with fail;go_loopg [] 1 (λk wr=>k=1/\wr=w)
 case atStart=>exact⟨rfl,rfl⟩
 case round=>obtain⟨rfl,oG⟩:=hrel;replace oG:=oG.symm;subst oG;go_wp2_with fail;go_big_quiet (fail);have hd:=(below_drewN (ay w.heap.size w) nq);have d1:=dF hd _ _ c1;have hI:iH (w.drewN nq) I L j 0:=H.same rfl;obtain⟨e1,e2,e3,e4⟩:=hI.cells;have HI:=eo hI hd;have e42:=e4 2;clear hI hd e4;go_wp2_with fail;refine bodyPost_ret (results_none rfl _ _ _) rfl ?_;exact⟨rfl,HI.1.index 0,(ei.grown HI.2).store _ rfl⟩
theorem f133 (I L E c j:Nat) (l:List Int) (w:World) (h:iH w I L j 0) (hL:ky w L E l c) (hj:j<l.length) (XZ:L≠I):Calls prog 133 #[.pointer (some ⟨I,0,none⟩)] w λe w'=>e=.returned (.tuple #[])/\Bl w' I L j l.length/\ei (λb=>b=I) w w':=by
 obtain⟨n,hn⟩:=dS l.length;obtain⟨c1,c2,c3,c4⟩:=h.cells;have y0:w.cell? ⟨L,0,none⟩=some (.slice (some ⟨E,0,none⟩) n c):=by rw[hn];exact cell_of hL.head rfl
 have hnc:n<=1000:=by have:=hL.cap;have:=hL.small;omega
 rw[<-hn]at hj⊢;have H:=aa h;have t2:=Lc (.pointer (some ⟨L,0,none⟩));have Yn:=c4 2;have TF:=c4 65;have hwn:=gW ((n:Int)-1) (by omega);have hwj:=gW ((j:Int)+1) (by omega);clear h c4 hL hn;go_enter func133,ntmps133;go_wp2_with fail;go_loopg [] 2 (λk wr=>(k=2/\wr=w)\/(k=1/\¬(j:Int)<(n:Int)-1/\Hid (iH wr I L j (-1)/\ei (λb=>b=I) w wr)))
 case atStart=>exact .inl ⟨rfl,rfl⟩
 case round=>
  rcases hrel with⟨rfl,oG⟩|⟨rfl,gM,HI⟩
  ·replace oG:=oG.symm;subst oG;go_wp2_with fail;go_big_quiet (fail);obtain⟨q1,rfl⟩:=dS nq;have d1:=dF (below_drewN (ay w.heap.size w) q1) _ _ c1;have d2:=dF (below_drewN (ay w.heap.size w) q1) _ _ c2;have d0:=dF (below_drewN (ay w.heap.size w) q1) _ _ y0;go_wp2_with fail;have Kj:iH (w.drewN q1) I L j 0:=H.same rfl;have j7:ei (λb=>b=I) w (w.drewN q1):=ei.grown (below_drewN (ay w.heap.size w) q1);obtain⟨W1,gZ⟩:=dS (w.drewN q1);rw[<-gZ]at d1 d2 d0 Kj j7⊢;have H1:=eo Kj j7;clear Kj j7 gZ y0 c1 c2 c3 Yn TF;by_cases gM:(j:Int)<(n:Int)-1
   ·have hd:decide ((j:Int)<(n:Int)-1)=true:=decide_eq_true gM;go_big_quiet (fail);have ln:iH (W1.drewN nq) I L j 0:=H1.1.same rfl;have kb:ei (λb=>b=I) W1 (W1.drewN nq):=ei.grown (below_drewN (ay _ _) nq);have e2:=ln.cells.2.1;have e3:=ln.cells.2.2.2 2;have H2:=eo ln kb;clear ln kb;go_wp2_with fail;refine bodyPost_ret (results_none rfl _ _ _) rfl ?_;exact⟨rfl,by unfold Bl;rw[if_pos (by omega)];exact H2.1.index ((j:Int)+1),(H1.2.then H2.2).store _ rfl⟩
   ·have hd:decide ((j:Int)<(n:Int)-1)=false:=decide_eq_false gM;go_big_quiet (fail);have ln:iH (W1.drewN nq) I L j 0:=H1.1.same rfl;have kb:ei (λb=>b=I) W1 (W1.drewN nq):=ei.grown (below_drewN (ay _ _) nq);have e2:=ln.cells.2.2.1;have e3:=ln.cells.2.2.2 65;have H2:=eo ln kb;clear ln kb;go_wp2_with fail;go_roundg 1
    case measure=>omega
    case rel=>exact .inr ⟨rfl,gM,aa ⟨H2.1.depth (-1),(H1.2.then H2.2).store _ rfl⟩⟩
  ·have hI65:=HI.1.cells.2.2.1;go_wp2_with fail
   first|(go_end0;skip)|refine bodyPost_ret (results_none rfl _ _ _) rfl ?_
   exact⟨rfl,by unfold Bl;rw[if_neg (by omega)];exact⟨_,HI.1⟩,HI.2⟩
theorem f93 (I L E c j:Nat) (l:List Int) (k:Int) (w:World) (h:iH w I L j 0) (hL:ky w L E l c) (hj:l[j]? =some k) (XZ:L≠I) (hIE:E≠I):Calls prog 93 #[.pointer (some ⟨I,0,none⟩)] w λe w'=>e=.returned (.tuple #[.int .i64 (ik k),.int .i64 7,.bool true])/\Bl w' I L j l.length/\ei (λb=>b=I) w w':=by
 have mV:j<l.length:=(aB.1 hj).1;obtain⟨c1,c2,c3,c4⟩:=h.cells;have HC:=aa (f92 I 0 w c3);obtain⟨n,hn⟩:=dS l.length;have y0:w.cell? ⟨L,0,none⟩=some (.slice (some ⟨E,0,none⟩) n c):=by rw[hn];exact cell_of hL.head rfl
 obtain⟨y1,y2⟩:=hL.ir j k hj;have H:=sW h hL hn mV;have gM:(j:Int)<(n:Int):=by omega
 have BG:(0:Int)<=(j:Int):=by omega
 obtain⟨K,hK⟩:=dS (ik k);rw[<-hK]at y1⊢;rw[<-hn];have t3:=Lc (.pointer (some ⟨L,0,none⟩));clear h hL hn mV hj hK;go_enter func93,ntmps93;go_wp2_with fail;refine HC.mono ?_;rintro e w1 ⟨rfl,rfl⟩;go_wp2_with fail;go_big_quiet (fail);obtain⟨q1,rfl⟩:=dS nq;have hb:=below_drewN (ay w1.heap.size w1) q1;have d1:=dF hb _ _ c1;have d2:=dF hb _ _ c2;have d0:=dF hb _ _ y0;go_wp2_with fail;go_big_quiet (fail);obtain⟨q2,rfl⟩:=dS nq;have eT:=below_drewN hb q2;have g1:=dF eT _ _ y1;have g2:=dF eT _ _ y2;go_wp2_with fail;go_big_quiet (fail);have gQ:=below_drewN (ay w1.heap.size w1) (q1+q2+nq);have Fu:=f133 I L E c j l _ (H.1.same (w':=w1.drewN (q1+q2+nq)) rfl) (H.2.1.below gQ) H.2.2.2 XZ;rw[<-H.2.2.1]at Fu;have jx:=eo Fu gQ;clear Fu gQ hb eT;go_wp2_with fail;refine jx.1.mono ?_;rintro e w4 ⟨rfl,h1,h2⟩;have H4:=eo h1 h2;clear h1 h2;go_wp2_with fail
 go_ret3
 exact⟨rfl,H4.1,(ei.grown jx.2).then H4.2⟩
def qD (w:World) (I:Nat) (l:List Int):Prop:=(l=[]/\w.cell? ⟨I,65,none⟩=some (.int .i64 (-1)))\/(l≠[]/\∃L E c,ky w L E l c/\iH w I L 0 0/\L<I/\E<I)
theorem f94 (I M:Nat) (l:List Int) (cs:Array Value) (w0 w:World) (h:j9 w0 M l) (mQ:Below w0.heap.size w0 w) (X0:w0.heap.size<=I) (hI:w.heap[I]? =some (.cells cs 194 (0,0))) (gJ:cs.size=66) (h0:cs[0]? =some (.pointer (some ⟨M,0,none⟩))):Calls prog 94 #[.pointer (some ⟨I,0,none⟩)] w λe w'=>e=.returned (.tuple #[])/\qD w' I l/\ei (λb=>b=I) w w':=by
 have XY:I<w.heap.size:=by
  rcases aV I w.heap.size with e|e
  ·exact e
  ·rw[aO e]at hI;cases hI
 have c0:w.cell? ⟨I,0,none⟩=some (.pointer (some ⟨M,0,none⟩)):=cell_of hI h0;have c1:∃v,w.cell? ⟨I,1,none⟩=some v:=⟨_,cell_of hI (bW (by omega))⟩;have c2:∃v,w.cell? ⟨I,2,none⟩=some v:=⟨_,cell_of hI (bW (by omega))⟩;have Ym:∃v,w.cell? ⟨I,65,none⟩=some v:=⟨_,cell_of hI (bW (by omega))⟩;obtain⟨v1,c1⟩:=c1;obtain⟨v2,c2⟩:=c2;obtain⟨v65,Ym⟩:=Ym;have z65:=el (i:=65) hI;have z1:=el (i:=1) hI;have z2:=el (i:=2) hI;rcases h.body with⟨hl,hM⟩|⟨hl,L,E,c,q,hM,hL⟩
 ·have m1:w.cell? ⟨M,1,none⟩=some .nilIface:=dF mQ _ _ (cell_of hM rfl);have H:=jS hl hI gJ;clear hl hM h hI gJ mQ;go_enter func94,ntmps94;go_wp2_with fail;refine bodyPost_ret (results_none rfl _ _ _) rfl ?_;have hx:=dG H.2.1 (i:=65) (v:=.int .i64 (-1));exact⟨rfl,.inl ⟨H.1,cell_of hx (by have:=H.2.2;simp[this])⟩,ei.cell rfl⟩
 ·have m1:w.cell? ⟨M,1,none⟩=some (.iface 286 (.pointer (some ⟨L,0,none⟩))):=dF mQ _ _ (cell_of hM rfl);have f1:L<I:=ai hL.lt X0;have f2:E<I:=ai hL.gu X0;replace hL:=hL.below mQ;have H:=Fp hl hI gJ hL f1 f2;clear hl hM h hI hL f1 f2 gJ mQ;go_enter func94,ntmps94;go_wp2_with fail;refine dP (λw'=>w'=w.drew) [(true,0),(true,1),(true,2),(true,3),(true,4),(true,5),(true,6),(true,7),(true,8),(true,9),(true,10),(true,11)] (by kernel_rfl) (by kernel_rfl) rfl (λhHeld=> ?_);iterate 12
   refine dL (v:= ?_) rfl (λ_ _ _ h=>h) (by rfl) ?_ hHeld ?_;rotate_left
   ·rintro _ rfl;go_simp
    try with_reducible rfl
   simp only[Act.put,iX]
  refine dX rfl ?_;clear hHeld;go_upto_region 4 with fail
  have kY:=dG (dG (dG H.2.1 (i:=1) (v:=.iface 286 (.pointer (some ⟨L,0,none⟩)))) (i:=2) (v:=.int .i64 0)) (i:=65) (v:=.int .i64 0);have gP:ei (λb=>b=I) w (((w.setCell ⟨I,1,none⟩ (.iface 286 (.pointer (some ⟨L,0,none⟩)))).setCell ⟨I,2,none⟩ (.int .i64 0)).setCell ⟨I,65,none⟩ (.int .i64 0)).drew:=(((ei.cell (S:=λb=>b=I) rfl).store _ rfl).store _ rfl).then (ei.grown (by go_grown))
  have hit:iH (((w.setCell ⟨I,1,none⟩ (.iface 286 (.pointer (some ⟨L,0,none⟩)))).setCell ⟨I,2,none⟩ (.int .i64 0)).setCell ⟨I,65,none⟩ (.int .i64 0)).drew I L 0 0:=⟨_,kY,by simp[H.2.2.1],by simp[H.2.2.1],by simp[H.2.2.1]⟩;obtain⟨W3,kl⟩:=dS (((w.setCell ⟨I,1,none⟩ (.iface 286 (.pointer (some ⟨L,0,none⟩)))).setCell ⟨I,2,none⟩ (.int .i64 0)).setCell ⟨I,65,none⟩ (.int .i64 0)).drew;rw[<-kl]at gP hit⊢;have HC:=eo (f134 I L 0 W3 hit) gP;clear gP hit kY kl;go_wp2_with fail;refine HC.1.mono ?_;rintro e w4 ⟨rfl,h1,h2⟩;have H4:=eo h1 h2;clear h1 h2;go_wp2_with fail
  first|(go_end0;skip)|refine bodyPost_ret (results_none rfl _ _ _) rfl ?_
  have hc:=HC.2.then H4.2;have a1:=H.2.2.2.2.1;have a2:=H.2.2.2.2.2;exact⟨rfl,.inr ⟨H.1,L,E,c,H.2.2.2.1.fo hc (by omega) (by omega),H4.1,by omega,by omega⟩,hc⟩
theorem f40 (M:Nat) (l:List Int) (w:World) (h:j9 w M l):Calls prog 40 #[.pointer (some ⟨M,0,none⟩)] w λe w'=>e=.returned (.pointer (some ⟨w.heap.size,0,none⟩))/\qD w' w.heap.size l/\Below w.heap.size w w':=by
 have hz:(Tryz.zeroCells194.setIfInBounds 0 (Value.pointer (some ⟨M,0,none⟩))).size=66:=by rw[cT];kernel_rfl
 have gD:(Tryz.zeroCells194.setIfInBounds 0 (Value.pointer (some ⟨M,0,none⟩)))[0]? =some (.pointer (some ⟨M,0,none⟩)):=by rw[cn,if_pos rfl,if_pos (by rw[cT]at hz;omega)]
 have hC:=f94 w.heap.size M l (Tryz.zeroCells194.setIfInBounds 0 (.pointer (some ⟨M,0,none⟩))) w (w.alloc (.cells (Tryz.zeroCells194.setIfInBounds 0 (.pointer (some ⟨M,0,none⟩))) 194)) h (by go_grown) (af _) (heap_alloc_new _ _) hz gD;have jq:Below w.heap.size w (w.alloc (.cells (Tryz.zeroCells194.setIfInBounds 0 (.pointer (some ⟨M,0,none⟩))) 194)):=by go_grown
 have HC:=eo hC jq;clear hC jq hz gD h;go_enter func40,ntmps40;go_wp2_with fail;refine HC.1.mono ?_;rintro e w2 ⟨rfl,h1,h2⟩;have H2:=eo h1 h2;clear h1 h2;go_wp2_with fail;go_ret;exact⟨rfl,H2.1,HC.2.trans (H2.2.below HC.2.size λb e=>by rw[e];exact af _)⟩
def DI (w:World) (I j:Nat) (l:List Int):Prop:=(l.length<=j/\w.cell? ⟨I,65,none⟩=some (.int .i64 (-1)))\/(j<l.length/\∃L E c,ky w L E l c/\iH w I L j 0/\L<I/\E<I)
theorem qD.left (h:qD w I l):DI w I 0 l:=by
 rcases h with⟨rfl,h⟩|⟨h0,h⟩
 ·exact .inl ⟨af _,h⟩
 ·exact .inr ⟨bG.2 h0,h⟩
theorem DI.below {j:Nat} (h:DI w I j l) (hI:I<w.heap.size) (hb:Below w.heap.size w w'):DI w' I j l:=by
 rcases h with⟨h1,h2⟩|⟨h1,L,E,c,h2,h3,h4⟩
 ·exact .inl ⟨h1,dF hb _ _ h2⟩
 ·exact .inr ⟨h1,L,E,c,h2.below hb,h3.same (hb.block I hI),h4⟩
theorem Ab:∀a b,Of (a++b)=Of a++Of b
 | [],b=>rfl
 |k::a,b=>by simp only[aJ,Of,Ab a b]
theorem Tryz.YY:(prog.info? 66).map (λi=>(i.zero,i.size,i.bytes))=some (some (.agg #[.int .i64 0,.int .i64 0]),2,16):=by kernel_rfl
structure Told (W0 wr:World) (I O j:Nat) (sz:Int) (l:List Int):Prop where
 fo:ei (λb=>b=I\/b=O) W0 wr
 box:∃pv,wr.heap[O]? =some (.cells #[.int .i64 sz,pv] 64 (0,0))/\wr.ownsRow W0.heap.size 66 2 pv j (Of (l.take j))
 left:DI wr I j l
theorem f38 (I:Nat) (sz:Int) (l:List Int) (w:World) (h:qD w I l) (hI:I<w.heap.size) (hlen:l.length<=1000):Calls prog 38 #[.int .i64 sz,.pointer (some ⟨I,0,none⟩)] w λe w'=>∃pv B,e=.returned (.agg #[.int .i64 sz,pv])/\w.heap.size<=B/\w'.ownsRow B 66 2 pv l.length (Of l)/\ei (λb=>b=I) w w':=by
 obtain⟨i0,hi,gD,gB,gF⟩:=info_parts Tryz.YY;obtain⟨n,hn⟩:=dS l.length;rw[<-hn]at hlen⊢;have H:=jS h hI hn;have HZ:=sW hi gD gB gF;clear h hI hn hi gD gB gF;go_enter func38,ntmps38;go_wp2_with fail;have b1:=heap_alloc2_old w (.cells #[.int .i64 0,.slice none 0 0] 64) (.cells #[.int .i64 sz,.slice none 0 0] 64);have b2:=heap_alloc2_new w (.cells #[.int .i64 0,.slice none 0 0] 64) (.cells #[.int .i64 sz,.slice none 0 0] 64);obtain⟨W0,pV⟩:=dS ((w.alloc (.cells #[.int .i64 0,.slice none 0 0] 64)).alloc (.cells #[.int .i64 sz,.slice none 0 0] 64));have mQ:Below w.heap.size w W0:=by rw[pV];go_grown
 have qQ:W0.heap.size=w.heap.size+2:=by rw[pV,ab,ab]
 rw[<-pV]at b1 b2⊢;obtain⟨X,hX⟩:=dS w.heap.size;obtain⟨O,hO⟩:=dS (X+1);rw[<-hX]at b1 b2 qQ⊢;rw[<-hO]at b2⊢;have H0:=Fp b1 b2 mQ qQ hX hO;clear b1 b2 mQ qQ hX hO pV;go_loopg [] n (λk wr=>∃j:Nat,k=n-j/\j<=n/\Hid (Told W0 wr I O j sz l))
 case atStart=>exact⟨0,rfl,aU _,aa ⟨ei.refl _ _,⟨_,H0.2.1,⟨rfl,.inl ⟨rfl,rfl⟩⟩⟩,H.1.left.below H.2.1 H0.2.2.1⟩⟩
 case round=>
  obtain⟨j,rfl,hj,HJ⟩:=hrel;obtain⟨pv,jo,gO⟩:=HJ.box;obtain⟨a5,c5,Jn,_,_⟩:=d' gO;subst Jn;have SH:X≠I/\O≠I/\I<W0.heap.size/\X<W0.heap.size/\O<W0.heap.size/\X≠O:=by have:=H0.2.2.2;have:=H.2.1;omega
  by_cases gM:j<n
  ·obtain⟨L,E,c,hL,hit,XV,X4⟩:∃L E c,ky wr L E l c/\iH wr I L j 0/\L<I/\E<I:=by
    rcases HJ.left with⟨h1,_⟩|⟨_,h2⟩
    ·have:=H.2.2;omega
    ·exact h2
   obtain⟨k,hk⟩:∃k,l[j]? =some k:=⟨_,ah (by rw[<-H.2.2];exact gM)⟩;have Co:=aa (f92 I 0 wr hit.cells.2.2.1);have jx:=aa (f93 I L E c j l k wr hit hL hk (by omega) (by omega));have HL:=Ur hL hk XV X4 gO jo SH;clear hL hit hk XV X4 gO jo SH;go_wp2_with fail;refine Co.mono ?_;rintro e w1 ⟨rfl,rfl⟩;go_wp2_with fail;refine jx.mono ?_;rintro e w2 ⟨rfl,h1,h2⟩;have hsW:W0.heap.size<=w2.heap.size:=ao HJ.fo.size h2.size;have ZR:w2.heap[O]? =some (.cells #[.int .i64 sz,.slice a5 j c5] 64 (0,0)):=(h2.same O (ai HL.2.2.2.2.2.2.2.2.2.2.1 HJ.fo.size) HL.2.2.2.2.2.2.2.1).trans HL.2.2.2.2.2.1;have y1:w2.cell? ⟨O,1,none⟩=some (.slice a5 j c5):=cell_of ZR rfl;obtain⟨K,hK⟩:=dS (ik k);rw[<-hK];have Xu:(w2.alloc (.cells #[.int .i64 K,.int .i64 7] 66)).ownsRow W0.heap.size 66 2 (.slice a5 j c5) j (Of (l.take j)):=(by refine(dI HL.2.2.2.2.1 λg hg=> ?_).alloc _;have gT:=HL.2.2.2.2.1.lt g hg;exact h2.same g gT.2 (by have:=HL.2.2.2.2.2.2.2.2.1;omega));have H2:=Fp h1 h2 hK ZR hsW Xu;clear h1 h2 hK ZR hsW Xu;go_wp2_with (at_builtin;refine wpList_append_own _ rfl (.tmp 21) (.tmp 25) 62 rfl W0.heap.size 66 i0 (.agg #[.int .i64 0,.int .i64 0]) 2 16 underlying62 HZ.1 HZ.2.1 HZ.2.2.1 HZ.2.2.2 rfl (by decide) (.slice a5 j c5) j _ rfl H2.2.2.2.2.2 ⟨w2.heap.size,0,none⟩ 1 1 [.int .i64 K,.int .i64 7] rfl rfl ?c1 ?c2 ?c3 ?c4 ?c5 ?c6)
   case c1=>exact World.news_of_block (heap_alloc_new w2 _)
   case c2=>intro v hv;simp only[az,ba,or_false]at hv;rcases hv with rfl|rfl<;>rfl
   case c3=>unfold maxLen;omega
   case c4=>omega
   case c5=>rw[ab];have:=H2.2.2.2.2.1;omega
   case c6=>
    intro v' w5 ho hg _;obtain⟨a6,c6,J0,_,_⟩:=d' ho;subst J0;obtain⟨q1,q2,q3,q4,q5⟩:=hg;have gE:∀b,b<w2.heap.size->b<W0.heap.size->w5.heap[b]? =w2.heap[b]? :=λb hb mQ=>
     (q5 b (by rw[ab];omega) λe=>by have:=(HL.2.2.2.2.1.lt b e.symm).1;omega).trans (heap_alloc_old _ _ hb)
    have ln:I<w2.heap.size:=ai HL.2.2.2.2.2.2.2.2.1 H2.2.2.2.2.1;have hO2:O<w2.heap.size:=ai HL.2.2.2.2.2.2.2.2.2.2.1 H2.2.2.2.2.1;have V0:=(gE O hO2 HL.2.2.2.2.2.2.2.2.2.2.1).trans H2.2.2.2.1;have y5:w5.cell? ⟨O,1,none⟩=some (.slice a5 j c5):=cell_of V0 rfl;have y6:=el (i:=1) V0;have hbx6:(w5.setCell ⟨O,1,none⟩ (.slice a6 (j+1) c6)).heap[O]? =some (.cells #[.int .i64 sz,.slice a6 (j+1) c6] 64 (0,0)):=by rw[dG V0];rfl
    have BZ:ei (λb=>b=O) w5 (w5.setCell ⟨O,1,none⟩ (.slice a6 (j+1) c6)):=ei.cell rfl;have gP:ei (λb=>b=I\/b=O) W0 (w5.setCell ⟨O,1,none⟩ (.slice a6 (j+1) c6)):=by have Ql:ei (λb=>b=I\/b=O) W0 w2:=HJ.fo.trans H2.2.1 (λ_ _ h=>h) (λ_ _ h=>.inl h);refine ei.trans ⟨q1.trans Ql.os,q2.trans Ql.tape,q3.trans Ql.output,ao Ql.size (by rw[ab]at q4;omega),λb hb hn=>(gE b (ai hb Ql.size) hb).trans (Ql.same b hb hn)⟩ BZ (λ_ _ h=>h) (λ_ _ h=>.inr h)
    have xS:DI (w5.setCell ⟨O,1,none⟩ (.slice a6 (j+1) c6)) I (j+1) l:=by
     have Dp:=H2.1;unfold Bl at Dp;have Sz:(w5.setCell ⟨O,1,none⟩ (.slice a6 (j+1) c6)).heap[I]? =w2.heap[I]? :=(BZ.same I (by rw[ab]at q4;omega) (cE HL.2.2.2.2.2.2.2.1)).trans (gE I ln HL.2.2.2.2.2.2.2.2.1);split at Dp
     ·rename_i eR;have Qc:ky w2 L E l c:=HL.1.fo H2.2.1 (by have:=HL.2.2.1;omega) (by have:=HL.2.2.2.1;omega);have hLE:∀b,b<I->(w5.setCell ⟨O,1,none⟩ (.slice a6 (j+1) c6)).heap[b]? =w2.heap[b]? :=λb hb=>(BZ.same b (by rw[ab]at q4;omega) (by have:=H0.2.2.2;have:=H.2.1;omega)).trans (gE b (by omega) (by have:=HL.2.2.2.2.2.2.2.2.1;omega));have SK:=hLE E HL.2.2.2.1;exact .inr ⟨eR,L,E,c,⟨(hLE L HL.2.2.1).trans Qc.head,λi kk tG=>⟨(aF SK).trans (Qc.ir i kk tG).1,(aF SK).trans (Qc.ir i kk tG).2⟩,Qc.cap,Qc.small,ai Qc.gu (by rw[aK];rw[ab]at q4;omega)⟩,Dp.same Sz,HL.2.2.1,HL.2.2.2.1⟩
     ·rename_i eR;obtain⟨x,hx⟩:=Dp;exact .inl ⟨by omega,(hx.same Sz).cells.2.2.1⟩
    have mC:(w5.setCell ⟨O,1,none⟩ (.slice a6 (j+1) c6)).ownsRow W0.heap.size 66 2 (.slice a6 (j+1) c6) (j+1) (Of (l.take j)++[.int .i64 K,.int .i64 7]):=dI ho λg hg=>BZ.same g (ho.lt g hg).2 (by have:=(ho.lt g hg).1;have:=HL.2.2.2.2.2.2.2.2.2.2.1;omega);have HO:=sW mC gP xS hbx6;clear ho gP xS q1 q2 q3 q4 q5 gE ln hO2 V0 hbx6 BZ mC;go_wp2_with fail;go_roundg (n- (j+1))
    case measure=>omega
    case rel=>exact⟨j+1,rfl,by omega,aa ⟨HO.2.1,⟨_,HO.2.2.2,by have h1:=HO.1;rw[H2.2.2.1]at h1;rw[ca,HL.2.1,Ab];exact h1⟩,HO.2.2.1⟩⟩
  ·have iT:wr.cell? ⟨I,65,none⟩=some (.int .i64 (-1)):=by
    rcases HJ.left with⟨_,h1⟩|⟨h1,_⟩
    ·exact h1
    ·have:=H.2.2;omega
   have Co:=aa (f92 I (-1) wr iT);have AB:j=n:=by omega
   subst AB;have b0:wr.cell? ⟨O,0,none⟩=some (.int .i64 sz):=cell_of jo rfl;have b1:wr.cell? ⟨O,1,none⟩=some (.slice a5 j c5):=cell_of jo rfl;have Fq:wr.heap[X]? =some (.cells #[.int .i64 0,.slice none 0 0] 64 (0,0)):=(HJ.fo.same X SH.2.2.2.1 (by rintro(e|e)<;>omega)).trans H0.1;have z0:wr.cell? ⟨X,0,none⟩=some (.int .i64 0):=cell_of Fq rfl;have z1:wr.cell? ⟨X,1,none⟩=some (.slice none 0 0):=cell_of Fq rfl;have f0:=el (i:=0) Fq;have f1:=el (i:=1) Fq;have qI:((wr.setCell ⟨X,0,none⟩ (.int .i64 sz)).setCell ⟨X,1,none⟩ (.slice a5 j c5)).heap[X]? =some (.cells #[.int .i64 sz,.slice a5 j c5] 64 (0,0)):=(by rw[dG (dG Fq _)];rfl);have nH:ei (λb=>b=X) wr ((wr.setCell ⟨X,0,none⟩ (.int .i64 sz)).setCell ⟨X,1,none⟩ (.slice a5 j c5)):=(ei.cell (S:=λb=>b=X) rfl).store _ rfl;have HE:=sW qI nH gO SH;clear iT Fq qI nH gO jo SH;go_wp2_with fail;refine Co.mono ?_;rintro e w1 ⟨rfl,rfl⟩;go_wp2_with fail;refine bodyPost_ret (results_cell_row rfl _ _ _ _ _ _ _ rfl HE.1 underlying64 rfl (by kernel_rfl)) rfl ?_;refine⟨_,W0.heap.size,rfl,H0.2.2.1.size,?_,?_⟩
   ·have h2:=HE.2.2.1;rw[aP (by rw[H.2.2];exact af _)]at h2;exact dI h2 λg hg=>HE.2.1.same g (h2.lt g hg).2 (by have:=(h2.lt g hg).1;have:=HE.2.2.2.2.2.2.1;omega)
   ·have hw:=(ei.grown (S:=λb=>b=I\/b=O) H0.2.2.1).trans HJ.fo (λ_ _ h=>h) (λ_ _ h=>h);refine(hw.trans HE.2.1 (U:=λb=>b=I) (λb hb h=> ?_) (λb hb h=> ?_))
    ·rcases h with h|h
     ·exact h
     ·have:=H0.2.2.2;omega
    ·have:=H0.2.2.2;omega
end Go.Proofs.YtfejflhgaphilaaGreatDoor
