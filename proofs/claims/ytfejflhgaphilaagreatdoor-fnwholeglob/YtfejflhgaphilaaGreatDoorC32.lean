/- The sorted map with numbers: its iterator. -/
import Derived.Test.YtfejflhgaphilaaGreatDoorC30
import Derived.Test.YtfejflhgaphilaaGreatDoorC31
set_option linter.all false
set_option maxRecDepth 100000
set_option maxHeartbeats 64000000
open Go.Proofs.Tryz
namespace Go.Proofs.YtfejflhgaphilaaGreatDoor
open Go.RowKit Gm
variable {w w':World} {I L:Nat} {j d:Int} {l:List Int}
def iI (w:World) (I L:Nat) (j d:Int):Prop:=∃cs:Array Value,w.heap[I]? =some (.cells cs 226 (0,0))/\cs[1]? =some (.iface 228 (.pointer (some ⟨L,0,none⟩)))/\cs[2]? =some (.int .i64 j)/\cs[65]? =some (.int .i64 d)
theorem iI.lt (h:iI w I L j d):I<w.heap.size:=by
 obtain⟨cs,h1,_⟩:=h;rcases aV I w.heap.size with e|e
 ·exact e
 ·rw[aO e]at h1;cases h1
theorem iI.cells (h:iI w I L j d):w.cell? ⟨I,1,none⟩=some (.iface 228 (.pointer (some ⟨L,0,none⟩)))/\w.cell? ⟨I,2,none⟩=some (.int .i64 j)/\w.cell? ⟨I,65,none⟩=some (.int .i64 d)/\∀i,w.frozen? ⟨I,i,none⟩=false:=by obtain⟨cs,h1,h2,h3,h4⟩:=h;exact⟨cell_of h1 h2,cell_of h1 h3,cell_of h1 h4,λi=>el h1⟩
theorem iI.index (h:iI w I L j d) (x:Int):iI (w.setCell ⟨I,2,none⟩ (.int .i64 x)) I L x d:=by obtain⟨cs,h1,h2,h3,h4⟩:=h;have hs:2<cs.size:=(bc.1 h3).1;exact⟨_,dG h1 _,by simpa using h2,by simp[hs],by simpa using h4⟩
theorem iI.depth (h:iI w I L j d) (x:Int):iI (w.setCell ⟨I,65,none⟩ (.int .i64 x)) I L j x:=by obtain⟨cs,h1,h2,h3,h4⟩:=h;have hs:65<cs.size:=(bc.1 h4).1;exact⟨_,dG h1 _,by simpa using h2,by simpa using h3,by simp[hs]⟩
theorem iI.same (h:iI w I L j d) (e:w'.heap[I]? =w.heap[I]?):iI w' I L j d:=by obtain⟨cs,h1,h2⟩:=h;exact⟨cs,e.trans h1,h2⟩
def Bm (w':World) (I L j n:Nat):Prop:=if j+1<n then iI w' I L (j+1:Nat) 0 else∃x,iI w' I L x (-1)
theorem UZ (v:Value) (w:World):(Instr.typeAssert (.iface 228 v) 216 316 true).run prog w=.ok (.tuple #[.pointer none,.bool false]) w:=by kernel_rfl
theorem Ld (v:Value) (w:World):(Instr.typeAssert (.iface 228 v) 216 228 true).run prog w=.ok (.tuple #[v,.bool true]) w:=by kernel_rfl
theorem QB (v:Value) (w:World):(Instr.typeAssert (.iface 228 v) 216 228 false).run prog w=.ok v w:=by kernel_rfl
theorem f148 (I L:Nat) (j:Int) (w:World) (h:iI w I L j 0):Calls prog 148 #[.pointer (some ⟨I,0,none⟩)] w λe w'=>e=.returned (.tuple #[])/\iI w' I L 0 0/\ei (λb=>b=I) w w':=by
 obtain⟨c1,c2,c3,c4⟩:=h.cells;have H:=aa h;have t1:=UZ (.pointer (some ⟨L,0,none⟩));have t2:=Ld (.pointer (some ⟨L,0,none⟩));have Yn:=c4 2;clear h c4;go_enter func148,ntmps148;go_wp2_with fail;go_loopg [] 1 (λk wr=>k=1/\wr=w)
 case atStart=>exact⟨rfl,rfl⟩
 case round=>
  obtain⟨rfl,oG⟩:=hrel;replace oG:=oG.symm;subst oG;go_wp2_with fail;go_big_quiet (fail);have hd:=(below_drewN (ay w.heap.size w) nq);have d1:=dF hd _ _ c1;have hI:iI (w.drewN nq) I L j 0:=H.same rfl;obtain⟨e1,e2,e3,e4⟩:=hI.cells;have HI:=eo hI hd;have e42:=e4 2;have ln:=hI.index 0;obtain⟨W2,lz⟩:=dS ((w.drewN nq).setCell ⟨I,2,none⟩ (.int .i64 0));have f1:W2.cell? ⟨I,1,none⟩=some (.iface 228 (.pointer (some ⟨L,0,none⟩))):=by rw[lz];exact ln.cells.1
  clear hI hd e4 ln;go_upto_region 2 with fail
  rw[<-lz];have yl:=aa lz;clear lz;go_wp2_with fail;refine bodyPost_ret (results_none rfl _ _ _) rfl ?_;rw[yl.out];exact⟨rfl,HI.1.index 0,(ei.grown HI.2).store _ rfl⟩
theorem f147 (I L E c j:Nat) (l:List Int) (w:World) (h:iI w I L j 0) (hL:kf w L E l c) (hj:j<l.length) (XZ:L≠I):Calls prog 147 #[.pointer (some ⟨I,0,none⟩)] w λe w'=>e=.returned (.tuple #[])/\Bm w' I L j l.length/\ei (λb=>b=I) w w':=by
 obtain⟨n,hn⟩:=dS l.length;obtain⟨c1,c2,c3,c4⟩:=h.cells;have y0:w.cell? ⟨L,0,none⟩=some (.slice (some ⟨E,0,none⟩) n c):=by rw[hn];exact cell_of hL.head rfl
 have hnc:n<=1000:=by have:=hL.cap;have:=hL.small;omega
 rw[<-hn]at hj⊢;have H:=aa h;have t2:=Ld (.pointer (some ⟨L,0,none⟩));have Yn:=c4 2;have TF:=c4 65;have hwn:=gW ((n:Int)-1) (by omega);have hwj:=gW ((j:Int)+1) (by omega);clear h c4 hL hn;go_enter func147,ntmps147;go_wp2_with fail;go_loopg [] 2 (λk wr=>(k=2/\wr=w)\/(k=1/\¬(j:Int)<(n:Int)-1/\Hid (iI wr I L j (-1)/\ei (λb=>b=I) w wr)))
 case atStart=>exact .inl ⟨rfl,rfl⟩
 case round=>
  rcases hrel with⟨rfl,oG⟩|⟨rfl,gM,HI⟩
  ·replace oG:=oG.symm;subst oG;go_wp2_with fail;go_big_quiet (fail);obtain⟨q1,rfl⟩:=dS nq;have d1:=dF (below_drewN (ay w.heap.size w) q1) _ _ c1;have d2:=dF (below_drewN (ay w.heap.size w) q1) _ _ c2;have d0:=dF (below_drewN (ay w.heap.size w) q1) _ _ y0;go_wp2_with fail;have Kj:iI (w.drewN q1) I L j 0:=H.same rfl;have j7:ei (λb=>b=I) w (w.drewN q1):=ei.grown (below_drewN (ay w.heap.size w) q1);obtain⟨W1,gZ⟩:=dS (w.drewN q1);rw[<-gZ]at d1 d2 d0 Kj j7⊢;have H1:=eo Kj j7;clear Kj j7 gZ y0 c1 c2 c3 Yn TF;by_cases gM:(j:Int)<(n:Int)-1
   ·have hd:decide ((j:Int)<(n:Int)-1)=true:=decide_eq_true gM;go_big_quiet (fail);have ln:iI (W1.drewN nq) I L j 0:=H1.1.same rfl;have kb:ei (λb=>b=I) W1 (W1.drewN nq):=ei.grown (below_drewN (ay _ _) nq);have e2:=ln.cells.2.1;have e3:=ln.cells.2.2.2 2;have H2:=eo ln kb;clear ln kb;go_wp2_with fail;refine bodyPost_ret (results_none rfl _ _ _) rfl ?_;exact⟨rfl,by unfold Bm;rw[if_pos (by omega)];exact H2.1.index ((j:Int)+1),(H1.2.then H2.2).store _ rfl⟩
   ·have hd:decide ((j:Int)<(n:Int)-1)=false:=decide_eq_false gM;go_big_quiet (fail);have ln:iI (W1.drewN nq) I L j 0:=H1.1.same rfl;have kb:ei (λb=>b=I) W1 (W1.drewN nq):=ei.grown (below_drewN (ay _ _) nq);have e2:=ln.cells.2.2.1;have e3:=ln.cells.2.2.2 65;have H2:=eo ln kb;clear ln kb;go_wp2_with fail;go_roundg 1
    case measure=>omega
    case rel=>exact .inr ⟨rfl,gM,aa ⟨H2.1.depth (-1),(H1.2.then H2.2).store _ rfl⟩⟩
  ·have hI65:=HI.1.cells.2.2.1;go_wp2_with fail
   first|(go_end0;skip)|refine bodyPost_ret (results_none rfl _ _ _) rfl ?_
   exact⟨rfl,by unfold Bm;rw[if_neg (by omega)];exact⟨_,HI.1⟩,HI.2⟩
theorem f104 (I L E c j:Nat) (l:List Int) (k:Int) (w:World) (h:iI w I L j 0) (hL:kf w L E l c) (hj:l[j]? =some k) (XZ:L≠I) (hIE:E≠I):Calls prog 104 #[.pointer (some ⟨I,0,none⟩)] w λe w'=>e=.returned (.tuple #[.int .i64 (ik k),.int .i64 7,.bool true])/\Bm w' I L j l.length/\ei (λb=>b=I) w w':=by
 have mV:j<l.length:=(aB.1 hj).1;obtain⟨c1,c2,c3,c4⟩:=h.cells;have HC:=aa (f65 I 0 w c3);obtain⟨n,hn⟩:=dS l.length;have y0:w.cell? ⟨L,0,none⟩=some (.slice (some ⟨E,0,none⟩) n c):=by rw[hn];exact cell_of hL.head rfl
 obtain⟨y1,y2⟩:=hL.ir j k hj;have H:=sW h hL hn mV;have gM:(j:Int)<(n:Int):=by omega
 have BG:(0:Int)<=(j:Int):=by omega
 obtain⟨K,hK⟩:=dS (ik k);rw[<-hK]at y1⊢;rw[<-hn];have t3:=QB (.pointer (some ⟨L,0,none⟩));clear h hL hn mV hj hK;go_enter func104,ntmps104;go_wp2_with fail;refine HC.mono ?_;rintro e w1 ⟨rfl,rfl⟩;go_wp2_with fail;go_big_quiet (fail);obtain⟨q1,rfl⟩:=dS nq;have hb:=below_drewN (ay w1.heap.size w1) q1;have d1:=dF hb _ _ c1;have d2:=dF hb _ _ c2;have d0:=dF hb _ _ y0;go_wp2_with fail;go_big_quiet (fail);obtain⟨q2,rfl⟩:=dS nq;have eT:=below_drewN hb q2;have g1:=dF eT _ _ y1;have g2:=dF eT _ _ y2;go_wp2_with fail;go_big_quiet (fail);have gQ:=below_drewN (ay w1.heap.size w1) (q1+q2+nq);have Fu:=f147 I L E c j l _ (H.1.same (w':=w1.drewN (q1+q2+nq)) rfl) (H.2.1.below gQ) H.2.2.2 XZ;rw[<-H.2.2.1]at Fu;have jx:=eo Fu gQ;clear Fu gQ hb eT;go_wp2_with fail;refine jx.1.mono ?_;rintro e w4 ⟨rfl,h1,h2⟩;have H4:=eo h1 h2;clear h1 h2;go_wp2_with fail
 go_ret3
 exact⟨rfl,H4.1,(ei.grown jx.2).then H4.2⟩
def vw (w:World) (I:Nat) (l:List Int):Prop:=(l=[]/\w.cell? ⟨I,65,none⟩=some (.int .i64 (-1)))\/(l≠[]/\∃L E c,kf w L E l c/\iI w I L 0 0/\L<I/\E<I)
theorem f105 (I M:Nat) (l:List Int) (cs:Array Value) (w0 w:World) (h:kW w0 M l) (mQ:Below w0.heap.size w0 w) (X0:w0.heap.size<=I) (hI:w.heap[I]? =some (.cells cs 226 (0,0))) (gJ:cs.size=66) (h0:cs[0]? =some (.pointer (some ⟨M,0,none⟩))):Calls prog 105 #[.pointer (some ⟨I,0,none⟩)] w λe w'=>e=.returned (.tuple #[])/\vw w' I l/\ei (λb=>b=I) w w':=by
 have XY:I<w.heap.size:=by
  rcases aV I w.heap.size with e|e
  ·exact e
  ·rw[aO e]at hI;cases hI
 have c0:w.cell? ⟨I,0,none⟩=some (.pointer (some ⟨M,0,none⟩)):=cell_of hI h0;have c1:∃v,w.cell? ⟨I,1,none⟩=some v:=⟨_,cell_of hI (bW (by omega))⟩;have c2:∃v,w.cell? ⟨I,2,none⟩=some v:=⟨_,cell_of hI (bW (by omega))⟩;have Ym:∃v,w.cell? ⟨I,65,none⟩=some v:=⟨_,cell_of hI (bW (by omega))⟩;obtain⟨v1,c1⟩:=c1;obtain⟨v2,c2⟩:=c2;obtain⟨v65,Ym⟩:=Ym;have z65:=el (i:=65) hI;have z1:=el (i:=1) hI;have z2:=el (i:=2) hI;rcases h.body with⟨hl,hM⟩|⟨hl,L,E,c,q,hM,hL⟩
 ·have m1:w.cell? ⟨M,1,none⟩=some .nilIface:=dF mQ _ _ (cell_of hM rfl);have H:=jS hl hI gJ;clear hl hM h hI gJ mQ;go_enter func105,ntmps105;go_wp2_with fail;refine bodyPost_ret (results_none rfl _ _ _) rfl ?_;have hx:=dG H.2.1 (i:=65) (v:=.int .i64 (-1));exact⟨rfl,.inl ⟨H.1,cell_of hx (by have:=H.2.2;simp[this])⟩,ei.cell rfl⟩
 ·have m1:w.cell? ⟨M,1,none⟩=some (.iface 228 (.pointer (some ⟨L,0,none⟩))):=dF mQ _ _ (cell_of hM rfl);have f1:L<I:=ai hL.lt X0;have f2:E<I:=ai hL.gu X0;replace hL:=hL.below mQ;have H:=Fp hl hI gJ hL f1 f2;clear hl hM h hI hL f1 f2 gJ mQ;go_enter func105,ntmps105;go_wp2_with fail;refine dP (λw'=>w'=w.drew) [(true,0),(true,1),(true,2),(true,3),(true,4),(true,5),(true,6),(true,7),(true,8),(true,9),(true,10),(true,11)] (by kernel_rfl) (by kernel_rfl) rfl (λhHeld=> ?_);iterate 12
   refine dL (v:= ?_) rfl (λ_ _ _ h=>h) (by rfl) ?_ hHeld ?_;rotate_left
   ·rintro _ rfl;go_simp
    try with_reducible rfl
   simp only[Act.put,iX]
  refine dX rfl ?_;clear hHeld;go_upto_region 4 with fail
  have kY:=dG (dG (dG H.2.1 (i:=1) (v:=.iface 228 (.pointer (some ⟨L,0,none⟩)))) (i:=2) (v:=.int .i64 0)) (i:=65) (v:=.int .i64 0);have gP:ei (λb=>b=I) w (((w.setCell ⟨I,1,none⟩ (.iface 228 (.pointer (some ⟨L,0,none⟩)))).setCell ⟨I,2,none⟩ (.int .i64 0)).setCell ⟨I,65,none⟩ (.int .i64 0)).drew:=(((ei.cell (S:=λb=>b=I) rfl).store _ rfl).store _ rfl).then (ei.grown (by go_grown))
  have hit:iI (((w.setCell ⟨I,1,none⟩ (.iface 228 (.pointer (some ⟨L,0,none⟩)))).setCell ⟨I,2,none⟩ (.int .i64 0)).setCell ⟨I,65,none⟩ (.int .i64 0)).drew I L 0 0:=⟨_,kY,by simp[H.2.2.1],by simp[H.2.2.1],by simp[H.2.2.1]⟩;obtain⟨W3,kl⟩:=dS (((w.setCell ⟨I,1,none⟩ (.iface 228 (.pointer (some ⟨L,0,none⟩)))).setCell ⟨I,2,none⟩ (.int .i64 0)).setCell ⟨I,65,none⟩ (.int .i64 0)).drew;rw[<-kl]at gP hit⊢;have HC:=eo (f148 I L 0 W3 hit) gP;clear gP hit kY kl;go_wp2_with fail;refine HC.1.mono ?_;rintro e w4 ⟨rfl,h1,h2⟩;have H4:=eo h1 h2;clear h1 h2;go_wp2_with fail
  first|(go_end0;skip)|refine bodyPost_ret (results_none rfl _ _ _) rfl ?_
  have hc:=HC.2.then H4.2;have a1:=H.2.2.2.2.1;have a2:=H.2.2.2.2.2;exact⟨rfl,.inr ⟨H.1,L,E,c,H.2.2.2.1.fo hc (by omega) (by omega),H4.1,by omega,by omega⟩,hc⟩
theorem f62 (M:Nat) (l:List Int) (w:World) (h:kW w M l):Calls prog 62 #[.pointer (some ⟨M,0,none⟩)] w λe w'=>e=.returned (.pointer (some ⟨w.heap.size,0,none⟩))/\vw w' w.heap.size l/\Below w.heap.size w w':=by
 have hz:(Tryz.zeroCells226.setIfInBounds 0 (Value.pointer (some ⟨M,0,none⟩))).size=66:=by rw[cT];kernel_rfl
 have gD:(Tryz.zeroCells226.setIfInBounds 0 (Value.pointer (some ⟨M,0,none⟩)))[0]? =some (.pointer (some ⟨M,0,none⟩)):=by rw[cn,if_pos rfl,if_pos (by rw[cT]at hz;omega)]
 have hC:=f105 w.heap.size M l (Tryz.zeroCells226.setIfInBounds 0 (.pointer (some ⟨M,0,none⟩))) w (w.alloc (.cells (Tryz.zeroCells226.setIfInBounds 0 (.pointer (some ⟨M,0,none⟩))) 226)) h (by go_grown) (af _) (heap_alloc_new _ _) hz gD;have jq:Below w.heap.size w (w.alloc (.cells (Tryz.zeroCells226.setIfInBounds 0 (.pointer (some ⟨M,0,none⟩))) 226)):=by go_grown
 have HC:=eo hC jq;clear hC jq hz gD h;go_enter func62,ntmps62;go_wp2_with fail;refine HC.1.mono ?_;rintro e w2 ⟨rfl,h1,h2⟩;have H2:=eo h1 h2;clear h1 h2;go_wp2_with fail;go_ret;exact⟨rfl,H2.1,HC.2.trans (H2.2.below HC.2.size λb e=>by rw[e];exact af _)⟩
def QQ:List Int->List Value
 | []=>[]
 |k::l=>.int .i64 (ik k):: .string ⟨#[]⟩:: .int .i64 7::QQ l
theorem zN:∀a b,QQ (a++b)=QQ a++QQ b
 | [],b=>rfl
 |k::a,b=>by simp only[aJ,QQ,zN a b]
def DJ (w:World) (I j:Nat) (l:List Int):Prop:=(l.length<=j/\w.cell? ⟨I,65,none⟩=some (.int .i64 (-1)))\/(j<l.length/\∃L E c,kf w L E l c/\iI w I L j 0/\L<I/\E<I)
theorem vw.left (h:vw w I l):DJ w I 0 l:=by
 rcases h with⟨rfl,h⟩|⟨h0,h⟩
 ·exact .inl ⟨af _,h⟩
 ·exact .inr ⟨bG.2 h0,h⟩
theorem DJ.below {j:Nat} (h:DJ w I j l) (hI:I<w.heap.size) (hb:Below w.heap.size w w'):DJ w' I j l:=by
 rcases h with⟨h1,h2⟩|⟨h1,L,E,c,h2,h3,h4⟩
 ·exact .inl ⟨h1,dF hb _ _ h2⟩
 ·exact .inr ⟨h1,L,E,c,h2.below hb,h3.same (hb.block I hI),h4⟩
theorem f61 (I:Nat) (l:List Int) (w:World) (h:vw w I l) (hI:I<w.heap.size) (hlen:l.length<=1000):Calls prog 61 #[.agg #[.func (.func 67) #[] #[],.func (.func 68) #[] #[],.func (.func 69) #[] #[]],.pointer (some ⟨I,0,none⟩)] w λe w'=>∃v B,e=.returned v/\w.heap.size<=B/\w'.ownsRow B 39 3 v l.length (QQ l)/\ei (λb=>b=I) w w':=by
 obtain⟨i0,hi,gD,gB,gF⟩:=info_parts Tryz.Rx;obtain⟨n,hn⟩:=dS l.length;rw[<-hn]at hlen⊢;have H:=jS h hI hn;have HZ:=sW hi gD gB gF;clear h hI hn hi gD gB gF;go_enter func61,ntmps61;go_wp2_with fail;obtain⟨W0,pV⟩:=dS (w.alloc (.cells #[.func (.func 67) #[] #[],.func (.func 68) #[] #[],.func (.func 69) #[] #[]] 83));have Fq:W0.heap[w.heap.size]? =some (.cells #[.func (.func 67) #[] #[],.func (.func 68) #[] #[],.func (.func 69) #[] #[]] 83):=by rw[pV];exact heap_alloc_new _ _
 have mQ:Below w.heap.size w W0:=by rw[pV];go_grown
 have qQ:W0.heap.size=w.heap.size+1:=by rw[pV,ab]
 rw[<-pV];have H0:=jS Fq mQ qQ;clear Fq mQ qQ pV;obtain⟨X,hX⟩:=dS w.heap.size;rw[<-hX]at H0⊢;have TU:=aa hX;clear hX;go_loopg [5] n (λk s5 wr=>∃j:Nat,k=n-j/\j<=n/\Hid (ei (λb=>b=I) W0 wr/\wr.ownsRow W0.heap.size 39 3 s5 j (QQ (l.take j))/\DJ wr I j l))
 case atStart=>exact⟨0,rfl,aU _,aa ⟨ei.refl _ _,⟨rfl,.inl ⟨rfl,rfl⟩⟩,H.1.left.below H.2.1 (by have:=H0.out;rw[TU.out]at this;exact this.2.1)⟩⟩
 case round=>
  obtain⟨j,rfl,hj,HJ⟩:=hrel;by_cases gM:j<n
  ·obtain⟨L,E,c,hL,hit,XV,X4⟩:∃L E c,kf wr L E l c/\iI wr I L j 0/\L<I/\E<I:=by
    rcases HJ.2.2 with⟨h1,_⟩|⟨_,h2⟩
    ·have:=H.2.2;omega
    ·exact h2
   obtain⟨k,hk⟩:∃k,l[j]? =some k:=⟨_,ah (by rw[<-H.2.2];exact gM)⟩;have Co:=aa (f65 I 0 wr hit.cells.2.2.1);have jx:=aa (f104 I L E c j l k wr hit hL hk (by omega) (by omega));have hIw:I<W0.heap.size:=ai H.2.1 (by have:=H0.2.2;have:=TU.out;omega);have SH:X≠I:=(by have:=H.2.1;have:=TU.out;omega);have HL:=Fp hL hk XV X4 hIw SH;obtain⟨a5,c5,Jn,_,_⟩:=d' HJ.2.1;subst Jn;clear hL hit hk XV X4 hIw SH;go_wp2_with fail;refine Co.mono ?_;rintro e w1 ⟨rfl,rfl⟩;go_wp2_with fail;refine jx.mono ?_;rintro e w2 ⟨rfl,h1,h2⟩;have qI:w2.heap[X]? =some (.cells #[.func (.func 67) #[] #[],.func (.func 68) #[] #[],.func (.func 69) #[] #[]] 83):=((HJ.1.then h2).same X (by have:=H0.2.2;omega) HL.2.2.2.2.2).trans H0.1;have y2:w2.cell? ⟨X,2,none⟩=some (.func (.func 69) #[] #[]):=cell_of qI rfl;have qC:=aa (f69 (ik k) 7 w2);obtain⟨K,hK⟩:=dS (ik k);rw[<-hK]at qC⊢;have H2:=jS h1 h2 hK;clear h1 h2 qI hK;go_wp2_with fail;refine qC.mono ?_;rintro e w3 ⟨rfl,gQ⟩;have H3:=aa gQ;clear gQ;have gO:(w3.alloc (.cells #[.int .i64 K,.string ⟨#[]⟩,.int .i64 7] 39)).ownsRow W0.heap.size 39 3 (.slice a5 j c5) j (QQ (l.take j)):=by have eR:=HJ.2.1.lt;refine(dI HJ.2.1 λg hg=> ?_).alloc _;have gT:=eR g hg;exact(H3.block g (ai gT.2 H2.2.1.size)).trans (H2.2.1.same g gT.2 (by have:=HL.2.2.2.2.1;omega))
   have xC:=aa gO;clear gO;go_wp2_with (at_builtin;refine wpList_append_own _ rfl (.tmp 18) (.tmp 24) 35 rfl W0.heap.size 39 i0 (.agg #[.int .i64 0,.string ⟨#[]⟩,.int .i64 0]) 3 32 underlying35 HZ.1 HZ.2.1 HZ.2.2.1 HZ.2.2.2 rfl (by decide) (.slice a5 j c5) j _ rfl xC.out ⟨w3.heap.size,0,none⟩ 1 1 [.int .i64 K,.string ⟨#[]⟩,.int .i64 7] rfl rfl ?c1 ?c2 ?c3 ?c4 ?c5 ?c6)
   case c1=>
    intro i v hv
    match i,hv with
    |0,hv=>simp at hv;subst hv;exact cell_of (heap_alloc_new w3 _) rfl
    |1,hv=>simp at hv;subst hv;exact cell_of (heap_alloc_new w3 _) rfl
    |2,hv=>simp at hv;subst hv;exact cell_of (heap_alloc_new w3 _) rfl
    |i+3,hv=>simp at hv
   case c2=>intro v hv;simp only[az,ba,or_false]at hv;rcases hv with rfl|rfl|rfl<;>rfl
   case c3=>unfold maxLen;omega
   case c4=>omega
   case c5=>rw[ab];have:=H3.size;have:=H2.2.1.size;have:=HJ.1.size;omega
   case c6=>
    intro v' w5 ho hg _;have jF:Below w3.heap.size w3 (w3.alloc (.cells #[.int .i64 K,.string ⟨#[]⟩,.int .i64 7] 39)):=by go_grown
    have hIg:∀g,(Value.slice a5 j c5).ownBlock=some g->g≠I:=λg hg=>by have:=(HJ.2.1.lt g hg).1;have:=HL.2.2.2.2.1;omega
    have h3s:w2.heap.size<=w3.heap.size:=H3.size;have Z7:I<w2.heap.size:=ai HL.2.2.2.2.1 (ao HJ.1.size H2.2.1.size);obtain⟨q1,q2,q3,q4,q5⟩:=hg;have gP:ei (λb=>b=I) W0 w5:=by
     have sw:ei (λb=>b=I) W0 (w3.alloc (.cells #[.int .i64 K,.string ⟨#[]⟩,.int .i64 7] 39)):=((HJ.1.then H2.2.1).then (ei.grown H3.out)).then (ei.grown jF)
     refine⟨q1.trans sw.os,q2.trans sw.tape,q3.trans sw.output,ao sw.size q4,λb hb hn=> ?_⟩;refine(q5 b (ai hb sw.size) λe=> ?_).trans (sw.same b hb hn);have:=(HJ.2.1.lt b e.symm).1;omega
    have xS:DJ w5 I (j+1) l:=by
     have Dp:=H2.1;unfold Bm at Dp;have Sz:w5.heap[I]? =w2.heap[I]? :=(q5 I (by rw[ab];omega) λe=>hIg I e.symm rfl).trans ((jF.block I (by omega)).trans (H3.block I Z7));split at Dp
     ·rename_i eR;refine .inr ⟨eR,L,E,c,?_,Dp.same Sz,HL.2.2.1,HL.2.2.2.1⟩;have Qc:kf w2 L E l c:=HL.1.fo H2.2.1 (by have:=HL.2.2.1;omega) (by have:=HL.2.2.2.1;omega);have EH:=(Qc.below H3.out).below jF;have SK:=q5 E EH.gu λe=>by have:=(HJ.2.1.lt E e.symm).1;have:=HL.2.2.2.1;have:=HL.2.2.2.2.1;omega
      exact⟨(q5 L EH.lt λe=>by have:=(HJ.2.1.lt L e.symm).1;have:=HL.2.2.1;have:=HL.2.2.2.2.1;omega).trans EH.head,λi kk tG=>⟨(aF SK).trans (EH.ir i kk tG).1,(aF SK).trans (EH.ir i kk tG).2⟩,EH.cap,EH.small,ai EH.gu q4⟩
     ·rename_i eR;obtain⟨x,hx⟩:=Dp;exact .inl ⟨by omega,(hx.same Sz).cells.2.2.1⟩
    have HO:=jS ho gP xS;clear ho gP xS q1 q2 q3 q4 q5 jF hIg;go_wp2_with fail;go_roundg (n- (j+1))
    case measure=>omega
    case rel=>exact⟨j+1,rfl,by omega,aa ⟨HO.2.1,by have h1:=HO.1;rw[H2.2.2]at h1;rw[ca,HL.2.1,zN];exact h1,HO.2.2⟩⟩
  ·have iT:wr.cell? ⟨I,65,none⟩=some (.int .i64 (-1)):=by
    rcases HJ.2.2 with⟨_,h1⟩|⟨h1,_⟩
    ·exact h1
    ·have:=H.2.2;omega
   have Co:=aa (f65 I (-1) wr iT);clear iT;go_wp2_with fail;refine Co.mono ?_;rintro e w1 ⟨rfl,rfl⟩;go_wp2_with fail;go_ret;have AB:j=n:=by omega
   have h2:=HJ.2.1;rw[AB,aP (by rw[H.2.2];exact af _)]at h2;exact⟨_,W0.heap.size,rfl,by have:=H0.2.2;have:=TU.out;omega,h2,(ei.grown (by have:=H0.out;rw[TU.out]at this;exact this.2.1)).then HJ.1⟩
end Go.Proofs.YtfejflhgaphilaaGreatDoor
