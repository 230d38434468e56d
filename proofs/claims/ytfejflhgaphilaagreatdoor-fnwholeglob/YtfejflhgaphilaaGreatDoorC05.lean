/- A turned path; a point of a star. The piles of checkpoints cut to a shorter length. -/
import Derived.Test.YtfejflhgaphilaaGreatDoorC04
import Derived.Deep.Cut
set_option linter.all false
set_option maxRecDepth 100000
set_option maxHeartbeats 64000000
open Go.Proofs.Tryz
namespace Go.Proofs.YtfejflhgaphilaaGreatDoor
open Go.RowKit Gm
variable {v:Value} {w:World} {c B sp:Nat} {ld:List Ck} {q:List Nat} {S:SV}
theorem FD (w:World) (A B C:Obj):(((w.alloc A).alloc B).alloc C).heap[w.heap.size]? =some A/\(((w.alloc A).alloc B).alloc C).heap[w.heap.size+1]? =some B/\(((w.alloc A).alloc B).alloc C).heap[w.heap.size+1+1]? =some C:=by
 have h2:=heap_alloc_new ((w.alloc A).alloc B) C;have h1:=heap_alloc_new (w.alloc A) B;have h0:=heap_alloc_new w A;have s1:(w.alloc A).heap.size=w.heap.size+1:=ab _ _;have s2:((w.alloc A).alloc B).heap.size=w.heap.size+1+1:=by rw[ab,s1]
 rw[s2]at h2;rw[s1]at h1;refine⟨?_,?_,h2⟩
 ·rw[heap_alloc_old _ _ (by rw[s2];omega),heap_alloc_old _ _ (by rw[s1];omega)];exact h0
 ·rw[heap_alloc_old _ _ (by rw[s2];omega)];exact h1
theorem nr {u:Value} {t:TypeId} (h:w.heap[c]? =some (.cells #[u,v] t (0,0))):w.cell? ⟨c,0,none⟩=some u/\w.cell? ⟨c,1,none⟩=some v/\w.frozen? ⟨c,0,none⟩=false/\w.frozen? ⟨c,1,none⟩=false:=by refine⟨by simp[World.cell?,h],by simp[World.cell?,h],by simp[World.frozen?,h],by simp[World.frozen?,h]⟩
section
variable {w w':World} {B sp tot:Nat} {S:SV} {txt:List dE} {st:St} {b o cap:Nat} {p:List Nat}
theorem Bz.far (h:Bz w w' sp S b o cap p) (hc:c<w.heap.size) (zi:c≠sp) (Uu:S.va.ownBlock≠some c):c≠b/\w'.heap[c]? =w.heap[c]? :=by
 have hb:c≠b:=by
  rintro rfl;rcases h.own with⟨h1,_⟩|⟨h1,_⟩
  ·exact Uu h1
  ·omega
 exact⟨hb,h.other c hc zi hb⟩
theorem Bz.outer {wx:World} (hs:eY w B sp S txt tot st) (hb:Below w.heap.size w wx) (h:Bz wx w' sp S b o cap p):Bz w w' sp S b o cap p:=by
 have gJ:=hb.size;obtain⟨l1,l2,l3,l4⟩:=hs.lt;refine⟨h.os.trans hb.os,h.tape.trans hb.tape,h.output.trans hb.output,ao gJ h.size,λc hc h1 h2=>(h.other c (by omega) h1 h2).trans (hb.block c hc),h.YE,h.gu,?_,h.fit,h.ne⟩;rcases h.own with⟨h1,h2,h3⟩|⟨h1,h2⟩
 ·exact .inl ⟨h1,h2,λi hi=>(h3 i hi).trans (hb.cell (p:=⟨b,i,none⟩) (l4 b h1).1)⟩
 ·exact .inr ⟨by omega,h2⟩
theorem Bz.box (h:Bz w w' sp S b o cap p) (zi:sp<w.heap.size) {i:Nat} (hc:w.heap.size<=c) (hcb:c≠b) (v:Value):Bz w (w'.setCell ⟨c,i,none⟩ v) sp S b o cap p:=by
 obtain⟨cs,k1,k2,k3⟩:=h.gu;refine⟨h.os,h.tape,h.output,by rw[aK];exact h.size,λd hd h1 h2=> ?_,?_,⟨cs,?_,k2,k3⟩,?_,h.fit,h.ne⟩
 ·rw[aq _ _ _ _ (show d≠c by omega)];exact h.other d hd h1 h2
 ·rw[aq _ _ _ _ (show sp≠c by omega)];exact h.YE
 ·rw[aq _ _ _ _ (show b≠c from cE hcb)];exact k1
 ·rcases h.own with⟨h1,h2,h3⟩|h1
  ·exact .inl ⟨h1,h2,λj hj=>(aF (w:=w') (a:=⟨b,j,none⟩) (aq _ _ _ _ (show b≠c from cE hcb))).trans (h3 j hj)⟩
  ·exact .inr h1
theorem Bz.copy (h:Bz w w' sp S b o cap p) (hq:q.length<=p.length) (cur:Array Value) (hc:w'.heap[b]? =some (.cells cur 3 (0,0))):Bz w (w'.setRow b (cur.toList.take o++(q.map (λx=>Value.int .i64 (x:Nat))++cur.toList.drop (o+q.length))).toArray) sp S b o cap (q++p.drop q.length):=by
 obtain⟨cs,k1,k2,k3⟩:=h.gu;rw[k1]at hc;simp only[ae,Obj.cells.injEq,and_true]at hc;subst hc;have hf:=h.fit;have hl:(q++p.drop q.length).length=p.length:=by simp;omega
 refine⟨h.os,h.tape,h.output,by rw[setRow_size];exact h.size,λc hc h1 h2=> ?_,?_,⟨_,setRow_heap _ _ _ _ _ _ k1,?_,λj hj=> ?_⟩,?_,by rw[hl];exact hf,h.ne⟩
 ·rw[setRow_other _ _ _ _ h2];exact h.other c hc h1 h2
 ·rw[setRow_other _ _ _ _ (cE h.ne),hl];exact h.YE
 ·simp;omega
 ·simp only[List.getElem?_toArray];rw[aR (by simp;omega),show o+j- (cs.toList.take o).length=j from by simp;omega];by_cases Ka:j<q.length
  ·rw[bV (by simpa using Ka)];simp[Ka,List.getElem_append_left]
  ·rw[aR (by simpa using Ka)];simp only[bU,cK,Array.getElem?_toList];rw[show o+q.length+(j-q.length)=o+j from by omega,k3 j (by omega)];rw[di (by omega)];simp only[List.getElem_drop];congr 4;omega
 ·rcases h.own with⟨h1,h2,h3⟩|h1
  ·refine .inl ⟨h1,h2,λi hi=> ?_⟩;rw[cell_setRow_same _ _ _ _ _ _ _ k1,<-h3 i hi];simp only[World.cell?,k1,List.getElem?_toArray];rw[bV (by simp;omega)];simp[hi]
  ·exact .inr h1
theorem mO {ops:Array Oper} {rest:List Oper} {op:Oper} {a:Act} {Q:Exit->Act->World->Prop} {sv:Value} (ha:Bz w w' sp S b o cap p) (hq:eF w' sv q) (hgd:op.guard=none) (d s:Operand) (ho:op.op=.call {callee:=.builtin .copy,args:=#[d,s],argTypes:=#[145,145]}) (n dc:Nat) (hn:p.length=n) (hd:a.eval d=.slice (some ⟨b,o,none⟩) n dc) (hs:a.eval s=sv) (h:∀UQ v,Bz w UQ sp S b o cap (q.take n++p.drop q.length)->(∀c,c≠b->UQ.heap[c]? =w'.heap[c]?)->UQ.heap.size=w'.heap.size->wpList prog ops Q rest (a.put op.dst v) UQ):wpList prog ops Q (op::rest) a w':=by
 subst hn;obtain⟨cs,k1,k2,k3⟩:=ha.gu;obtain⟨sa,sc,rfl,_,_,hq3⟩:=hq;have hf:=ha.fit;by_cases eK:q=[]
 ·subst eK;refine wpList_copy_nothing hgd d s 145 145 ho 3 underlying145 (by kernel_rfl) _ _ _ _ _ _ hd hs (by simp) ?_;exact h w' _ (by simpa using ha) (λ_ _=>rfl) rfl
 ·obtain⟨b',o',rfl,hc,_⟩:=hq3 eK;have hl:(q.take p.length).length=q.length.min p.length:=by rw[bn];exact Nat.min_comm _ _
  refine wpList_copy_own hgd d s 145 145 ho 3 underlying145 (by kernel_rfl) b o p.length dc ⟨b',o',none⟩ q.length sc hd hs cs 3 k1 ((q.take p.length).map λx=>Value.int .i64 (x:Nat)) (by rw[bU,hl]) ?_ (by rw[bU,bn];omega) ?_ ?_
  ·intro j v hj;simp only[cq,aX]at hj;obtain⟨x,hx,rfl⟩:=hj;obtain⟨eR,hx⟩:=aB.1 hx;rw[bn]at eR;have hadd:(⟨b',o',none⟩:Addr).add j=⟨b',o'+j,none⟩:=by unfold Addr.add;split<;>simp_all
   rw[List.getElem_take]at hx;subst hx;rw[hadd];exact hc j (by omega)
  ·intro v hv;obtain⟨x,_,rfl⟩:=dB.1 hv;rfl
  ·have hcp:=ha.copy (q:=q.take p.length) (by rw[bn];omega) cs k1;have e:p.drop (q.take p.length).length=p.drop q.length:=by
    rw[bn];rcases Nat.le_total q.length p.length with h1|h1
    ·rw[Nat.min_eq_right h1]
    ·rw[cD h1,List.drop_length,List.drop_eq_nil_of_le h1]
   rw[e]at hcp;have:=h _ (goInt ((q.take p.length).map λx=>Value.int .i64 (x:Nat)).length) hcp (λc hc=>setRow_other _ _ _ _ hc) (setRow_size _ _ _);rw[bU]at this⊢;exact this
theorem IW (x:Ctx) (i:Nat):(x.path.take (x.depth+1)++(List.replicate (x.depth+1) 0).drop x.path.length).set x.depth i=x.branch i:=by
 obtain⟨p,d⟩:=x;simp only[Ctx.branch,gR,List.drop_replicate];rcases aV d p.length with h|h
 ·have e1:d+1-p.length=0:=by omega
  have e2:d-p.length=0:=by omega
  rw[e1,e2];simp only[List.replicate_zero,bd];rw[List.take_succ_eq_append_getElem h,List.set_append_right _ _ (by simp;omega)];simp[cD (Nat.le_of_lt h)]
 ·rw[aP (by omega:p.length<=d+1),aP h,show d+1-p.length=(d-p.length)+1 by omega,List.replicate_succ',<-aD,List.set_append_right _ _ (by simp;omega)];simp[show d- (p.length+(d-p.length))=0 by omega]
theorem f263 (x:Ctx) (vp:Value) (i fl:Nat) (z kd:Int) (hs:eY w B sp S txt tot st) (hp:eF w vp x.path) (nG:PL sp S vp) (ht:tot+(x.depth+1)<=1000000000000):Calls prog 263 #[.agg #[.int .i64 z,vp,.int .i64 x.depth,.pointer (some ⟨sp,0,none⟩),.int .i64 kd,.int .i64 fl],.int .i64 i] w λe w'=>∃S' pv,e=.returned (.agg #[pv,.int .i64 x.depth])/\eY w' B sp S' txt (tot+(x.depth+1)) st/\Fr w w' sp S S'/\eF w' pv (x.branch i)/\PL sp S' pv:=by
 obtain⟨l1,l2,l3,l4⟩:=hs.lt;obtain⟨pa,pc,rfl⟩:∃pa pc,vp=.slice pa x.path.length pc:=by obtain⟨a,c,h,_⟩:=hp;exact⟨a,c,h⟩
 obtain⟨d1,xV⟩:=dS (x.depth+1);have hw:IntKind.i64.wrap ((x.depth:Int)+1)=(d1:Int):=by rw[aW];omega
 have i1:(0:Int)<=(x.depth:Int):=by omega
 have i2:(x.depth:Int)<(d1:Int):=by omega
 have HD:=aa xV;have HS:=aa hs;have HT:=aa ht;clear xV ht;go_enter func263,ntmps263;go_wp2_with fail;have HB:Below w.heap.size w (((w.alloc (.cells #[.int .i64 z,.slice pa x.path.length pc,.int .i64 x.depth,.pointer (some ⟨sp,0,none⟩),.int .i64 kd,.int .i64 fl] 151)).alloc (.cells #[.slice none 0 0,.int .i64 0] 147)).alloc (.cells #[.slice pa x.path.length pc,.int .i64 x.depth] 147)):=by go_grown
 obtain⟨t0,t1,t2⟩:=FD w (.cells #[.int .i64 z,.slice pa x.path.length pc,.int .i64 x.depth,.pointer (some ⟨sp,0,none⟩),.int .i64 kd,.int .i64 fl] 151) (.cells #[.slice none 0 0,.int .i64 0] 147) (.cells #[.slice pa x.path.length pc,.int .i64 x.depth] 147);refine(f224 d1 (hs.keep HB) (by have:=HD.out;omega) (by have:=HD.out;have:=HT.out;omega)).mono ?_;rintro e w1 ⟨b,o,cap,rfl,ha,ho,nj⟩;have va:∀k,S.va.ownBlock≠some (w.heap.size+k):=λk e=>by have:=(l4 _ e).1;omega
 obtain⟨n1,g1⟩:=ha.far (c:=w.heap.size+1) (by simp[ab]) (by omega) (va 1);obtain⟨n2,g2⟩:=ha.far (c:=w.heap.size+1+1) (by simp[ab]) (by omega) (va 2);rw[t1]at g1;rw[t2]at g2;clear t0 t1 t2;have SG:=ha.outer hs HB;clear ha;obtain⟨b2,b3,f2,f3⟩:=nr g2;have OK:eF w1 (.slice pa x.path.length pc) x.path:=(hp.fr nG (SG.done hs (by simp;have:=HD.out;omega) (by simp;have:=HD.out;have:=HT.out;unfold maxLen;omega) ho (by simpa using nj)).2.1).1;have nn1:b≠w.heap.size+1:=cE n1;have nn2:b≠w.heap.size+1+1:=cE n2;have HG:=eo g1 g2;clear g1 g2;go_upto_region 4 with(
  with_reducible refine mO (op:=⟨some 18,_,_,_,_,_⟩) SG OK ?_ (.tmp 15) (.tmp 17) ?_ d1 d1 ?_ ?_ ?_ ?_
  ·rfl
  ·rfl
  ·exact List.length_replicate
  ·rfl
  ·rfl
  intro w2 v2 Hy mN pT;have WC:=aa Hy;have HQ:=eo ((mN _ n1).trans HG.1) ((mN _ n2).trans HG.2);clear Hy mN pT OK SG b2 b3 f2 f3)
 obtain⟨q1,q2⟩:=HQ.out;obtain⟨b2,b3,f2,f3⟩:=nr q2;have r1:=(aq w2 ⟨b,o+x.depth,none⟩ (.int .i64 i) _ n1).trans q1;have r2:=(aq w2 ⟨b,o+x.depth,none⟩ (.int .i64 i) _ n2).trans q2;have HR:=eo r1 r2;have UK:(List.take d1 x.path++(List.replicate d1 0).drop x.path.length).length=d1:=by simp;omega
 obtain⟨v0,bs,bf⟩:∃v0,w2.cell? ⟨b,o+x.depth,none⟩=some v0/\w2.frozen? ⟨b,o+x.depth,none⟩=false:=by obtain⟨cs,k1,k2,k3⟩:=WC.gu;have:=k3 x.depth (by rw[UK,HD.out];omega);exact⟨_,by simp only[World.cell?,k1];exact this,by simp[World.frozen?,k1]⟩
 have HA3:=aa (WC.set (j:=x.depth) (by rw[UK,HD.out];omega) i);clear WC HQ q1 q2 r1 r2 HG;go_upto_region 5 with fail
 obtain⟨w3,nZ⟩:=dS (w2.setCell ⟨b,o+x.depth,none⟩ (.int .i64 i));rw[<-nZ]at HR HA3⊢;clear nZ bs bf b2 b3 f2 f3;obtain⟨q1,q2⟩:=HR.out;obtain⟨b2,b3,f2,f3⟩:=nr q2;have tF:w.heap.size+1≠w.heap.size+1+1:=by omega
 have HQ:Hid (_/\_):=eo ((aq w3 ⟨w.heap.size+1+1,0,none⟩ (.slice (some ⟨b,o,none⟩) d1 d1) _ tF).trans q1) (dG (i:=0) q2 (.slice (some ⟨b,o,none⟩) d1 d1));have HA4:=aa (HA3.box l1 (show w.heap.size<=w.heap.size+1+1 by omega) n2 (i:=0) (.slice (some ⟨b,o,none⟩) d1 d1));clear q1 q2 tF HR HA3;go_upto_region 6 with fail
 obtain⟨w4,VF⟩:=dS (w3.setCell ⟨w.heap.size+1+1,0,none⟩ (.slice (some ⟨b,o,none⟩) d1 d1));rw[<-VF]at HQ HA4⊢;clear VF b2 b3 f2 f3;obtain⟨q1,q2⟩:=HQ.out;obtain⟨b0,b1,f0,f1⟩:=nr q1;obtain⟨b2,b3,f2,f3⟩:=nr q2;have u1:(w4.setCell ⟨w.heap.size+1,0,none⟩ (.slice (some ⟨b,o,none⟩) d1 d1)).heap[w.heap.size+1]? =some (.cells #[.slice (some ⟨b,o,none⟩) d1 d1,.int .i64 0] 147 (0,0)):=dG (i:=0) q1 _;have u2:((w4.setCell ⟨w.heap.size+1,0,none⟩ (.slice (some ⟨b,o,none⟩) d1 d1)).setCell ⟨w.heap.size+1,1,none⟩ (.int .i64 x.depth)).heap[w.heap.size+1]? =some (.cells #[.slice (some ⟨b,o,none⟩) d1 d1,.int .i64 x.depth] 147 (0,0)):=dG (i:=1) u1 _;obtain⟨_,b5,_,f5⟩:=nr u1;have HU:=aa u2;have HA6:=aa ((HA4.box l1 (show w.heap.size<=w.heap.size+1 by omega) n1 (i:=0) (.slice (some ⟨b,o,none⟩) d1 d1)).box l1 (show w.heap.size<=w.heap.size+1 by omega) n1 (i:=1) (.int .i64 x.depth));clear q1 q2 HQ HA4 u1 u2;go_wp2_with fail
 (try simp only[Exit.inBlock,Exit.then])
 refine bodyPost_ret (results_cell_row rfl _ _ _ _ _ _ _ rfl HU.out underlying147 rfl (by kernel_rfl)) rfl ?_;have HAX:=HA6.out;have xV:=HD.out;subst xV;rw[IW]at HAX;have sy:(x.branch i).length=x.depth+1:=by simp[Ctx.branch,im]
 obtain⟨e1,e2,e3,e4⟩:=HAX.done hs (by omega) (by rw[sy];have:=HT.out;unfold maxLen;omega) ho (by rw[sy];exact nj);rw[sy]at e1 e2 e3 e4;exact⟨_,_,rfl,e1,e2,e3,e4⟩
end
def oy:Value->Nat->Value
 |.slice a _ c,k=>.slice a k c
 |v,_=>v
theorem lh (v:Value) (k:Nat):(oy v k).ownBlock=v.ownBlock:=by
 cases v with
 |slice a n c=>cases a<;>rfl
 |_=>rfl
theorem oq.form {txt:List dE} (h:oq w B sp S txt v ld):∃a c,v=.slice a ld.length c/\ld.length<=c/\c<=maxLen:=by
 obtain⟨qH,_,⟨_,h|⟨g,cap,cur,rfl,_,_,h1,h2,_⟩⟩,_⟩:=h
 ·exact⟨none,0,by rw[h.1,h.2],by omega,by omega⟩
 ·exact⟨_,_,rfl,h1,h2⟩
theorem oq.take {txt:List dE} (h:oq w B sp S txt v ld) (k:Nat) (hk:k<=ld.length):oq w B sp S txt (oy v k) (ld.take k):=by
 obtain⟨qH,h1,h2,h3⟩:=h;refine⟨qH.take k,by simp[h1],?_,λi c pv hc hp=> ?_⟩
 ·have hl:(ld.take k).length=k:=by simp;omega
  rw[hl,yd _ _ _ _ h1];have h0:=h2.1;refine⟨by rw[bn,h0];exact cD (bB 2 hk),?_⟩;rcases h2.2 with⟨rfl,hz⟩|⟨g,cap,cur,rfl,k1,k2,k3,k4,k5,k6⟩
  ·have:k=0:=(by omega);subst this;exact .inl ⟨rfl,rfl⟩
  ·refine .inr ⟨g,cap,cur,rfl,k1,k2,by omega,k4,k5,?_⟩;rw[<-k6,List.take_take,cD (bB 2 hk)]
 ·have ZI:i<k:=by
   have:=(aB.1 hc).1;rw[bn]at this;omega
  rw[cS ZI]at hc hp;exact h3 i c pv hc hp
section
variable {w:World} {B sp tot:Nat} {S:SV} {txt:List dE} {st:St}
theorem eY.cuts (hs:eY w B sp S txt tot st) (k:Nat) (hk:k<=st.stars.length):eY (w.setCell ⟨sp,0,none⟩ (oy S.vs k)) B sp {S with vs:=oy S.vs k} txt tot {st with stars:=st.stars.take k}/\Fr w (w.setCell ⟨sp,0,none⟩ (oy S.vs k)) sp S {S with vs:=oy S.vs k}:=by
 obtain⟨l1,l2,l3,l4⟩:=hs.lt;have fH:∀b,b≠sp->(w.setCell ⟨sp,0,none⟩ (oy S.vs k)).heap[b]? =w.heap[b]? :=λb hb=>aq _ _ _ _ hb;have vD:Fr w (w.setCell ⟨sp,0,none⟩ (oy S.vs k)) sp S {S with vs:=oy S.vs k}:=by
  refine⟨rfl,rfl,rfl,by rw[aK];exact af _,λb _ h _ _ _=>fH b h,λb i hb _=>aF (w:=w) (a:=⟨b,i,none⟩) (fH b (hs.apart.a b hb)),λb cs hb hk=>⟨cs,(fH b (hs.apart.a b hb)).trans hk⟩,λb h=>.inl ?_,λ_ h=>.inl h,λ_ h=>.inl ⟨h,af _⟩⟩
  rwa [lh]at h
 refine⟨⟨?_,hs.base,?_,?_,?_,?_,by have:=hs.nY;simp;omega,hs.nstack,hs.narena,hs.ncap⟩,vD⟩
 ·have:=dG (i:=0) hs.gu (oy S.vs k);simpa using this
 ·exact(hs.stars.take k hk).keep vD λb h=>fH b (hs.apart.s b (by rwa [lh]at h)).1
 ·exact hs.stack.keep vD λb h=>fH b (hs.apart.k b h).1
 ·rcases hs.arena with h|⟨b,u,cap,cs,h1,h2,h3,h4⟩
  ·exact .inl h
  ·exact .inr ⟨b,u,cap,cs,h1,h2,(fH b (hs.apart.a b (by rw[h1];rfl))).trans h3,h4⟩
 ·exact⟨λb h=>hs.apart.s b (by rwa [lh]at h),λb h=>hs.apart.k b h,hs.apart.a⟩
theorem eY.cutk (hs:eY w B sp S txt tot st) (k:Nat) (hk:k<=st.stack.length):eY (w.setCell ⟨sp,1,none⟩ (oy S.vk k)) B sp {S with vk:=oy S.vk k} txt tot {st with stack:=st.stack.take k}/\Fr w (w.setCell ⟨sp,1,none⟩ (oy S.vk k)) sp S {S with vk:=oy S.vk k}:=by
 obtain⟨l1,l2,l3,l4⟩:=hs.lt;have fH:∀b,b≠sp->(w.setCell ⟨sp,1,none⟩ (oy S.vk k)).heap[b]? =w.heap[b]? :=λb hb=>aq _ _ _ _ hb;have vD:Fr w (w.setCell ⟨sp,1,none⟩ (oy S.vk k)) sp S {S with vk:=oy S.vk k}:=by
  refine⟨rfl,rfl,rfl,by rw[aK];exact af _,λb _ h _ _ _=>fH b h,λb i hb _=>aF (w:=w) (a:=⟨b,i,none⟩) (fH b (hs.apart.a b hb)),λb cs hb hk=>⟨cs,(fH b (hs.apart.a b hb)).trans hk⟩,λ_ h=>.inl h,λb h=>.inl ?_,λ_ h=>.inl ⟨h,af _⟩⟩
  rwa [lh]at h
 refine⟨⟨?_,hs.base,?_,?_,?_,?_,hs.nY,by have:=hs.nstack;simp;omega,hs.narena,hs.ncap⟩,vD⟩
 ·have:=dG (i:=1) hs.gu (oy S.vk k);simpa using this
 ·exact hs.stars.keep vD λb h=>fH b (hs.apart.s b h).1
 ·exact(hs.stack.take k hk).keep vD λb h=>fH b (hs.apart.k b (by rwa [lh]at h)).1
 ·rcases hs.arena with h|⟨b,u,cap,cs,h1,h2,h3,h4⟩
  ·exact .inl h
  ·exact .inr ⟨b,u,cap,cs,h1,h2,(fH b (hs.apart.a b (by rw[h1];rfl))).trans h3,h4⟩
 ·exact⟨λb h=>⟨(hs.apart.s b h).1,λe=>(hs.apart.s b h).2.1 (by rwa [lh]at e),(hs.apart.s b h).2.2⟩,λb h=>hs.apart.k b (by rwa [lh]at h),hs.apart.a⟩
theorem eY.drew (hs:eY w B sp S txt tot st):eY w.drew B sp S txt tot st:=hs.keep (by go_grown)
theorem oq.last (h:oq w B sp S txt v ld) (i:Nat) (c:Ck) (hc:ld[i]? =some c):∃g cap pv,v=.slice (some ⟨g,0,none⟩) ld.length cap/\w.cell? ⟨g,i*2,none⟩=some (.int .i64 (off txt c.rem))/\w.cell? ⟨g,i*2+1,none⟩=some pv/\eF w pv c.path/\PL sp S pv:=by
 obtain⟨qH,h1,h2,h3⟩:=h;have hi:i<ld.length:=(aB.1 hc).1;rcases h2.2 with⟨_,hz⟩|⟨g,cap,cur,rfl,k1,k2,k3,k4,k5,k6⟩
 ·omega
 ·have qR:qH[i]? =some qH[i]:=ah (by omega);obtain⟨q1,q2⟩:=h3 i c _ hc qR;have key:∀(cs:List Ck) (vs:List Value) (i:Nat) (c:Ck) (v:Value),cs[i]? =some c->vs[i]? =some v->(ia txt cs vs)[i*2]? =some (.int .i64 (off txt c.rem))/\(ia txt cs vs)[i*2+1]? =some v:=by
   intro cs
   induction cs with
   |nil=>intro vs i c v h;simp at h
   |cons d cs ih=>
    intro vs i c v hd hv;cases vs with
    |nil=>simp at hv
    |cons u vs=>
     cases i with
     |zero=>simp only[aN,ae]at hd hv;subst hd;subst hv;exact⟨rfl,rfl⟩
     |succ i=>obtain⟨a1,a2⟩:=ih vs i c v (by simpa using hd) (by simpa using hv);rw[show(i+1)*2=i*2+1+1 by omega];exact⟨by simpa[ia]using a1,by simpa[ia]using a2⟩
  obtain⟨m1,m2⟩:=key ld qH i c _ hc qR;rw[<-k6]at m1 m2;rw[cS (by omega)]at m1 m2;exact⟨g,cap,qH[i],rfl,by simp only[World.cell?,k2];simpa using m1,by simp only[World.cell?,k2];simpa using m2,q1,q2⟩
end
end Go.Proofs.YtfejflhgaphilaaGreatDoor
