/- A sequence matches. A last group of alternatives matches, in a plain loop. -/
import Derived.Test.YtfejflhgaphilaaGreatDoorC09
import Derived.Deep.LoopGhost
import Derived.Deep.CutRange
set_option linter.all false
set_option maxRecDepth 100000
set_option maxHeartbeats 64000000
open Go.Proofs.Tryz
namespace Go.Proofs.YtfejflhgaphilaaGreatDoor
open Go.RowKit Gm
theorem MO:∀(l:List T) (k i:Nat) (x:Ctx) (r:List dE) (s:St),k<=l.length->Ms l k i x r s=Ms (l.drop k) 0 (i+k) x r s
 |l,0,i,x,r,s,_=>by simp
 | [],k+1,i,x,r,s,h=>by simp at h
 |t::l,k+1,i,x,r,s,h=>by rw[Ms,MO l k (i+1) x r s (by simpa using h),cu,show i+1+k=i+(k+1)by omega]
theorem Be {r rj:List dE} (h:rj<:+r):(bs r).extract ((enc r).length- (enc rj).length) (bs r).size=bs rj:=by obtain⟨u,rfl⟩:=h;apply fC;rw[Lib.extract_data,eE,eE,dQ];simp
mutual
theorem vl:∀(t:T) (x:Ctx) (r:List dE) (s:St),x.floor<=s.stars.length->x.floor<=(M t x r s).2.stars.length
 |.text _,x,r,s,h=>by simpa[M]using h
 |.char _,x,r,s,h=>by simpa[M]using h
 |.star sep nx tm,x,r,s,h=>by
  have hs:∀(rem:List dE) (reset:Bool),x.floor<=(eJ x s rem reset).stars.length:=by
   intro rem reset;simp only[eJ,aj,aH,aG];split
   ·rw[bn];omega
   ·omega
  cases tm with
  |true=>simpa[M]using h
  |false=>
   rw[KQ];cases r with
   |nil=>simpa[nQ]using h
   |cons c r=>
    simp only[nQ];split
    ·split
     ·exact h
     ·exact hs _ _
    ·unfold qm;split
     ·exact h
     ·exact hs _ _
 |.range _ _ _,x,r,s,h=>by simpa[M]using h
 |.set _ _,x,r,s,h=>by simpa[M]using h
 |.void,x,r,s,h=>by simpa[M]using h
 |.pre _ _,x,r,s,h=>by simpa[M]using h
 |.eP _ _,x,r,s,h=>by simpa[M]using h
 |.dN _ _ _,x,r,s,h=>by simpa[M]using h
 |.cont _,x,r,s,h=>by simpa[M]using h
 |.dH l,x,r,s,h=>by simp only[M];exact Bo l _ _ x r s h
 |.alt l,x,r,s,h=>by
  simp only[M];split
  ·exact ao h (Bp l _ {x.next with floor:=s.stars.length} r _ (af _))
  ·exact ao h (Bp l _ {x.next with floor:=s.stars.length} r _ (af _))
 |.eh l,x,r,s,h=>by simp only[M];exact I9 l x r s h
theorem Bo:∀(l:List T) (k i:Nat) (x:Ctx) (r:List dE) (s:St),x.floor<=s.stars.length->x.floor<=(Ms l k i x r s).2.stars.length
 | [],_,_,x,r,s,h=>by simpa[Ms]using h
 |_::l,k+1,i,x,r,s,h=>by rw[Ms];exact Bo l k (i+1) x r s h
 |t::l,0,i,x,r,s,h=>by
  rw[Ms];obtain⟨x',Jl⟩:∃x',x'=(if i≠x.idx/\x.live=true then{x with path:=x.branch i}else x):=⟨_,rfl⟩;have hf:x'.floor=x.floor:=by rw[Jl];split<;>rfl
  have h1:=vl t x'.next r s (show x'.floor<=_ by rw[hf];exact h);rw[<-Jl];split
  ·rename_i s' he;rw[he]at h1;rw[<-hf];exact h1
  ·rename_i r' s' he;rw[he]at h1;rw[<-hf];exact Bo l 0 (i+1) x' r' s' h1
theorem Bp:∀(l:List T) (k:Nat) (x:Ctx) (r:List dE) (s:St),x.floor<=s.stars.length->x.floor<=(Ma l k x r s).2.stars.length
 | [],_,x,r,s,h=>by simpa[Ma]using h
 |t::_,0,x,r,s,h=>by rw[Ma];exact vl t x r s h
 |_::l,k+1,x,r,s,h=>by rw[Ma];exact Bp l k x r s h
theorem I9:∀(l:List T) (x:Ctx) (r:List dE) (s:St),x.floor<=s.stars.length->x.floor<=(Mt l x r s).2.stars.length
 | [],x,r,s,h=>by simpa[Mt]using h
 |t::l,x,r,s,h=>by
  rw[Mt];have h1:=vl t x r s h;split
  ·rename_i s' he;rw[he]at h1;exact h1
  ·rename_i o s' _ he;rw[he]at h1;exact I9 l x r s' h1
end
mutual
theorem vi:∀(t:T) (x:Ctx) (r:List dE) (s:St) (r':List dE),(M t x r s).1=some r'->r'<:+r
 |.text t,x,r,s,r',h=>by simp only[M]at h;split at h<;>simp at h;subst h;exact List.drop_suffix _ _
 |.char _,x,r,s,r',h=>by
  simp only[M]at h;cases r with
  |nil=>simp at h
  |cons c r=>simp only at h;split at h<;>simp at h;subst h;exact List.suffix_cons _ _
 |.star sep nx tm,x,r,s,r',h=>by
  cases tm with
  |true=>simp only[M,if_true,ae]at h;subst h;exact List.dropWhile_suffix _
  |false=>rw[KQ]at h;simp only[ae]at h;subst h;exact cF _
 |.range _ _ _,x,r,s,r',h=>by
  simp only[M]at h;cases r with
  |nil=>simp at h
  |cons c r=>simp only at h;split at h<;>simp at h;subst h;exact List.suffix_cons _ _
 |.set _ _,x,r,s,r',h=>by
  simp only[M]at h;cases r with
  |nil=>simp at h
  |cons c r=>simp only at h;split at h<;>simp at h;subst h;exact List.suffix_cons _ _
 |.void,x,r,s,r',h=>by simp only[M,ae]at h;subst h;exact cF _
 |.pre _ _,x,r,s,r',h=>by simp only[M]at h;split at h<;>simp at h;subst h;exact cU
 |.eP _ _,x,r,s,r',h=>by simp only[M]at h;split at h<;>simp at h;subst h;exact cU
 |.dN _ _ _,x,r,s,r',h=>by simp only[M]at h;split at h<;>simp at h;subst h;exact cU
 |.cont _,x,r,s,r',h=>by simp only[M]at h;split at h<;>simp at h;subst h;exact cU
 |.dH l,x,r,s,r',h=>by simp only[M]at h;exact xB l _ _ x r s r' h
 |.alt l,x,r,s,r',h=>by simp only[M]at h;exact DH l _ _ r _ r' h
 |.eh l,x,r,s,r',h=>by simp only[M]at h;exact DG l x r s r' h
theorem xB:∀(l:List T) (k i:Nat) (x:Ctx) (r:List dE) (s:St) (r':List dE),(Ms l k i x r s).1=some r'->r'<:+r
 | [],_,_,x,r,s,r',h=>by simp only[Ms,ae]at h;subst h;exact cF _
 |_::l,k+1,i,x,r,s,r',h=>by rw[Ms]at h;exact xB l k (i+1) x r s r' h
 |t::l,0,i,x,r,s,r',h=>by
  rw[Ms]at h;obtain⟨x',Jl⟩:∃x',x'=(if i≠x.idx/\x.live=true then{x with path:=x.branch i}else x):=⟨_,rfl⟩;rw[<-Jl]at h;split at h
  ·simp at h
  ·rename_i r1 s1 he;exact(xB l 0 (i+1) x' r1 s1 r' h).trans (vi t x'.next r s r1 (by rw[he]))
theorem DH:∀(l:List T) (k:Nat) (x:Ctx) (r:List dE) (s:St) (r':List dE),(Ma l k x r s).1=some r'->r'<:+r
 | [],_,x,r,s,r',h=>by simp[Ma]at h
 |t::_,0,x,r,s,r',h=>by rw[Ma]at h;exact vi t x r s r' h
 |_::l,k+1,x,r,s,r',h=>by rw[Ma]at h;exact DH l k x r s r' h
theorem DG:∀(l:List T) (x:Ctx) (r:List dE) (s:St) (r':List dE),(Mt l x r s).1=some r'->r'<:+r
 | [],x,r,s,r',h=>by simp[Mt]at h
 |t::l,x,r,s,r',h=>by
  rw[Mt]at h;split at h
  ·simp only[ae]at h;subst h;exact cU
  ·rename_i o s1 _ he;exact DG l x r s1 r' h
end
theorem zz:∀(l:List T) (j:Nat) (t:T) (p:List Nat),l[j]? =some t->jT l j p->val t p
 | [],_,_,_,h,_=>by simp at h
 |t::l,0,t',p,h,hv=>by simp only[aN,ae]at h;subst h;simpa[jT]using hv
 |_::l,j+1,t',p,h,hv=>zz l j t' p (by simpa using h) (by simpa[jT]using hv)
def q9 (xj:Ctx) (j:Nat):Ctx:=if j≠xj.idx/\xj.live=true then{xj with path:=xj.branch j}else xj
theorem MN (t:T) (ts:List T) (j:Nat) (x:Ctx) (r:List dE) (s:St):Ms (t::ts) 0 j x r s=(match M t (q9 x j).next r s with|(none,s')=>(none,s')|(some r',s')=>Ms ts 0 (j+1) (q9 x j) r' s'):=by rw[Ms];rfl
structure MLoop (w wr:World) (B sp top:Nat) (S:SV) (txt r:List dE) (x:Ctx) (l:List T) (kd:Int) (Z:Option (List dE)×St) (j:Nat) (xj:Ctx) (pa:Option Addr) (pc:Nat) (rj:List dE) (Sj:SV) (pZ:St) (o6:Nat):Prop where
 dep:xj.depth=x.depth
 ons:xj.onStack=x.onStack
 flo:xj.floor=x.floor
 liv:xj.live=true
 le:j<=l.length
 eP:rj<:+r
 st:eY wr B sp Sj txt o6 pZ
 fr:Fr w wr sp S Sj
 cost:o6+om (l.drop j) x.depth<=top
 box:wr.heap[w.heap.size]? =some (.cells #[.int .i64 (off txt r),.slice pa xj.path.length pc,.int .i64 x.depth,.pointer (some ⟨sp,0,none⟩),.int .i64 kd,.int .i64 x.floor] 151 (0,0))
 path:eF wr (.slice pa xj.path.length pc) xj.path
 pl:PL sp Sj (.slice pa xj.path.length pc)
 free:yT w.heap.size sp Sj
 size:w.heap.size<wr.heap.size
 floor:x.floor<=pZ.stars.length
 eq:Z=Ms (l.drop j) 0 j xj rj pZ
 pth:xj=x\/xj.path.length<=x.depth+1
section
variable {w:World} {B sp tot:Nat} {S:SV} {txt:List dE} {st:St}
theorem f261 (b o cap:Nat) (l:List T) (r:List dE) (x:Ctx) (vp:Value) (hT:fE w) (nI:3<=B) (uL:b<B) (hs:eY w B sp S txt tot st) (hp:eF w vp x.path) (nG:PL sp S vp) (hM:∀(j:Nat) (t:T) (u:Value),l[j]? =some t->w.cell? ⟨b,o+j,none⟩=some u->MOk t u B sp txt) (uB:rT w B b l o) (xT:x.idx<=l.length) (hl:l.length<=1000000) (ez:dV txt) (hr:r<:+txt) (hlen:(enc txt).length<=1000000) (kT:x.floor<=st.stars.length) (mU:x.live=true) (kZ:val (.dH l) (x.path.drop x.depth)) (hd:x.depth+1+uG l<=1000000) (qn:tot+om l x.depth<=1000000000000):Calls prog 261 #[.slice (some ⟨b,o,none⟩) l.length cap,pO txt r vp sp x,.string (bs r)] w λe w'=>e=.returned (gC r (Ms l x.idx 0 x r st).1)/\∃S',eY w' B sp S' txt (tot+om l x.depth) (Ms l x.idx 0 x r st).2/\Fr w w' sp S S':=by
 unfold pO;obtain⟨pa,pc,rfl⟩:∃pa pc,vp=.slice pa x.path.length pc:=by obtain⟨a,c,h,_⟩:=hp;exact⟨a,c,h⟩
 obtain⟨kd,kg⟩:=dS ((if x.onStack then 0 else 1):Int);rw[<-kg];rw[MO l x.idx 0 x r st xT,cm];have HB:Below w.heap.size w (w.alloc (.cells #[.int .i64 (off txt r),.slice pa x.path.length pc,.int .i64 x.depth,.pointer (some ⟨sp,0,none⟩),.int .i64 kd,.int .i64 x.floor] 151)):=by go_grown
 obtain⟨i,hi⟩:=dS x.idx;obtain⟨n,hn⟩:=dS l.length;rw[<-hi]at xT⊢;rw[<-hn]at xT hl⊢;obtain⟨Z,hZ⟩:=dS (Ms (l.drop i) 0 i x r st);rw[<-hZ];obtain⟨C,hC⟩:=dS (om l x.depth);rw[<-hC]at qn⊢;have HP:=aa ((hp.lk HB));have HI:=aa hi;have HN:=aa hn;have HZ:=aa hZ;have HC:=aa hC;have BM:=aa kg;have zt:=eo hp nG;have HS:=aa hs;have HM:=aa hM;have Jv:=aa uB;have iw:=Ur ez hr hlen kT mU hd qn;have qZ:=aa HB;have TV:=aa kZ;clear kZ;clear hi hn kg hp nG hs hM uB ez hr hlen kT mU hd qn hZ hC HB;go_enter func261,ntmps261;go_wp2_with fail;refine(f223 _ x.path x.depth _ HP.out).mono ?_;rintro e w1 ⟨rfl,eu⟩;rw[show(x.path.getD x.depth 0:Nat)=i from by rw[HI.out];rfl];go_wp2_with fail;have o4:Hid (Below w.heap.size w w1):=aa (qZ.trans (eu.mono (by rw[ab];omega)));have Qn:=aa ((eu.block w.heap.size (by rw[ab];omega)).trans (heap_alloc_new w (.cells #[.int .i64 (off txt r),.slice pa x.path.length pc,.int .i64 x.depth,.pointer (some ⟨sp,0,none⟩),.int .i64 kd,.int .i64 x.floor] 151)));have tR:w.heap.size<w1.heap.size:=by have:=eu.size;rw[ab]at this;omega
 clear eu;go_loopg [6,8] (n-i) (λk s6 s8 wr=>∃(j:Nat) (xj:Ctx) (pj:Option Addr) (pcj:Nat) (rj:List dE) (Sj:SV) (pZ:St) (o6:Nat),k=n-j/\s8=.int .i64 j/\s6=.int .i64 ((enc r).length- (enc rj).length:Int)/\j<=n/\Hid (MLoop w wr B sp (tot+C) S txt r x l kd Z j xj pj pcj rj Sj pZ o6))
 case atStart=>
  have hSd:=HS.keep o4.out;have hFd:=HS.below o4.out;have OV:=zt.1.fr zt.2 hFd;obtain⟨g1,g2,g3,g4,g5,g6,g7⟩:=iw.out;refine⟨i,x,pa,pc,r,S,st,tot,rfl,rfl,by rw[Int.sub_self],xT,aa ⟨rfl,rfl,rfl,g5,by rw[<-HN.out];exact xT,cF _,hSd,hFd,?_,Qn.out,OV.1,OV.2,HS.free (af _),tR,g4,HZ.out,.inl rfl⟩⟩;rw[HC.out];have:∀(l:List T) (k d:Nat),om (l.drop k) d<=om l d:=by
   intro l
   induction l with
   |nil=>intro k d;simp
   |cons t l ih=>
    intro k d;cases k with
    |zero=>exact af _
    |succ k=>rw[cu,om];have:=ih k d;omega
  have:=this l i x.depth;omega
 case round=>
  obtain⟨j,xj,pj,pcj,rj,Sj,pZ,o6,rfl,rfl,rfl,hj,HL⟩:=hrel;obtain⟨z0,z1,z2,z3,z4,z5⟩:=eA HL.box;clear z4 z5 Qn o4 tR qZ HP;by_cases gM:j<n
  ·have kY:=gW ((j:Int)+1) (by omega);have jA:decide ((j:Int)<(n:Int))=true:=by simp;omega
   obtain⟨q,hq⟩:=dS xj.idx;have HQ:=aa hq;clear hq;go_upto_region 4 with fail
   go_cut [6,8,30]from 15 to 56 (λs6 s8 s30 wx=>s6=.int .i64 ((enc r).length- (enc rj).length:Int)/\s8=.int .i64 j/\s30=.bool ((j:Int) != (q:Int))/\Hid (Below wr.heap.size wr wx))
   case first=>
    go_wp2_with fail;refine(f223 _ xj.path x.depth _ HL.path).mono ?_;rintro e w2 ⟨rfl,eT⟩;rw[show(xj.path.getD x.depth 0:Nat)=q from by rw[HQ.out,Ctx.idx,HL.dep]];have jR:=aa eT;have oJ:Hid (w2.heap[w.heap.size]? =some (.cells #[.int .i64 (off txt r),.slice pj xj.path.length pcj,.int .i64 x.depth,.pointer (some ⟨sp,0,none⟩),.int .i64 kd,.int .i64 x.floor] 151 (0,0))):=aa ((eT.block w.heap.size HL.size).trans HL.box);clear eT z0 z1 z2 z3;obtain⟨z0,z1,z2,z3,z4,z5⟩:=eA oJ.out;by_cases Ka:j=q
    ·have hb:((j:Int) != (q:Int))=false:=(by simp[Ka]);clear Ka;go_wp2_with fail;go_meet
     case rel=>exact⟨rfl,rfl,by rw[hb],jR⟩
    ·have hb:((j:Int) != (q:Int))=true:=(by simp;omega);clear Ka;go_wp2_with fail;go_meet
     case rel=>exact⟨rfl,rfl,by rw[hb],jR⟩
   case rest=>
   obtain⟨rfl,rfl,rfl,jR⟩:=hcut;obtain⟨w2,rfl⟩:=dS wc;have oJ:Hid (w2.heap[w.heap.size]? =some (.cells #[.int .i64 (off txt r),.slice pj xj.path.length pcj,.int .i64 x.depth,.pointer (some ⟨sp,0,none⟩),.int .i64 kd,.int .i64 x.floor] 151 (0,0))):=aa ((jR.block w.heap.size HL.size).trans HL.box);clear z0 z1 z2 z3;obtain⟨z0,z1,z2,z3,z4,z5⟩:=eA oJ.out;go_upto_if 30 with fail
   go_cut [6,8]from 15 to 56 (λs6 s8 wx=>s6=.int .i64 ((enc r).length- (enc rj).length:Int)/\s8=.int .i64 j/\∃(x2:Ctx) (p2:Option Addr) (yu:Nat) (S2:SV),Hid (eY wx B sp S2 txt (o6+(x.depth+1)) pZ/\Fr w wx sp S S2/\wx.heap[w.heap.size]? =some (.cells #[.int .i64 (off txt r),.slice p2 x2.path.length yu,.int .i64 x.depth,.pointer (some ⟨sp,0,none⟩),.int .i64 kd,.int .i64 x.floor] 151 (0,0))/\eF wx (.slice p2 x2.path.length yu) x2.path/\PL sp S2 (.slice p2 x2.path.length yu)/\yT w.heap.size sp S2/\w.heap.size<wx.heap.size/\x2=q9 xj j))
   case first=>
    have UI:=HL.st.keep jR.out;have T5:=HL.st.below jR.out;have OV:=HL.path.fr HL.pl T5;have hFw:=HS.trans HL.fr T5;have hSZ2:w.heap.size<w2.heap.size:=ai HL.size jR.size;have HD:=sW UI OV hFw hSZ2;clear UI T5 OV hFw hSZ2;by_cases Ka:j=q
    ·have hb:((j:Int) != (q:Int))=false:=(by simp[Ka]);go_wp2_with fail;go_meet
     case rel=>refine⟨rfl,rfl,xj,pj,pcj,Sj,aa ⟨HD.1.more (by omega),HD.2.2.1,oJ.out,HD.2.1.1,HD.2.1.2,HL.free,HD.2.2.2,?_⟩⟩;unfold q9;rw[if_neg];rintro⟨h1,_⟩;exact h1 (by rw[Ka,HQ.out])
    ·have hb:((j:Int) != (q:Int))=true:=(by simp;omega);have fI:=f263 xj (.slice pj xj.path.length pcj) j x.floor (off txt r) kd HD.1 HD.2.1.1 HD.2.1.2 (by
      have h1:=HL.cost;have h2:=iw.2.2.2.2.2.2;have h3:List.drop j l≠[]:=(by intro e;have:=congrArg List.length e;rw[bT,<-HN.out]at this;simp at this;omega);obtain⟨t,ts,h4⟩:=List.exists_cons_of_ne_nil h3;rw[h4,om]at h1;rw[HL.dep];omega)
     rw[HL.dep]at fI;have vu:=aa fI;clear fI;go_wp2_with fail;refine vu.mono ?_;rintro e w4 ⟨S2,pv,rfl,e1,e2,e3,e4⟩;obtain⟨p2,yu,rfl⟩:∃p2 yu,pv=.slice p2 (xj.branch j).length yu:=by obtain⟨a,c,h,_⟩:=e3;exact⟨a,c,h⟩
     have HY:=aa (HL.free.keep HD.2.2.2 e2);have HE:=rr e1 (HS.trans HD.2.2.1 e2) e3 e4 (ai HD.2.2.2 e2.size);have Yp:=aa (HY.2.trans oJ.out);clear e1 e2 e3 e4 z0 z1 z2 z3 z4 z5;obtain⟨z0,z1,z2,z3,z4,z5⟩:=eA Yp.out;have HX5:Hid ((w4.setCell ⟨w.heap.size,1,none⟩ (.slice p2 (xj.branch j).length yu)).heap[w.heap.size]? =some (.cells #[.int .i64 (off txt r),.slice p2 (xj.branch j).length yu,.int .i64 x.depth,.pointer (some ⟨sp,0,none⟩),.int .i64 kd,.int .i64 x.floor] 151 (0,0))):=aa (dG (i:=1) Yp.out _);have HX6:Hid (((w4.setCell ⟨w.heap.size,1,none⟩ (.slice p2 (xj.branch j).length yu)).setCell ⟨w.heap.size,2,none⟩ (.int .i64 x.depth)).heap[w.heap.size]? =some (.cells #[.int .i64 (off txt r),.slice p2 (xj.branch j).length yu,.int .i64 x.depth,.pointer (some ⟨sp,0,none⟩),.int .i64 kd,.int .i64 x.floor] 151 (0,0))):=aa (dG (i:=2) HX5.out _);have f1:w4.frozen? ⟨w.heap.size,1,none⟩=false:=by simp[World.frozen?,Yp.out]
     have f2:(w4.setCell ⟨w.heap.size,1,none⟩ (.slice p2 (xj.branch j).length yu)).frozen? ⟨w.heap.size,2,none⟩=false:=(by simp[World.frozen?,HX5.out]);obtain⟨_,_,y2,_,_,_⟩:=eA HX5.out;go_wp2_with fail;go_meet
     case rel=>
      obtain⟨e1,e2,e3,e4,e5⟩:=HE.out;have Uu:∀b,S.va.ownBlock=some b->b<w.heap.size:=λb h=>(HS.lt.2.2.2 b h).1;refine⟨rfl,rfl,{xj with path:=xj.branch j},p2,yu,S2,aa ⟨?_,(e2.boxed Uu (af _) _).boxed Uu (af _) _,HX6.out,(e3.boxed Yp.out (by decide) _).boxed HX5.out (by decide) _,e4,HY.1,by rw[aK,aK];exact e5,?_⟩⟩
      ·have:=(e1.boxed HY.1 Yp.out (by decide) (.slice p2 (xj.branch j).length yu) (i:=1)).boxed HY.1 HX5.out (by decide) (.int .i64 x.depth) (i:=2);exact this
      ·unfold q9;rw[if_pos ⟨λh=>Ka (by rw[HQ.out];exact h),HL.liv⟩]
   case rest=>
    obtain⟨rfl,rfl,x2,p2,yu,S2,HR⟩:=hcut;obtain⟨w5,rfl⟩:=dS wc;clear z0 z1 z2 z3 z4 z5 oJ jR;obtain⟨z0,z1,z2,z3,z4,z5⟩:=eA HR.2.2.1;have Jd:Hid (rj<:+txt/\(enc rj).length<=(enc r).length/\(enc r).length<=(enc txt).length):=aa (by
     have h1:=HL.eP;have h2:=iw.2.1;refine⟨h1.trans h2,?_,?_⟩
     ·obtain⟨v,hv⟩:=h1;rw[<-hv];simp
     ·obtain⟨v,hv⟩:=h2;rw[<-hv];simp)
    have RY:off txt r+((enc r).length- (enc rj).length:Int)=off txt rj:=(by unfold off;omega);have fI:=f264 (off txt r) ((enc r).length- (enc rj).length:Int) x.depth kd x.floor p2 x2.path.length yu (some ⟨sp,0,none⟩) w5 (by have h1:=Jd.out;have h2:=iw.2.2.1;rw[aW];unfold off;omega) (by have:=iw.2.2.2.2.2.1;rw[aW];omega);obtain⟨d1,xV⟩:=dS (x.depth+1);rw[show(x.depth:Int)+1=(d1:Int)from by rw[xV];rfl,RY]at fI;have HD1:=aa xV;have vu:=aa fI;clear RY fI xV;go_wp2_with fail;refine vu.mono ?_;rintro e w6 ⟨rfl,xW⟩;have Jg:=aa xW;clear xW z0 z1 z2 z3 z4 z5;go_wp2_with fail;obtain⟨t,ht⟩:∃t,l[j]? =some t:=⟨l[j]'(by rw[<-HN.out];exact gM),ah _⟩;obtain⟨u,hu,OU⟩:=rT.at l o j t Jv.out ht;obtain⟨ty,v,f,rfl,hm,UB,hC⟩:=HM.out j t u ht hu;have HT:=aa ht;have Bs:=aa hC;have TY:=aa OU;have HU:=aa hu;clear ht hC OU hu;have Fw:Hid (Below w5.heap.size w5 (w6.alloc (.cells #[.int .i64 (off txt rj),.slice p2 x2.path.length yu,.int .i64 d1,.pointer (some ⟨sp,0,none⟩),.int .i64 kd,.int .i64 x.floor] 151)).drew):=aa (Jg.trans (by have:=Jg.size;go_grown));have HS7:=aa (HR.1.keep Fw.out);have HF7:=aa (HS.trans HR.2.1 (HR.1.below Fw.out));have Wy:=aa (Old.xM HS.out HF7.out);have HFR:=aa ((HR.1.keep Jg.out).free (af w6.heap.size));have KR:=aa (heap_alloc_new w6 (.cells #[.int .i64 (off txt rj),.slice p2 x2.path.length yu,.int .i64 d1,.pointer (some ⟨sp,0,none⟩),.int .i64 kd,.int .i64 x.floor] 151));obtain⟨y0,y1,y2,y3,y4,y5⟩:=eA KR.out;have OE:(w6.alloc (.cells #[.int .i64 (off txt rj),.slice p2 x2.path.length yu,.int .i64 d1,.pointer (some ⟨sp,0,none⟩),.int .i64 kd,.int .i64 x.floor] 151)).cell? ⟨b,o+j,none⟩=some (.iface ty v):=(Wy.cell uL).trans HU.out;have i1:(0:Int)<=(j:Int):=by omega
    have i2:(j:Int)<(n:Int):=(by omega);have s1:(0:Int)<=((enc r).length- (enc rj).length:Int):=by have:=Jd.out;omega
    have s2:((enc r).length- (enc rj).length:Int)<=((bs r).size:Int):=(by rw[dQ];have:=Jd.out;omega);obtain⟨k0,vC⟩:=dS ((enc r).length- (enc rj).length);have s3:((enc r).length- (enc rj).length:Int).toNat=k0:=(by have:=Jd.out;omega);have s4:(bs r).extract k0 (bs r).size=bs rj:=by rw[vC];exact Be HL.eP
    have s5:k0<=(bs r).size:=(by rw[dQ];omega);have s6:(enc rj).length<=(enc r).length:=Jd.2.1;have HK0:=aa vC;clear vC;refine dP (λw'=>w'.cell? ⟨w6.heap.size,0,none⟩=some (.int .i64 (off txt rj))/\w'.cell? ⟨w6.heap.size,1,none⟩=some (.slice p2 x2.path.length yu)/\w'.cell? ⟨w6.heap.size,2,none⟩=some (.int .i64 d1)/\w'.cell? ⟨w6.heap.size,3,none⟩=some (.pointer (some ⟨sp,0,none⟩))/\w'.cell? ⟨w6.heap.size,4,none⟩=some (.int .i64 kd)/\w'.cell? ⟨w6.heap.size,5,none⟩=some (.int .i64 x.floor)/\w'.cell? ⟨b,o+j,none⟩=some (.iface ty v)) [(true,0),(true,1),(true,2),(true,3),(true,4),(true,5),(true,6),(true,7),(true,8),(true,9),(false,10),(false,11),(true,12),(true,13),(false,14)] (by kernel_rfl) (by kernel_rfl) ⟨y0,y1,y2,y3,y4,y5,OE⟩ (λhHeld=> ?_);iterate 10
     refine dL (v:= ?_) rfl (λ_ _ _ h=>h) (by rfl) ?_ hHeld ?_;rotate_left
     ·intro w hSw;(try dsimp only at hSw);go_simp
      try with_reducible rfl
     simp only[Act.put,iX]
    refine dM rfl (λK hK=> ?_);go_simp;have pH:l.drop j=t::l.drop (j+1):=by obtain⟨h1,h2⟩:=aB.1 HT.out;rw[<-h2];exact bo h1
    have rC:o6+(x.depth+1)+fT t (x.depth+1)+om (l.drop (j+1)) x.depth<=tot+C:=(by have:=HL.cost;rw[pH,om]at this;omega);have Yt:=aa rC;have T6:=aa pH;clear rC pH s1 s2 s3 s4 s5 s6 i1 i2;have qI:=HR.2.2.2.2.2.2.2;have sJ:x2.depth=x.depth/\x2.onStack=x.onStack/\x2.floor=x.floor/\x2.live=true:=by
     rw[qI];unfold q9;split
     ·exact⟨HL.dep,HL.ons,HL.flo,HL.liv⟩
     ·exact⟨HL.dep,HL.ons,HL.flo,HL.liv⟩
    have VK:x2=x\/x2.path.length<=x.depth+1:=by
     rw[qI];unfold q9;split
     ·right;show(xj.branch j).length<=_;simp[Ctx.branch,im,HL.dep]
     ·exact HL.pth
    have hvt:val t (x2.path.drop (x2.depth+1)):=by
     rw[sJ.1];by_cases sZ:x2.path.length<=x.depth+1
     ·rw[aL sZ];exact m7 t
     ·have hxx:x2=x:=VK.resolve_right sZ;have hjx:j=x.idx:=by
       by_cases e:j=x.idx
       ·exact e
       ·exfalso;rw[qI]at sZ;unfold q9 at sZ;split at sZ
        ·exact sZ (by show(xj.branch j).length<=_;simp[Ctx.branch,im,HL.dep])
        ·rename_i hno;have:xj=x:=HL.pth.resolve_right sZ;exact hno ⟨by rw[this];exact e,HL.liv⟩
      rw[hxx];have eR:x.depth<x.path.length:=by rw[hxx]at sZ;omega
      have hv:=TV.out;rw[bo eR]at hv;have he:x.path[x.depth]=j:=(by rw[hjx];simp[Ctx.idx,eR]);rw[he]at hv;exact zz l j t _ HT.out hv
    have HPT:=aa VK;have Hp:pO txt rj (.slice p2 x2.path.length yu) sp x2.next=.agg #[.int .i64 (off txt rj),.slice p2 x2.path.length yu,.int .i64 d1,.pointer (some ⟨sp,0,none⟩),.int .i64 kd,.int .i64 x.floor]:=by unfold pO;rw[show x2.next.depth=d1 from by rw[HD1.out];show x2.depth+1=_;rw[sJ.1],show x2.next.onStack=x.onStack from sJ.2.1,show x2.next.floor=x.floor from sJ.2.2.1,BM.out]
    have hP7:=HR.2.2.2.1.fr HR.2.2.2.2.1 (HR.1.below Fw.out);have OQ:fE (w6.alloc (.cells #[.int .i64 (off txt rj),.slice p2 x2.path.length yu,.int .i64 d1,.pointer (some ⟨sp,0,none⟩),.int .i64 kd,.int .i64 x.floor] 151)).drew:=hT.keep HF7.size (Wy.same 1 (by omega)) (Wy.same 2 (by omega));have fI:=Bs.out _ _ S2 rj pZ x2.next (.slice p2 x2.path.length yu) (Rp.keep Wy.out t _ TY.out) OQ HS7.out hP7.1 hP7.2 Jd.1 (by rw[show x2.next.floor=x.floor from sJ.2.2.1];exact HL.floor) sJ.2.2.2 hvt (by show x2.depth+1+uH t<=_;rw[sJ.1];have:=iw.2.2.2.2.2.1;have:=su HT.out;omega) (by show o6+(x.depth+1)+fT t (x2.depth+1)<=_;rw[sJ.1];have:=Yt.out;have:=iw.2.2.2.2.2.2;omega);rw[Hp]at fI;have Wq:=aa sJ;have HXT:=aa qI;refine fI.mono ?_;clear fI Hp hP7 OQ qI sJ VK hvt;rintro e w7 ⟨rfl,S',e1,e2⟩;obtain⟨k,ok,ie⟩:=mg rj (M t x2.next rj pZ).1;rw[ie];have Cn:=aa ie;have q8:=aa e1;have yS:=aa (HS.trans HF7.out e2);have HY:=aa ((HFR.keep (by simp) e2).2);have Wr:=aa ((Old.xM HS.out yS.out).cell (o:=o+j) uL);have HZZ:=aa (HR.2.2.2.2.2.1.keep (show w.heap.size<(w6.alloc (.cells #[.int .i64 (off txt rj),.slice p2 x2.path.length yu,.int .i64 d1,.pointer (some ⟨sp,0,none⟩),.int .i64 kd,.int .i64 x.floor] 151)).drew.heap.size from ai HR.2.2.2.2.2.2.1 Fw.size) e2);have HPF:=aa ((HR.2.2.2.1.fr HR.2.2.2.2.1 (HR.1.below Fw.out)).1.fr (HR.2.2.2.1.fr HR.2.2.2.2.1 (HR.1.below Fw.out)).2 e2);have E7:=aa (ai (ai HR.2.2.2.2.2.2.1 Fw.size) e2.size);clear e1 e2 ie y0 y1 y2 y3 y4 y5;obtain⟨y0,y1,y2,y3,y4,y5⟩:=eA (HY.trans KR.out);dsimp only;refine hK.out _ _ ⟨y0,y1,y2,y3,y4,y5,Wr.trans HU.out⟩ (λhHeld=> ?_);clear hK K y0 y1 y2 y3 y4 y5 OE;refine dM rfl (λK hK=> ?_);go_simp;refine hK.out _ _ hHeld (λdW=> ?_);clear hK K dW;iterate 2
     refine dL (v:= ?_) rfl (λ_ _ _ h=>h) (by rfl) ?_ hHeld ?_;rotate_left
     ·intro w hSw;(try dsimp only at hSw);go_simp
      try with_reducible rfl
     simp only[Act.put,iX]
    refine dM rfl (λK hK=> ?_);go_simp;refine hK.out _ _ hHeld (λdW=> ?_);clear hK K dW;refine dX rfl ?_;clear hHeld;cases oe:(M t x2.next rj pZ).1 with
    |none=>
     have ie:=Cn.out;rw[oe]at ie;have rF:Z=(none,(M t x2.next rj pZ).2):=by have Hc:M t x2.next rj pZ=(none,(M t x2.next rj pZ).2):=Prod.ext oe rfl;rw[HL.eq,T6.out,MN,<-HXT.out,Hc]
     have vo:=aa rF;have HMO:=aa oe;simp only[gC,bS,cl,bq,b8,bX,true_and,and_true]at ie;obtain⟨rfl,rfl⟩:=ie;clear oe rF;go_wp2_with fail;go_ret2;refine⟨by rw[vo.out];rfl,S',?_,yS.out⟩;have:=q8.more (show _<=tot+C by show o6+(x.depth+1)+fT t (x2.next.depth)<=_;rw[show x2.next.depth=x.depth+1 from by show x2.depth+1=_;rw[Wq.1]];have:=Yt.out;omega);rw[vo.out];exact this
    |some rn=>
     have J4:rn<:+rj:=vi _ _ _ _ _ oe;have ie:=Cn.out;rw[oe]at ie;have rF:Z=Ms (l.drop (j+1)) 0 (j+1) x2 rn (M t x2.next rj pZ).2:=by have Hc:M t x2.next rj pZ=(some rn,(M t x2.next rj pZ).2):=Prod.ext oe rfl;rw[HL.eq,T6.out,MN,<-HXT.out,Hc]
     have kT:=vl t x2.next rj pZ (by show x2.floor<=_;rw[Wq.2.2.1];exact HL.floor);have UL:Hid (x.floor<=(M t x2.next rj pZ).2.stars.length):=aa (by rw[<-Wq.2.2.1];exact kT);have vo:=aa rF;have HRN:=aa J4;have hlen:(enc rn).length<=(enc rj).length:=(by obtain⟨v,hv⟩:=J4;rw[<-hv];simp);have fP:=aa hlen;simp only[gC,bS,cl,bq,b8,bX,true_and,and_true]at ie;obtain⟨rfl,rfl⟩:=ie;have mN:IntKind.i64.wrap (((enc r).length- (enc rj).length:Int)+((enc rj).length- (enc rn).length:Int))=((enc r).length- (enc rn).length:Int):=(by have:=Jd.out;have:=iw.2.2.1;rw[aW];omega);clear oe rF kT J4 hlen;go_wp2_with fail;go_roundg (n- (j+1))
     case measure=>omega
     case rel=>
      have sJ:=Wq.out;refine⟨j+1,x2,p2,yu,rn,S',(M t x2.next rj pZ).2,o6+(x.depth+1)+fT t x2.next.depth,rfl,rfl,rfl,by omega,aa ⟨sJ.1,sJ.2.1,sJ.2.2.1,sJ.2.2.2,by rw[<-HN.out];omega,HRN.trans HL.eP,q8.out,yS.out,?_,HZZ.2.trans ?_,HPF.1,HPF.2,HZZ.1,E7.out,UL.out,vo.out,HPT.out⟩⟩
      ·rw[show x2.next.depth=x.depth+1 from by show x2.depth+1=_;rw[sJ.1]];exact Yt.out
      ·exact(Fw.block w.heap.size HR.2.2.2.2.2.2.1).trans HR.2.2.1
  ·have AB:j=n:=(by omega);have jA:decide ((j:Int)<(n:Int))=false:=by simp;omega
   have rF:Z=(some rj,pZ):=(by rw[HL.eq,aL (by rw[<-HN.out];omega)];simp[Ms]);have vo:=aa rF;clear rF AB z0 z1 z2 z3;go_wp2_with fail;go_ret2;refine⟨by rw[vo.out];rfl,Sj,?_,HL.fr⟩;rw[vo.out];exact HL.st.more (by have:=HL.cost;omega)
end
structure TLoop (w wr:World) (B sp top:Nat) (S:SV) (txt r:List dE) (x:Ctx) (l:List T) (kd:Int) (Z:Option (List dE)×St) (j:Nat) (pa:Option Addr) (pc:Nat) (Sj:SV) (pZ:St) (o6:Nat):Prop where
 st:eY wr B sp Sj txt o6 pZ
 fr:Fr w wr sp S Sj
 cost:o6+rQ (l.drop j) x.depth<=top
 box:wr.heap[w.heap.size]? =some (.cells #[.int .i64 (off txt r),.slice pa x.path.length pc,.int .i64 x.depth,.pointer (some ⟨sp,0,none⟩),.int .i64 kd,.int .i64 x.floor] 151 (0,0))
 free:yT w.heap.size sp Sj
 size:w.heap.size<wr.heap.size
 floor:x.floor<=pZ.stars.length
 eq:Z=Mt (l.drop j) x r pZ
section
variable {w:World} {B sp tot:Nat} {S:SV} {txt:List dE} {st:St}
theorem f301 (b o cap:Nat) (l:List T) (r:List dE) (x:Ctx) (vp:Value) (hT:fE w) (nI:3<=B) (uL:b<B) (hs:eY w B sp S txt tot st) (hp:eF w vp x.path) (nG:PL sp S vp) (hM:∀(j:Nat) (t:T) (u:Value),l[j]? =some t->w.cell? ⟨b,o+j,none⟩=some u->MOk t u B sp txt) (uB:rT w B b l o) (hl:l.length<=1000000) (ez:dV txt) (hr:r<:+txt) (hlen:(enc txt).length<=1000000) (kT:x.floor<=st.stars.length) (mU:x.live=true) (kZ:x.path.drop x.depth=[]) (hd:x.depth+uG l<=1000000) (qn:tot+rQ l x.depth<=1000000000000):Calls prog 301 #[.slice (some ⟨b,o,none⟩) l.length cap,pO txt r vp sp x,.string (bs r)] w λe w'=>e=.returned (gC r (Mt l x r st).1)/\∃S',eY w' B sp S' txt (tot+rQ l x.depth) (Mt l x r st).2/\Fr w w' sp S S':=by
 unfold pO;obtain⟨pa,pc,rfl⟩:∃pa pc,vp=.slice pa x.path.length pc:=by obtain⟨a,c,h,_⟩:=hp;exact⟨a,c,h⟩
 obtain⟨kd,kg⟩:=dS ((if x.onStack then 0 else 1):Int);rw[<-kg];have HB:Below w.heap.size w (w.alloc (.cells #[.int .i64 (off txt r),.slice pa x.path.length pc,.int .i64 x.depth,.pointer (some ⟨sp,0,none⟩),.int .i64 kd,.int .i64 x.floor] 151)):=by go_grown
 obtain⟨n,hn⟩:=dS l.length;rw[<-hn]at hl⊢;obtain⟨Z,hZ⟩:=dS (Mt l x r st);rw[<-hZ];obtain⟨C,hC⟩:=dS (rQ l x.depth);rw[<-hC]at qn⊢;have HN:=aa hn;have HZ:=aa hZ;have HC:=aa hC;have BM:=aa kg;have zt:=eo hp nG;have HS:=aa hs;have HM:=aa hM;have Jv:=aa uB;have iw:=Ur ez hr hlen kT mU hd qn;have qZ:=aa HB;have TV:=aa kZ;clear kZ;have V1:((bs r).size:Int)=(enc r).length:=by rw[dQ]
 clear hn kg hp nG hs hM uB ez hr hlen kT mU hd qn hZ hC HB;go_enter func301,ntmps301;go_wp2_with fail;go_loopg [14] n (λk U7 wr=>∃(j:Nat) (Sj:SV) (pZ:St) (o6:Nat),k=n-j/\U7=.int .i64 j/\j<=n/\Hid (TLoop w wr B sp (tot+C) S txt r x l kd Z j pa pc Sj pZ o6))
 case atStart=>refine⟨0,S,st,tot,rfl,rfl,aU _,aa ⟨HS.keep qZ.out,HS.below qZ.out,by rw[bK,HC.out];exact af _,heap_alloc_new w _,HS.free (af _),by simp,iw.2.2.2.1,HZ.out⟩⟩
 case round=>
  obtain⟨j,Sj,pZ,o6,rfl,rfl,hj,HL⟩:=hrel;obtain⟨z0,z1,z2,z3,z4,z5⟩:=eA HL.box;by_cases gM:j<n
  ·have kY:=gW ((j:Int)+1) (by omega);have jA:decide ((j:Int)<(n:Int))=true:=by simp;omega
   obtain⟨t,ht⟩:∃t,l[j]? =some t:=⟨l[j]'(by rw[<-HN.out];exact gM),ah _⟩;obtain⟨u,hu,OU⟩:=rT.at l o j t Jv.out ht;obtain⟨ty,v,f,rfl,hm,UB,hC⟩:=HM.out j t u ht hu;have HT:=aa ht;have Bs:=aa hC;have TY:=aa OU;have HU:=aa hu;have HO:=aa (Old.xM HS.out HL.fr);have OE:wr.cell? ⟨b,o+j,none⟩=some (.iface ty v):=(HO.cell uL).trans HU.out;have i1:(0:Int)<=(j:Int):=by omega
   have i2:(j:Int)<(n:Int):=(by omega);clear ht hC OU hu;have pH:l.drop j=t::l.drop (j+1):=by obtain⟨h1,h2⟩:=aB.1 HT.out;rw[<-h2];exact bo h1
   have rC:o6+fT t x.depth+rQ (l.drop (j+1)) x.depth<=tot+C:=(by have:=HL.cost;rw[pH,rQ]at this;omega);have Yt:=aa rC;have T6:=aa pH;clear rC pH;have hP:=zt.1.fr zt.2 HL.fr;have fI:=Bs.out wr o6 Sj r pZ x (.slice pa x.path.length pc) (Rp.keep HO.out t _ TY.out) (hT.keep HL.fr.size (HO.same 1 (by omega)) (HO.same 2 (by omega))) HL.st hP.1 hP.2 iw.2.1 HL.floor iw.2.2.2.2.1 (by rw[TV.out];exact m7 t) (by have:=iw.2.2.2.2.2.1;have:=su HT.out;omega) (by have:=Yt.out;have:=iw.2.2.2.2.2.2;omega);unfold pO at fI;rw[<-BM.out]at fI;have vu:=aa fI;clear fI hP;go_wp2_with fail;refine vu.mono ?_;rintro e w7 ⟨rfl,S',e1,e2⟩;obtain⟨k,ok,ie⟩:=mg r (M t x r pZ).1;rw[ie];have Cn:=aa ie;have q8:=aa e1;have yS:=aa (HS.trans HL.fr e2);have HZZ:=aa (HL.free.keep HL.size e2);have E7:=aa (ai HL.size e2.size);have UL:=aa (vl t x r pZ HL.floor);clear e1 e2 ie z0 z1 z2 z3 z4 z5;by_cases oe:(M t x r pZ).1=some []
   ·have ie:=Cn.out;rw[oe]at ie;have rF:Z=(some [],(M t x r pZ).2):=by
     have Hc:M t x r pZ=(some [],(M t x r pZ).2):=Prod.ext oe rfl;rw[HL.eq,T6.out,Mt,Hc]
    have vo:=aa rF;simp only[gC,gd,aG,Int.natCast_zero,Int.sub_zero,bS,cl,bq,b8,bX,true_and,and_true]at ie;obtain⟨rfl,rfl⟩:=ie;have hq:(((enc r).length:Int)==((bs r).size:Int))=true:=by rw[V1];simp
    clear oe rF;go_wp2_with fail;go_ret2;refine⟨by rw[vo.out];simp only[gC,gd,aG,Int.natCast_zero,Int.sub_zero];rfl,S',?_,yS.out⟩;rw[vo.out];exact q8.more (by have:=Yt.out;omega)
   ·have rF:Z=Mt (l.drop (j+1)) x r (M t x r pZ).2:=by
     rw[HL.eq,T6.out,Mt];split
     ·rename_i s' he;rw[he]at oe;exact(oe rfl).elim
     ·rename_i o' s' _ he;rw[he]
    have vo:=aa rF;clear rF;cases yB:(M t x r pZ).1 with
    |none=>
     have ie:=Cn.out;rw[yB]at ie;simp only[gC,bS,cl,bq,b8,bX,true_and,and_true]at ie;obtain⟨rfl,rfl⟩:=ie;clear oe yB;go_wp2_with fail;go_roundg (n- (j+1))
     case measure=>omega
     case rel=>exact⟨j+1,S',(M t x r pZ).2,o6+fT t x.depth,rfl,rfl,by omega,aa ⟨q8.out,yS.out,Yt.out,HZZ.2.trans HL.box,HZZ.1,E7.out,UL.out,vo.out⟩⟩
    |some rn=>
     have ie:=Cn.out;rw[yB]at ie;simp only[gC,bS,cl,bq,b8,bX,true_and,and_true]at ie;obtain⟨rfl,rfl⟩:=ie;have hq:(((enc r).length- (enc rn).length:Int)==(enc r).length)=false:=by
      rw[beq_eq_false_iff_ne];cases rn with
      |nil=>exact(oe yB).elim
      |cons c rn=>rw[et,aj];have:=(ec c).1;omega
     clear oe yB;go_wp2_with fail;go_roundg (n- (j+1))
     case measure=>omega
     case rel=>exact⟨j+1,S',(M t x r pZ).2,o6+fT t x.depth,rfl,rfl,by omega,aa ⟨q8.out,yS.out,Yt.out,HZZ.2.trans HL.box,HZZ.1,E7.out,UL.out,vo.out⟩⟩
  ·have jA:decide ((j:Int)<(n:Int))=false:=(by simp;omega);have rF:Z=(none,pZ):=by
    rw[HL.eq,aL (by rw[<-HN.out];omega)];simp[Mt]
   have vo:=aa rF;clear rF z0 z1 z2 z3 z4 z5;go_wp2_with fail;go_ret2;refine⟨by rw[vo.out];rfl,Sj,?_,HL.fr⟩;rw[vo.out];exact HL.st.more (by have:=HL.cost;omega)
end
end Go.Proofs.YtfejflhgaphilaaGreatDoor
