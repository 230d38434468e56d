/- The reference's count of ways. -/
import Derived.Test.YtfejflhgaphilaaGreatDoorC37
import Derived.Test.YtfejflhgaphilaaGreatDoorC43
import Derived.Test.YtfejflhgaphilaaGreatDoorC25
set_option linter.all false
set_option maxRecDepth 100000
set_option maxHeartbeats 64000000
open Go.Proofs.Tryz
namespace Go.Proofs.YtfejflhgaphilaaGreatDoor
open Go.RowKit Gm
variable {g:Gb} {j:Nat}
theorem N3.DD (n:N3) (k:Nat):(n.alt k).st=n.st/\(n.alt k).gr<=n.gr+1/\(n.pr<=1000->(n.alt k).pr<=1000):=by
 unfold N3.alt;split
 ·refine⟨rfl,af _,λ_=>Nat.min_le_left _ _⟩
 ·exact⟨rfl,Nat.le_succ _,λh=>h⟩
mutual
theorem Wa:∀(g:Gb) (n:N3),(mj g n).st<=n.st+gq g/\(mj g n).gr<=n.gr+gq g/\(n.pr<=1000->(mj g n).pr<=1000)
 |.any,n=>by simp[mj,gq,N3.star]
 |.fq,n=>by simp[mj,gq,N3.star]
 |.alt ks,n=>by obtain⟨a1,a2,a3⟩:=n.DD ks.length;obtain⟨b1,b2,b3⟩:=Ig ks (n.alt ks.length);simp only[mj,gq];exact⟨by omega,by omega,λh=>b3 (a3 h)⟩
 |.text _,n=>by simp[mj,gq]
 |.one,n=>by simp[mj,gq]
 |.set _ _,n=>by simp[mj,gq]
 |.range _ _ _,n=>by simp[mj,gq]
theorem pN:∀(l:List Gb) (n:N3),(fx l n).st<=n.st+ey l/\(fx l n).gr<=n.gr+ey l/\(n.pr<=1000->(fx l n).pr<=1000)
 | [],n=>by simp[fx,ey]
 |g::l,n=>by obtain⟨a1,a2,a3⟩:=Wa g n;obtain⟨b1,b2,b3⟩:=pN l (mj g n);simp only[fx,ey];exact⟨by omega,by omega,λh=>b3 (a3 h)⟩
theorem Ig:∀(ks:List (List Gb)) (n:N3),(iG ks n).st<=n.st+eU ks/\(iG ks n).gr<=n.gr+eU ks/\(n.pr<=1000->(iG ks n).pr<=1000)
 | [],n=>by simp[iG,eU]
 |k::ks,n=>by obtain⟨a1,a2,a3⟩:=pN k n;obtain⟨b1,b2,b3⟩:=Ig ks (fx k n);simp only[iG,eU];exact⟨by omega,by omega,λh=>b3 (a3 h)⟩
end
theorem Ku {gl:List Gb} (h:gl[j]? =some g) (n:N3):fx (gl.drop j) n=fx (gl.drop (j+1)) (mj g n)/\ey (gl.drop j)=gq g+ey (gl.drop (j+1)):=by obtain⟨hj,rfl⟩:=aB.1 h;rw[bo hj,fx,ey];exact⟨rfl,rfl⟩
theorem tL {gl:List (List Gb)} {g:List Gb} (h:gl[j]? =some g) (n:N3):iG (gl.drop j) n=iG (gl.drop (j+1)) (fx g n)/\eU (gl.drop j)=ey g+eU (gl.drop (j+1)):=by obtain⟨hj,rfl⟩:=aB.1 h;rw[bo hj,iG,eU];exact⟨rfl,rfl⟩
theorem OY (h:eC g=1\/eC g=2) (n:N3):mj g n=n.star/\gm g=[]/\gq g=1:=by cases g<;>simp[eC]at h<;>exact⟨by simp only[mj],rfl,by simp only[gq]⟩
theorem OZ (h:eC g=0\/eC g=3\/eC g=4\/eC g=5) (n:N3):mj g n=n/\gm g=[]/\gq g=1:=by cases g<;>simp[eC]at h<;>exact⟨by simp only[mj],rfl,by simp only[gq]⟩
structure rV (w wr:World) (a b c:Nat) (n:N3):Prop where
 fo:ei (λx=>x=a\/x=b\/x=c) w wr
 c1:wr.heap[a]? =some (.cells #[.int .i64 (n.st:Int)] 3)
 c2:wr.heap[b]? =some (.cells #[.int .i64 (n.gr:Int)] 3)
 c3:wr.heap[c]? =some (.cells #[.int .i64 (n.pr:Int)] 3)
section
variable {w0 w wr:World} {a b c:Nat} {n:N3}
theorem rV.low (h:rV w wr a b c n) (hb:Below w0.heap.size w0 w) (h0:w0.heap.size<=w.heap.size) (h1:w0.heap.size<=a) (h2:w0.heap.size<=b) (h3:w0.heap.size<=c):Below w0.heap.size w0 wr:=hb.trans (h.fo.below h0 λx hx=>by rcases hx with rfl|rfl|rfl<;>assumption)
theorem rV.alloc (h:rV w wr a b c n) (h1:a<w.heap.size) (h2:b<w.heap.size) (h3:c<w.heap.size) (o:Obj):rV w (wr.alloc o) a b c n:=⟨h.fo.alloc o,(heap_alloc_old wr o (ai h1 h.fo.size)).trans h.c1,(heap_alloc_old wr o (ai h2 h.fo.size)).trans h.c2,(heap_alloc_old wr o (ai h3 h.fo.size)).trans h.c3⟩
theorem rV.drew (h:rV w wr a b c n):rV w wr.drew a b c n:=⟨⟨h.fo.os,h.fo.tape,h.fo.output,h.fo.size,h.fo.same⟩,h.c1,h.c2,h.c3⟩
theorem rV.set1 (h:rV w wr a b c n) (h1:a≠b) (h2:a≠c) (x:Nat):rV w (wr.setCell ⟨a,0,none⟩ (.int .i64 (x:Int))) a b c ⟨x,n.gr,n.pr⟩:=⟨h.fo.store _ (.inl rfl),by rw[dG h.c1];rfl,(aq _ _ _ _ (cE h1)).trans h.c2,(aq _ _ _ _ (cE h2)).trans h.c3⟩
theorem rV.set2 (h:rV w wr a b c n) (h1:a≠b) (h2:b≠c) (x:Nat):rV w (wr.setCell ⟨b,0,none⟩ (.int .i64 (x:Int))) a b c ⟨n.st,x,n.pr⟩:=⟨h.fo.store _ (.inr (.inl rfl)),(aq _ _ _ _ h1).trans h.c1,by rw[dG h.c2];rfl,(aq _ _ _ _ (cE h2)).trans h.c3⟩
theorem rV.YF (h:rV w wr a b c n) (h1:a≠c) (h2:b≠c) (x:Nat):rV w (wr.setCell ⟨c,0,none⟩ (.int .i64 (x:Int))) a b c ⟨n.st,n.gr,x⟩:=⟨h.fo.store _ (.inr (.inr rfl)),(aq _ _ _ _ h1).trans h.c1,(aq _ _ _ _ h2).trans h.c2,by rw[dG h.c3];rfl⟩
end
theorem f36s (w0:World) (q1 q2 q3:Nat) (d12:q1≠q2) (d13:q1≠q3) (d23:q2≠q3) (p1:w0.heap.size<=q1) (p2:w0.heap.size<=q2) (p3:w0.heap.size<=q3) (gl:List Gb) (IH:∀ks,.alt ks∈gl->∀k∈ks,∀(v:Value) (m:N3) (w:World),tV w0 (ox k) v->Below w0.heap.size w0 w->w0.heap.size<=w.heap.size->q1<w.heap.size->q2<w.heap.size->q3<w.heap.size->rV w w q1 q2 q3 m->m.st+ey k<=1000000->m.gr+ey k<=1000000->m.pr<=1000->Calls prog 36 #[v,.pointer (some ⟨q1,0,none⟩),.pointer (some ⟨q2,0,none⟩),.pointer (some ⟨q3,0,none⟩)] w λe w'=>e=.returned (.tuple #[])/\rV w w' q1 q2 q3 (fx k m)) (v:Value) (m:N3) (w:World) (hv:tV w0 (ox gl) v) (hb:Below w0.heap.size w0 w) (h0:w0.heap.size<=w.heap.size) (l1:q1<w.heap.size) (l2:q2<w.heap.size) (l3:q3<w.heap.size) (jn:rV w w q1 q2 q3 m) (iW:m.st+ey gl<=1000000) (hgr:m.gr+ey gl<=1000000) (hpr:m.pr<=1000):Calls prog 36 #[v,.pointer (some ⟨q1,0,none⟩),.pointer (some ⟨q2,0,none⟩),.pointer (some ⟨q3,0,none⟩)] w λe w'=>e=.returned (.tuple #[])/\rV w w' q1 q2 q3 (fx gl m):=by
 obtain⟨a,c,rfl,q7,mT⟩:=hv.row;obtain⟨n,hn⟩:=dS gl.length;rw[<-hn]at q7⊢;obtain⟨R,hR⟩:=dS (fx gl m);rw[<-hR];have H:=jj9 hn mT hb IH hR jn iW hgr hpr;clear hn mT hb IH hR jn hv iW hgr hpr;unfold maxLen at q7;go_enter func36,ntmps36;go_wp2_with fail;go_loopg [14] n (λk U7 wr=>∃j:Nat,k=n-j/\U7=.int .i64 j/\j<=n/\∃m1:N3,(m1.st<=1000000/\m1.gr<=1000000/\m1.pr<=1000)/\Hid (rV w wr q1 q2 q3 m1/\R=fx (gl.drop j) m1/\m1.st+ey (gl.drop j)<=1000000/\m1.gr+ey (gl.drop j)<=1000000))
 case atStart=>exact⟨0,rfl,rfl,aU _,m,⟨by have:=H.2.2.2.2.2.2.1;omega,by have:=H.2.2.2.2.2.2.2.1;omega,H.2.2.2.2.2.2.2.2⟩,aa ⟨H.2.2.2.2.2.1,H.2.2.2.2.1,H.2.2.2.2.2.2.1,H.2.2.2.2.2.2.2.1⟩⟩
 case round=>
  obtain⟨j,rfl,rfl,hj,m1,⟨yB,VP,hm3⟩,HJ⟩:=hrel;by_cases gM:j<n
  ·have kY:=gW ((j:Int)+1) (by omega);have jA:decide ((j:Int)<(n:Int))=true:=by simp;omega
   have i1:(0:Int)<=(j:Int):=(by omega);have i2:(j:Int)<(n:Int):=by omega
   have mV:j<gl.length:=(by rw[<-H.1];exact gM);obtain⟨g,hg⟩:∃g,gl[j]? =some g:=⟨_,ah mV⟩;obtain⟨b,o,rfl,hS⟩:=H.2.1 (by intro e;rw[e]at mV;simp at mV);have o0:=HJ.1.low H.2.2.1 h0 p1 p2 p3;obtain⟨a2,c2,g0,g1,g2,g3,g4,g5,kg⟩:=tW.cells hS o0 hg;have Hn:=Ku hg m1;have HR:=jS hg kg Hn;have uD:=HJ.1.alloc l1 l2 l3 (.cells #[.int .u8 (eC g),.bool (mF g),.string (bs (ja g)),.int .i32 (yI g),.int .i32 (yJ g),.slice a2 (gm g).length c2] 97);clear hg hS o0 Hn;have Jr:=(heap_alloc_new wr (.cells #[.int .u8 (eC g),.bool (mF g),.string (bs (ja g)),.int .i32 (yI g),.int .i32 (yJ g),.slice a2 (gm g).length c2] 97));go_upto_region 3 with fail
   obtain⟨W1,gZ⟩:=dS (wr.alloc (.cells #[.int .u8 (eC g),.bool (mF g),.string (bs (ja g)),.int .i32 (yI g),.int .i32 (yJ g),.slice a2 (gm g).length c2] 97));rw[<-gZ]at uD Jr⊢;obtain⟨G,hG⟩:=dS wr.heap.size;rw[<-hG]at Jr⊢;have y0:W1.cell? ⟨G,0,none⟩=some (.int .u8 (eC g)):=cell_of Jr rfl;have y5:W1.cell? ⟨G,5,none⟩=some (.slice a2 (gm g).length c2):=cell_of Jr rfl;have z1:W1.cell? ⟨q1,0,none⟩=some (.int .i64 (m1.st:Int)):=cell_of uD.c1 rfl;have z2:W1.cell? ⟨q2,0,none⟩=some (.int .i64 (m1.gr:Int)):=cell_of uD.c2 rfl;have z3:W1.cell? ⟨q3,0,none⟩=some (.int .i64 (m1.pr:Int)):=cell_of uD.c3 rfl;have f1:W1.frozen? ⟨q1,0,none⟩=false:=by simp[World.frozen?,uD.c1]
   have f2:W1.frozen? ⟨q2,0,none⟩=false:=(by simp[World.frozen?,uD.c2]);have f3:W1.frozen? ⟨q3,0,none⟩=false:=by simp[World.frozen?,uD.c3]
   have hGn:G≠q1/\G≠q2/\G≠q3:=(by have:=HJ.1.fo.size;omega);have HW:=eo uD hGn;clear uD Jr gZ hG hGn g0 g1 g2 g3 g4 g5;obtain⟨gk,xU⟩:=dS (eC g);rw[<-xU]at y0⊢;obtain⟨nk,sY⟩:=dS (gm g).length;rw[<-sY]at y5⊢;have RZ:nk<=140737488355328:=by rw[sY];exact kg.1
   have BK:=eo xU sY;have HKI:=aa kg;clear xU sY kg;have hkr:=x8 g;rw[<-BK.1]at hkr;have mN:=gW ((m1.st:Int)+1) (by omega);have nZ:=gW ((m1.gr:Int)+1) (by omega);obtain hk|hk|hk:(gk=1\/gk=2)\/(gk=0\/gk=3\/gk=4\/gk=5)\/gk=6:=by omega
   ·obtain⟨e1,e2,e3⟩:=OY (by rw[<-BK.1];exact hk) m1 (g:=g);have Zz:nk=0:=by rw[BK.2,e2];rfl
    subst Zz;have HE:=eo e1 e3;clear e1 e2 e3;obtain⟨W2,lz⟩:=dS (W1.setCell ⟨q1,0,none⟩ (.int .i64 ((m1.st+1:Nat):Int)));have qI:=HW.1.set1 d12 d13 (m1.st+1);have y0':W2.cell? ⟨G,0,none⟩=some (.int .u8 gk):=by rw[lz];exact jj y0 (cE HW.2.1)
    have y5':W2.cell? ⟨G,5,none⟩=some (.slice a2 0 c2):=(by rw[lz];exact jj y5 (cE HW.2.1));rw[<-lz]at qI;have hW2':W1.setCell ⟨q1,0,none⟩ (.int .i64 ((m1.st:Int)+1))=W2:=(by rw[lz];simp);have oJ:=aa qI;clear qI lz;rcases hk with rfl|rfl<;>
    ·go_wp2_with fail;go_loopg [64] 0 (λk U6 wx=>k=0/\U6=.int .i64 0/\Hid (rV w wx q1 q2 q3 ⟨m1.st+1,m1.gr,m1.pr⟩))
     case atStart=>exact⟨rfl,rfl,oJ⟩
     case round=>
      obtain⟨rfl,rfl,HM⟩:=hrel;go_wp2_with fail;go_roundg (n- (j+1))
      case measure=>omega
      case rel=>have h1:=HJ.2.2.1;have h2:=HJ.2.2.2;have h3:=HR.2.2.2;have h4:=HE.2;exact⟨j+1,rfl,rfl,by omega,m1.star,⟨by simp only[N3.star];omega,VP,hm3⟩,aa ⟨HM.out,by rw[HJ.2.1,HR.2.2.1,HE.1],by simp only[N3.star];omega,by simp only[N3.star];omega⟩⟩
   ·obtain⟨e1,e2,e3⟩:=OZ (by rw[<-BK.1];exact hk) m1 (g:=g);have Zz:nk=0:=by rw[BK.2,e2];rfl
    subst Zz;have HE:=eo e1 e3;clear e1 e2 e3;rcases hk with rfl|rfl|rfl|rfl<;>
    ·go_wp2_with fail;go_loopg [64] 0 (λk U6 wx=>k=0/\U6=.int .i64 0/\Hid (rV w wx q1 q2 q3 m1))
     case atStart=>exact⟨rfl,rfl,aa HW.1⟩
     case round=>
      obtain⟨rfl,rfl,HM⟩:=hrel;go_wp2_with fail;go_roundg (n- (j+1))
      case measure=>omega
      case rel=>have h1:=HJ.2.2.1;have h2:=HJ.2.2.2;have h3:=HR.2.2.2;have h4:=HE.2;exact⟨j+1,rfl,rfl,by omega,m1,⟨yB,VP,hm3⟩,aa ⟨HM.out,by rw[HJ.2.1,HR.2.2.1,HE.1],by omega,by omega⟩⟩
   ·obtain⟨ks,rfl⟩:=xi (by rw[<-BK.1];exact hk);subst hk;have BM:Hid (nk=ks.length/\Kids w0 ks a2):=aa ⟨BK.2,HKI.out⟩;have oK:Hid (∀wx,rV w wx q1 q2 q3 (m1.alt nk)->(m1.alt nk).pr<=1000/\rV w wx q1 q2 q3 (m1.alt nk)/\R=fx (gl.drop (j+1)) (iG (ks.drop 0) (m1.alt nk))/\(m1.alt nk).st+eU (ks.drop 0)+ey (gl.drop (j+1))<=1000000/\(m1.alt nk).gr+eU (ks.drop 0)+ey (gl.drop (j+1))<=1000000):=aa λwx hx=>by
     obtain⟨b1,b2,b3⟩:=m1.DD nk;have h1:=HJ.2.2.1;have h2:=HJ.2.2.2;have h3:=HR.2.2.2;simp only[gq]at h3;refine⟨b3 hm3,hx,?_,by rw[bK];omega,by rw[bK];omega⟩;rw[HJ.2.1,HR.2.2.1,bK];simp only[mj];rw[<-BM.1]
    by_cases tF:1<nk
    ·have hn1':decide ((1:Int)<(nk:Int))=true:=(by simp;omega);have qI:=HW.1.set2 d12 d23 (m1.gr+1);obtain⟨W2,lz⟩:=dS (W1.setCell ⟨q2,0,none⟩ (.int .i64 ((m1.gr+1:Nat):Int)));have y5':W2.cell? ⟨G,5,none⟩=some (.slice a2 nk c2):=by rw[lz];exact jj y5 (cE HW.2.2.1)
     rw[<-lz]at qI;have hW2':W1.setCell ⟨q2,0,none⟩ (.int .i64 ((m1.gr:Int)+1))=W2:=by rw[lz];simp
     have z3':W2.cell? ⟨q3,0,none⟩=some (.int .i64 (m1.pr:Int)):=cell_of qI.c3 rfl;have f3':W2.frozen? ⟨q3,0,none⟩=false:=by simp[World.frozen?,qI.c3]
     have oJ:=aa qI;clear qI lz;by_cases EF:3<nk
     ·have hn3':decide ((3:Int)<(nk:Int))=true:=(by simp;omega);have yv:=oJ.YF d13 d23 1000;obtain⟨W3,kl⟩:=dS (W2.setCell ⟨q3,0,none⟩ (.int .i64 ((1000:Nat):Int)));have y5'':W3.cell? ⟨G,5,none⟩=some (.slice a2 nk c2):=by rw[kl];exact jj y5' (cE HW.2.2.2)
      rw[<-kl]at yv;have hW3':W2.setCell ⟨q3,0,none⟩ (.int .i64 1000)=W3:=by rw[kl];rfl
      have z3'':W3.cell? ⟨q3,0,none⟩=some (.int .i64 1000):=cell_of yv.c3 rfl;have f3'':W3.frozen? ⟨q3,0,none⟩=false:=by simp[World.frozen?,yv.c3]
      have MQ:=aa yv;clear yv kl;obtain⟨PP,Z3⟩:=dS (1000*nk:Nat);have hPl:PP<=140737488355328000:=by omega
      have hPm:(1000:Int)*(nk:Int)=(PP:Int):=(by rw[Z3];omega);have zt:=aa Z3;clear Z3;have hPw:=gW (PP:Int) (by omega);have SI:min (1000:Int) (PP:Int)=((min 1000 PP:Nat):Int):=(by omega);obtain⟨W4,qU⟩:=dS (W3.setCell ⟨q3,0,none⟩ (.int .i64 ((min 1000 PP:Nat):Int)));have OC:=MQ.YF d13 d23 (min 1000 PP);have y5a:W4.cell? ⟨G,5,none⟩=some (.slice a2 nk c2):=by rw[qU];exact jj y5'' (cE HW.2.2.2)
      rw[<-qU]at OC;have HW4:=aa qU;have jx:Hid (rV w W4 q1 q2 q3 (m1.alt nk)):=aa (by have e:m1.alt nk=⟨m1.st,m1.gr+1,min 1000 PP⟩:=(by unfold N3.alt;rw[if_pos tF,zt.out];rw[if_pos EF]);rw[e];exact OC);clear OC qU;go_upto_region 9 with fail
      refine dP (λw'=>w'.cell? ⟨q3,0,none⟩=some (.int .i64 1000)/\w'.cell? ⟨G,5,none⟩=some (.slice a2 nk c2)/\w'.frozen? ⟨q3,0,none⟩=false) [(true,0),(true,1),(true,2),(true,3),(true,4),(true,5),(true,6),(true,7),(true,8),(true,9)] (by kernel_rfl) (by kernel_rfl) ⟨z3'',y5'',f3''⟩ (λhHeld=> ?_);iterate 10
       refine dL (v:= ?_) rfl (λ_ _ _ h=>h) (by rfl) ?_ hHeld ?_;rotate_left
       ·intro w hSw;obtain⟨qV,yG,hS3⟩:=hSw;(try dsimp only at qV yG);go_simp
        try with_reducible rfl
       simp only[Act.put,iX]
      clear hHeld;refine dX rfl ?_;have hm:∃x:Nat,x=min 1000 PP:=⟨_,rfl⟩;obtain⟨mm,R6⟩:=hm;rw[<-R6]at SI;have hW4':W3.setCell ⟨q3,0,none⟩ (.int .i64 (mm:Int))=W4:=by rw[HW4.out,R6]
      have HMM:=aa R6;clear R6;go_upto_region 10 with fail
      go_wp2_with fail;go_loopg [64] nk (λk U6 wx=>∃i:Nat,k=nk-i/\U6=.int .i64 i/\i<=nk/\∃m2:N3,Hid (m2.pr<=1000/\rV w wx q1 q2 q3 m2/\R=fx (gl.drop (j+1)) (iG (ks.drop i) m2)/\m2.st+eU (ks.drop i)+ey (gl.drop (j+1))<=1000000/\m2.gr+eU (ks.drop i)+ey (gl.drop (j+1))<=1000000))
      case atStart=>exact⟨0,rfl,rfl,aU _,m1.alt nk,aa (oK.out _ (by first|exact jx.out|(have h:=jx.out;rw[HW4.out]at h;exact h.drew)))⟩
      case round=>
       obtain⟨i,rfl,rfl,BX,m2,HM⟩:=hrel;by_cases sL:i<nk
       ·have GV:=gW ((i:Int)+1) (by omega);have BH:decide ((i:Int)<(nk:Int))=true:=by simp;omega
        have Xh:(0:Int)<=(i:Int):=(by omega);have Xg:(i:Int)<(nk:Int):=by omega
        have rA:i<ks.length:=(by rw[<-BM.1];exact sL);obtain⟨bk,YO,rfl,hK⟩:=BM.2.2 (by intro e;rw[e]at rA;simp at rA);obtain⟨kd,kg⟩:∃kd,ks[i]? =some kd:=⟨_,ah rA⟩;have jo:=HM.2.1.low H.2.2.1 h0 p1 p2 p3;obtain⟨ak,ck,Hr,vB⟩:=ua.kid hK jo kg;have gJ:=HM.2.1.fo.size;obtain⟨Mn,XQ⟩:=tL kg m2;have ka:=H.2.2.2.1 ks (bh.2 ⟨j,HR.1⟩) kd (bh.2 ⟨i,kg⟩) _ m2 wr vB jo (by omega) (by omega) (by omega) (by omega) ⟨ei.refl _ _,HM.2.1.c1,HM.2.1.c2,HM.2.1.c3⟩ (by have:=HM.2.2.2.1;omega) (by have:=HM.2.2.2.2;omega) HM.1;obtain⟨nkd,oR⟩:=dS kd.length;rw[<-oR]at Hr ka;have vE:=aa ka;have HN:=jS kg Mn XQ;clear kg vB jo ka oR hK Mn XQ;go_wp2_with fail;refine vE.mono ?_;rintro e w2 ⟨rfl,gP⟩;have qC:=aa gP;clear gP;go_wp2_with fail;go_roundg (nk- (i+1))
        case measure=>omega
        case rel=>obtain⟨b1,b2,b3⟩:=pN kd m2;exact⟨i+1,rfl,rfl,by omega,fx kd m2,aa ⟨b3 HM.1,⟨HM.2.1.fo.then qC.fo,qC.c1,qC.c2,qC.c3⟩,by rw[HM.2.2.1,HN.2.1],by have:=HM.2.2.2.1;have:=HN.2.2;omega,by have:=HM.2.2.2.2;have:=HN.2.2;omega⟩⟩
       ·have BH:decide ((i:Int)<(nk:Int))=false:=(by simp;omega);go_wp2_with fail;go_roundg (n- (j+1))
        case measure=>omega
        case rel=>obtain⟨e1,e2,e3,e4,e5⟩:=HM.out;rw[aL (l:=ks) (by rw[<-BM.1];omega)]at e3 e4 e5;simp only[iG,eU]at e3 e4 e5;exact⟨j+1,rfl,rfl,by omega,m2,⟨by omega,by omega,e1⟩,aa ⟨e2,e3,by omega,by omega⟩⟩
     ·have hn3':decide ((3:Int)<(nk:Int))=false:=(by simp;omega);obtain⟨PP,Z3⟩:=dS (m1.pr*nk:Nat);have hPl:PP<=140737488355328000:=by
       have:=dx hm3 RZ;omega
      have hPm:(m1.pr:Int)*(nk:Int)=(PP:Int):=(by rw[Z3];simp);have zt:=aa Z3;clear Z3;have hPw:=gW (PP:Int) (by omega);have SI:min (1000:Int) (PP:Int)=((min 1000 PP:Nat):Int):=(by omega);obtain⟨W4,qU⟩:=dS (W2.setCell ⟨q3,0,none⟩ (.int .i64 ((min 1000 PP:Nat):Int)));have OC:=oJ.YF d13 d23 (min 1000 PP);have y5a:W4.cell? ⟨G,5,none⟩=some (.slice a2 nk c2):=by rw[qU];exact jj y5' (cE HW.2.2.2)
      rw[<-qU]at OC;have HW4:=aa qU;have jx:Hid (rV w W4 q1 q2 q3 (m1.alt nk)):=aa (by have e:m1.alt nk=⟨m1.st,m1.gr+1,min 1000 PP⟩:=(by unfold N3.alt;rw[if_pos tF,zt.out];rw[if_neg EF]);rw[e];exact OC);clear OC qU;go_upto_region 9 with fail
      refine dP (λw'=>w'.cell? ⟨q3,0,none⟩=some (.int .i64 (m1.pr:Int))/\w'.cell? ⟨G,5,none⟩=some (.slice a2 nk c2)/\w'.frozen? ⟨q3,0,none⟩=false) [(true,0),(true,1),(true,2),(true,3),(true,4),(true,5),(true,6),(true,7),(true,8),(true,9)] (by kernel_rfl) (by kernel_rfl) ⟨z3',y5',f3'⟩ (λhHeld=> ?_);iterate 10
       refine dL (v:= ?_) rfl (λ_ _ _ h=>h) (by rfl) ?_ hHeld ?_;rotate_left
       ·intro w hSw;obtain⟨qV,yG,hS3⟩:=hSw;(try dsimp only at qV yG);go_simp
        try with_reducible rfl
       simp only[Act.put,iX]
      clear hHeld;refine dX rfl ?_;have hm:∃x:Nat,x=min 1000 PP:=⟨_,rfl⟩;obtain⟨mm,R6⟩:=hm;rw[<-R6]at SI;have hW4':W2.setCell ⟨q3,0,none⟩ (.int .i64 (mm:Int))=W4:=by rw[HW4.out,R6]
      have HMM:=aa R6;clear R6;go_upto_region 10 with fail
      go_wp2_with fail;go_loopg [64] nk (λk U6 wx=>∃i:Nat,k=nk-i/\U6=.int .i64 i/\i<=nk/\∃m2:N3,Hid (m2.pr<=1000/\rV w wx q1 q2 q3 m2/\R=fx (gl.drop (j+1)) (iG (ks.drop i) m2)/\m2.st+eU (ks.drop i)+ey (gl.drop (j+1))<=1000000/\m2.gr+eU (ks.drop i)+ey (gl.drop (j+1))<=1000000))
      case atStart=>exact⟨0,rfl,rfl,aU _,m1.alt nk,aa (oK.out _ (by first|exact jx.out|(have h:=jx.out;rw[HW4.out]at h;exact h.drew)))⟩
      case round=>
       obtain⟨i,rfl,rfl,BX,m2,HM⟩:=hrel;by_cases sL:i<nk
       ·have GV:=gW ((i:Int)+1) (by omega);have BH:decide ((i:Int)<(nk:Int))=true:=by simp;omega
        have Xh:(0:Int)<=(i:Int):=(by omega);have Xg:(i:Int)<(nk:Int):=by omega
        have rA:i<ks.length:=(by rw[<-BM.1];exact sL);obtain⟨bk,YO,rfl,hK⟩:=BM.2.2 (by intro e;rw[e]at rA;simp at rA);obtain⟨kd,kg⟩:∃kd,ks[i]? =some kd:=⟨_,ah rA⟩;have jo:=HM.2.1.low H.2.2.1 h0 p1 p2 p3;obtain⟨ak,ck,Hr,vB⟩:=ua.kid hK jo kg;have gJ:=HM.2.1.fo.size;obtain⟨Mn,XQ⟩:=tL kg m2;have ka:=H.2.2.2.1 ks (bh.2 ⟨j,HR.1⟩) kd (bh.2 ⟨i,kg⟩) _ m2 wr vB jo (by omega) (by omega) (by omega) (by omega) ⟨ei.refl _ _,HM.2.1.c1,HM.2.1.c2,HM.2.1.c3⟩ (by have:=HM.2.2.2.1;omega) (by have:=HM.2.2.2.2;omega) HM.1;obtain⟨nkd,oR⟩:=dS kd.length;rw[<-oR]at Hr ka;have vE:=aa ka;have HN:=jS kg Mn XQ;clear kg vB jo ka oR hK Mn XQ;go_wp2_with fail;refine vE.mono ?_;rintro e w2 ⟨rfl,gP⟩;have qC:=aa gP;clear gP;go_wp2_with fail;go_roundg (nk- (i+1))
        case measure=>omega
        case rel=>obtain⟨b1,b2,b3⟩:=pN kd m2;exact⟨i+1,rfl,rfl,by omega,fx kd m2,aa ⟨b3 HM.1,⟨HM.2.1.fo.then qC.fo,qC.c1,qC.c2,qC.c3⟩,by rw[HM.2.2.1,HN.2.1],by have:=HM.2.2.2.1;have:=HN.2.2;omega,by have:=HM.2.2.2.2;have:=HN.2.2;omega⟩⟩
       ·have BH:decide ((i:Int)<(nk:Int))=false:=(by simp;omega);go_wp2_with fail;go_roundg (n- (j+1))
        case measure=>omega
        case rel=>obtain⟨e1,e2,e3,e4,e5⟩:=HM.out;rw[aL (l:=ks) (by rw[<-BM.1];omega)]at e3 e4 e5;simp only[iG,eU]at e3 e4 e5;exact⟨j+1,rfl,rfl,by omega,m2,⟨by omega,by omega,e1⟩,aa ⟨e2,e3,by omega,by omega⟩⟩
    ·have hn1':decide ((1:Int)<(nk:Int))=false:=(by simp;omega);have jx:Hid (rV w W1 q1 q2 q3 (m1.alt nk)):=aa (by unfold N3.alt;rw[if_neg tF];exact HW.1);go_upto_region 10 with fail
     go_wp2_with fail;go_loopg [64] nk (λk U6 wx=>∃i:Nat,k=nk-i/\U6=.int .i64 i/\i<=nk/\∃m2:N3,Hid (m2.pr<=1000/\rV w wx q1 q2 q3 m2/\R=fx (gl.drop (j+1)) (iG (ks.drop i) m2)/\m2.st+eU (ks.drop i)+ey (gl.drop (j+1))<=1000000/\m2.gr+eU (ks.drop i)+ey (gl.drop (j+1))<=1000000))
     case atStart=>exact⟨0,rfl,rfl,aU _,m1.alt nk,aa (oK.out _ (by first|exact jx.out|(have h:=jx.out;rw[HW4.out]at h;exact h.drew)))⟩
     case round=>
      obtain⟨i,rfl,rfl,BX,m2,HM⟩:=hrel;by_cases sL:i<nk
      ·have GV:=gW ((i:Int)+1) (by omega);have BH:decide ((i:Int)<(nk:Int))=true:=by simp;omega
       have Xh:(0:Int)<=(i:Int):=(by omega);have Xg:(i:Int)<(nk:Int):=by omega
       have rA:i<ks.length:=(by rw[<-BM.1];exact sL);obtain⟨bk,YO,rfl,hK⟩:=BM.2.2 (by intro e;rw[e]at rA;simp at rA);obtain⟨kd,kg⟩:∃kd,ks[i]? =some kd:=⟨_,ah rA⟩;have jo:=HM.2.1.low H.2.2.1 h0 p1 p2 p3;obtain⟨ak,ck,Hr,vB⟩:=ua.kid hK jo kg;have gJ:=HM.2.1.fo.size;obtain⟨Mn,XQ⟩:=tL kg m2;have ka:=H.2.2.2.1 ks (bh.2 ⟨j,HR.1⟩) kd (bh.2 ⟨i,kg⟩) _ m2 wr vB jo (by omega) (by omega) (by omega) (by omega) ⟨ei.refl _ _,HM.2.1.c1,HM.2.1.c2,HM.2.1.c3⟩ (by have:=HM.2.2.2.1;omega) (by have:=HM.2.2.2.2;omega) HM.1;obtain⟨nkd,oR⟩:=dS kd.length;rw[<-oR]at Hr ka;have vE:=aa ka;have HN:=jS kg Mn XQ;clear kg vB jo ka oR hK Mn XQ;go_wp2_with fail;refine vE.mono ?_;rintro e w2 ⟨rfl,gP⟩;have qC:=aa gP;clear gP;go_wp2_with fail;go_roundg (nk- (i+1))
       case measure=>omega
       case rel=>obtain⟨b1,b2,b3⟩:=pN kd m2;exact⟨i+1,rfl,rfl,by omega,fx kd m2,aa ⟨b3 HM.1,⟨HM.2.1.fo.then qC.fo,qC.c1,qC.c2,qC.c3⟩,by rw[HM.2.2.1,HN.2.1],by have:=HM.2.2.2.1;have:=HN.2.2;omega,by have:=HM.2.2.2.2;have:=HN.2.2;omega⟩⟩
      ·have BH:decide ((i:Int)<(nk:Int))=false:=(by simp;omega);go_wp2_with fail;go_roundg (n- (j+1))
       case measure=>omega
       case rel=>obtain⟨e1,e2,e3,e4,e5⟩:=HM.out;rw[aL (l:=ks) (by rw[<-BM.1];omega)]at e3 e4 e5;simp only[iG,eU]at e3 e4 e5;exact⟨j+1,rfl,rfl,by omega,m2,⟨by omega,by omega,e1⟩,aa ⟨e2,e3,by omega,by omega⟩⟩
  ·have jA:decide ((j:Int)<(n:Int))=false:=(by simp;omega);go_wp2_with fail;go_end0;obtain⟨h1,h2,_⟩:=HJ.out;rw[aL (by rw[<-H.1];omega),fx]at h2;exact⟨rfl,by rw[h2];exact h1⟩
theorem f36 (w0:World) (q1 q2 q3:Nat) (d12:q1≠q2) (d13:q1≠q3) (d23:q2≠q3) (p1:w0.heap.size<=q1) (p2:w0.heap.size<=q2) (p3:w0.heap.size<=q3):∀(N:Nat) (gl:List Gb),SizeOf.sizeOf gl<=N->∀(v:Value) (m:N3) (w:World),tV w0 (ox gl) v->Below w0.heap.size w0 w->w0.heap.size<=w.heap.size->q1<w.heap.size->q2<w.heap.size->q3<w.heap.size->rV w w q1 q2 q3 m->m.st+ey gl<=1000000->m.gr+ey gl<=1000000->m.pr<=1000->Calls prog 36 #[v,.pointer (some ⟨q1,0,none⟩),.pointer (some ⟨q2,0,none⟩),.pointer (some ⟨q3,0,none⟩)] w λe w'=>e=.returned (.tuple #[])/\rV w w' q1 q2 q3 (fx gl m)
 |0,gl,h,v,m,w,h1,h2,h3,h4,h5,h6,h7,h8,h9,UE=>f36s w0 q1 q2 q3 d12 d13 d23 p1 p2 p3 gl (λks hk k tG=>by have:=jJ hk tG;omega) v m w h1 h2 h3 h4 h5 h6 h7 h8 h9 UE
 |N+1,gl,h,v,m,w,h1,h2,h3,h4,h5,h6,h7,h8,h9,UE=>f36s w0 q1 q2 q3 d12 d13 d23 p1 p2 p3 gl (λks hk k tG=>f36 w0 q1 q2 q3 d12 d13 d23 p1 p2 p3 N k (by have:=jJ hk tG;omega)) v m w h1 h2 h3 h4 h5 h6 h7 h8 h9 UE
theorem f17 (w0:World) (gl:List Gb) (v:Value) (sp:ByteArray) (w:World) (hv:tV w0 (ox gl) v) (hb:Below w0.heap.size w0 w) (h0:w0.heap.size<=w.heap.size) (hp:ey gl<=1000):Calls prog 17 #[v,.string sp] w λe w'=>MK w w' ((fx gl ⟨0,0,1⟩).st<=12/\(sp=bs []\/(fx gl ⟨0,0,1⟩).st<=3)/\(fx gl ⟨0,0,1⟩).gr<=3/\(fx gl ⟨0,0,1⟩).pr<=16) e:=by
 have hv':=hv.row;obtain⟨a,c,rfl,_⟩:=hv';obtain⟨n,hn⟩:=dS gl.length;rw[<-hn]at hv⊢;obtain⟨R,hR⟩:=dS (fx gl ⟨0,0,1⟩);rw[<-hR];obtain⟨W1,gZ⟩:=dS (((w.alloc (.cells #[.int .i64 0] 3)).alloc (.cells #[.int .i64 0] 3)).alloc (.cells #[.int .i64 1] 3));have hs:W1.heap.size=w.heap.size+3:=by rw[gZ,ab,ab,ab]
 have uK:Below w.heap.size w W1:=by rw[gZ];go_grown
 have hci:rV W1 W1 w.heap.size (w.heap.size+1) (w.heap.size+1+1) ⟨0,0,1⟩:=by have e1:=heap_alloc_new w (.cells #[.int .i64 0] 3);have e2:=heap_alloc_new (w.alloc (.cells #[.int .i64 0] 3)) (.cells #[.int .i64 0] 3);have e3:=heap_alloc_new ((w.alloc (.cells #[.int .i64 0] 3)).alloc (.cells #[.int .i64 0] 3)) (.cells #[.int .i64 1] 3);have UG:=(heap_alloc_old ((w.alloc (.cells #[.int .i64 0] 3)).alloc (.cells #[.int .i64 0] 3)) (.cells #[.int .i64 1] 3) (r:=w.heap.size) (by simp only[ab];omega)).trans ((heap_alloc_old (w.alloc (.cells #[.int .i64 0] 3)) (.cells #[.int .i64 0] 3) (r:=w.heap.size) (by simp only[ab];omega)).trans e1);have UF:=(heap_alloc_old ((w.alloc (.cells #[.int .i64 0] 3)).alloc (.cells #[.int .i64 0] 3)) (.cells #[.int .i64 1] 3) (r:=(w.alloc (.cells #[.int .i64 0] 3)).heap.size) (by simp only[ab];omega)).trans e2;rw[ab]at UF;rw[ab,ab]at e3;rw[gZ];exact⟨ei.refl _ _,UG,UF,e3⟩
 have HC:=aa (f36 w0 w.heap.size (w.heap.size+1) (w.heap.size+1+1) (by omega) (by omega) (by omega) h0 (by omega) (by omega) (SizeOf.sizeOf gl) gl (af _) _ ⟨0,0,1⟩ W1 hv (hb.trans (uK.mono h0)) (by omega) (by omega) (by omega) (by omega) hci (by simp only;omega) (by simp only;omega) (by simp only;omega));rw[gZ]at HC;have HB:=sW uK hs hR gZ;have hle:=pN gl ⟨0,0,1⟩;have HLE:=aa hle;clear hn hv hb hs uK hci hR gZ hle;go_enter func17,ntmps17;go_upto_region 2 with fail
 go_wp2_with fail;refine HC.mono ?_;rintro e w2 ⟨rfl,gP⟩;rw[<-HB.2.2.1,<-HB.2.2.2]at gP;have eT:Below w.heap.size w w2:=HB.1.trans (gP.fo.below (by have:=HB.2.1;omega) λb hb=>by rcases hb with e|e|e<;>rw[e]<;>omega);have z1:w2.cell? ⟨w.heap.size,0,none⟩=some (.int .i64 (R.st:Int)):=cell_of gP.c1 rfl;have z2:w2.cell? ⟨w.heap.size+1,0,none⟩=some (.int .i64 (R.gr:Int)):=cell_of gP.c2 rfl;have z3:w2.cell? ⟨w.heap.size+1+1,0,none⟩=some (.int .i64 (R.pr:Int)):=cell_of gP.c3 rfl;have jR:=aa eT;clear gP eT;obtain⟨y1,VC⟩:=dS ((R.st:Int):Int);obtain⟨y2,VB⟩:=dS ((R.gr:Int):Int);obtain⟨y3,hy3⟩:=dS ((R.pr:Int):Int);rw[<-VC]at z1;rw[<-VB]at z2;rw[<-hy3]at z3;have HY:=jS VC VB hy3;clear VC VB hy3;go_wp2_with fail
 all_goals go_ret
 all_goals (refine⟨_,rfl,jR.out,λhk=> ?_⟩)
 all_goals obtain⟨v1,v2,v3⟩:=HY.out
 all_goals first
  |(cases hk;done)
  |(simp only[decide_eq_true_eq]at hk;exact⟨by omega,.inl (yg (by rw[cN];assumption)),by omega,by omega⟩)
  |(simp only[decide_eq_true_eq]at hk;exact⟨by omega,.inr (by omega),by omega,by omega⟩)
end Go.Proofs.YtfejflhgaphilaaGreatDoor
