/- The classes of characters, and a star's reach: each does what its tree says, and writes nothing that was there. Where a star's literal occurs first: of the bytes, and of the characters. The matchers for what ends a pattern, and the classes: each does what its tree says, and writes nothing that was t -/
import Derived.Test.YtfejflhgaphilaaGreatDoorC06
import Derived.StillTailTactics
import Derived.BigQuiet
import Derived.Deep.QuietTactic
set_option linter.all false
set_option maxRecDepth 100000
set_option maxHeartbeats 64000000
open Go.Proofs.Tryz
namespace Go.Proofs.YtfejflhgaphilaaGreatDoor
open Go.RowKit Gm
variable {x:Bool} {w:World}
theorem N6 (lo hi:Int) (neg:Bool) (c:Nat) (r:List dE):res (.range lo hi neg) (c::r)=if(decide (lo<=(c:Int))&&decide ((c:Int)<=hi)) != neg then some r else none:=by simp only[res,M,uA];rfl
theorem f297 (b:Nat) (lo hi:Int) (neg:Bool) (r:List dE) (c0 c1 c2 c3 c4 c5:Value) (w:World) (hT:fE w) (hr:dV r) (hc:w.cell? ⟨b,0,none⟩=some (.int .i32 lo)) (j7:w.cell? ⟨b,1,none⟩=some (.int .i32 hi)) (kb:w.cell? ⟨b,2,none⟩=some (.bool neg)):Calls prog 297 #[.pointer (some ⟨b,0,none⟩),.agg #[c0,c1,c2,c3,c4,c5],.string (bs r)] w λe w'=>e=.returned (gC r (res (.range lo hi neg) r))/\Below w.heap.size w w':=by
 have eR:=bp w _ hc;cases r with
 |nil=>rw[fK rfl];go_enter func297,ntmps297;go_wp2_with fail;refine(Tryz.utf8_DecodeRuneInString _ _ (hT.alloc _).qN).mono ?_;rintro e w1 ⟨rfl,eu⟩;rw[uX];go_wp2_with fail;go_ret2;exact⟨rfl,((ay _ _).alloc (af _) _).trans (eu.mono (by simp))⟩
 |cons c r=>
  have hd:=iC (r:=r) (fg hr);have h1:=ec c;have h0:(((e1 c).length:Int)==0)=false:=by rw[beq_eq_false_iff_ne];omega
  have iq:=N6 lo hi neg c r;by_cases J':lo<=(c:Int)
  ·by_cases hhi:(c:Int)<=hi
   ·have hhd:decide ((c:Int)<=hi)=true:=decide_eq_true hhi;rw[decide_eq_true J',hhd]at iq;cases neg with
    |true=>have hm:=fK (t:=.range lo hi true) (r:=c::r) (by rw[iq];rfl);have HM:=aa hm;clear hm iq;go_enter func297,ntmps297;go_wp2_with fail;refine(Tryz.utf8_DecodeRuneInString _ _ (hT.alloc _).qN).mono ?_;rintro e w1 ⟨rfl,eu⟩;rw[hd];have pU:=dY (dJ hc _) eu (by rw[ab];omega);have Su:=dY (dJ j7 _) eu (by rw[ab];omega);have Ss:=dY (dJ kb _) eu (by rw[ab];omega);go_wp2_with fail;go_ret2;rw[HM.out];exact⟨rfl,((ay _ _).alloc (af _) _).trans (eu.mono (by simp))⟩
    |false=>have hm:=rp (t:=.range lo hi false) (c:=c) (r:=r) (by rw[iq];rfl);have HM:=aa hm;clear hm iq;go_enter func297,ntmps297;go_wp2_with fail;refine(Tryz.utf8_DecodeRuneInString _ _ (hT.alloc _).qN).mono ?_;rintro e w1 ⟨rfl,eu⟩;rw[hd];have pU:=dY (dJ hc _) eu (by rw[ab];omega);have Su:=dY (dJ j7 _) eu (by rw[ab];omega);have Ss:=dY (dJ kb _) eu (by rw[ab];omega);go_wp2_with fail;go_ret2;rw[HM.out];exact⟨rfl,((ay _ _).alloc (af _) _).trans (eu.mono (by simp))⟩
   ·have hhd:decide ((c:Int)<=hi)=false:=decide_eq_false hhi;rw[hhd,cj]at iq;cases neg with
    |true=>have hm:=rp (t:=.range lo hi true) (c:=c) (r:=r) (by rw[iq];rfl);have HM:=aa hm;clear hm iq;go_enter func297,ntmps297;go_wp2_with fail;refine(Tryz.utf8_DecodeRuneInString _ _ (hT.alloc _).qN).mono ?_;rintro e w1 ⟨rfl,eu⟩;rw[hd];have pU:=dY (dJ hc _) eu (by rw[ab];omega);have Su:=dY (dJ j7 _) eu (by rw[ab];omega);have Ss:=dY (dJ kb _) eu (by rw[ab];omega);go_wp2_with fail;go_ret2;rw[HM.out];exact⟨rfl,((ay _ _).alloc (af _) _).trans (eu.mono (by simp))⟩
    |false=>have hm:=fK (t:=.range lo hi false) (r:=c::r) (by rw[iq];rfl);have HM:=aa hm;clear hm iq;go_enter func297,ntmps297;go_wp2_with fail;refine(Tryz.utf8_DecodeRuneInString _ _ (hT.alloc _).qN).mono ?_;rintro e w1 ⟨rfl,eu⟩;rw[hd];have pU:=dY (dJ hc _) eu (by rw[ab];omega);have Su:=dY (dJ j7 _) eu (by rw[ab];omega);have Ss:=dY (dJ kb _) eu (by rw[ab];omega);go_wp2_with fail;go_ret2;rw[HM.out];exact⟨rfl,((ay _ _).alloc (af _) _).trans (eu.mono (by simp))⟩
  ·rw[decide_eq_false J',cr]at iq;cases neg with
   |true=>have hm:=rp (t:=.range lo hi true) (c:=c) (r:=r) (by rw[iq];rfl);have HM:=aa hm;clear hm iq;go_enter func297,ntmps297;go_wp2_with fail;refine(Tryz.utf8_DecodeRuneInString _ _ (hT.alloc _).qN).mono ?_;rintro e w1 ⟨rfl,eu⟩;rw[hd];have pU:=dY (dJ hc _) eu (by rw[ab];omega);have Su:=dY (dJ j7 _) eu (by rw[ab];omega);have Ss:=dY (dJ kb _) eu (by rw[ab];omega);go_wp2_with fail;go_ret2;rw[HM.out];exact⟨rfl,((ay _ _).alloc (af _) _).trans (eu.mono (by simp))⟩
   |false=>have hm:=fK (t:=.range lo hi false) (r:=c::r) (by rw[iq];rfl);have HM:=aa hm;clear hm iq;go_enter func297,ntmps297;go_wp2_with fail;refine(Tryz.utf8_DecodeRuneInString _ _ (hT.alloc _).qN).mono ?_;rintro e w1 ⟨rfl,eu⟩;rw[hd];have pU:=dY (dJ hc _) eu (by rw[ab];omega);have Su:=dY (dJ j7 _) eu (by rw[ab];omega);have Ss:=dY (dJ kb _) eu (by rw[ab];omega);go_wp2_with fail;go_ret2;rw[HM.out];exact⟨rfl,((ay _ _).alloc (af _) _).trans (eu.mono (by simp))⟩
def iy (sep r:List dE):List dE:=r.takeWhile λc=> !sep.contains c
theorem C' {sep r:List dE} (h:iz sep r=true):iy sep r=r:=by rw[jf]at h;unfold iy;have:=List.takeWhile_append_of_pos (p:=λc=> !sep.contains c) (l₁:=r) (l₂:=[]) (λc hc=>by simpa using h c hc);simpa using this
theorem f255 (b:Nat) (sep r:List dE) (w:World) (hs:dV sep) (hr:dV r) (hl:(enc r).length<=1000000) (hc:w.cell? ⟨b,1,none⟩=some (.string (bs sep))):Calls prog 255 #[.pointer (some ⟨b,0,none⟩),.string (bs r)] w λe w'=>e=.returned (.int .i64 ((enc (iy sep r)).length:Int))/\Below w.heap.size w w':=by
 have eR:=bp w _ hc;cases hn:sep with
 |nil=>subst hn;rw[C' (by simp[iz]),<-dQ];rw[Bd]at hc;go_enter func255,ntmps255;go_wp2_with fail;go_ret;exact⟨rfl,ay _ _⟩
 |cons c yq=>
  have he:(bs sep).toList.isEmpty=false:=by rw[ib,hn];rfl
  rw[<-hn];clear hn;have hz:Fz sep r=if iz sep r then-1 else((enc (iy sep r)).length:Int):=rfl
  have HZ:=aa hz;clear hz;cases J9:iz sep r with
  |true=>rw[J9]at HZ;have gD:Fz sep r= -1:=HZ.out;rw[C' J9,<-dQ];clear J9;go_enter func255,ntmps255;go_wp2_with (go_at_call 257;refine(f257 _ _ _ hr hs hl).mono ?_;rintro e w' ⟨rfl,hb⟩);go_ret;exact⟨rfl,hb⟩
  |false=>rw[J9]at HZ;have gD:Fz sep r=((enc (iy sep r)).length:Int):=HZ.out;clear J9;go_enter func255,ntmps255;go_wp2_with (go_at_call 257;refine(f257 _ _ _ hr hs hl).mono ?_;rintro e w' ⟨rfl,hb⟩);go_ret;exact⟨rfl,hb⟩
theorem xt {a b:List dE} (h:a<+:b) (eK:a≠b):(enc a).length<(enc b).length:=by
 obtain⟨c,rfl⟩:=h;cases c with
 |nil=>simp at eK
 |cons d c=>simp only[dR,et,aj];have:=(ec d).1;omega
theorem j6 {a b:List dE} (h:a<+:b):(enc a).length<=(enc b).length:=by obtain⟨c,rfl⟩:=h;simp
theorem C3 (sep nx:List dE):∀(r r1:List dE),jd sep nx r=some r1->∃u,u≠[]/\r=u++r1/\(∀c∈u,c∉sep)/\nx<+:r1/\∀u' r',r=u'++r'->u'≠[]->u'.length<u.length->¬nx<+:r'
 | [],_,h=>by simp[jd]at h
 |c::r,r1,h=>by
  simp only[jd]at h;split at h
  ·cases h
  rename_i hc;have pU:c∉sep:=by simpa using hc
  split at h
  ·rename_i hp;cases h;refine⟨[c],by simp,by simp,by simpa using pU,by simpa using hp,λu' r' _ eK hl=> ?_⟩;simp only[aH,aG]at hl;exact(eK (bM (by omega))).elim
  ·rename_i hp;obtain⟨u,h1,h2,h3,h4,h5⟩:=C3 sep nx r r1 h;refine⟨c::u,by simp,by rw[h2];rfl,?_,h4,λu' r' he eK hl=> ?_⟩
   ·intro d hd;rcases az.1 hd with rfl|hd
    ·exact pU
    ·exact h3 d hd
   ·cases u' with
    |nil=>exact(eK rfl).elim
    |cons d u'=>
     simp only[aJ,bq]at he;by_cases hu:u'=[]
     ·subst hu;intro tE;rw[he.2]at hp;exact hp (by simpa using tE)
     ·exact h5 u' r' he.2 hu (by simpa using hl)
theorem JH (sep nx:List dE):∀(r:List dE),jd sep nx r=none->∀u' r',r=u'++r'->u'≠[]->(∀c∈u',c∉sep)->¬nx<+:r'
 | [],_=>by intro u' r' he eK;exact(eK (List.append_eq_nil_iff.1 he.symm).1).elim
 |c::r,h=>by
  intro u' r' he eK hs tE;refine re sep nx (c::r) h r' ?_ ?_ tE
  ·simp only[D];exact⟨u',he,hs⟩
  ·intro e;rw[e]at he;have:=congrArg List.length he;simp at this;exact eK this
theorem D5 {sep r u v:List dE} (h:r=u++v) (hu:∀c∈u,c∉sep):u<+:iy sep r:=by subst h;unfold iy;rw[List.takeWhile_append_of_pos (λc hc=>by simpa using hu c hc)];exact cB _ _
theorem N9 {sep r u v:List dE} (h:r=u++v) (hu:(enc u).length<=(enc (iy sep r)).length):∀c∈u,c∉sep:=by
 have h1:iy sep r<+:r:=List.takeWhile_prefix _;have h2:u<+:r:=⟨v,h.symm⟩;have h3:u<+:iy sep r:=by
  rcases Nat.le_total u.length (iy sep r).length with hl|hl
  ·exact cJ h2 h1 hl
  ·have h4:=cJ h1 h2 hl;by_cases e:iy sep r=u
   ·rw[e];exact List.prefix_refl _
   ·have:=xt h4 e;omega
 intro c hc;have:=List.all_eq_true.1 List.all_takeWhile c (show c∈List.takeWhile (λc=> !sep.contains c) r from h3.subset hc);simpa using this
def fN (sep nx r:List dE):List UInt8:=((enc r).drop 1).take (min ((enc (iy sep r)).length+(enc nx).length) (enc r).length-1)
theorem FM {sep nx r:List dE} (hr:dV r) (Dp:dV nx) (eK:nx≠[]) {j:Nat} (h:(enc nx).isPrefixOf ((fN sep nx r).drop j)=true):∃u v,r=u++(nx++v)/\(enc u).length=1+j/\1+j<=(enc (iy sep r)).length:=by
 have hp:enc nx<+:(fN sep nx r).drop j:=by simpa using h
 have sq:0<(enc nx).length:=by
  cases nx with
  |nil=>exact(eK rfl).elim
  |cons c t=>simp only[et,aj];have:=(ec c).1;omega
 have hlen:=hp.length_le;simp only[fN,bT,bn]at hlen;have hp2:enc nx<+:(enc r).drop (1+j):=by
  have:(fN sep nx r).drop j<+:((enc r).drop 1).drop j:=by unfold fN;rw[List.drop_take];exact List.take_prefix _ _
  rw[dk]at this;exact hp.trans this
 obtain⟨y,hy⟩:=hp2;have he:enc r=(enc r).take (1+j)++(enc nx++y):=by rw[hy];exact(bN _ _).symm
 obtain⟨u,v,h1,h2,h3⟩:=sA Dp eK hr he;refine⟨u,v,h1,?_,by omega⟩;rw[<-h2,bn];omega
theorem JG {sep nx r r1:List dE} (hr:dV r) (Dp:dV nx) (eK:nx≠[]) (h:jd sep nx r=some r1):zv (fN sep nx r) (enc nx)=((enc r).length:Int)- (enc r1).length-1/\((enc r).length:Int)- (enc r1).length<=(enc (iy sep r)).length/\(enc r1).length<(enc r).length/\r1<:+r:=by
 obtain⟨u,h1,h2,h3,h4,h5⟩:=C3 sep nx r r1 h;have ic:1<=(enc u).length:=by
  cases u with
  |nil=>exact(h1 rfl).elim
  |cons c t=>simp only[et,aj];have:=(ec c).1;omega
 have hreach:=j6 (D5 h2 h3);have hE:(enc r).length=(enc u).length+(enc r1).length:=by rw[h2];simp
 have tF:=j6 h4;have hb:qW (enc nx) (fN sep nx r)=some ((enc u).length-1):=by
  refine xw ?_ ?_ ?_
  ·unfold fN;rw[bn,bT];omega
  ·have:(fN sep nx r).drop ((enc u).length-1)=(enc r1).take (min ((enc (iy sep r)).length+(enc nx).length) (enc r).length-1- ((enc u).length-1)):=by
    unfold fN;rw[List.drop_take,dk,show 1+((enc u).length-1)=(enc u).length by omega,h2,dR,dn]
   rw[this];have tE:enc nx<+:enc r1:=by obtain⟨c,rfl⟩:=h4;rw[dR];exact cB _ _
   have:enc nx<+:(enc r1).take (min ((enc (iy sep r)).length+(enc nx).length) (enc r).length-1- ((enc u).length-1)):=(by exact List.prefix_take_iff.2 ⟨tE,by omega⟩);simpa using this
  ·intro j hj;cases hx:(enc nx).isPrefixOf ((fN sep nx r).drop j)with
   |false=>rfl
   |true=>
    obtain⟨u',v,g1,g2,g3⟩:=FM hr Dp eK hx;have eR:u'.length<u.length:=by
     rcases aV u'.length u.length with h|h
     ·exact h
     ·have:=j6 (cJ ⟨r1,h2.symm⟩ ⟨nx++v,g1.symm⟩ h);omega
    exact(h5 u' (nx++v) g1 (by rintro rfl;rw[gd,aG]at g2;omega) eR (cB _ _)).elim
 refine⟨?_,by omega,by omega,⟨u,h2.symm⟩⟩;rw[zv,hb];simp only;omega
theorem skip_none {sep nx r:List dE} (hr:dV r) (Dp:dV nx) (eK:nx≠[]) (h:jd sep nx r=none):zv (fN sep nx r) (enc nx)= -1:=by
 have hb:qW (enc nx) (fN sep nx r)=none:=by
  refine xx λj _=> ?_;cases hx:(enc nx).isPrefixOf ((fN sep nx r).drop j)with
  |false=>rfl
  |true=>obtain⟨u',v,g1,g2,g3⟩:=FM hr Dp eK hx;exact(JH sep nx r h u' (nx++v) g1 (by rintro rfl;rw[gd,aG]at g2;omega) (N9 g1 (by omega)) (cB _ _)).elim
 rw[zv,hb]
theorem My {t r:List dE} (ht:dV t) (hr:dV r) (h:t.isPrefixOf r=x) (w:World):Calls prog 251 #[.string (bs r),.string (bs t)] w λe w'=>e=.returned (.bool x)/\w'=w:=by have:=Tryz.strings_HasPrefix (bs r) (bs t) w;rw[qs ht hr,h]at this;exact this
theorem O2 {t r:List dE} (ht:dV t) (hr:dV r) (hl:(enc r).length<=1000000) (h:t.isSuffixOf r=x) (w:World):Calls prog 71 #[.string (bs r),.string (bs t)] w λe w'=>e=.returned (.bool x)/\w'=w:=by
 have:=Tryz.strings_HasSuffix (bs r) (bs t) w (by rw[dQ];omega);have e:Lib.hasSuffix (bs r).data.toList (bs t).data.toList=x:=by rw[eE,eE,<-h,<-Av ht hr];rfl
 rw[e]at this;exact this
theorem uu {r:List dE} {t:T} (h:res t r=some []):gC r (res t r)=.tuple #[.int .i64 ((bs r).size:Int),.bool true]:=by rw[h,dQ];simp[gC]
theorem ME {t r:List dE} (h:t.isPrefixOf r=true):(bs r).extract (bs t).size (bs r).size=bs (r.drop t.length):=by apply ByteArray.ext;apply Array.ext';rw[Lib.extract_to_end,eE,eE,dQ];have:=congrArg enc (jL h);rw[this,dR,dn]
theorem f303 (b:Nat) (t sep r:List dE) (c0 c1 c2 c3 c4 c5:Value) (w:World) (ht:dV t) (hs:dV sep) (hr:dV r) (hl:(enc r).length<=1000000) (hc:w.cell? ⟨b,0,none⟩=some (.string (bs t))) (j7:w.cell? ⟨b,1,none⟩=some (.string (bs sep))):Calls prog 303 #[.pointer (some ⟨b,0,none⟩),.agg #[c0,c1,c2,c3,c4,c5],.string (bs r)] w λe w'=>e=.returned (gC r (res (.pre t sep) r))/\Below w.heap.size w w':=by
 have eR:=bp w _ hc;by_cases hp:t.isPrefixOf r=true
 ·have hbd:=ME hp;have hle:(bs t).size<=(bs r).size:=by
   rw[dQ,dQ];have:=congrArg (λx=>(enc x).length) (jL hp);simp only[dR,aj]at this;omega
  have kS:dV (r.drop t.length):=eM hr (List.drop_suffix _ _);have hld:(enc (r.drop t.length)).length<=1000000:=by have:=congrArg (λx=>(enc x).length) (jL hp);simp only[dR,aj]at this;omega
  have hP:=My ht hr hp;have HP:=aa hP;clear hP;go_enter func303,ntmps303;go_wp2_with fail;refine wp_region_still_tail 18 (by kernel_rfl) (by kernel_rfl) ?_;change wpStill _ _ (World.drew _) _ _ _;simp only[de,List.take_zero,cu,bK]
  repeat still_step
  still_call (HP.out _)
  repeat still_step
  refine wpStill_nil ?_;change wpList _ _ _ _ _ (World.drew _);go_wp2_with fail;refine(f305 _ _ _ kS hs hld).mono ?_;rintro e w1 ⟨rfl,eu⟩;have hB:Below w.heap.size w w1:=((ay _ _).alloc (af _) _).drew.trans (eu.mono (by simp));cases hn:iz sep (r.drop t.length)with
  |true=>go_wp2_with fail;go_ret2;rw[uu (by simp only[res,M,hp,hn];rfl)];exact⟨rfl,hB⟩
  |false=>go_wp2_with fail;go_ret2;rw[fK (by simp only[res,M,hp,hn];rfl)];exact⟨rfl,hB⟩
 ·have hP:=My ht hr (bF.2 hp);have HP:=aa hP;clear hP;rw[fK (by simp only[res,M];rw[bF.2 hp];rfl)];clear hp;go_enter func303,ntmps303;go_wp2_with fail;go_big_quiet ((exact Calls.quiet_of_same (HP.out _)));go_wp2_with fail;go_ret2;exact⟨rfl,(below_drewN ((ay _ _).alloc (af _) _) _)⟩
theorem fC {a b:ByteArray} (h:a.data.toList=b.data.toList):a=b:=ByteArray.ext (Array.ext' h)
theorem MC {t r:List dE} (h:t.isSuffixOf r=true):(bs r).extract 0 ((bs r).size- (bs t).size)=bs (r.take (r.length-t.length)):=by
 apply fC;rw[Lib.extract_data,eE,eE,dQ,dQ,bK];have h1:=congrArg enc (l9 h);rw[dR]at h1;have h2:=congrArg List.length h1;rw[aj]at h2;rw[show(enc r).length- (enc t).length-0=(enc (r.take (r.length-t.length))).length from by omega]
 conv=>lhs;arg 2;rw[h1]
 rw[cR]
theorem mu {a b:List dE}:(enc (a++b)).length=(enc a).length+(enc b).length:=by rw[dR,aj]
theorem yb (r:List dE) (n:Nat):(enc (r.take n)).length<=(enc r).length:=by have:=mu (a:=r.take n) (b:=r.drop n);rw[bN]at this;omega
theorem II (r:List dE) (n:Nat):(enc (r.drop n)).length<=(enc r).length:=by have:=mu (a:=r.take n) (b:=r.drop n);rw[bN]at this;omega
theorem Cf {t r:List dE} (h:t.isSuffixOf r=true):(enc t).length<=(enc r).length:=by have:=congrArg (λx=>(enc x).length) (l9 h);simp only[dR,aj]at this;omega
theorem Cg {t r:List dE} (h:t.isPrefixOf r=true):(enc t).length<=(enc r).length:=by have:=congrArg (λx=>(enc x).length) (jL h);simp only[dR,aj]at this;omega
theorem Db {r:List dE} (h:dV r) (n:Nat):dV (r.take n):=λc hc=>h c (dm hc)
theorem Oi {r:List dE} (h:dV r) (n:Nat):dV (r.drop n):=λc hc=>h c (cL hc)
theorem Ll {t sep r:List dE} (hp:t.isSuffixOf r=true) (x:Bool) (hn:iz sep (r.take (r.length-t.length))=x):res (.eP t sep) r=if x then some []else none:=by simp only[res,M,hp,hn,Bool.true_and]
theorem bs_mid {p q r:List dE} (hl:p.length+q.length<=r.length) (hp:p.isPrefixOf r=true) (hq:q.isSuffixOf r=true):(bs r).extract (bs p).size ((bs r).size- (bs q).size)=bs ((r.take (r.length-q.length)).drop p.length)/\(bs p).size<=(bs r).size- (bs q).size:=by
 have hp':p.isPrefixOf (r.take (r.length-q.length))=true:=by rw[bE,dp]at hp⊢;rw[List.take_take,cD (by omega)];exact hp
 have h1:=ME hp';have h2:=MC hq;have h3:(enc (r.take (r.length-q.length))).length=(enc r).length- (enc q).length:=by have:=congrArg (λx=>(enc x).length) (l9 hq);simp only[dR,aj]at this;omega
 constructor
 ·rw[<-h1];apply fC;rw[Lib.extract_data,Lib.extract_to_end,<-h2,Lib.extract_data,bK,List.drop_take,Nat.sub_zero]
 ·rw[dQ,dQ,dQ,<-h3];exact Cg hp'
theorem f307 (b:Nat) (t sep r:List dE) (c0 c1 c2 c3 c4 c5:Value) (w:World) (ht:dV t) (hs:dV sep) (hr:dV r) (hl:(enc r).length<=1000000) (hc:w.cell? ⟨b,0,none⟩=some (.string (bs t))) (j7:w.cell? ⟨b,1,none⟩=some (.string (bs sep))):Calls prog 307 #[.pointer (some ⟨b,0,none⟩),.agg #[c0,c1,c2,c3,c4,c5],.string (bs r)] w λe w'=>e=.returned (gC r (res (.eP t sep) r))/\Below w.heap.size w w':=by
 have eR:=bp w _ hc;by_cases hp:t.isSuffixOf r=true
 ·have hbd:=MC hp;have hle:(bs t).size<=(bs r).size:=by rw[dQ,dQ];exact Cf hp
  have gJ:(bs r).size<=1000000:=by rw[dQ];exact hl
  have kS:dV (r.take (r.length-t.length)):=Db hr _;have hld:(enc (r.take (r.length-t.length))).length<=1000000:=ao (yb _ _) hl;have hP:=O2 ht hr hl hp;have HP:=aa hP;clear hP;have qQ:0<=((bs r).size:Int)- ((bs t).size:Int):=by omega
  have kR:((bs r).size:Int)- ((bs t).size:Int)<=((bs r).size:Int):=by omega
  have EA:IntKind.i64.wrap (((bs r).size:Int)- ((bs t).size:Int))=((bs r).size:Int)- ((bs t).size:Int):=IntWalk.i64_in _ (by omega);have hsn:(((bs r).size:Int)- ((bs t).size:Int)).toNat=(bs r).size- (bs t).size:=by omega
  go_enter func307,ntmps307;go_wp2_with fail;refine wp_region_still_tail 21 (by kernel_rfl) (by kernel_rfl) ?_;change wpStill _ _ (World.drew _) _ _ _;simp only[de,List.take_zero,cu,bK]
  repeat still_step
  still_call (HP.out _)
  repeat still_step
  refine wpStill_nil ?_;change wpList _ _ _ _ _ (World.drew _);go_wp2_with fail;refine(f305 _ _ _ kS hs hld).mono ?_;rintro e w1 ⟨rfl,eu⟩;have hB:Below w.heap.size w w1:=((ay _ _).alloc (af _) _).drew.trans (eu.mono (by simp));cases hn:iz sep (r.take (r.length-t.length))with
  |true=>go_wp2_with fail;go_ret2;rw[uu (Ll hp true hn)];exact⟨rfl,hB⟩
  |false=>go_wp2_with fail;go_ret2;rw[fK (Ll hp false hn)];exact⟨rfl,hB⟩
 ·have hP:=O2 ht hr hl (bF.2 hp);have HP:=aa hP;clear hP;rw[fK (by simp only[res,M];rw[bF.2 hp];rfl)];clear hp;go_enter func307,ntmps307;go_wp2_with fail;go_big_quiet ((exact Calls.quiet_of_same (HP.out _)));go_wp2_with fail;go_ret2;exact⟨rfl,(below_drewN ((ay _ _).alloc (af _) _) _)⟩
theorem f311 (b:Nat) (t r:List dE) (c0 c1 c2 c3 c4 c5:Value) (w:World) (ht:dV t) (eK:t≠[]) (hr:dV r) (hl:(enc r).length<=1000000) (eR:(enc t).length<=1000000) (hc:w.cell? ⟨b,0,none⟩=some (.string (bs t))):Calls prog 311 #[.pointer (some ⟨b,0,none⟩),.agg #[c0,c1,c2,c3,c4,c5],.string (bs r)] w λe w'=>e=.returned (gC r (res (.cont t) r))/\Below w.heap.size w w':=by
 have Sv:=bp w _ hc;have hC:=λwx=>f313 r t wx hr ht eK hl eR;have HC:=aa hC;clear hC;cases hi:nf t r with
 |true=>rw[uu (by simp only[res,M,hi,if_true])];rw[hi]at HC;clear hi;go_enter func311,ntmps311;go_wp2_with (go_at_call 313;refine(HC.out _).mono ?_;rintro e w' ⟨rfl,rfl⟩);go_ret2;exact⟨rfl,(ay _ _).alloc (af _) _⟩
 |false=>rw[fK (by simp only[res,M,hi];rfl)];rw[hi]at HC;clear hi;go_enter func311,ntmps311;go_wp2_with (go_at_call 313;refine(HC.out _).mono ?_;rintro e w' ⟨rfl,rfl⟩);go_ret2;exact⟨rfl,(ay _ _).alloc (af _) _⟩
theorem f259 (v:Value) (r:List dE) (c0 c1 c2 c3 c4 c5:Value) (w:World):Calls prog 259 #[v,.agg #[c0,c1,c2,c3,c4,c5],.string (bs r)] w λe w'=>e=.returned (gC r (res .void r))/\Below w.heap.size w w':=by
 have hm:gC r (res .void r)=.tuple #[.int .i64 0,.bool true]:=by simp[res,M,gC]
 rw[hm];clear hm;go_enter func259,ntmps259;go_wp2_with fail;go_ret2;exact⟨rfl,(ay _ _).alloc (af _) _⟩
theorem yr {a b r:List dE} (ha:a<+:r) (hb:b<+:r) (h:(enc a).length<=(enc b).length):a.length<=b.length:=by
 rcases aV b.length a.length with eR|rB
 ·exfalso;obtain⟨u,rfl⟩:=cJ hb ha (by omega);have h1:=mu (a:=b) (b:=u);cases u with
  |nil=>simp at eR
  |cons c u=>have:=(ec c).1;rw[et,aj]at h1;omega
 ·exact rB
theorem yP {a b r:List dE} (ha:a<+:r) (hb:b<+:r) (h:a.length<=b.length):(enc a).length<=(enc b).length:=by obtain⟨u,rfl⟩:=cJ ha hb h;rw[mu];omega
theorem GA {p q r:List dE} (hp:p.isPrefixOf r=true) (hq:q.isSuffixOf r=true):p.length+q.length<=r.length↔(enc p).length+(enc q).length<=(enc r).length:=by
 have h1:=l9 hq;have h2:r.take (r.length-q.length)<+:r:=List.take_prefix _ _;have h3:=bE.1 hp;have h4:(enc r).length=(enc (r.take (r.length-q.length))).length+(enc q).length:=by have:=congrArg (λx=>(enc x).length) h1;simp only[dR,aj]at this;exact this
 have h5:r.length=(r.take (r.length-q.length)).length+q.length:=by have:=congrArg List.length h1;simp only[aj]at this;exact this
 constructor
 ·intro h;have:=yP h3 h2 (by omega);omega
 ·intro h;have:=yr h3 h2 (by omega);omega
theorem nU {p q sep r:List dE}:res (.dN p q sep) r=if decide (p.length+q.length<=r.length)&&p.isPrefixOf r&&q.isSuffixOf r&&iz sep ((r.take (r.length-q.length)).drop p.length)then some []else none:=by simp only[res,M]
theorem f309 (b:Nat) (p q sep r:List dE) (c0 c1 c2 c3 c4 c5:Value) (w:World) (hpo:dV p) (hqo:dV q) (hs:dV sep) (hr:dV r) (hl:(enc r).length<=1000000) (nG:(enc p).length<=1000000) (wZ:(enc q).length<=1000000) (hc:w.cell? ⟨b,0,none⟩=some (.string (bs p))) (j7:w.cell? ⟨b,1,none⟩=some (.string (bs q))) (kb:w.cell? ⟨b,2,none⟩=some (.string (bs sep))):Calls prog 309 #[.pointer (some ⟨b,0,none⟩),.agg #[c0,c1,c2,c3,c4,c5],.string (bs r)] w λe w'=>e=.returned (gC r (res (.dN p q sep) r))/\Below w.heap.size w w':=by
 have eR:=bp w _ hc;have hrz:(bs r).size<=1000000:=by rw[dQ];exact hl
 have hpz:(bs p).size<=1000000:=by rw[dQ];exact nG
 have hqz:(bs q).size<=1000000:=by rw[dQ];exact wZ
 have hadd:IntKind.i64.wrap (((bs p).size:Int)+((bs q).size:Int))=((bs p).size:Int)+((bs q).size:Int):=IntWalk.i64_in _ (by omega);by_cases hL:(bs p).size+(bs q).size<=(bs r).size
 ·have hLd:decide (((bs p).size:Int)+((bs q).size:Int)<=((bs r).size:Int))=true:=by simp;omega
  by_cases hp:p.isPrefixOf r=true
  ·have HP:=aa (My hpo hr hp);by_cases hq:q.isSuffixOf r=true
   ·have HQ:=aa (O2 hqo hr hl hq);have ZC:p.length+q.length<=r.length:=(GA hp hq).2 (by rw[dQ,dQ,dQ]at hL;exact hL);obtain⟨hmid,qo⟩:=bs_mid ZC hp hq;have kS:dV ((r.take (r.length-q.length)).drop p.length):=Oi (Db hr _) _;have hld:(enc ((r.take (r.length-q.length)).drop p.length)).length<=1000000:=ao (II _ _) (ao (yb _ _) hl);have qQ:0<=((bs r).size:Int)- ((bs q).size:Int):=by omega
    have kR:((bs r).size:Int)- ((bs q).size:Int)<=((bs r).size:Int):=(by omega);have pT:((bs p).size:Int)<=((bs r).size:Int)- ((bs q).size:Int):=by omega
    have EA:IntKind.i64.wrap (((bs r).size:Int)- ((bs q).size:Int))=((bs r).size:Int)- ((bs q).size:Int):=IntWalk.i64_in _ (by omega);have hsn:(((bs r).size:Int)- ((bs q).size:Int)).toNat=(bs r).size- (bs q).size:=by omega
    have tU:=aa ZC;clear ZC;have zt:=aa hp;clear hp;have HQQ:=aa hq;clear hq;go_enter func309,ntmps309;go_wp2_with fail;refine wp_region_still_tail 50 (by kernel_rfl) (by kernel_rfl) ?_;change wpStill _ _ (World.drew _) _ _ _;simp only[de,List.take_zero,cu,bK]
    repeat still_step
    still_call (HP.out _)
    repeat still_step
    still_call (HQ.out _)
    repeat still_step
    refine wpStill_nil ?_;change wpList _ _ _ _ _ (World.drew _);go_wp2_with fail;refine(f305 _ _ _ kS hs hld).mono ?_;rintro e w1 ⟨rfl,eu⟩;have hB:Below w.heap.size w w1:=((ay _ _).alloc (af _) _).drew.trans (eu.mono (by simp));cases hn:iz sep ((r.take (r.length-q.length)).drop p.length)with
    |true=>go_wp2_with fail;go_ret2;rw[uu (by rw[nU,hn,zt.out,HQQ.out,decide_eq_true tU.out];rfl)];exact⟨rfl,hB⟩
    |false=>go_wp2_with fail;go_ret2;rw[fK (by rw[nU,hn,cj];rfl)];exact⟨rfl,hB⟩
   ·have HQ:=aa (O2 hqo hr hl (bF.2 hq));rw[fK (by rw[nU,bF.2 hq,cj,cr];rfl)];clear hp hq;go_enter func309,ntmps309;go_wp2_with fail;go_big_quiet ((first|exact Calls.quiet_of_same (HP.out _)|exact Calls.quiet_of_same (HQ.out _)));go_wp2_with fail;go_ret2;exact⟨rfl,(below_drewN ((ay _ _).alloc (af _) _) _)⟩
  ·have HP:=aa (My hpo hr (bF.2 hp));rw[fK (by rw[nU,bF.2 hp,cj,cr,cr];rfl)];clear hp;go_enter func309,ntmps309;go_wp2_with fail;go_big_quiet ((exact Calls.quiet_of_same (HP.out _)));go_wp2_with fail;go_ret2;exact⟨rfl,(below_drewN ((ay _ _).alloc (af _) _) _)⟩
 ·have hLd:decide (((bs p).size:Int)+((bs q).size:Int)<=((bs r).size:Int))=false:=by simp;omega
  have iq:res (.dN p q sep) r=none:=by rw[nU,if_neg];simp only[al,decide_eq_true_eq];rintro⟨⟨⟨h1,h2⟩,h3⟩,_⟩;rw[dQ,dQ,dQ]at hL;exact hL ((GA h2 h3).1 h1)
  rw[fK iq];clear iq;go_enter func309,ntmps309;go_wp2_with fail;go_big_quiet (fail);go_wp2_with fail;go_ret2;exact⟨rfl,(below_drewN ((ay _ _).alloc (af _) _) _)⟩
structure tQ (w:World) (b:Nat) (vs:Value) (sep nx:List dE) (tm:Bool):Prop where
 c0:w.cell? ⟨b,0,none⟩=some vs
 c1:w.cell? ⟨b,1,none⟩=some (.string (bs sep))
 c2:w.cell? ⟨b,2,none⟩=some (.string (bs nx))
 c3:w.cell? ⟨b,3,none⟩=some (.bool tm)
 rs:ek w vs sep
theorem tQ.below {w':World} {B b:Nat} {vs:Value} {sep nx:List dE} {tm:Bool} (h:tQ w b vs sep nx tm) (hb:Below B w w') (hB:w.heap.size<=B):tQ w' b vs sep nx tm:=by have eR:b<w.heap.size:=bp w _ h.c0;exact⟨dY h.c0 hb (by omega),dY h.c1 hb (by omega),dY h.c2 hb (by omega),dY h.c3 hb (by omega),h.rs.below hb hB⟩
theorem eA {c:Nat} {v0 v1 v2 v3 v4 v5:Value} {t:TypeId} (h:w.heap[c]? =some (.cells #[v0,v1,v2,v3,v4,v5] t (0,0))):w.cell? ⟨c,0,none⟩=some v0/\w.cell? ⟨c,1,none⟩=some v1/\w.cell? ⟨c,2,none⟩=some v2/\w.cell? ⟨c,3,none⟩=some v3/\w.cell? ⟨c,4,none⟩=some v4/\w.cell? ⟨c,5,none⟩=some v5:=by refine⟨by simp[World.cell?,h],by simp[World.cell?,h],by simp[World.cell?,h],by simp[World.cell?,h],by simp[World.cell?,h],by simp[World.cell?,h]⟩
section
variable {w:World} {B sp tot:Nat} {S:SV} {txt:List dE} {st:St}
def qm (x:Ctx) (st:St) (sep nx r:List dE):St:=match jd sep nx r with|none=>st|some r1=>eJ x st r1 sep.isEmpty
theorem Ly {txt r r1:List dE} {z k:Int} (hz:z=off txt r) (hk:k=((enc r).length:Int)- (enc r1).length) (h1:(enc r1).length<=(enc r).length) (h2:(enc r).length<=(enc txt).length) (hl:(enc txt).length<=1000000):IntKind.i64.wrap (z+k)=off txt r1:=by rw[aW,hz,hk];unfold off;omega
theorem f256 (b:Nat) (vs:Value) (sep nx r:List dE) (tm:Bool) (x:Ctx) (vp:Value) (kd:Int) (hs:eY w B sp S txt tot st) (hp:eF w vp x.path) (nG:PL sp S vp) (kT:x.floor<=st.stars.length) (ht:tot+x.depth+1<=1000000000000) (hS:tQ w b vs sep nx tm) (hT:dV txt) (hr:r<:+txt) (J4:r≠[]) (zi:dV sep) (hn:dV nx) (qJ:nx≠[]) (hl:(enc txt).length<=1000000) (q7:(enc nx).length<=1000000):Calls prog 256 #[.pointer (some ⟨b,0,none⟩),.agg #[.int .i64 (off txt r),vp,.int .i64 x.depth,.pointer (some ⟨sp,0,none⟩),.int .i64 kd,.int .i64 x.floor],.string (bs r)] w λe w'=>e=.returned (.tuple #[])/\∃S',eY w' B sp S' txt (tot+x.depth+1) (qm x st sep nx r)/\Fr w w' sp S S':=by
 have oc:dV r:=eM hT hr;have oa:(enc r).length<=(enc txt).length:=by obtain⟨u,hu⟩:=hr;rw[<-hu];simp
 obtain⟨pa,pc,rfl⟩:∃pa pc,vp=.slice pa x.path.length pc:=by obtain⟨a,c,h,_⟩:=hp;exact⟨a,c,h⟩
 obtain⟨E,hE⟩:=dS (enc r).length;obtain⟨N,hN⟩:=dS (enc nx).length;obtain⟨R,hR⟩:=dS (enc (iy sep r)).length;have hRE:R<=E:=by rw[hR,hE];exact j6 (List.takeWhile_prefix _)
 have hE1:1<=E:=by
  cases r with
  |nil=>exact(J4 rfl).elim
  |cons c t=>rw[hE,et,aj];have:=(ec c).1;omega
 have hN1:1<=N:=by
  cases nx with
  |nil=>exact(qJ rfl).elim
  |cons c t=>rw[hN,et,aj];have:=(ec c).1;omega
 have kY:=gW ((R:Int)+N) (by omega);obtain⟨m,hm⟩:=dS (min (R+N) E);have VO:min ((R:Int)+N) (E:Int)=(m:Int):=by omega
 have hme:m<=E:=by omega
 have yB:1<=m:=by omega
 have hcut:(bs r).extract 1 m=⟨(fN sep nx r).toArray⟩:=by apply fC;rw[Lib.extract_data,eE,hm,hR,hN,hE];simp[fN]
 have HX:=aa hS;have qZ:Below w.heap.size w (w.alloc (.cells #[.int .i64 (off txt r),.slice pa x.path.length pc,.int .i64 x.depth,.pointer (some ⟨sp,0,none⟩),.int .i64 kd,.int .i64 x.floor] 151)):=by go_grown
 have Mf:=hS.below qZ (af _);obtain⟨z0,z1,z2,z3,z4,z5⟩:=eA (heap_alloc_new w (.cells #[.int .i64 (off txt r),.slice pa x.path.length pc,.int .i64 x.depth,.pointer (some ⟨sp,0,none⟩),.int .i64 kd,.int .i64 x.floor] 151));have V1:((bs r).size:Int)=E:=by rw[dQ,hE]
 have hbsn:((bs nx).size:Int)=N:=by rw[dQ,hN]
 have HR:=aa hR;have HE:=aa hE;have HNN:=aa hN;have HM:=aa hm;have HK:=jS hRE hE1 hme;have hm0:(1:Int)<=(m:Int):=by omega
 have VP:(m:Int)<=(E:Int):=by omega
 have oK:=aa hs;have zt:=eo hp nG;have iw:=rr hT hr zi hn qJ;have HLS:=Fp kT ht hl q7 oa oc;have HCUT:=aa hcut;clear hR hE hN hm hRE hE1 hs hp nG hT hr hn qJ kT ht q7 oa hcut hS hN1 hme yB;go_enter func256,ntmps256;go_wp2_with fail;refine(f255 b sep r _ zi oc (by have:=HLS.2.2.2.2.1;omega) Mf.c1).mono ?_;rintro e w1 ⟨rfl,eu⟩;have kR:=Mf.below eu (af _);obtain⟨q0,q1,q2,q3,q4⟩:=kR;rw[<-HR.out];go_wp2_with fail;have HP:Hid (∀wx,Calls prog 258 #[.string ((bs r).extract 1 m),.string (bs nx)] wx λe w'=>e=.returned (.int .i64 (zv (fN sep nx r) (enc nx)))/\w'=wx):=by intro wx;have h1:=HLS.2.2.2.1;have:=f258 ((bs r).extract 1 m) (bs nx) wx (by rw[HCUT.out,show(ByteArray.mk (fN sep nx r).toArray).size=(fN sep nx r).length from by simp[ByteArray.size]];unfold fN;rw[bn,bT];have:=HLS.2.2.2.2.1;have:=HLS.2.2.1;omega) (by rw[dQ];exact h1);rw[HCUT.out,eE]at this;rw[HCUT.out];exact this
 obtain⟨j,hj⟩:=dS (zv (fN sep nx r) (enc nx));rw[<-hj]at HP;have HJ:=aa hj;clear hj kY VO q0 q1 q3 q4 zi oc hl;go_big_quiet ((exact Calls.quiet_of_same (HP.out _)));have jR:Hid (Below (w.alloc (.cells #[.int .i64 (off txt r),.slice pa x.path.length pc,.int .i64 x.depth,.pointer (some ⟨sp,0,none⟩),.int .i64 kd,.int .i64 x.floor] 151)).heap.size (w.alloc (.cells #[.int .i64 (off txt r),.slice pa x.path.length pc,.int .i64 x.depth,.pointer (some ⟨sp,0,none⟩),.int .i64 kd,.int .i64 x.floor] 151)) (w1.drewN nq)):=aa (below_drewN eu _);have DK:Hid (Below w.heap.size w (w1.drewN nq)):=aa (qZ.trans (jR.mono (by rw[ab];omega)));obtain⟨w2,mN⟩:=dS (w1.drewN nq);rw[<-mN]at jR DK⊢;have tS:=aa ((oK.keep DK.out));have P6:=aa (oK.below DK.out);have MU:=aa (zt.1.fr zt.2 P6.out);obtain⟨y0,y1,y2,y3,y4,y5⟩:w2.cell? ⟨w.heap.size,0,none⟩=some (.int .i64 (off txt r))/\w2.cell? ⟨w.heap.size,1,none⟩=some (.slice pa x.path.length pc)/\w2.cell? ⟨w.heap.size,2,none⟩=some (.int .i64 x.depth)/\w2.cell? ⟨w.heap.size,3,none⟩=some (.pointer (some ⟨sp,0,none⟩))/\w2.cell? ⟨w.heap.size,4,none⟩=some (.int .i64 kd)/\w2.cell? ⟨w.heap.size,5,none⟩=some (.int .i64 x.floor):=eA ((jR.block w.heap.size (by simp)).trans (heap_alloc_new w (.cells #[.int .i64 (off txt r),.slice pa x.path.length pc,.int .i64 x.depth,.pointer (some ⟨sp,0,none⟩),.int .i64 kd,.int .i64 x.floor] 151)));have q0:w2.cell? ⟨b,0,none⟩=some vs:=HX.below DK.out (af _) |>.c0;obtain⟨va,vc,tC⟩:∃va vc,vs=.slice va sep.length vc:=by
  rcases HX.rs with⟨h,h2⟩|⟨bb,o,cap,h,_⟩
  ·exact⟨none,0,by rw[h,h2];rfl⟩
  ·exact⟨_,_,h⟩
 rw[tC]at q0;clear eu mN z0 z1 z2 z3 z4 z5 q2 tC;obtain⟨hT,hr,zi,hn,qJ⟩:=iw.out;obtain⟨kT,ht,hl,q7,oa,oc⟩:=HLS.out;cases hsk:jd sep nx r with
 |none=>
  have HJS:Hid (qm x st sep nx r=st):=aa (by unfold qm;rw[hsk]);have hj:j= -1:=by rw[HJ.out];exact skip_none oc hn qJ hsk
  subst hj;clear hT hr zi hn qJ kT hl q7 oa oc hsk y0 y1 y2 y3 y4 y5 q0;go_wp2_with fail
  (try simp only[Exit.inBlock,Exit.then])
  refine bodyPost_ret (results_none rfl _ _ _) rfl ?_;exact⟨rfl,_,by rw[HJS.out];exact tS.more (show tot<=tot+x.depth+1 by omega),P6.out⟩
 |some r1=>
  obtain⟨g1,g2,g3,g4⟩:=JG oc hn qJ hsk;have HJS:Hid (qm x st sep nx r=eJ x st r1 sep.isEmpty):=aa (by unfold qm;rw[hsk]);rw[<-HJ.out]at g1;rw[<-HR.out]at g2;have hwo:=Ly (txt:=txt) (r:=r) (r1:=r1) (z:=off txt r) (k:=1+j) rfl (by omega) (by omega) oa hl;have t1:decide (j<0)=false:=by simp;omega
  have t2:=gW (1+j) (by omega);have t3:decide ((R:Int)<1+j)=false:=by simp;omega
  have HWO:=aa hwo;have HG:=eo kT ht;clear hT hr zi hn qJ kT ht hl q7 oa oc hsk g1 g2 g3 g4 hwo;go_wp2_with fail;refine ev (λw'=>w'.cell? ⟨w.heap.size,0,none⟩=some (.int .i64 (off txt r))/\w'.cell? ⟨w.heap.size,1,none⟩=some (.slice pa x.path.length pc)/\w'.cell? ⟨w.heap.size,2,none⟩=some (.int .i64 x.depth)/\w'.cell? ⟨w.heap.size,3,none⟩=some (.pointer (some ⟨sp,0,none⟩))/\w'.cell? ⟨w.heap.size,4,none⟩=some (.int .i64 kd)/\w'.cell? ⟨w.heap.size,5,none⟩=some (.int .i64 x.floor)/\w'.cell? ⟨b,0,none⟩=some (.slice va sep.length vc)) [0,1,2,3,4,5,6,7,8] [] (by kernel_rfl) (by kernel_rfl) ⟨y0,y1,y2,y3,y4,y5,q0⟩ (λhHeld=> ?_);iterate 9
   refine fc (v:= ?_) rfl (λ_ _ _ h=>h) (by rfl) ?_ hHeld ?_;rotate_left
   ·intro w hSw;(try dsimp only at hSw);go_simp
    try with_reducible rfl
   simp only[Act.put,iX]
  refine fe ?_;refine ff rfl ?_;go_wp2_with fail;have hse:((sep.length:Int)==0)=sep.isEmpty:=by cases sep<;>simp;omega
  rw[hse];refine(f225 x _ r1 _ (1+j) kd sep.isEmpty tS.drew (MU.1.lk (by go_grown)) MU.2 HG.1 HWO.out HG.2).mono ?_;rintro e w3 ⟨rfl,S',e1,e2⟩;have q8:=aa e1;have yS:=aa e2;clear e1 e2 hse t1 t2 t3 hHeld y0 y1 y2 y3 y4 y5 q0;go_wp2_with fail;go_end0;exact⟨rfl,S',HJS.out▸q8.out,oK.trans (oK.trans P6.out (tS.below (by go_grown))) yS.out⟩
end
end Go.Proofs.YtfejflhgaphilaaGreatDoor
