/- FnWholeGlob, whole. -/
import Derived.Test.YtfejflhgaphilaaGreatDoorC36
import Derived.Test.YtfejflhgaphilaaGreatDoorC34
import Derived.Test.YtfejflhgaphilaaGreatDoorC39
import Derived.Test.YtfejflhgaphilaaGreatDoorC46
import Derived.Test.YtfejflhgaphilaaGreatDoorC47
import Derived.Test.YtfejflhgaphilaaGreatDoorC45
import Derived.Test.YtfejflhgaphilaaGreatDoorC27
import Derived.Test.YtfejflhgaphilaaGreatDoorC48
import Derived.Test.YtfejflhgaphilaaGreatDoorC00
set_option linter.all false
set_option maxRecDepth 100000
set_option maxHeartbeats 64000000
open Go.Proofs.Tryz
namespace Go.Proofs.YtfejflhgaphilaaGreatDoor
open Go.RowKit Gm
variable {T:List (List UInt8)}
theorem Tryz.Y1:(prog.info? 29).map (λi=>(i.zero,i.size,i.bytes))=some (some (.agg #[.int .u8 0,.int .i64 0,.int .i64 0,.string ⟨#[]⟩,.int .i64 0,.int .i64 0,.int .i64 0]),7,64):=by kernel_rfl
theorem Tryz.info9:(prog.info? 9).map (λi=>(i.zero,i.size,i.bytes))=some (some (.string ⟨#[]⟩),1,16):=by kernel_rfl
def steps:List (List UInt8)->List Value
 | []=>[]
 |t::ts=>steps ts++sQ 0 ts.length t
def put (T:List (List UInt8)) (i:Nat):List Value:=steps (T.take i).reverse
theorem z8 {i:Nat} {t:List UInt8} (h:T[i]? =some t):put T (i+1)=put T i++sQ 0 i t:=by
 have hi:i<T.length:=by
  rcases aV i T.length with e|e
  ·exact e
  ·rw[bz e]at h;cases h
 unfold put;rw[ca,h];simp only[Option.toList_some,List.reverse_append,List.reverse_cons,List.reverse_nil,bw,List.singleton_append,steps,List.length_reverse,bn];rw[cD (by omega)]
theorem tj (T:List (List UInt8)):∀n,n<=T.length->(put T n).length=n*7
 |0,_=>rfl
 |n+1,h=>by rw[z8 (ah (show n<T.length by omega)),aj,tj T n (by omega)];simp only[sQ,aH,aG];omega
theorem Lo {T:List (List UInt8)} {i f:Nat} {t:List UInt8} {v:Value} (ht:T[i]? =some t) (hf:(sQ 0 i t)[f]? =some v):∀n,i<n->n<=T.length->(put T n)[i*7+f]? =some v
 |0,h,_=>by omega
 |n+1,h,hn=>by
  have hf7:f<7:=by
   rcases aV f 7 with e|e
   ·exact e
   ·rw[bz (by simpa[sQ]using e)]at hf;cases hf
  have hl:=tj T n (by omega);rw[z8 (ah (show n<T.length by omega))];rcases aV i n with e|e
  ·rw[bV (by omega)];exact Lo ht hf n e (by omega)
  ·have:i=n:=(by omega);subst this;rw[aR (by omega),hl,show i*7+f-i*7=f by omega];rw[ah (show i<T.length by omega),ae]at ht;rw[ht];exact hf
theorem N2 {w:World} {B g c n:Nat} (hn:n=T.length) (h:w.ownsRow B 29 7 (.slice (some ⟨g,0,none⟩) (n+1) c) (n+1) (put T n++sQ 3 n [])):xz w g T:=by
 subst hn;have hl:=tj T T.length (af _);refine⟨λi t ht f v hf=> ?_,λf v hf=> ?_,(h.lt g rfl).2⟩
 ·have hi:i<T.length:=by
   rcases aV i T.length with e|e
   ·exact e
   ·rw[bz e]at ht;cases ht
  have hf7:f<7:=by
   rcases aV f 7 with e|e
   ·exact e
   ·rw[bz (by simpa[sQ]using e)]at hf;cases hf
  rw[h.cellAt (i*7+f) (by omega),bV (by omega)];exact Lo ht hf _ hi (af _)
 ·have hf7:f<7:=by
   rcases aV f 7 with e|e
   ·exact e
   ·rw[bz (by simpa[sQ]using e)]at hf;cases hf
  rw[h.cellAt (T.length*7+f) (by omega),aR (by omega),hl,show T.length*7+f-T.length*7=f by omega];exact hf
theorem QP:∀(l:List (List UInt8)) (j:Nat) (k:List UInt8),l[j]? =some k->(sp l)[j*3]? =some (.int .i64 0)/\(sp l)[j*3+1]? =some (.string (sk k))/\(sp l)[j*3+2]? =some (.int .i64 0)
 | [],j,k,h=>by simp at h
 |x::l,0,k,h=>by simp only[aN,ae]at h;subst h;exact⟨rfl,rfl,rfl⟩
 |x::l,j+1,k,h=>by rw[show(j+1)*3=j*3+1+1+1 by omega];exact QP l j k (by simpa using h)
theorem Vs (k y:List UInt8) (l:List (List UInt8)) (h:y∈ins l k):y∈l\/y=k:=by
 unfold ins at h;split at h
 ·exact .inl h
 ·rcases ar.1 h with h|h
  ·exact .inl (dm h)
  ·rcases az.1 h with h|h
   ·exact .inr h
   ·exact .inl (cL h)
theorem SQ (T:List (List UInt8)):∀(l:List (List UInt8)) (y:List UInt8),y∈T.foldl ins l->y∈l\/y∈T:=by
 induction T with
 |nil=>intro l y h;exact .inl h
 |cons t T ih=>
  intro l y h;rcases ih _ _ h with h|h
  ·rcases Vs _ _ _ h with h|h
   ·exact .inl h
   ·exact .inr (h▸cd)
  ·exact .inr (bJ _ h)
theorem IV (us:List (List dE)):∀l:List (List UInt8),(∀y∈l,y∈us.map enc)->∃ks:List (List dE),l=ks.map enc/\∀u∈ks,u∈us
 | [],_=>⟨[],rfl,by simp⟩
 |y::l,h=>by
  obtain⟨ks,h1,h2⟩:=IV us l λx hx=>h x (bJ _ hx);obtain⟨u,hu,he⟩:=dB.1 (h y cd);refine⟨u::ks,by rw[h1,<-he];rfl,λx hx=> ?_⟩;rcases az.1 hx with rfl|hx
  ·exact hu
  ·exact h2 x hx
theorem law (M:List dE->Bool) (us ks:List (List dE)) (T:List (List UInt8)) (hT:T=us.map enc) (Dq:T.foldl ins []=ks.map enc) (Qd:∀u∈ks,u∈us) (ez:∀u∈us,dV u):(ks.filter M).map enc=Lib.compact (((us.filter M).map enc).mergeSort λx y=>decide (x<=y)):=by
 let N:List UInt8->Bool:=λy=>us.any λu=>decide (enc u=y)&&M u
 have hN:∀u∈us,N (enc u)=M u:=by
  intro u hu;rw[bO];constructor
  ·intro h;obtain⟨x,hx,h2⟩:=List.any_eq_true.1 h;rw[al,decide_eq_true_eq]at h2;rw[<-MA (ez x hx) (ez u hu) h2.1];exact h2.2
  ·intro h;exact List.any_eq_true.2 ⟨u,hu,by rw[al,decide_eq_true_eq];exact⟨rfl,h⟩⟩
 have hf:∀l:List (List dE),(∀u∈l,u∈us)->(l.map enc).filter N=(l.filter M).map enc:=by intro l hl;rw[List.filter_map];congr 1;exact List.filter_congr λu hu=>hN u (hl u hu)
 have h:=whole N T;rw[Dq,hf ks Qd,hT,hf us λu h=>h]at h;exact h
theorem f3 (w0:World) (l:List Gr) (sp:ByteArray) (ts:List ByteArray) (v tv:Value) (hv:tV w0 l v) (ht:P0 w0 ts tv) (hT:fE w0) (h3:3<=w0.heap.size):Calls prog 3 #[v,.string sp,tv] w0 λe w'=>e=.returned (.bool true)/\Below w0.heap.size w0 w':=by
 have hv':=hv;have mS:=ht;obtain⟨av,cv,rfl,Me,_⟩:=hv';obtain⟨at',ct,rfl,yw,fY⟩:=mS;have HC4:=aa (f4 w0 ts _ w0 ht (ay _ _) (af _));have HC5:=aa (λzi w1 (eu:Below w0.heap.size w0 w1)=>f5 w0 l _ sp ts _ w1 hv ht zi eu eu.size);obtain⟨n,hn⟩:=dS l.length;obtain⟨m,hm⟩:=dS ts.length;have H:=YT hv ht hT h3 hn hm yw fY;rw[<-hn,<-hm]at HC5;rw[<-hm]at HC4;rw[<-hn,<-hm];clear hv ht hT h3 hn hm Me yw fY;go_enter func3,ntmps3;by_cases h1:2147483647<n
 ·have xV:decide (2147483647<n)=true:=by simpa using h1
  have hd1':decide ((2147483647:Int)<(n:Int))=true:=by simp;omega
  go_wp2_with fail;go_ret;exact⟨rfl,ay _ _⟩
 have xV:decide (2147483647<n)=false:=by simpa using h1
 have hd1':decide ((2147483647:Int)<(n:Int))=false:=by simp;omega
 by_cases h2:2147483647<sp.size
 ·have Mp:decide (2147483647<sp.size)=true:=by simpa using h2
  have hd2':decide ((2147483647:Int)<(sp.size:Int))=true:=by simp;omega
  go_wp2_with fail;go_ret;exact⟨rfl,ay _ _⟩
 have Mp:decide (2147483647<sp.size)=false:=by simpa using h2
 have hd2':decide ((2147483647:Int)<(sp.size:Int))=false:=by simp;omega
 have Dt:sp.size<=2147483647:=by omega
 go_wp2_with fail;refine HC4.mono ?_;rintro e w1 ⟨ok,rfl,eu,_⟩;cases ok with
 |false=>have HB:=aa eu;clear eu;go_wp2_with fail;go_ret;exact⟨rfl,HB.out⟩
 |true=>
  have HC6:=aa (f6 w1);have HC5:=aa (HC5.out Dt w1 eu);have o4:=aa eu;clear eu;by_cases h3:30<m
  ·have hd3:decide (30<m)=true:=(by simpa using h3);have hd3':decide ((30:Int)<(m:Int))=true:=by simp;omega
   go_wp2_with fail;refine HC6.mono ?_;rintro e w2 ⟨rfl,eT⟩;have HB:=aa (o4.trans (eT.mono o4.size));clear eT;go_wp2_with fail;go_ret;exact⟨rfl,HB.out⟩
  have hd3:decide (30<m)=false:=by simpa using h3
  have hd3':decide ((30:Int)<(m:Int))=false:=by simp;omega
  go_wp2_with fail;refine HC5.mono ?_;rintro e w2 ⟨ok,rfl,eT,hP⟩;cases ok with
  |false=>have HC6:=aa (f6 w2);have jR:=aa (o4.trans (eT.mono o4.size));clear eT;go_wp2_with fail;refine HC6.mono ?_;rintro e w3 ⟨rfl,gQ⟩;have HB:=aa (jR.trans (gQ.mono jR.size));clear gQ;go_wp2_with fail;go_ret;exact⟨rfl,HB.out⟩
  |true=>
   obtain⟨gl,S,us,hl,rfl,Jm,oS⟩:=hP rfl;have HF:=sW hl Jm oS (o4.trans (eT.mono o4.size));clear hl Jm oS eT hP HC4 HC5 HC6 o4 xV hd1' Mp hd2';obtain⟨T,hTT⟩:=dS (us.map enc);have hmT:m=T.length:=(by rw[hTT,bU,H.2.2.2.2.2.1,HF.2.1,bU]);have Xk:∀i u,us[i]? =some u->∃b o,at'=some ⟨b,o,none⟩/\w0.cell? ⟨b,o+i,none⟩=some (.string (bs u)):=by
    intro i u hu;have hi:i<us.length:=by
     rcases aV i us.length with e|e
     ·exact e
     ·rw[bz e]at hu;cases hu
    obtain⟨b,o,e,hS⟩:=H.2.2.2.2.2.2.2 (by rw[HF.2.1];intro e;rw[List.map_eq_nil_iff]at e;rw[e]at hi;simp at hi);exact⟨b,o,e,(hS i (bs u) (by rw[HF.2.1,cq,hu];rfl)).1⟩
   have HT:=jS hTT hmT Xk;clear hTT hmT Xk;obtain⟨i0,hi,gD,gB,gF⟩:=info_parts Tryz.Y1;have HZ:=sW hi gD gB gF;clear hi gD gB gF;obtain⟨iS,hi1,hy0,VC,VB⟩:=info_parts Tryz.info9;have HY:=sW hi1 hy0 VC VB;clear hi1 hy0 VC VB;go_wp2_with fail;go_loopg [48,7] m (λk s48 s7 wr=>∃i:Nat,k=m-i/\s48=.int .i64 i/\i<=m/\Hid (Below w2.heap.size w2 wr/\wr.ownsRow w2.heap.size 29 7 s7 i (put T i)))
   case atStart=>exact⟨0,rfl,rfl,aU _,aa ⟨ay _ _,rfl,.inl ⟨rfl,rfl⟩⟩⟩
   case round=>
    obtain⟨i,rfl,rfl,hi,HJ⟩:=hrel;obtain⟨a7,c7,rfl,_,_⟩:=d' HJ.2;by_cases him:i<m
    ·have kY:=gW ((i:Int)+1) (by omega);have jA:decide ((i:Int)<(m:Int))=true:=by simp;omega
     have i1:(0:Int)<=(i:Int):=(by omega);have i2:(i:Int)<(m:Int):=by omega
     obtain⟨u,hu⟩:∃u,us[i]? =some u:=⟨_,ah (by have:=HT.2.1;rw[HT.1,bU]at this;omega)⟩;obtain⟨b,o,rfl,hS⟩:=HT.2.2 i u hu;have hc:=dF (HF.2.2.2.trans (HJ.1.mono HF.2.2.2.size)) _ _ hS;obtain⟨sv,pS⟩:=dS (bs u);rw[<-pS]at hc;have HU:=eo hu pS;clear hu pS hS;go_wp2_with (at_builtin;refine wpList_append_own _ rfl (.tmp 52) (.tmp 57) 27 rfl w2.heap.size 29 i0 (.agg #[.int .u8 0,.int .i64 0,.int .i64 0,.string ⟨#[]⟩,.int .i64 0,.int .i64 0,.int .i64 0]) 7 64 underlying27 HZ.1 HZ.2.1 HZ.2.2.1 HZ.2.2.2 rfl (by decide) (.slice a7 i c7) i _ rfl (HJ.2.alloc _) ⟨wr.heap.size,0,none⟩ 1 1 [.int .u8 0,.int .i64 i,.int .i64 0,.string sv,.int .i64 0,.int .i64 0,.int .i64 0] rfl rfl ?c1 ?c2 ?c3 ?c4 ?c5 ?c6)
     case c1=>exact World.news_of_block (heap_alloc_new wr _)
     case c2=>intro x hx;simp only[az,ba,or_false]at hx;rcases hx with rfl|rfl|rfl|rfl|rfl|rfl|rfl<;>rfl
     case c3=>unfold maxLen;omega
     case c4=>omega
     case c5=>rw[ab];have:=HJ.1.size;omega
     case c6=>
      intro v' w5 ho hg _;obtain⟨a6,c6,J0,_,_⟩:=d' ho;subst J0;have jF:Below w2.heap.size w2 w5:=by obtain⟨q1,q2,q3,q4,q5⟩:=hg;rw[ab]at q4;refine HJ.1.trans ⟨q1,q2,q3,by omega,λb hb=>(q5 b (by rw[ab];have:=HJ.1.size;omega) λe=> ?_).trans (heap_alloc_old _ _ (ai hb HJ.1.size))⟩;have:=(HJ.2.lt b e.symm).1;omega
      have HO:=eo ho jF;clear ho hg jF;go_wp2_with fail;go_roundg (m- (i+1))
      case measure=>omega
      case rel=>exact⟨i+1,rfl,rfl,by omega,aa ⟨HO.2,by have h1:=HO.1;rw[z8 (t:=enc u) (by rw[HT.1,cq,HU.1];rfl)];rw[HU.2]at h1;exact h1⟩⟩
    ·have jA:decide ((i:Int)<(m:Int))=false:=(by simp;omega);have him':i=m:=by omega
     subst him';go_wp2_with (at_builtin;refine wpList_append_own _ rfl (.tmp 60) (.tmp 64) 27 rfl w2.heap.size 29 i0 (.agg #[.int .u8 0,.int .i64 0,.int .i64 0,.string ⟨#[]⟩,.int .i64 0,.int .i64 0,.int .i64 0]) 7 64 underlying27 HZ.1 HZ.2.1 HZ.2.2.1 HZ.2.2.2 rfl (by decide) (.slice a7 i c7) i _ rfl (HJ.2.alloc _) ⟨wr.heap.size,0,none⟩ 1 1 [.int .u8 3,.int .i64 i,.int .i64 0,.string ⟨#[]⟩,.int .i64 0,.int .i64 0,.int .i64 0] rfl rfl ?c1 ?c2 ?c3 ?c4 ?c5 ?c6)
     case c1=>exact World.news_of_block (heap_alloc_new wr _)
     case c2=>intro x hx;simp only[az,ba,or_false]at hx;rcases hx with rfl|rfl|rfl|rfl|rfl|rfl|rfl<;>rfl
     case c3=>unfold maxLen;omega
     case c4=>omega
     case c5=>rw[ab];have:=HJ.1.size;omega
     case c6=>
      intro v' w5 ho hg _;obtain⟨a6,c6,J0,_,_⟩:=d' ho;subst J0;obtain⟨g,rfl⟩:∃g,a6=some ⟨g,0,none⟩:=by
       rcases ho.2 with⟨_,h1⟩|⟨g,c,cs,h1,_⟩
       ·cases h1
       ·exact⟨g,by cases h1;rfl⟩
      have jF:Below w0.heap.size w0 w5:=(by obtain⟨q1,q2,q3,q4,q5⟩:=hg;rw[ab]at q4;refine HF.2.2.2.trans (Below.mono (B:=w2.heap.size) ?_ HF.2.2.2.size);refine HJ.1.trans ⟨q1,q2,q3,by omega,λb hb=>(q5 b (by rw[ab];have:=HJ.1.size;omega) λe=> ?_).trans (heap_alloc_old _ _ (ai hb HJ.1.size))⟩;have:=(HJ.2.lt b e.symm).1;omega);have hC7:=f7 T g c6 w5 (by have:=HT.2.1;omega) (N2 HT.2.1 ho);rw[<-HT.2.1]at hC7;have HC7:=aa hC7;have HB5:=aa jF;clear hC7 jF ho hg HJ;go_wp2_with fail;refine HC7.mono ?_;rintro e w6 ⟨vA,rfl,hA⟩;have Jg:=aa (HB5.trans (hA.below.mono HB5.size));have HC6:=aa (f6 w6);obtain⟨xs,pv,B,iE,BV,hB,qR⟩:=hA.row;rw[<-HT.2.1]at iE BV;obtain⟨aA,cA,rfl,_,_⟩:=d' iE;obtain⟨gA,rfl⟩:∃g,aA=some ⟨g,0,none⟩:=by
       rcases iE.2 with⟨_,h1⟩|⟨g,c,cs,h1,_⟩
       ·cases h1
       ·exact⟨g,by cases h1;rfl⟩
      have eB:w6.cell? ⟨gA,i*4+3,none⟩=some pv:=(by rw[iE.cellAt (i*4+3) (by omega),aR (by omega),BV,show i*4+3-i*4=3 by omega];rfl);obtain⟨Kl,hKl⟩:=dS (T.foldl ins []);rw[<-hKl]at qR;have HA:=jS eB qR hKl;clear eB qR hKl iE BV hB hA HC7;go_wp2_with fail;refine HC6.mono ?_;rintro e w7 ⟨rfl,tH⟩;have Fw:=aa (Jg.trans (tH.mono Jg.size));have HC8:=aa (f8 w7 (H.2.2.1.below Fw.out (af _)) (by have:=Fw.size;have:=H.2.2.2.1;omega));have H67:=aa tH;clear tH;go_wp2_with fail;refine HC8.mono ?_;rintro e w8 ⟨rfl,hb8⟩;have HB8:=aa (Fw.trans (hb8.mono Fw.size));have H68:=aa (H67.trans (hb8.mono H67.size));clear hb8 H67 HC8 HC6;go_upto_region 16 with fail
      have hc8:=dF H68.out _ _ HA.1;obtain⟨K,hK⟩:=dS Kl.length;have VJ:=dI HA.2.1 λx hx=>H68.block x (HA.2.1.lt x hx).2;rw[<-hK]at VJ;obtain⟨ap,cp,rfl,_,_⟩:=d' VJ;have hwm:IntKind.i64.wrap ((i:Int)+1-1)=(i:Int):=by rw[aW];omega
      have j1:(0:Int)<=(i:Int):=(by omega);have j2:(i:Int)<(i:Int)+1:=by omega
      have hK30:K<=30:=(by have h1:=A0 T [];rw[<-HA.2.2,<-hK,<-HT.2.1]at h1;simp only[aG]at h1;omega);have HK:=eo hK VJ;clear hK VJ;go_wp2_with fail;go_loopg [97,12] K (λk s97 s12 wr=>∃j:Nat,k=K-j/\s97=.int .i64 j/\j<=K/\Hid (Below w8.heap.size w8 wr/\wr.ownsRow w8.heap.size 9 1 s12 j ((Kl.take j).map encStr)))
      case atStart=>exact⟨0,rfl,rfl,aU _,aa ⟨ay _ _,rfl,.inl ⟨rfl,rfl⟩⟩⟩
      case round=>
       obtain⟨j,rfl,rfl,hj,HL⟩:=hrel;obtain⟨ak,ck,rfl,_,_⟩:=d' HL.2;by_cases hjK:j<K
       ·have kY:=gW ((j:Int)+1) (by omega);have jA:decide ((j:Int)<(K:Int))=true:=by simp;omega
        have i1:(0:Int)<=(j:Int):=(by omega);have i2:(j:Int)<(K:Int):=by omega
        obtain⟨k,hk⟩:∃k,Kl[j]? =some k:=⟨_,ah (by have:=HK.1;omega)⟩;obtain⟨gp,rfl⟩:∃g,ap=some ⟨g,0,none⟩:=by
         rcases HK.2.2 with⟨h1,h2⟩|⟨g,c,cs,h1,_⟩
         ·omega
         ·exact⟨g,by cases h1;rfl⟩
        have zi:=QP Kl j k hk;have hspl:=C1 Kl;have hK:=HK.1;have p0:=dF HL.1 _ _ ((HK.2.cellAt (j*3) (by omega)).trans zi.1);have p1:=dF HL.1 _ _ ((HK.2.cellAt (j*3+1) (by omega)).trans zi.2.1);have p2:=dF HL.1 _ _ ((HK.2.cellAt (j*3+2) (by omega)).trans zi.2.2);obtain⟨sv,pS⟩:=dS (sk k);rw[<-pS]at p1;have HU:=eo hk pS;clear hk pS zi hspl hK;go_upto_region 19 with fail
        go_wp2_with (at_builtin;refine wpList_append_own _ rfl (.tmp 101) (.tmp 104) 23 rfl w8.heap.size 9 iS (.string ⟨#[]⟩) 1 16 underlying23 HY.1 HY.2.1 HY.2.2.1 HY.2.2.2 rfl (by decide) (.slice ak j ck) j _ rfl ((HL.2.alloc _).alloc _) ⟨wr.heap.size+1,0,none⟩ 1 1 [.string sv] rfl rfl ?c1 ?c2 ?c3 ?c4 ?c5 ?c6)
        case c1=>exact World.news_of_block (heap_alloc2_new wr _ _)
        case c2=>intro x hx;simp only[aE]at hx;subst hx;rfl
        case c3=>unfold maxLen;omega
        case c4=>omega
        case c5=>rw[ab,ab];have:=HL.1.size;omega
        case c6=>
         intro v' w9 ho hg _;obtain⟨a6,c6,J0,_,_⟩:=d' ho;subst J0;have Hw:Below w8.heap.size w8 w9:=by obtain⟨q1,q2,q3,q4,q5⟩:=hg;rw[ab,ab]at q4;refine HL.1.trans ⟨q1,q2,q3,by omega,λb hb=>(q5 b (by rw[ab,ab];have:=HL.1.size;omega) λe=> ?_).trans ((heap_alloc_old _ _ (by rw[ab];have:=HL.1.size;omega)).trans (heap_alloc_old _ _ (ai hb HL.1.size)))⟩;have:=(HL.2.lt b e.symm).1;omega
         have HO:=eo ho Hw;clear ho hg Hw;go_wp2_with fail;go_roundg (K- (j+1))
         case measure=>omega
         case rel=>exact⟨j+1,rfl,rfl,by omega,aa ⟨HO.2,by have h1:=HO.1;rw[ca,HU.1,cM,List.map_take];rw[HU.2]at h1;exact h1⟩⟩
       ·have jA:decide ((j:Int)<(K:Int))=false:=(by simp;omega);have hjK':j=K:=by omega
        subst hjK';obtain⟨ks,Dq,Qd⟩:=IV us Kl λy hy=>by
         rw[HA.2.2]at hy;rcases SQ T [] y hy with h|h
         ·simp at h
         ·rw[HT.1]at h;exact h
        have Hh:j=ks.length:=(by rw[HK.1,Dq,bU]);have Xs:wr.ownsRow w8.heap.size 9 1 (.slice ak j ck) j (ks.map λu=>.string (bs u)):=by have h1:=HL.2;rw[aP (by have:=HK.1;omega),Dq,List.map_map]at h1;exact h1
        have o0:Below w0.heap.size w0 wr:=HB8.trans (HL.1.mono HB8.size);have hC10:=f10 w0 (SizeOf.sizeOf gl) gl (af _) (.slice av n cv) wr (by have h1:=H.1;rw[<-H.2.2.2.2.1,HF.1]at h1;exact h1) o0 o0.size HF.2.2.1.ok (by have:=HF.2.2.1.len;omega);have HC10:=aa hC10;have HQ:=rr Dq Qd Hh Xs o0;clear Dq Qd Hh Xs o0 hC10 HL;go_wp2_with fail;refine HC10.mono ?_;rintro e w9 ⟨rfl,Hw⟩;have Zc:P0 w9 (ks.map bs) (.slice ak j ck):=by
         refine⟨ak,ck,by rw[bU,<-HQ.2.2.1],by rw[bU,<-HQ.2.2.1];unfold maxLen;omega,λeK=> ?_⟩;have OI:=dI HQ.2.2.2.1 λx hx=>Hw.block x (HQ.2.2.2.1.lt x hx).2;have BG:j≠0:=by intro e;apply eK;rw[List.map_eq_nil_iff];exact bM (by have:=HQ.2.2.1;omega)
         obtain⟨gk,rfl⟩:∃g,ak=some ⟨g,0,none⟩:=by
          rcases OI.2 with⟨h1,_⟩|⟨g,c,cs,h1,_⟩
          ·exfalso;cases h1;omega
          ·exact⟨g,by cases h1;rfl⟩
         refine⟨gk,0,rfl,λx t ht=> ?_⟩;rw[cq]at ht;obtain⟨u,hu,rfl⟩:=aX.1 ht;have hx:x<ks.length:=by
          rcases aV x ks.length with e|e
          ·exact e
          ·rw[bz e]at hu;cases hu
         refine⟨?_,?_⟩
         ·rw[cm,OI.cellAt x (by have:=HQ.2.2.1;omega),cq,hu];rfl
         ·have:=(HF.2.2.1.texts u (HQ.2.1 u (bh.2 ⟨x,hu⟩))).2.1;show(enc u).toArray.size<=maxLen;rw[List.size_toArray];unfold maxLen;omega
        have hw9:Below w0.heap.size w0 w9:=HQ.2.2.2.2.trans (Hw.mono HQ.2.2.2.2.size);have hC9:=f9 S gl ks (.slice ak j ck) w9 HF.2.2.1.light (by have:=HF.2.2.1.len;omega) (H.2.2.1.below hw9 (af _)) (by have:=hw9.size;have:=H.2.2.2.1;omega) Zc (λu hu=>HF.2.2.1.texts u (HQ.2.1 u hu)) (by have:=HQ.2.2.1;omega);have HC9:=aa hC9;have H9:=jS Zc hw9 Hw;clear Zc hw9 Hw hC9 HC10;go_wp2_with fail;refine HC9.mono ?_;rintro e wA ⟨vI,BI,rfl,hBI,Zo,Sz⟩;obtain⟨aI,cI,rfl,_,_⟩:=d' Zo;rw[<-HQ.2.2.1]at Zo⊢;have HI:=jS hBI Zo Sz;clear hBI Zo Sz HC9;go_upto_region 24 with fail
        obtain⟨M,hM⟩:=dS (lp S gl:List dE->Bool);have Zo:wA.ownsRow BI 4 1 (.slice aI j cI) j (ks.map λu=>.bool (M u)):=by rw[hM];exact HI.2.1
        have Xj:Below w0.heap.size w0 wA:=H9.2.1.trans (HI.2.2.mono H9.2.1.size);have HM:=jS hM Zo Xj;clear hM Zo Xj;go_wp2_with fail;go_loopg [126,13] j (λk s126 s13 wr=>∃q Qm:Nat,k=j-q/\s126=.int .i64 q/\q<=j/\Qm<=q/\Hid (Below wA.heap.size wA wr/\wr.ownsRow wA.heap.size 9 1 s13 Qm (((ks.take q).filter M).map λu=>.string (bs u))))
        case atStart=>exact⟨0,0,rfl,rfl,aU _,af _,aa ⟨ay _ _,rfl,.inl ⟨rfl,rfl⟩⟩⟩
        case round=>
         obtain⟨q,Qm,rfl,rfl,hq,hcq,HG⟩:=hrel;obtain⟨ag,cg,rfl,_,_⟩:=d' HG.2;by_cases hqj:q<j
         ·have kY:=gW ((q:Int)+1) (by omega);have jA:decide ((q:Int)<(j:Int))=true:=by simp;omega
          have i1:(0:Int)<=(q:Int):=(by omega);have i2:(q:Int)<(j:Int):=by omega
          obtain⟨u,hu⟩:∃u,ks[q]? =some u:=⟨_,ah (by have:=HQ.2.2.1;omega)⟩;obtain⟨gk,rfl⟩:∃g,ak=some ⟨g,0,none⟩:=by
           rcases HQ.2.2.2.1.2 with⟨h1,_⟩|⟨g,c,cs,h1,_⟩
           ·exfalso;cases h1;omega
           ·exact⟨g,by cases h1;rfl⟩
          obtain⟨gi,rfl⟩:∃g,aI=some ⟨g,0,none⟩:=by
           rcases HM.2.1.2 with⟨h1,_⟩|⟨g,c,cs,h1,_⟩
           ·exfalso;cases h1;omega
           ·exact⟨g,by cases h1;rfl⟩
          have k1:wr.cell? ⟨gi,q,none⟩=some (.bool (M u)):=dF HG.1 _ _ ((HM.2.1.cellAt q (by omega)).trans (by rw[cq,hu];rfl));have k2:wr.cell? ⟨gk,q,none⟩=some (.string (bs u)):=dF HG.1 _ _ (dF HI.2.2 _ _ (dF H9.2.2 _ _ ((HQ.2.2.2.1.cellAt q (by omega)).trans (by rw[cq,hu];rfl))));obtain⟨sv,pS⟩:=dS (bs u);rw[<-pS]at k2;obtain⟨X,hX⟩:=dS (M u);rw[<-hX]at k1;have tD:ks.take (q+1)=ks.take q++[u]:=(by rw[ca,hu];rfl);have HU:=jS tD pS hX;clear hu pS hX tD;cases X with
          |false=>
           go_wp2_with fail;go_roundg (j- (q+1))
           case measure=>omega
           case rel=>exact⟨q+1,Qm,rfl,rfl,by omega,by omega,aa ⟨HG.1,by have h1:=HG.2;have h2:=HU.2.2;rw[HU.1,List.filter_append,cM];simp only[List.filter_cons,<-h2,List.filter_nil,aM,if_false,cH,bd];exact h1⟩⟩
          |true=>
           go_wp2_with (at_builtin;refine wpList_append_own _ rfl (.tmp 135) (.tmp 137) 23 rfl wA.heap.size 9 iS (.string ⟨#[]⟩) 1 16 underlying23 HY.1 HY.2.1 HY.2.2.1 HY.2.2.2 rfl (by decide) (.slice ag Qm cg) Qm _ rfl (HG.2.alloc _) ⟨wr.heap.size,0,none⟩ 1 1 [.string sv] rfl rfl ?c1 ?c2 ?c3 ?c4 ?c5 ?c6)
           case c1=>exact World.news_of_block (heap_alloc_new wr _)
           case c2=>intro x hx;simp only[aE]at hx;subst hx;rfl
           case c3=>unfold maxLen;omega
           case c4=>omega
           case c5=>rw[ab];have:=HG.1.size;omega
           case c6=>
            intro v' wB ho hg _;obtain⟨a6,c6,J0,_,_⟩:=d' ho;subst J0;have uL:Below wA.heap.size wA wB:=by obtain⟨q1,q2,q3,q4,q5⟩:=hg;rw[ab]at q4;refine HG.1.trans ⟨q1,q2,q3,by omega,λb hb=>(q5 b (by rw[ab];have:=HG.1.size;omega) λe=> ?_).trans (heap_alloc_old _ _ (ai hb HG.1.size))⟩;have:=(HG.2.lt b e.symm).1;omega
            have HO:=eo ho uL;clear ho hg uL;go_wp2_with fail;go_roundg (j- (q+1))
            case measure=>omega
            case rel=>exact⟨q+1,Qm+1,rfl,rfl,by omega,by omega,aa ⟨HO.2,by have h1:=HO.1;have h2:=HU.2.2;rw[HU.1,List.filter_append,cM];simp only[List.filter_cons,<-h2,List.filter_nil,if_true,cX,cH];rw[HU.2.1]at h1;exact h1⟩⟩
         ·have jA:decide ((q:Int)<(j:Int))=false:=(by simp;omega);have hqj':q=j:=by omega
          subst hqj';have hrg:wr.ownsRow wA.heap.size 9 1 (.slice ag Qm cg) Qm ((ks.filter M).map λu=>.string (bs u)):=by have h1:=HG.2;rw[aP (by have:=HQ.2.2.1;omega)]at h1;exact h1
          obtain⟨wG,hwG⟩:=dS wr;subst hwG;have mQ:Below w0.heap.size w0 wG:=HM.2.2.trans (HG.1.mono HM.2.2.size);have Yq:=eo hrg mQ;clear hrg mQ HG;go_wp2_with fail;go_loopg [142,14] i (λk s142 U7 wr=>∃q cw:Nat,k=i-q/\s142=.int .i64 q/\q<=i/\cw<=q/\Hid (Below wG.heap.size wG wr/\wr.ownsRow wG.heap.size 9 1 U7 cw (((us.take q).filter M).map λu=>.string (bs u))))
          case atStart=>exact⟨0,0,rfl,rfl,aU _,af _,aa ⟨ay _ _,rfl,.inl ⟨rfl,rfl⟩⟩⟩
          case round=>
           obtain⟨q,cw,rfl,rfl,hq,hcq,HW⟩:=hrel;obtain⟨aw,cw',rfl,_,_⟩:=d' HW.2;have o0:Below w0.heap.size w0 wr:=Yq.2.trans (HW.1.mono Yq.2.size);by_cases hqi:q<i
           ·have kY:=gW ((q:Int)+1) (by omega);have jA:decide ((q:Int)<(i:Int))=true:=by simp;omega
            have i1:(0:Int)<=(q:Int):=(by omega);have i2:(q:Int)<(i:Int):=by omega
            obtain⟨u,hu⟩:∃u,us[q]? =some u:=⟨_,ah (by have:=HT.2.1;rw[HT.1,bU]at this;omega)⟩;obtain⟨b,o,rfl,hS⟩:=HT.2.2 q u hu;have hc:wr.cell? ⟨b,o+q,none⟩=some (.string (bs u)):=dF o0 _ _ hS;have BF:=HF.2.2.1.texts u (bh.2 ⟨q,hu⟩);have SL:=f11g w0 S u gl (.slice av n cv) wr HF.2.2.1.sok BF.1 (by have:=(eI u).1;omega) (by have:=(eI S).1;have:=HF.2.2.1.slen;omega) HF.2.2.1.ok HF.2.2.1.short (by have h1:=H.1;rw[<-H.2.2.2.2.1,HF.1]at h1;exact h1) o0;rw[<-HM.1]at SL;obtain⟨sv,pS⟩:=dS (bs u);rw[<-pS]at hc SL;obtain⟨X,hX⟩:=dS (M u);rw[<-hX]at SL;have HC11:=aa SL;have tD:us.take (q+1)=us.take q++[u]:=(by rw[ca,hu];rfl);have HU:=jS tD pS hX;clear hu pS hX tD SL BF hS;go_wp2_with fail;refine HC11.mono ?_;rintro e wB ⟨rfl,uL⟩;have hrB:wB.ownsRow wG.heap.size 9 1 (.slice aw cw cw') cw (((us.take q).filter M).map λu=>.string (bs u)):=dI HW.2 λx hx=>uL.block x (HW.2.lt x hx).2;have HB:=eo (HW.1.trans (uL.mono HW.1.size)) hrB;clear uL hrB;cases X with
            |false=>
             go_wp2_with fail;go_roundg (i- (q+1))
             case measure=>omega
             case rel=>exact⟨q+1,cw,rfl,rfl,by omega,by omega,aa ⟨HB.1,by have h1:=HB.2;have h2:=HU.2.2;rw[HU.1,List.filter_append,cM];simp only[List.filter_cons,<-h2,List.filter_nil,aM,if_false,cH,bd];exact h1⟩⟩
            |true=>
             go_wp2_with (at_builtin;refine wpList_append_own _ rfl (.tmp 150) (.tmp 152) 23 rfl wG.heap.size 9 iS (.string ⟨#[]⟩) 1 16 underlying23 HY.1 HY.2.1 HY.2.2.1 HY.2.2.2 rfl (by decide) (.slice aw cw cw') cw _ rfl (HB.2.alloc _) ⟨wB.heap.size,0,none⟩ 1 1 [.string sv] rfl rfl ?c1 ?c2 ?c3 ?c4 ?c5 ?c6)
             case c1=>exact World.news_of_block (heap_alloc_new wB _)
             case c2=>intro x hx;simp only[aE]at hx;subst hx;rfl
             case c3=>unfold maxLen;omega
             case c4=>omega
             case c5=>rw[ab];have:=HB.1.size;omega
             case c6=>
              intro v' wD ho hg _;obtain⟨a6,c6,J0,_,_⟩:=d' ho;subst J0;have hbD:Below wG.heap.size wG wD:=by obtain⟨q1,q2,q3,q4,q5⟩:=hg;rw[ab]at q4;refine HB.1.trans ⟨q1,q2,q3,by omega,λb hb=>(q5 b (by rw[ab];have:=HB.1.size;omega) λe=> ?_).trans (heap_alloc_old _ _ (ai hb HB.1.size))⟩;have:=(HB.2.lt b e.symm).1;omega
              have HO:=eo ho hbD;clear ho hg hbD;go_wp2_with fail;go_roundg (i- (q+1))
              case measure=>omega
              case rel=>exact⟨q+1,cw+1,rfl,rfl,by omega,by omega,aa ⟨HO.2,by have h1:=HO.1;have h2:=HU.2.2;rw[HU.1,List.filter_append,cM];simp only[List.filter_cons,<-h2,List.filter_nil,if_true,cX,cH];rw[HU.2.1]at h1;exact h1⟩⟩
           ·have jA:decide ((q:Int)<(i:Int))=false:=(by simp;omega);have hqi':q=i:=by omega
            subst hqi';have iE:wr.ownsRow wG.heap.size 9 1 (.slice aw cw cw') cw ((us.filter M).map λu=>.string (bs u)):=by have h1:=HW.2;rw[aP (by have:=HT.2.1;rw[HT.1,bU]at this;omega)]at h1;exact h1
            have Ju:=jS iE o0 HW.1;clear iE o0 HW;have hlaw:=law M us ks T HT.1 (by rw[<-HA.2.2];exact HQ.1) HQ.2.1 (λu hu=>(HF.2.2.1.texts u hu).1);have hrw1:wr.ownsRow wG.heap.size 9 1 (.slice aw cw cw') cw (((us.filter M).map enc).map Go.Proofs.encStr):=by rw[List.map_map];exact Ju.1
            have HC12:=aa (QR hrw1 (by omega) Ju.2.2.size);have HLAW:=aa hlaw;clear hlaw hrw1;go_wp2_with fail;refine HC12.mono ?_;rintro e wE ⟨rfl,hrE,hbE⟩;have Z':=IQ hrE (by omega) (ao Ju.2.2.size hbE.size);rw[<-HLAW.out]at Z';have HC14:=aa Z';have HBE:=aa hbE;clear hrE hbE Z' HC12;go_wp2_with fail;refine HC14.mono ?_;rintro e wF ⟨rfl,hrF,SA⟩;have ZV:Below wG.heap.size wG wF:=Ju.2.2.trans (HBE.trans SA);have hrG:wF.ownsRow wA.heap.size 9 1 (.slice ag Qm cg) Qm (((ks.filter M).map enc).map Go.Proofs.encStr):=by rw[List.map_map];exact dI Yq.1 λx hx=>ZV.block x (Yq.1.lt x hx).2
            have ka:((ks.filter M).map enc).length=Qm:=(by have:=hrG.1;simpa using this);rw[ka]at hrF⊢;have HC13:=aa (PS hrG hrF (by omega));have Fb:=aa (Yq.2.trans (ZV.mono Yq.2.size));clear ZV hrG ka hrF SA HC14;go_wp2_with fail;refine HC13.mono ?_;rintro e wH ⟨rfl,hbH⟩;have qB:=aa (Fb.trans (hbH.mono Fb.size));clear hbH;go_wp2_with fail;go_ret;exact⟨rfl,qB.out⟩
end Go.Proofs.YtfejflhgaphilaaGreatDoor
