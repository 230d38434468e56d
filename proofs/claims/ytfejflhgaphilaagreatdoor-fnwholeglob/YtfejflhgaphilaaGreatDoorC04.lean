/- A region that draws its order, ends in one operation that waits for all others, and whose reads are of what no other one of them writes: one order stands for all. The steps of a walk that save checkpoints: each does to the state what it says, and writes nothing else. The smaller steps of a walk: the -/
import Derived.StillTail
import Derived.OrdersHeld
import Derived.RegionTactic
import Derived.Deep.RegionHeld
import Derived.Test.YtfejflhgaphilaaGreatDoorC03
import Derived.Deep.RegionLaw
import Derived.Deep.RegionHeld3
import Derived.Deep.MidRow
import Derived.Handy
import Derived.BigRegion
import Derived.StillTailTactics
import Derived.BigQuiet
import Derived.Deep.QuietTactic
import Derived.Lib.SliceRun
import Derived.Deep.OwnRows
import Derived.BigFrame
import Derived.Laws.CopyOwn
set_option linter.all false
set_option maxRecDepth 100000
set_option maxHeartbeats 64000000
open Go.Proofs.Tryz
namespace Go.Proofs.YtfejflhgaphilaaGreatDoor
open Go
section
variable {P:Program} {ops:Array Oper} {Q:Exit->Act->World->Prop} {md:Region.Mode} {S:World->Prop}
def Bj (P:Program) (md:Region.Mode) (ops:Array Oper) (Q:Exit->Act->World->Prop) (S:World->Prop) (n:Nat) (L:Array Bool->Act->World->Prop):Nat->Array Bool->Act->World->Prop
 |0,listed,a,w=>L listed a w
 |f+1,listed,a,w=>Region.ready md ops listed≠[]/\∀i∈Region.ready md ops listed,i<n/\wpOp P ops Q i (λa' w'=>S w'/\Bj P md ops Q S n L f (listed.setIfInBounds i true) a' w') a w
theorem nL {n g:Nat} {L:Array Bool->Act->World->Prop} (hL:∀listed a w,L listed a w->wpAny P md ops Q g listed a w):∀(f:Nat) (listed:Array Bool) (a:Act) (w:World),Bj P md ops Q S n L f listed a w->wpAny P md ops Q (f+g) listed a w
 |0,listed,a,w,h=>by rw[cm];exact hL _ _ _ h
 |f+1,listed,a,w,h=>by rw[show f+1+g=(f+g)+1 by omega];exact⟨λh0=>absurd h0 h.1,λi hi=>wpOp_mono (λa' w' h'=>nL hL f _ a' w' h'.2) (h.2 i hi).2⟩
theorem yi {n i:Nat} {oi:Oper} {v:Value} {L:Array Bool->Act->World->Prop} (hi:ops[i]? =some oi) (yx:∀(j:Nat) (o:Oper) cs b,ops[j]? =some o->o.op≠ .select cs b) (hs:Region.sinkB md ops n=true) (hc:Region.chainB md ops n=true) (hn:n<ops.size) (jn:i<n) (hQ:∀c a w,Q (.panic c) (a.put oi.dst v) w->Q (.panic c) a w) (hdone:∀listed a w,L listed a w->∀j∈Region.ready md ops listed,n<=j):∀(f:Nat) (listed:Array Bool) (a:Act) (w:World),HeadInv md ops n listed->(∀j oj,ops[j]? =some oj->j≠i->listed.getD j true=false->(∀e∈oj.after,Region.binds md e=true->e.on≠i)->oi.apart ops oj=true)->i∈Region.ready md ops listed->YieldsIf P ops S oi v a->S w->Bj P md ops Q S n L f (listed.setIfInBounds i true) (a.put oi.dst v) w->Bj P md ops Q S n L (f+1) listed a w:=by
 intro f
 induction f with
 |zero=>
  intro listed a w inv _ hr hy hS H;have Y7:=(mem_ready.1 hr).1;refine⟨λh=>(by rw[h]at hr;cases hr),λj hj=> ?_⟩;have gM:j<n:=by
   rcases aV j n with h|h
   ·exact h
   ·exact absurd hj (tail_waits hs hc hn inv _ i rfl jn Y7 j h)
  refine⟨gM,?_⟩;by_cases XK:j=i
  ·subst XK;exact hy.wpOp hi hS ⟨hS,H⟩
  ·have:=hdone _ _ _ H j (ready_mono hj XK);omega
 |succ f ih=>
  intro listed a w inv XM hr hy hS H;have Y7:=(mem_ready.1 hr).1;refine⟨λh=>(by rw[h]at hr;cases hr),λj hj=> ?_⟩;have gM:j<n:=by
   rcases aV j n with h|h
   ·exact h
   ·exact absurd hj (tail_waits hs hc hn inv _ i rfl jn Y7 j h)
  refine⟨gM,?_⟩;by_cases XK:j=i
  ·subst XK;exact hy.wpOp hi hS ⟨hS,H⟩
  ·have h1:=(H.2 j (ready_mono hj XK)).2;obtain⟨hjun,oj,hoj,jh⟩:=mem_ready.1 hj;have OL:∀e∈oj.after,Region.binds md e=true->e.on≠i:=λe he hb heq=>by
    have h1:=jh e he hb;rw[heq,getD_both Y7]at h1;cases h1
   have h2:=wpOp_putIf hoj (XM j oj hoj XK hjun OL) (λcs b=>yx i oi cs b hi) (λcs b=>yx j oj cs b hoj) hQ hy h1;have ZN:∀k ok,ops[k]? =some ok->k≠i->(listed.setIfInBounds j true).getD k true=false->(∀e∈ok.after,Region.binds md e=true->e.on≠i)->oi.apart ops ok=true:=λk ok hk hki hun' hno=>by
    refine XM k ok hk hki ?_ hno;by_cases hjk:j=k
    ·subst hjk;exact hjun
    ·rw[getD_set_ne true hjk]at hun';exact hun'
   refine wpOp_mono (λa' w' h3=>⟨h3.2.1,ih (listed.setIfInBounds j true) a' w' (inv.set hj gM) ZN (ready_mono hr (cE XK)) h3.1 h3.2.1 ?_⟩) h2;rw[Array.setIfInBounds_comm _ _ XK];exact h3.2.2
def nth:List Oper->Nat->Option Oper
 | [],_=>none
 |o::_,0=>some o
 |_::l,n+1=>nth l n
theorem tp:∀(l:List Oper) (n:Nat),nth l n=l[n]?
 | [],_=>by simp[nth]
 |_::_,0=>rfl
 |_::l,n+1=>by rw[nth,tp l n,bH]
def Eb (md:Region.Mode) (ops:Array Oper) (n:Nat):List Nat->Array Bool->Bool
 |t::ts,listed=>decide (Region.ready md ops listed=[t])&&decide (t<n)&&Eb md ops n ts (listed.setIfInBounds t true)
 | [],listed=>Region.seqB md ops 1 n listed
def Ec (md:Region.Mode) (ops:Array Oper) (n:Nat) (ts:List Nat):List Nat->Array Bool->Bool
 |i::is,listed=>(Region.ready md ops listed).contains i&&Region.free md ops listed i&&decide (i<n)&&Ec md ops n ts is (listed.setIfInBounds i true)
 | [],listed=>Eb md ops n ts listed
def te (P:Program) (l:List Oper) (Q:Exit->Act->World->Prop) (S:World->Prop):List Nat->Act->World->Prop
 |t::ts,a,w=>wpOp P l.toArray Q t (λa' w'=>S w'/\te P l Q S ts a' w') a w
 | [],a,w=>∃o,nth l (l.length-1)=some o/\wpList P l.toArray Q [o] a w
def Cr (P:Program) (l:List Oper) (Q:Exit->Act->World->Prop) (S:World->Prop) (ts:List Nat):List Nat->Act->World->Prop
 |i::is,a,w=>∃o v,nth l i=some o/\(∀c a w,Q (.panic c) (a.put o.dst v) w->Q (.panic c) a w)/\YieldsIf P l.toArray S o v a/\S w/\Cr P l Q S ts is (a.put o.dst v) w
 | [],a,w=>te P l Q S ts a w
theorem fc {l:List Oper} {i:Nat} {is ts:List Nat} {a:Act} {w:World} {o:Oper} {v:Value} (ho:nth l i=some o) (hQ:∀c a w,Q (.panic c) (a.put o.dst v) w->Q (.panic c) a w) (hw:Region.wanted o (yielded l.toArray a.tmps)=true) (hv:∀w,S w->(execOp a.eval o).run P w=.ok (.value v) w) (hS:S w) (h:Cr P l Q S ts is (a.put o.dst v) w):Cr P l Q S ts (i::is) a w:=⟨o,v,ho,hQ,.inl ⟨hw,hv⟩,hS,h⟩
theorem fe {l:List Oper} {ts:List Nat} {a:Act} {w:World} (h:te P l Q S ts a w):Cr P l Q S ts [] a w:=h
theorem ep {l:List Oper} {t:Nat} {ts:List Nat} {a:Act} {w:World} {o:Oper} (ho:nth l t=some o) (h:∀K':Act->World->Prop,Shut (∀a w,S w->(S w->te P l Q S ts a w)->K' a w)->if Region.wanted o (yielded l.toArray a.tmps)=true then Oper.wp P o a w K' Q else K' (a.put o.dst undef) w):te P l Q S (t::ts) a w:=by
 have h0:l.toArray[t]? =some o:=by rw[<-ho,tp];simp
 exact wpOp_step h0 λK' hK=>h K' λa w hS hW=>hK a w ⟨hS,hW hS⟩
theorem ff {l:List Oper} {a:Act} {w:World} {o:Oper} (ho:nth l (l.length-1)=some o) (h:wpList P l.toArray Q [o] a w):te P l Q S [] a w:=⟨o,ho,h⟩
section
variable {l:List Oper} {n:Nat} (sq:n+1=l.length) (yx:Region.noSelect l.toArray=true) (hs:Region.sinkB md l.toArray n=true) (hc:Region.chainB md l.toArray n=true)
theorem Bi:∀(ts:List Nat) (listed:Array Bool) (a:Act) (w:World),HeadInv md l.toArray n listed->Eb md l.toArray n ts listed=true->te P l Q S ts a w->Bj P md l.toArray Q S n (λql a' w'=>Region.seqB md l.toArray 1 n ql=true/\∃o,nth l (l.length-1)=some o/\wpList P l.toArray Q [o] a' w') ts.length listed a w
 | [],listed,a,w,_,hB,h=>⟨hB,h⟩
 |t::ts,listed,a,w,inv,hB,h=>by
  simp only[Eb,al,decide_eq_true_eq]at hB;obtain⟨⟨hr,htn⟩,Qj⟩:=hB;refine⟨by rw[hr];simp,λj hj=> ?_⟩;have hjt:j=t:=by rw[hr]at hj;simpa using hj
  subst hjt;exact⟨htn,wpOp_mono (λa' w' h'=>⟨h'.1,Bi ts _ a' w' (inv.set hj htn) Qj h'.2⟩) h⟩
include sq yx hs hc
theorem DC (ts:List Nat):∀(is:List Nat) (listed:Array Bool) (a:Act) (w:World),HeadInv md l.toArray n listed->Ec md l.toArray n ts is listed=true->Cr P l Q S ts is a w->Bj P md l.toArray Q S n (λql a' w'=>Region.seqB md l.toArray 1 n ql=true/\∃o,nth l (l.length-1)=some o/\wpList P l.toArray Q [o] a' w') (is.length+ts.length) listed a w
 | [],listed,a,w,inv,hB,h=>by rw[show([]:List Nat).length+ts.length=ts.length from by simp];exact Bi ts listed a w inv hB h
 |i::is,listed,a,w,inv,hB,h=>by
  simp only[Ec,al,decide_eq_true_eq]at hB;obtain⟨⟨⟨hr,hf⟩,jn⟩,Qj⟩:=hB;obtain⟨o,v,ho,hQ,hy,hS,hK⟩:=h;have h0:l.toArray[i]? =some o:=by rw[<-ho,tp];simp
  have hr':i∈Region.ready md l.toArray listed:=by simpa using hr
  rw[show(i::is).length+ts.length=(is.length+ts.length)+1 from by simp;omega];exact yi h0 (Region.noSelect_spec yx) hs hc (by simp;omega) jn hQ (λql a' w' hL=>seqB_ready hL.1) _ listed a w inv (Region.free_spec h0 hf) hr' hy hS (DC ts is _ _ w (inv.set hr' jn) Qj hK)
end
def Lw (l:List Oper) (is ts:List Nat):Bool:=decide (is.length+ts.length+1=l.length)&&Region.noSelect l.toArray&&Region.sinkB .any l.toArray (l.length-1)&&Region.chainB .any l.toArray (l.length-1)&&Ec .any l.toArray (l.length-1) ts is (Array.replicate l.length false)
theorem ev {id:Nat} {a:Act} {w:World} {l:List Oper} (S:World->Prop) (is ts:List Nat) (hm:P.follows .mixedOrders=true) (hB:Lw l is ts=true) (hS:S w.drew) (h:S w.drew->Cr P l Q S ts is a w.drew):(Code.region id l.toArray true).wp P Q a w:=by
 replace h:=h hS;simp only[Lw,al,decide_eq_true_eq]at hB;obtain⟨⟨⟨⟨hl,yx⟩,hs⟩,hc⟩,hB⟩:=hB;have sq:l.length-1+1=l.length:=by omega
 have YU:HeadInv .any l.toArray (l.length-1) (Array.replicate l.length false):=⟨by simp,λj oj _ yC=>(by rw[getD_replicate_false]at yC;cases yC),λt _ ht=>getD_in (by simpa using ht) (getD_replicate_false _ _)⟩;have H:=DC (md:=.any) sq yx hs hc ts is _ a w.drew YU hB h;refine wp_region_any hm ?_;have:=nL (Q:=Q) (g:=1) (λlisted a' w' hL=>by
  obtain⟨o,ho,hw⟩:=hL.2;rw[tp]at ho;exact wpAny_of_seq (md:=.any) (Q':=Q) [o] (l.length-1) listed a' w' (λj=>by
   cases j with
   |zero=>simpa using ho.symm
   |succ j=>simp;omega) hL.1 hw) _ _ _ _ H
 rw[show is.length+ts.length+1=l.toArray.size from by simpa using hl]at this;simpa using this
end
end Go.Proofs.YtfejflhgaphilaaGreatDoor
namespace Go.Proofs.YtfejflhgaphilaaGreatDoor
open Go.RowKit Gm
theorem Tryz.uz:(prog.info? 162).map (λi=>(i.zero,i.size,i.bytes))=some (some (.agg #[.int .i64 0,.slice none 0 0]),2,32):=by kernel_rfl
theorem Ra {w:World} {H:Nat} (h:w.heap.size=H) (a b:Value) (t:TypeId):∀j u,[a,b][j]? =some u->(w.alloc (.cells #[a,b] t)).cell? ((⟨H,0,none⟩:Addr).add j)=some u:=by subst h;exact cell_two_new w a b t
theorem me {w:World} {H:Nat} (h:w.heap.size=H) (a b:Value) (t:TypeId):∀j u,[a,b][j]? =some u->(w.alloc (.cells #[a,b] t)).drew.cell? ((⟨H,0,none⟩:Addr).add j)=some u:=Ra h a b t
theorem eY.pA {w wa w1:World} {B sp tot:Nat} {S:SV} {txt:List dE} {st:St} (hs:eY w B sp S txt tot st) (hb:Below w.heap.size w wa) {row:Option Nat} (hg:wa.grownBy w1 row) (hr:row≠some sp):w1.cell? ⟨sp,0,none⟩=some S.vs/\w1.cell? ⟨sp,1,none⟩=some S.vk/\w1.cell? ⟨sp,2,none⟩=some S.va/\∀i,w1.frozen? ⟨sp,i,none⟩=false:=by
 have l1:=hs.lt.1;have gJ:=hb.size;have h:w1.heap[sp]? =some (.cells #[S.vs,S.vk,S.va] 165 (0,0)):=by rw[hg.block sp (by omega) (λe=>hr e.symm),hb.block sp l1];exact hs.gu
 refine⟨by simp[World.cell?,h],by simp[World.cell?,h],by simp[World.cell?,h],λi=>by simp[World.frozen?,h]⟩
theorem uo (k:IntKind) (z:Int) (a:Option Addr) (n c:Nat):∀u∈[Value.int k z,.slice a n c],u.oneCell'=true:=by intro u hu;simp only[az,ba,or_false]at hu;rcases hu with rfl|rfl<;>rfl
theorem f267 (B sp tot:Nat) (S:SV) (txt rem:List dE) (st:St) (vp pv:Value) (d d2 fl:Nat) (kd:Int) (p:List Nat) (w:World) (hs:eY w B sp S txt tot st) (qR:eF w pv p) (nG:PL sp S pv) (ht:tot<=1000000000000):Calls prog 267 #[.agg #[.int .i64 (off txt rem),vp,.int .i64 d,.pointer (some ⟨sp,0,none⟩),.int .i64 kd,.int .i64 fl],.agg #[pv,.int .i64 d2]] w λe w'=>e=.returned (.tuple #[])/\∃S',eY w' B sp S' txt (tot+1) {st with stack:=st.stack++[⟨p,rem⟩]}/\Fr w w' sp S S':=by
 obtain⟨i0,hi,gD,gB,gF⟩:=info_parts Tryz.uz;obtain⟨c0,c1,c2⟩:=hs.cells;obtain⟨l1,l2,l3,l4⟩:=hs.lt;obtain⟨qH,ED,gh,Mj⟩:=hs.stack;obtain⟨pa,pc,rfl,hpr⟩:∃pa pc,pv=.slice pa p.length pc/\True:=by obtain⟨a,c,h,_⟩:=qR;exact⟨a,c,h,trivial⟩
 have HO:∀wx:World,Below w.heap.size w wx->wx.ownsRow B 162 2 S.vk st.stack.length (ia txt st.stack qH):=λwx hb=>dI gh λg hg=>hb.block g (l3 g hg).1;have HO':=aa HO;clear HO;have HB:B<=w.heap.size:=by have:=hs.base;omega
 have hn:=hs.nstack;have z1:=dJ (dJ (dJ c1 (.cells #[.int .i64 (off txt rem),vp,.int .i64 d,.pointer (some ⟨sp,0,none⟩),.int .i64 kd,.int .i64 fl] 151)) (.cells #[.slice pa p.length pc,.int .i64 d2] 147)) (.cells #[.int .i64 (off txt rem),.slice pa p.length pc] 162);have z3:=dJ (dJ (bC w #[.int .i64 (off txt rem),vp,.int .i64 d,.pointer (some ⟨sp,0,none⟩),.int .i64 kd,.int .i64 fl] 151 3) (.cells #[.slice pa p.length pc,.int .i64 d2] 147)) (.cells #[.int .i64 (off txt rem),.slice pa p.length pc] 162);have z0:=dJ (dJ (bC w #[.int .i64 (off txt rem),vp,.int .i64 d,.pointer (some ⟨sp,0,none⟩),.int .i64 kd,.int .i64 fl] 151 0) (.cells #[.slice pa p.length pc,.int .i64 d2] 147)) (.cells #[.int .i64 (off txt rem),.slice pa p.length pc] 162);have z4:(((w.alloc (.cells #[.int .i64 (off txt rem),vp,.int .i64 d,.pointer (some ⟨sp,0,none⟩),.int .i64 kd,.int .i64 fl] 151)).alloc (.cells #[.slice pa p.length pc,.int .i64 d2] 147)).alloc (.cells #[.int .i64 (off txt rem),.slice pa p.length pc] 162)).cell? ⟨w.heap.size+1,0,none⟩=some (.slice pa p.length pc):=by have:=dJ (bC (w.alloc (.cells #[.int .i64 (off txt rem),vp,.int .i64 d,.pointer (some ⟨sp,0,none⟩),.int .i64 kd,.int .i64 fl] 151)) #[.slice pa p.length pc,.int .i64 d2] 147 0) (.cells #[.int .i64 (off txt rem),.slice pa p.length pc] 162);rw[ab]at this;exact this
 have HN1:Hid (some (w.heap.size+1)≠S.vk.ownBlock):=λe=>by have:=(l3 _ e.symm).1;omega
 have HN:Hid (some w.heap.size≠S.vk.ownBlock):=λe=>by have:=(l3 _ e.symm).1;omega
 have HK:Hid (S.vk.ownBlock≠some sp):=λe=>(hs.apart.k sp e).1 rfl;go_enter func267,ntmps267;go_wp2_with fail;refine ev (λw'=>w'.cell? ⟨w.heap.size,3,none⟩=some (.pointer (some ⟨sp,0,none⟩))/\w'.cell? ⟨w.heap.size,0,none⟩=some (.int .i64 (off txt rem))/\w'.cell? ⟨w.heap.size+1,0,none⟩=some (.slice pa p.length pc)/\w'.cell? ⟨sp,1,none⟩=some S.vk) [0,1,2,3,4,5,6,7,8,9,10,11] [12,13,14,15] (by kernel_rfl) (by kernel_rfl) ?_ (λhHeld=> ?_)
 ·go_keep
 iterate 12
  refine fc (v:= ?_) rfl (λ_ _ _ h=>h) (by rfl) ?_ hHeld ?_;rotate_left
  ·intro w hSw;(try dsimp only at hSw);go_simp
   try with_reducible rfl
  simp only[Act.put,iX]
 refine fe ?_;refine ep rfl (λK hK=> ?_);go_simp;refine hK.out _ _ ⟨z3,z0,z4,z1⟩ (λdW=> ?_);clear hK K hHeld dW;refine ep rfl (λK hK=> ?_);refine step_append_lies _ rfl (.tmp 10) (.tmp 16) 163 rfl B 162 i0 (.agg #[.int .i64 0,.slice none 0 0]) 2 32 underlying163 hi gD gB gF rfl (by decide) S.vk st.stack.length (ia txt st.stack qH) rfl ?_ ⟨w.heap.size+1+1,0,none⟩ 1 1 [.int .i64 (off txt rem),.slice pa p.length pc] rfl rfl ?_ ?_ (by decide) ?_ ?_ ?_ (w.heap.size+1+1+1) ?_ ?_
 ·exact HO'.out _ (by go_grown)
 ·exact me (by simp) _ _ _
 ·exact uo _ _ _ _ _
 ·unfold maxLen;omega
 ·omega
 ·simp;omega
 ·simp
 intro g cap w1 ly gT gK jg;have HW:Below w.heap.size w (((w.alloc (.cells #[.int .i64 (off txt rem),vp,.int .i64 d,.pointer (some ⟨sp,0,none⟩),.int .i64 kd,.int .i64 fl] 151)).alloc (.cells #[.slice pa p.length pc,.int .i64 d2] 147)).drew.alloc (.cells #[.int .i64 (off txt rem),.slice pa p.length pc] 162)):=by go_grown
 obtain⟨d0,d1,d2',df⟩:=hs.pA HW gT HK.out;have HS:(w1.cell? ⟨w.heap.size,3,none⟩=some (.pointer (some ⟨sp,0,none⟩))/\w1.cell? ⟨w.heap.size,0,none⟩=some (.int .i64 (off txt rem))/\w1.cell? ⟨w.heap.size+1,0,none⟩=some (.slice pa p.length pc)/\w1.cell? ⟨sp,1,none⟩=some S.vk):=by
  refine⟨?_,?_,?_,d1⟩
  ·exact(gT.cell_far ⟨w.heap.size,3,none⟩ (by simp;omega) HN.out).trans z3
  ·exact(gT.cell_far ⟨w.heap.size,0,none⟩ (by simp;omega) HN.out).trans z0
  ·exact(gT.cell_far ⟨w.heap.size+1,0,none⟩ (by simp) HN1.out).trans z4
 have yC:=hs.YK (c:=⟨p,rem⟩) ED Mj HW qR nG ly gT (by simpa using gK);have P5:=aa yC;clear yC hs Mj gh;refine hK.out _ _ HS (λdW=> ?_);clear hK K;simp only[Act.put,iX];refine ep rfl (λK hK=> ?_);go_simp;refine hK.out _ _ HS (λdW=> ?_);clear hK K;refine ep rfl (λK hK=> ?_);go_simp;refine hK.out _ _ HS (λdW=> ?_);clear hK K;refine ff rfl ?_;go_wp2_with fail;go_end0;exact⟨rfl,_,P5.out⟩
theorem eF.lk {w w':World} {v:Value} {p:List Nat} (h:eF w v p) (hb:Below w.heap.size w w'):eF w' v p:=by obtain⟨a,cap,rfl,h1,h2,h3⟩:=h;refine⟨a,cap,rfl,h1,h2,λeK=> ?_⟩;obtain⟨b,o,rfl,hc,cs,hk⟩:=h3 eK;exact⟨b,o,rfl,λi hi=>(hb.cell (bp w _ (hc i hi))).trans (hc i hi),cs,(hb.block b (bc.1 hk).1).trans hk⟩
theorem f223 (pv:Value) (p:List Nat) (d:Nat) (w:World) (hp:eF w pv p):Calls prog 223 #[.agg #[pv,.int .i64 d]] w λe w'=>e=.returned (.int .i64 (p.getD d 0:Nat))/\Below w.heap.size w w':=by
 obtain⟨a,cap,rfl,h1,h2,h3⟩:=hp;by_cases hd:d<p.length
 ·obtain⟨b,o,rfl,hc,_⟩:=h3 (by intro e;simp[e]at hd);clear h3;have XS:=dJ (hc d hd) (.cells #[.slice (some ⟨b,o,none⟩) p.length cap,.int .i64 d] 147);have ht:decide ((p.length:Int)<=(d:Int))=false:=by simp;omega
  have eT:(0:Int)<=(d:Int):=by omega
  have gQ:(d:Int)<(p.length:Int):=by omega
  have hg:p.getD d 0=p[d]:=by simp[hd]
  go_enter func223,ntmps223;go_wp2_with fail;go_ret;refine⟨by rw[hg];rfl,by go_grown⟩
 ·have ht:decide ((p.length:Int)<=(d:Int))=true:=by simp;omega
  have hg:p.getD d 0=0:=by simp[bz (by omega:p.length<=d)]
  go_enter func223,ntmps223;go_wp2_with fail;go_ret;exact⟨by rw[hg];rfl,by go_grown⟩
theorem f264 (z i d kd fl:Int) (a:Option Addr) (n c:Nat) (q:Option Addr) (w:World) (hz:IntKind.i64.wrap (z+i)=z+i) (hd:IntKind.i64.wrap (d+1)=d+1):Calls prog 264 #[.agg #[.int .i64 z,.slice a n c,.int .i64 d,.pointer q,.int .i64 kd,.int .i64 fl],.int .i64 i] w λe w'=>e=.returned (.agg #[.int .i64 (z+i),.slice a n c,.int .i64 (d+1),.pointer q,.int .i64 kd,.int .i64 fl])/\Below w.heap.size w w':=by
 go_enter func264,ntmps264;go_wp2_with fail
 (try simp only[Exit.inBlock,Exit.then])
 refine bodyPost_ret (results_cell_row rfl _ _ _ _ _ _ _ rfl (heap_alloc2_new _ _ _) underlying151 rfl (by kernel_rfl)) rfl ?_;exact⟨rfl,by go_grown⟩
theorem WK (w:World):(zeroValue 3).run prog w=.ok (.int .i64 0) w:=by kernel_rfl
theorem mr (b:Nat):∀(l:List Value) (o:Nat) (w w':World),w.heap=w'.heap->(w.setCells b o l).heap=(w'.setCells b o l).heap
 | [],_,_,_,h=>h
 |v::l,o,w,w',h=>mr b l (o+1) _ _ (by simp only[World.setCell,h])
theorem mq (b:Nat):∀(l:List Value) (o:Nat) (w:World),(w.setCells b o l).os=w.os/\(w.setCells b o l).tape=w.tape/\(w.setCells b o l).output=w.output
 | [],_,_=>⟨rfl,rfl,rfl⟩
 |v::l,o,w=>by obtain⟨h1,h2,h3⟩:=mq b l (o+1) (w.setCell ⟨b,o,none⟩ v);exact⟨h1,h2,h3⟩
theorem f224a (sp b u cap n:Nat) (vs vk:Value) (cs:Array Value) (w:World) (hn:0<n) (hs:w.heap[sp]? =some (.cells #[vs,vk,.slice (some ⟨b,0,none⟩) u cap] 165 (0,0))) (hb:w.heap[b]? =some (.cells cs 3 (0,0))) (eK:b≠sp) (hc:cs.size=cap) (hu:u+n<=cap) (nj:cap<=3000000000000):Calls prog 224 #[.pointer (some ⟨sp,0,none⟩),.int .i64 n] w λe w'=>e=.returned (.slice (some ⟨b,u,none⟩) n n)/\w'.heap=((w.setCell ⟨sp,2,none⟩ (.slice (some ⟨b,0,none⟩) (u+n) cap)).setCells b u (List.replicate n (.int .i64 0))).heap/\w'.os=w.os/\w'.tape=w.tape/\w'.output=w.output:=by
 have c2:w.cell? ⟨sp,2,none⟩=some (.slice (some ⟨b,0,none⟩) u cap):=by simp[World.cell?,hs]
 have f2:w.frozen? ⟨sp,2,none⟩=false:=by simp[World.frozen?,hs]
 have kY:=gW ((cap:Int)-u) (by omega);have mN:=gW ((u:Int)+n) (by omega);have ht:decide ((cap:Int)-u<(n:Int))=false:=by simp;omega
 have i1:(0:Int)<=(u:Int)+n:=by omega
 have i2:max ((u:Int)+n) 0=(u:Int)+n:=by omega
 have i3:(u:Int)+n<=(cap:Int):=by omega
 have i4:((u:Int)+n).toNat=u+n:=by omega
 have i5:n≠0:=by omega
 have ka:∀ty (wx:World),wx.heap=(w.setCell ⟨sp,2,none⟩ (.slice (some ⟨b,0,none⟩) (u+n) cap)).heap->(Builtin.clear_ #[145] ty #[.slice (some ⟨b,u,none⟩) n n]).run prog wx=.ok (.tuple #[]) (wx.setCells b u (List.replicate n (.int .i64 0))):=by
  intro ty wx hx;refine Lib.run_clear_slice wx 145 3 ty (.int .i64 0) underlying145 WK rfl rfl b u n n hn ?_ ?_
  ·intro j hj;have:wx.heap[b]? =some (.cells cs 3 (0,0)):=by rw[hx,aq _ _ _ _ eK];exact hb
   simp[World.cell?,this];omega
  ·intro j hj;have:wx.heap[b]? =some (.cells cs 3 (0,0)):=by rw[hx,aq _ _ _ _ eK];exact hb
   simp[World.frozen?,this]
 have vE:=aa ka;clear ka hs hb hc;go_enter func224,ntmps224;go_wp2_with fail;refine ev (λw'=>w'.cell? ⟨sp,2,none⟩=some (.slice (some ⟨b,0,none⟩) u cap)) [0,1,2,3,4,5,6,7,8,9,10,11] [] (by kernel_rfl) (by kernel_rfl) c2 (λhHeld=> ?_);iterate 12
  refine fc (v:= ?_) rfl (λ_ _ _ h=>h) (by rfl) ?_ hHeld ?_;rotate_left
  ·intro w hSw;(try dsimp only at hSw);go_simp
   try with_reducible rfl
  simp only[Act.put,iX]
 refine fe ?_;refine ff rfl ?_;go_wp2_with fail;refine ev (λw'=>w'.cell? ⟨sp,2,none⟩=some (.slice (some ⟨b,0,none⟩) u cap)) [0,1,2,3,4,5,6,7,8,9,10,11,12,13,14,15,16,17,18,19,20,21,22,23] [] (by kernel_rfl) (by kernel_rfl) c2 (λhHeld=> ?_);iterate 24
  refine fc (v:= ?_) rfl (λ_ _ _ h=>h) (by rfl) ?_ hHeld ?_;rotate_left
  ·intro w hSw;(try dsimp only at hSw);go_simp
   try with_reducible rfl
  simp only[Act.put,iX]
 refine fe ?_;refine ff rfl ?_;go_wp2_with fail;refine ev (λw'=>w'.cell? ⟨sp,2,none⟩=some (.slice (some ⟨b,0,none⟩) u cap)) [0,1,2,3,4,5,6,7,8,9,10,11,12] [13,14] (by kernel_rfl) (by kernel_rfl) c2 (λhHeld=> ?_);iterate 13
  refine fc (v:= ?_) rfl (λ_ _ _ h=>h) (by rfl) ?_ hHeld ?_;rotate_left
  ·intro w hSw;(try dsimp only at hSw);go_simp
   try with_reducible rfl
  simp only[Act.put,iX]
 refine fe ?_;refine ep rfl (λK hK=> ?_);go_simp;refine hK.out _ _ hHeld (λdW=> ?_);clear hK K;refine ep rfl (λK hK=> ?_);go_simp;refine hK.out _ _ hHeld (λdW=> ?_);clear hK K;refine ff rfl ?_;have ka:=vE.out 0 ((w.setCell ⟨sp,2,none⟩ (.slice (some ⟨b,0,none⟩) (u+n) cap)).drew.drew.drew) rfl;go_wp2_with (simp only[ka]);go_ret;obtain⟨r1,r2,r3⟩:=mq b (List.replicate n (.int .i64 0)) u ((w.setCell ⟨sp,2,none⟩ (.slice (some ⟨b,0,none⟩) (u+n) cap)).drew.drew.drew);exact⟨rfl,mr _ _ _ _ _ rfl,r1,r2,r3⟩
theorem info3:(prog.info? 3).map (λi=>(i.zero,i.size,i.bytes))=some (some (.int .i64 0),1,8):=by kernel_rfl
def chunk (cap n:Nat):Nat:=max (max (2*cap) n) 32
theorem f224b (sp u cap n:Nat) (va:Option Addr) (vs vk:Value) (w:World) (hn:0<n) (hs:w.heap[sp]? =some (.cells #[vs,vk,.slice va u cap] 165 (0,0))) (hu:cap<u+n) (huc:u<=cap) (nj:cap<=3000000000000) (XG:n<=1000000000000):Calls prog 224 #[.pointer (some ⟨sp,0,none⟩),.int .i64 n] w λe w'=>e=.returned (.slice (some ⟨w.heap.size,0,none⟩) n n)/\w'.heap=((((w.setCell ⟨sp,2,none⟩ (.slice (some ⟨w.heap.size,0,none⟩) 0 (chunk cap n))).setCell ⟨sp,2,none⟩ (.slice (some ⟨w.heap.size,0,none⟩) n (chunk cap n))).alloc (.cells (madeCells #[.int .i64 0] (chunk cap n)) 3)).setCells w.heap.size 0 (List.replicate n (.int .i64 0))).heap/\w'.os=w.os/\w'.tape=w.tape/\w'.output=w.output:=by
 obtain⟨i0,hi,gD,gB,gF⟩:=info_parts info3;have eR:sp<w.heap.size:=(bc.1 hs).1;have c2:w.cell? ⟨sp,2,none⟩=some (.slice va u cap):=by simp[World.cell?,hs]
 have c2b:∀o,(w.alloc o).cell? ⟨sp,2,none⟩=some (.slice va u cap):=λo=>dJ c2 o;have f2:w.frozen? ⟨sp,2,none⟩=false:=by simp[World.frozen?,hs]
 have f2b:∀o,(w.alloc o).frozen? ⟨sp,2,none⟩=false:=λo=>by
  have:(w.alloc o).heap[sp]? =some (.cells #[vs,vk,.slice va u cap] 165 (0,0)):=by rw[heap_alloc_old _ _ eR];exact hs
  simp[World.frozen?,this]
 have kY:=gW ((cap:Int)-u) (by omega);have mN:=gW (2*(cap:Int)) (by omega);have nZ:IntKind.i64.wrap (0+(n:Int))=(n:Int):=by rw[aW];omega
 have VF:=gW (n:Int) (by omega);have ht:decide ((cap:Int)-u<(n:Int))=true:=by simp;omega
 have Ht:n<=chunk cap n:=by unfold chunk;omega
 have hcc2:chunk cap n<=6000000000000:=by unfold chunk;omega
 have ka:∀ty (wx:World),wx.heap=(((w.setCell ⟨sp,2,none⟩ (.slice (some ⟨w.heap.size,0,none⟩) 0 (chunk cap n))).setCell ⟨sp,2,none⟩ (.slice (some ⟨w.heap.size,0,none⟩) n (chunk cap n))).alloc (.cells (madeCells #[.int .i64 0] (chunk cap n)) 3)).heap->(Builtin.clear_ #[145] ty #[.slice (some ⟨w.heap.size,0,none⟩) n n]).run prog wx=.ok (.tuple #[]) (wx.setCells w.heap.size 0 (List.replicate n (.int .i64 0))):=by
  intro ty wx hx;have XU:wx.heap[w.heap.size]? =some (.cells (madeCells #[.int .i64 0] (chunk cap n)) 3 (0,0)):=by
   rw[hx];have:=heap_alloc_new ((w.setCell ⟨sp,2,none⟩ (.slice (some ⟨w.heap.size,0,none⟩) 0 (chunk cap n))).setCell ⟨sp,2,none⟩ (.slice (some ⟨w.heap.size,0,none⟩) n (chunk cap n))) (.cells (madeCells #[.int .i64 0] (chunk cap n)) 3)
   rwa [aK,aK]at this
  refine Lib.run_clear_slice wx 145 3 ty (.int .i64 0) underlying145 WK rfl rfl w.heap.size 0 n n hn ?_ ?_
  ·intro j hj;simp[World.cell?,XU,madeCells];omega
  ·intro j hj;simp[World.frozen?,XU]
 have vE:=aa ka;clear ka;obtain⟨X1,ZX⟩:∃X1:Int,(if 2*(cap:Int)<(n:Int)then(n:Int)else 2*(cap:Int))=X1:=⟨_,rfl⟩;obtain⟨X,hX⟩:∃X:Int,(if X1<32 then(32:Int)else X1)=X:=⟨_,rfl⟩;have hXc:X=(chunk cap n:Nat):=by unfold chunk;split at ZX<;>split at hX<;>omega
 have ZA:∀wx:World,(Instr.makeSlice 145 (.int .i64 0) (.int .i64 X)).run prog wx=.ok (.slice (some ⟨wx.heap.size,0,none⟩) 0 (chunk cap n)) (wx.alloc (.cells (madeCells #[.int .i64 0] (chunk cap n)) 3)):=by intro wx;have:=run_make (P:=prog) wx 145 3 i0 (.int .i64 0) underlying145 hi gD .i64 .i64 0 (chunk cap n:Nat) (by omega) (by omega) (by rw[gF];omega) (by omega);rw[hXc];simpa[gB,Value.cells]using this
 clear hXc;go_enter func224,ntmps224;go_wp2_with fail;refine ev (λw'=>w'.cell? ⟨sp,2,none⟩=some (.slice va u cap)) [0,1,2,3,4,5,6,7,8,9,10,11] [] (by kernel_rfl) (by kernel_rfl) c2 (λhHeld=> ?_);iterate 12
  refine fc (v:= ?_) rfl (λ_ _ _ h=>h) (by rfl) ?_ hHeld ?_;rotate_left
  ·intro w hSw;(try dsimp only at hSw);go_simp
   try with_reducible rfl
  simp only[Act.put,iX]
 refine fe ?_;refine ff rfl ?_;go_wp2_with fail;have c3:((w.setCell ⟨sp,2,none⟩ (.slice (some ⟨w.heap.size,0,none⟩) 0 (chunk cap n))).alloc (.cells (madeCells #[.int .i64 0] (chunk cap n)) 3)).cell? ⟨sp,2,none⟩=some (.slice (some ⟨w.heap.size,0,none⟩) 0 (chunk cap n)):=dJ (World.cell?_setCell_same' w ⟨sp,2,none⟩ _ (by rw[c2];rfl)) _;have i3:((n:Int))<=(chunk cap n:Int):=by omega
 have i2:max (n:Int) 0=(n:Int):=by omega
 have i5:n≠0:=by omega
 refine ev (λw'=>w'.cell? ⟨sp,2,none⟩=some (.slice (some ⟨w.heap.size,0,none⟩) 0 (chunk cap n))) [0,1,2,3,4,5,6,7,8,9,10,11,12,13,14,15,16,17,18,19,20,21,22,23] [] (by kernel_rfl) (by kernel_rfl) c3 (λhHeld=> ?_);iterate 24
  refine fc (v:= ?_) rfl (λ_ _ _ h=>h) (by rfl) ?_ hHeld ?_;rotate_left
  ·intro w hSw;(try dsimp only at hSw);go_simp
   try with_reducible rfl
  simp only[Act.put,iX]
 refine fe ?_;refine ff rfl ?_;go_wp2_with fail;refine ev (λw'=>w'.cell? ⟨sp,2,none⟩=some (.slice (some ⟨w.heap.size,0,none⟩) 0 (chunk cap n))) [0,1,2,3,4,5,6,7,8,9,10,11,12] [13,14] (by kernel_rfl) (by kernel_rfl) c3 (λhHeld=> ?_);iterate 13
  refine fc (v:= ?_) rfl (λ_ _ _ h=>h) (by rfl) ?_ hHeld ?_;rotate_left
  ·intro w hSw;(try dsimp only at hSw);go_simp
   try with_reducible rfl
  simp only[Act.put,iX]
 refine fe ?_;refine ep rfl (λK hK=> ?_);go_simp;refine hK.out _ _ hHeld (λdW=> ?_);clear hK K;refine ep rfl (λK hK=> ?_);go_simp;refine hK.out _ _ hHeld (λdW=> ?_);clear hK K;refine ff rfl ?_;have ka:=vE.out 0 ((((w.setCell ⟨sp,2,none⟩ (.slice (some ⟨w.heap.size,0,none⟩) 0 (chunk cap n))).setCell ⟨sp,2,none⟩ (.slice (some ⟨w.heap.size,0,none⟩) n (chunk cap n))).alloc (.cells (madeCells #[.int .i64 0] (chunk cap n)) 3)).drew.drew.drew) rfl;go_wp2_with (simp only[ka]);go_ret;obtain⟨r1,r2,r3⟩:=mq w.heap.size (List.replicate n (.int .i64 0)) 0 ((((w.setCell ⟨sp,2,none⟩ (.slice (some ⟨w.heap.size,0,none⟩) 0 (chunk cap n))).setCell ⟨sp,2,none⟩ (.slice (some ⟨w.heap.size,0,none⟩) n (chunk cap n))).alloc (.cells (madeCells #[.int .i64 0] (chunk cap n)) 3)).drew.drew.drew);exact⟨rfl,mr _ _ _ _ _ rfl,r1,r2,r3⟩
structure Bz (w w':World) (sp:Nat) (S:SV) (b o cap:Nat) (p:List Nat):Prop where
 os:w'.os=w.os
 tape:w'.tape=w.tape
 output:w'.output=w.output
 size:w.heap.size<=w'.heap.size
 other:∀c,c<w.heap.size->c≠sp->c≠b->w'.heap[c]? =w.heap[c]?
 YE:w'.heap[sp]? =some (.cells #[S.vs,S.vk,.slice (some ⟨b,0,none⟩) (o+p.length) cap] 165 (0,0))
 gu:∃cs,w'.heap[b]? =some (.cells cs 3 (0,0))/\cs.size=cap/\∀j (h:j<p.length),cs[o+j]? =some (.int .i64 (p[j]:Nat))
 own:(S.va.ownBlock=some b/\o=BT S.va/\∀i,i<o->w'.cell? ⟨b,i,none⟩=w.cell? ⟨b,i,none⟩)\/(w.heap.size<=b/\o=0)
 fit:o+p.length<=cap
 ne:b≠sp
theorem eN (b:Nat):∀(l:List Value) (o:Nat) (w:World) (c:Nat),c≠b->(w.setCells b o l).heap[c]? =w.heap[c]?
 | [],_,_,_,_=>rfl
 |_::l,o,_,c,h=>(eN b l (o+1) _ c h).trans (aq _ _ _ _ h)
theorem mo (b:Nat):∀(l:List Value) (o:Nat) (w:World),(w.setCells b o l).heap.size=w.heap.size
 | [],_,_=>rfl
 |v::l,o,w=>by rw[World.setCells,mo b l,aK]
theorem nR (b:Nat) (t:TypeId):∀(l:List Value) (o:Nat) (w:World) (cs:Array Value),w.heap[b]? =some (.cells cs t (0,0))->o+l.length<=cs.size->∃tN,(w.setCells b o l).heap[b]? =some (.cells tN t (0,0))/\tN.size=cs.size/\(∀i,i<o\/o+l.length<=i->tN[i]? =cs[i]?)/\∀j,j<l.length->tN[o+j]? =l[j]?
 | [],o,w,cs,h,_=>⟨cs,h,rfl,λ_ _=>rfl,λj hj=>by simp at hj⟩
 |v::l,o,w,cs,h,hl=>by
  simp only[aH]at hl;obtain⟨tN,h1,h2,h3,h4⟩:=nR b t l (o+1) (w.setCell ⟨b,o,none⟩ v) (cs.setIfInBounds o v) (dG h v) (by simp;omega);refine⟨tN,h1,by simpa using h2,λi hi=> ?_,λj hj=> ?_⟩
  ·simp only[aH]at hi;rw[h3 i (by omega),Array.getElem?_setIfInBounds_ne (by omega)]
  ·cases j with
   |zero=>rw[bL,h3 o (by omega)];simp[cn];omega
   |succ j=>have:=h4 j (by simpa using hj);rw[show o+(j+1)=o+1+j from by omega,this,bH]
section
variable {w w':World} {B sp tot:Nat} {S:SV} {txt:List dE} {st:St} {b o cap:Nat} {p:List Nat}
theorem f224 (n:Nat) (hs:eY w B sp S txt tot st) (hn:0<n) (ht:tot+n<=1000000000000):Calls prog 224 #[.pointer (some ⟨sp,0,none⟩),.int .i64 n] w λe w'=>∃b o cap,e=.returned (.slice (some ⟨b,o,none⟩) n n)/\Bz w w' sp S b o cap (List.replicate n 0)/\o<=tot/\cap<=2*(tot+n)+32:=by
 have hb:=hs.gu;have eR:=hs.lt.1;have h1:=hs.narena;have h2:=hs.ncap;obtain⟨vs,vk,va⟩:=S;simp only at hb h1 h2;have fresh:∀(a:Option Addr) (u cap:Nat),va=.slice a u cap->cap<u+n->u<=cap->Calls prog 224 #[.pointer (some ⟨sp,0,none⟩),.int .i64 n] w λe w'=>∃b o cap,e=.returned (.slice (some ⟨b,o,none⟩) n n)/\Bz w w' sp ⟨vs,vk,va⟩ b o cap (List.replicate n 0)/\o<=tot/\cap<=2*(tot+n)+32:=by
  rintro a u cap rfl hu huc;simp only[BT,Wh]at h1 h2;refine(f224b sp u cap n a vs vk w hn hb hu huc (by omega) (by omega)).mono ?_;rintro e w1 ⟨rfl,hh,g1,g2,g3⟩;refine⟨w.heap.size,0,chunk cap n,rfl,?_,by omega,by unfold chunk;omega⟩;have gJ:((w.setCell ⟨sp,2,none⟩ (.slice (some ⟨w.heap.size,0,none⟩) 0 (chunk cap n))).setCell ⟨sp,2,none⟩ (.slice (some ⟨w.heap.size,0,none⟩) n (chunk cap n))).heap.size=w.heap.size:=by rw[aK,aK]
  refine⟨g1,g2,g3,?_,?_,?_,?_,.inr ⟨af _,rfl⟩,by simp;unfold chunk;omega,by omega⟩
  ·rw[hh,mo,ab,gJ];omega
  ·intro c hc j7 kb;rw[hh,eN _ _ _ _ _ kb,heap_alloc_old _ _ (by rw[gJ];exact hc),aq _ _ _ _ j7,aq _ _ _ _ j7]
  ·rw[hh,eN _ _ _ _ _ (by omega),heap_alloc_old _ _ (by rw[gJ];exact eR)];have:=dG (i:=2) (dG (i:=2) hb (.slice (some ⟨w.heap.size,0,none⟩) 0 (chunk cap n))) (.slice (some ⟨w.heap.size,0,none⟩) n (chunk cap n));simpa using this
  ·have pG:=heap_alloc_new ((w.setCell ⟨sp,2,none⟩ (.slice (some ⟨w.heap.size,0,none⟩) 0 (chunk cap n))).setCell ⟨sp,2,none⟩ (.slice (some ⟨w.heap.size,0,none⟩) n (chunk cap n))) (.cells (madeCells #[.int .i64 0] (chunk cap n)) 3);rw[gJ]at pG;obtain⟨tN,k1,k2,_,k4⟩:=nR w.heap.size 3 (List.replicate n (.int .i64 0)) 0 _ _ pG (by rw[size_madeCells];simp;unfold chunk;omega);refine⟨tN,by rw[hh];exact k1,by rw[k2,size_madeCells],λj hj=> ?_⟩;have Kb:j<n:=(by simpa using hj);rw[k4 j (by simpa using Kb)];simp[Kb]
 rcases hs.arena with rfl|⟨b,u,cap,cs,rfl,ha1,ha2,ha3,ha4⟩
 ·exact fresh none 0 0 rfl (by omega) (by omega)
 ·by_cases oS:u+n<=cap
  ·simp only[BT,Wh]at h1 h2;have eK:b≠sp:=hs.apart.a b rfl;refine(f224a sp b u cap n vs vk cs w hn hb ha2 eK ha3 oS (by omega)).mono ?_;rintro e w1 ⟨rfl,hh,g1,g2,g3⟩;refine⟨b,u,cap,rfl,?_,by omega,by omega⟩;have eT:(w.setCell ⟨sp,2,none⟩ (.slice (some ⟨b,0,none⟩) (u+n) cap)).heap[b]? =some (.cells cs 3 (0,0)):=by rw[aq _ _ _ _ eK];exact ha2
   obtain⟨tN,k1,k2,k3,k4⟩:=nR b 3 (List.replicate n (.int .i64 0)) u _ _ eT (by simp;omega);refine⟨g1,g2,g3,?_,?_,?_,?_,.inl ⟨rfl,rfl,λi hi=> ?_⟩,by simpa using oS,eK⟩
   ·rw[hh,mo,aK];exact af _
   ·intro c hc j7 kb;rw[hh,eN _ _ _ _ _ kb,aq _ _ _ _ j7]
   ·rw[hh,eN _ _ _ _ _ (cE eK)];have:=dG (i:=2) hb (.slice (some ⟨b,0,none⟩) (u+n) cap);simpa using this
   ·refine⟨tN,by rw[hh];exact k1,by rw[k2,ha3],λj hj=> ?_⟩;have Kb:j<n:=by simpa using hj
    rw[k4 j (by simpa using Kb)];simp[Kb]
   ·have e1:w1.heap[b]? =some (.cells tN 3 (0,0)):=(by rw[hh];exact k1);simp only[World.cell?,e1,ha2];simpa using k3 i (.inl hi)
  ·exact fresh _ u cap rfl (by omega) ha4
theorem Bz.set (h:Bz w w' sp S b o cap p) {j:Nat} (hj:j<p.length) (v:Nat):Bz w (w'.setCell ⟨b,o+j,none⟩ (.int .i64 v)) sp S b o cap (p.set j v):=by
 obtain⟨cs,k1,k2,k3⟩:=h.gu;refine⟨h.os,h.tape,h.output,by rw[aK];exact h.size,?_,?_,?_,?_,by simpa using h.fit,h.ne⟩
 ·intro c hc h1 h2;rw[aq _ _ _ _ h2];exact h.other c hc h1 h2
 ·rw[aq _ _ _ _ (cE h.ne),List.length_set];exact h.YE
 ·refine⟨_,dG k1 _,by simpa using k2,λi hi=> ?_⟩;have Sf:i<p.length:=by simpa using hi
  by_cases e:i=j
  ·subst e;have:=h.fit;simp[cn,k2];omega
  ·rw[Array.getElem?_setIfInBounds_ne (by omega),k3 i Sf];simp[cE e]
 ·rcases h.own with⟨h1,h2,h3⟩|h1
  ·refine .inl ⟨h1,h2,λi hi=> ?_⟩;exact(World.cell?_setCell_other w' ⟨b,o+j,none⟩ ⟨b,i,none⟩ _ (by simp)).trans (h3 i hi)
  ·exact .inr h1
theorem Bz.keep {UQ:World} (h:Bz w w' sp S b o cap p) (hb:Below w'.heap.size w' UQ):Bz w UQ sp S b o cap p:=by
 obtain⟨cs,k1,k2,k3⟩:=h.gu;have l1:b<w'.heap.size:=(bc.1 k1).1;have l2:sp<w'.heap.size:=(bc.1 h.YE).1;have gJ:=h.size;refine⟨hb.os.trans h.os,hb.tape.trans h.tape,hb.output.trans h.output,ao h.size hb.size,λc hc h1 h2=>(hb.block c (by omega)).trans (h.other c hc h1 h2),(hb.block sp l2).trans h.YE,⟨cs,(hb.block b l1).trans k1,k2,k3⟩,?_,h.fit,h.ne⟩;rcases h.own with⟨h1,h2,h3⟩|h1
 ·exact .inl ⟨h1,h2,λi hi=>(hb.cell (p:=⟨b,i,none⟩) l1).trans (h3 i hi)⟩
 ·exact .inr h1
theorem Bz.done (hs:eY w B sp S txt tot st) (h:Bz w w' sp S b o cap p) (hn:0<p.length) (hp:p.length<=maxLen) (ho:o<=tot) (hc:cap<=2*(tot+p.length)+32):eY w' B sp {S with va:=.slice (some ⟨b,0,none⟩) (o+p.length) cap} txt (tot+p.length) st/\Fr w w' sp S {S with va:=.slice (some ⟨b,0,none⟩) (o+p.length) cap}/\eF w' (.slice (some ⟨b,o,none⟩) p.length p.length) p/\PL sp {S with va:=.slice (some ⟨b,0,none⟩) (o+p.length) cap} (.slice (some ⟨b,o,none⟩) p.length p.length):=by
 obtain⟨l1,l2,l3,l4⟩:=hs.lt;obtain⟨cs,k1,k2,k3⟩:=h.gu;have Qi:S.vs.ownBlock≠some b/\S.vk.ownBlock≠some b/\B<=b:=by
  have hB:=hs.base;rcases h.own with⟨h1,_⟩|⟨h1,_⟩
  ·exact⟨λe=>(hs.apart.s b e).2.2 h1,λe=>(hs.apart.k b e).2 h1,(l4 b h1).2⟩
  ·exact⟨λe=>by have:=(l2 b e).1;omega,λe=>by have:=(l3 b e).1;omega,by omega⟩
 have vD:Fr w w' sp S {S with va:=.slice (some ⟨b,0,none⟩) (o+p.length) cap}:=by
  refine⟨h.os,h.tape,h.output,h.size,λc hc h1 h2 h3 h4=> ?_,λc i hc hi=> ?_,λc tN hc hk=> ?_,λ_ e=>.inl e,λ_ e=>.inl e,λc e=> ?_⟩
  ·by_cases e:c=b
   ·subst e;rcases h.own with⟨h5,_⟩|⟨h5,_⟩
    ·exact(h4 h5).elim
    ·omega
   ·exact h.other c hc h1 e
  ·rcases h.own with⟨h1,h2,h3⟩|⟨h1,_⟩
   ·rw[h1]at hc;simp only[ae]at hc;subst hc;exact h3 i (by omega)
   ·have:=(l4 c hc).1;exact aF (w:=w) (a:=⟨c,i,none⟩) (h.other c this (hs.apart.a c hc) (by omega))
  ·by_cases e:c=b
   ·subst e;exact⟨cs,k1⟩
   ·exact⟨tN,(h.other c (l4 c hc).1 (hs.apart.a c hc) e).trans hk⟩
  ·simp only[Value.ownBlock,ae]at e;subst e;rcases h.own with⟨h1,h2,_⟩|⟨h1,_⟩
   ·exact .inl ⟨h1,by show BT S.va<=o+p.length;omega⟩
   ·exact .inr h1
 refine⟨⟨h.YE,hs.base,?_,?_,.inr ⟨b,_,cap,cs,rfl,Qi.2.2,k1,k2,h.fit⟩,?_,by have:=hs.nY;omega,by have:=hs.nstack;omega,by show o+p.length<=_;omega,hc⟩,vD,?_,?_⟩
 ·exact hs.stars.keep vD λc hc=>h.other c (l2 c hc).1 (hs.apart.s c hc).1 λe=>Qi.1 (e▸hc)
 ·exact hs.stack.keep vD λc hc=>h.other c (l3 c hc).1 (hs.apart.k c hc).1 λe=>Qi.2.1 (e▸hc)
 ·refine⟨λc hc=>⟨(hs.apart.s c hc).1,(hs.apart.s c hc).2.1,λe=> ?_⟩,λc hc=>⟨(hs.apart.k c hc).1,λe=> ?_⟩,λc e=> ?_⟩
  ·simp only[Value.ownBlock,ae]at e;subst e;exact Qi.1 hc
  ·simp only[Value.ownBlock,ae]at e;subst e;exact Qi.2.1 hc
  ·simp only[Value.ownBlock,ae]at e;subst e;exact h.ne
 ·refine⟨some ⟨b,o,none⟩,p.length,rfl,af _,hp,λ_=>⟨b,o,rfl,λi hi=> ?_,cs,k1⟩⟩;simp only[World.cell?,k1];simpa using k3 i hi
 ·intro c o' n' oY e yA;simp only[au,ae,aY,and_true]at e;obtain⟨⟨rfl,rfl⟩,rfl,_⟩:=e;exact⟨h.ne,Qi.1,Qi.2.1,λ_=>af _⟩
end
end Go.Proofs.YtfejflhgaphilaaGreatDoor
