/- The closure that pushes items onto a row. -/
import Derived.Test.YtfejflhgaphilaaGreatDoorC24
import Derived.Test.YtfejflhgaphilaaGreatDoorC25
import Derived.Test.YtfejflhgaphilaaGreatDoorC04
import Derived.Deep.AppendLies
set_option linter.all false
set_option maxRecDepth 100000
set_option maxHeartbeats 64000000
open Go.Proofs.Tryz
namespace Go.Proofs.YtfejflhgaphilaaGreatDoor
open Go.RowKit Gm
variable {w:World} {B Sb C g cap:Nat} {vq:Value} {us:List Value} {G:List Nat} {out init:List T} {x:T}
def clo (C Sb:Nat):Value:=.func (.func 184) #[] #[.pointer (some ⟨C,0,none⟩),.pointer (some ⟨Sb,0,none⟩)]
structure iv (w:World) (B Sb C:Nat) (vq:Value) (out:List T) (us:List Value) (G:List Nat):Prop where
 sb:w.heap[Sb]? =some (.cells #[vq] 236 (0,0))
 cb:w.heap[C]? =some (.cells #[clo C Sb] 393 (0,0))
 own:w.ownsRow B 153 1 vq us.length us
 tr:eW w B out us G
 apart:vq.ownBlock≠some Sb/\vq.ownBlock≠some C/\Sb≠C
 off:Sb∉G/\C∉G/\∀g,vq.ownBlock=some g->g∉G
 nodup:G.Nodup
 lt:Sb<w.heap.size/\C<w.heap.size/\(∀g,vq.ownBlock=some g->g<w.heap.size)/\∀x∈G,x<w.heap.size
 ge:B<=Sb/\B<=C/\∀x∈G,B<=x
structure MM (w w':World) (Sb:Nat) (vq fb:Value) (G F G':List Nat):Prop where
 fo:ei (λb=>b=Sb\/vq.ownBlock=some b) w w'
 mem:∀x∈G',x∈G\/x∈F\/w.heap.size<=x
 row:∀g,fb.ownBlock=some g->vq.ownBlock=some g\/w.heap.size<=g
structure Fit (w:World) (B Sb C:Nat) (vq:Value) (G:List Nat) (t:T) (v:Value) (F:List Nat):Prop where
 tr:Tr w B t v F
 nodup:(F++G).Nodup
 off:Sb∉F/\C∉F/\∀g,vq.ownBlock=some g->g∉F
 lt:∀x∈F,x<w.heap.size
 ge:∀x∈F,B<=x
def ke (t:T):Prop:=∀(w:World) (B Sb C:Nat) (vq:Value) (out:List T) (us:List Value) (G:List Nat) (v:Value) (F:List Nat),iv w B Sb C vq out us G->Fit w B Sb C vq G t v F->us.length+iJ t<=1000000000->eD out+ix t<=4000000000000000000->Calls prog 184 #[v,.pointer (some ⟨C,0,none⟩),.pointer (some ⟨Sb,0,none⟩)] w λe w'=>e=.returned (.tuple #[])/\∃fb fV G',iv w' B Sb C fb (push t out) fV G'/\MM w w' Sb vq fb G F G'/\fV.length<=us.length+iJ t
theorem iv.grow {wa w1:World} {t:T} {v:Value} {F:List Nat} {H:Nat} (h:iv w B Sb C vq out us G) (hf:Fit w B Sb C vq G t v F) (hW:Below w.heap.size w wa) (hH:w.heap.size<=H) (ho:w1.ownsRow B 153 1 (.slice (some ⟨g,0,none⟩) (us.length+1) cap) (us.length+1) (us++[v])) (hg:wa.grownBy w1 vq.ownBlock) (xX:vq.ownBlock=some g\/g=H) (hl:g<w1.heap.size):w1.heap[Sb]? =some (.cells #[vq] 236 (0,0))/\iv (w1.setCell ⟨Sb,0,none⟩ (.slice (some ⟨g,0,none⟩) (us.length+1) cap)) B Sb C (.slice (some ⟨g,0,none⟩) (us.length+1) cap) (out++[t]) (us++[v]) (G++F)/\MM w (w1.setCell ⟨Sb,0,none⟩ (.slice (some ⟨g,0,none⟩) (us.length+1) cap)) Sb vq (.slice (some ⟨g,0,none⟩) (us.length+1) cap) G F (G++F):=by
 obtain⟨a1,a2,a3⟩:=h.apart;obtain⟨o1,o2,o3⟩:=h.off;obtain⟨l1,l2,l3,l4⟩:=h.lt;obtain⟨f1,f2,f3⟩:=hf.off;have gJ:w.heap.size<=w1.heap.size:=ao hW.size hg.size;have fH:∀b,b<w.heap.size->vq.ownBlock≠some b->w1.heap[b]? =w.heap[b]? :=λb hb hn=>(hg.block b (ai hb hW.size) (λe=>hn e.symm)).trans (hW.block b hb);have Mi:w1.heap[Sb]? =some (.cells #[vq] 236 (0,0)):=(fH Sb l1 a1).trans h.sb;have XL:g≠Sb:=by
  rcases xX with e|e
  ·exactλe2=>a1 (by rw[e,e2])
  ·omega
 have ZL:g≠C:=by
  rcases xX with e|e
  ·exactλe2=>a2 (by rw[e,e2])
  ·omega
 have ni:∀b,b≠Sb->(w1.setCell ⟨Sb,0,none⟩ (.slice (some ⟨g,0,none⟩) (us.length+1) cap)).heap[b]? =w1.heap[b]? :=λb hb=>aq _ _ _ _ hb;have gY:∀b,b<w.heap.size->vq.ownBlock≠some b->b≠Sb->(w1.setCell ⟨Sb,0,none⟩ (.slice (some ⟨g,0,none⟩) (us.length+1) cap)).heap[b]? =w.heap[b]? :=λb hb hn hs=>(ni b hs).trans (fH b hb hn);have hownB:∀b,b<B->vq.ownBlock≠some b:=by
  intro b hb e;rcases h.own.2 with⟨e1,_⟩|⟨g',oY,cur,e1,Qj,_⟩
  ·rw[e1]at e;simp[Value.ownBlock]at e
  ·rw[e1]at e;simp[Value.ownBlock]at e;omega
 have hBS:B<=w.heap.size:=by have:=h.ge.1;omega
 have gE:∀b,b<B->(w1.setCell ⟨Sb,0,none⟩ (.slice (some ⟨g,0,none⟩) (us.length+1) cap)).heap[b]? =w.heap[b]? :=λb hb=>gY b (by omega) (hownB b hb) (by have:=h.ge.1;omega);refine⟨Mi,⟨dG Mi _,(gY C l2 a2 (λe=>a3 e.symm)).trans h.cb,?_,?_,?_,?_,?_,?_,?_⟩,?_,?_,?_⟩
 ·rw[aj];refine dI ho λg' zk=> ?_;have e:g'=g:=by simp only[Value.ownBlock,ae]at zk;exact zk.symm
  exact ni g' (by rw[e];exact XL)
 ·refine eW.append out [t] us [v] G F (eW.keep gE out us G h.tr λb hb=> ?_) (eW.one.2 ⟨v,rfl,Tr.keep gE t v F hf.tr λb hb=> ?_⟩)
  ·exact gY b (l4 b hb) (λe=>o3 b e hb) (λe=>o1 (e▸hb))
  ·exact gY b (hf.lt b hb) (λe=>f3 b e hb) (λe=>f1 (e▸hb))
 ·simp only[Value.ownBlock,ne_eq,ae];exact⟨XL,ZL,a3⟩
 ·refine⟨λhm=> ?_,λhm=> ?_,λg' zk hm=> ?_⟩
  ·rcases ar.1 hm with hm|hm
   ·exact o1 hm
   ·exact f1 hm
  ·rcases ar.1 hm with hm|hm
   ·exact o2 hm
   ·exact f2 hm
  ·simp only[Value.ownBlock,ae]at zk;subst zk;rcases xX with e|e
   ·rcases ar.1 hm with hm|hm
    ·exact o3 _ e hm
    ·exact f3 _ e hm
   ·rcases ar.1 hm with hm|hm
    ·have:=l4 _ hm;omega
    ·have:=hf.lt _ hm;omega
 ·have:=hf.nodup;rw[aZ]at this⊢;exact⟨this.2.1,this.1,λx hx y hy e=>this.2.2 y hy x hx e.symm⟩
 ·rw[aK];refine⟨by omega,by omega,λg' zk=> ?_,λx hx=> ?_⟩
  ·simp only[Value.ownBlock,ae]at zk;subst zk;exact hl
  ·rcases ar.1 hx with hx|hx
   ·have:=l4 x hx;omega
   ·have:=hf.lt x hx;omega
 ·refine⟨h.ge.1,h.ge.2.1,λx hx=> ?_⟩;rcases ar.1 hx with hx|hx
  ·exact h.ge.2.2 x hx
  ·exact hf.ge x hx
 ·refine⟨hg.os.trans hW.os,hg.tape.trans hW.tape,hg.output.trans hW.output,by rw[aK];exact gJ,λb hb hn=> ?_⟩;exact gY b hb (λe=>hn (.inr e)) (λe=>hn (.inl e))
 ·intro x hx;rcases ar.1 hx with hx|hx
  ·exact .inl hx
  ·exact .inr (.inl hx)
 ·intro g' zk;simp only[Value.ownBlock,ae]at zk;subst zk;rcases xX with e|e
  ·exact .inl e
  ·right;omega
theorem iv.cells (h:iv w B Sb C vq out us G):w.cell? ⟨Sb,0,none⟩=some vq/\w.cell? ⟨C,0,none⟩=some (clo C Sb):=by simp[World.cell?,h.sb,h.cb]
theorem O8 (sep:List dE):ke (.char sep):=by
 intro w B Sb C vq out us G v F ho hf hlen fY;have e:push (.char sep) out=out++[.char sep]:=by simp[push]
 rw[e];clear e;have h:=hf.tr;simp only[Tr]at h;obtain⟨b,vs,rfl,dU⟩:=h;clear dU;have eH:=kP (.pointer (some ⟨b,0,none⟩));have tg:=C0 (.pointer (some ⟨b,0,none⟩));have gw:=kQ (.pointer (some ⟨b,0,none⟩));have jI:=l8 (.pointer (some ⟨b,0,none⟩));obtain⟨i0,hi,gD,gB,gF⟩:=info_parts fG;have kh:=aa ho;have yR:=aa hf;have fP:=aa hlen;have lJ:=ho.cells.1;obtain⟨vv,pE⟩:=dS (Value.iface 247 (.pointer (some ⟨b,0,none⟩)));have HV:=aa pE;clear ho hf hlen fY pE;go_enter func184,ntmps184;go_wp2_with (at_builtin;refine wpList_append_lies _ rfl _ _ 236 rfl B 153 i0 .nilIface 1 16 underlying236 hi gD gB gF rfl (by decide) vq us.length us rfl ?lG ⟨w.heap.size,0,none⟩ 1 1 [.iface 247 (.pointer (some ⟨b,0,none⟩))] rfl rfl ?lF ?lE (by decide) ?lD ?lC ?lB (w.heap.size+1) ?my ?_)
 case lG=>exact kh.own.alloc _
 case lF=>exact World.news_of_block (heap_alloc_new w _)
 case lE=>intro u hu;simp only[aE]at hu;subst hu;rfl
 case lD=>have:=fP.out;unfold maxLen;omega
 case lC=>have:=fP.out;omega
 case lB=>have:=kh.ge.1;have:=kh.lt.1;simp;omega
 case my=>simp
 intro g cap w1 ly gT gK jg;obtain⟨z1,z2,z3⟩:=kh.grow yR.out (wa:=w.alloc (.cells #[.iface 247 (.pointer (some ⟨b,0,none⟩))] 153)) (H:=w.heap.size+1) (by go_grown) (by omega) ly gT gK jg;have s1:w1.cell? ⟨Sb,0,none⟩=some vq:=by simp[World.cell?,z1]
 have s2:w1.frozen? ⟨Sb,0,none⟩=false:=by simp[World.frozen?,z1]
 have HZ:=eo z2 z3;clear ly gT gK jg z1 z2 z3;go_wp2_with fail;go_end0;exact⟨rfl,_,_,_,HZ.1,HZ.2,by simp only[aj,aH,aG,iJ];omega⟩
theorem Kv (lo hi:Int) (neg:Bool):ke (.range lo hi neg):=by
 intro w B Sb C vq out us G v F ho hf hlen fY;have e:push (.range lo hi neg) out=out++[.range lo hi neg]:=by simp[push]
 rw[e];clear e;have h:=hf.tr;simp only[Tr]at h;obtain⟨b,rfl,dU⟩:=h;clear dU;have eH:=kL (.pointer (some ⟨b,0,none⟩));have tg:=CM (.pointer (some ⟨b,0,none⟩));have gw:=kM (.pointer (some ⟨b,0,none⟩));have jI:=lZ (.pointer (some ⟨b,0,none⟩));obtain⟨i0,hi,gD,gB,gF⟩:=info_parts fG;have kh:=aa ho;have yR:=aa hf;have fP:=aa hlen;have lJ:=ho.cells.1;obtain⟨vv,pE⟩:=dS (Value.iface 331 (.pointer (some ⟨b,0,none⟩)));have HV:=aa pE;clear ho hf hlen fY pE;go_enter func184,ntmps184;go_wp2_with (at_builtin;refine wpList_append_lies _ rfl _ _ 236 rfl B 153 i0 .nilIface 1 16 underlying236 hi gD gB gF rfl (by decide) vq us.length us rfl ?lG ⟨w.heap.size,0,none⟩ 1 1 [.iface 331 (.pointer (some ⟨b,0,none⟩))] rfl rfl ?lF ?lE (by decide) ?lD ?lC ?lB (w.heap.size+1) ?my ?_)
 case lG=>exact kh.own.alloc _
 case lF=>exact World.news_of_block (heap_alloc_new w _)
 case lE=>intro u hu;simp only[aE]at hu;subst hu;rfl
 case lD=>have:=fP.out;unfold maxLen;omega
 case lC=>have:=fP.out;omega
 case lB=>have:=kh.ge.1;have:=kh.lt.1;simp;omega
 case my=>simp
 intro g cap w1 ly gT gK jg;obtain⟨z1,z2,z3⟩:=kh.grow yR.out (wa:=w.alloc (.cells #[.iface 331 (.pointer (some ⟨b,0,none⟩))] 153)) (H:=w.heap.size+1) (by go_grown) (by omega) ly gT gK jg;have s1:w1.cell? ⟨Sb,0,none⟩=some vq:=by simp[World.cell?,z1]
 have s2:w1.frozen? ⟨Sb,0,none⟩=false:=by simp[World.frozen?,z1]
 have HZ:=eo z2 z3;clear ly gT gK jg z1 z2 z3;go_wp2_with fail;go_end0;exact⟨rfl,_,_,_,HZ.1,HZ.2,by simp only[aj,aH,aG,iJ];omega⟩
theorem SZ (cs:List dE) (neg:Bool):ke (.set cs neg):=by
 intro w B Sb C vq out us G v F ho hf hlen fY;have e:push (.set cs neg) out=out++[.set cs neg]:=by simp[push]
 rw[e];clear e;have h:=hf.tr;simp only[Tr]at h;obtain⟨b,mb,rfl,dU⟩:=h;clear dU;have eH:=kJ (.pointer (some ⟨b,0,none⟩));have tg:=CI (.pointer (some ⟨b,0,none⟩));have gw:=kK (.pointer (some ⟨b,0,none⟩));have jI:=lY (.pointer (some ⟨b,0,none⟩));obtain⟨i0,hi,gD,gB,gF⟩:=info_parts fG;have kh:=aa ho;have yR:=aa hf;have fP:=aa hlen;have lJ:=ho.cells.1;obtain⟨vv,pE⟩:=dS (Value.iface 334 (.pointer (some ⟨b,0,none⟩)));have HV:=aa pE;clear ho hf hlen fY pE;go_enter func184,ntmps184;go_wp2_with (at_builtin;refine wpList_append_lies _ rfl _ _ 236 rfl B 153 i0 .nilIface 1 16 underlying236 hi gD gB gF rfl (by decide) vq us.length us rfl ?lG ⟨w.heap.size,0,none⟩ 1 1 [.iface 334 (.pointer (some ⟨b,0,none⟩))] rfl rfl ?lF ?lE (by decide) ?lD ?lC ?lB (w.heap.size+1) ?my ?_)
 case lG=>exact kh.own.alloc _
 case lF=>exact World.news_of_block (heap_alloc_new w _)
 case lE=>intro u hu;simp only[aE]at hu;subst hu;rfl
 case lD=>have:=fP.out;unfold maxLen;omega
 case lC=>have:=fP.out;omega
 case lB=>have:=kh.ge.1;have:=kh.lt.1;simp;omega
 case my=>simp
 intro g cap w1 ly gT gK jg;obtain⟨z1,z2,z3⟩:=kh.grow yR.out (wa:=w.alloc (.cells #[.iface 334 (.pointer (some ⟨b,0,none⟩))] 153)) (H:=w.heap.size+1) (by go_grown) (by omega) ly gT gK jg;have s1:w1.cell? ⟨Sb,0,none⟩=some vq:=by simp[World.cell?,z1]
 have s2:w1.frozen? ⟨Sb,0,none⟩=false:=by simp[World.frozen?,z1]
 have HZ:=eo z2 z3;clear ly gT gK jg z1 z2 z3;go_wp2_with fail;go_end0;exact⟨rfl,_,_,_,HZ.1,HZ.2,by simp only[aj,aH,aG,iJ];omega⟩
theorem S0 (t sep:List dE):ke (.pre t sep):=by
 intro w B Sb C vq out us G v F ho hf hlen fY;have e:push (.pre t sep) out=out++[.pre t sep]:=by simp[push]
 rw[e];clear e;have h:=hf.tr;simp only[Tr]at h;obtain⟨b,rfl,dU⟩:=h;clear dU;have eH:=kG (.pointer (some ⟨b,0,none⟩));have tg:=CB (.pointer (some ⟨b,0,none⟩));have gw:=kH (.pointer (some ⟨b,0,none⟩));have jI:=lW (.pointer (some ⟨b,0,none⟩));obtain⟨i0,hi,gD,gB,gF⟩:=info_parts fG;have kh:=aa ho;have yR:=aa hf;have fP:=aa hlen;have lJ:=ho.cells.1;obtain⟨vv,pE⟩:=dS (Value.iface 344 (.pointer (some ⟨b,0,none⟩)));have HV:=aa pE;clear ho hf hlen fY pE;go_enter func184,ntmps184;go_wp2_with (at_builtin;refine wpList_append_lies _ rfl _ _ 236 rfl B 153 i0 .nilIface 1 16 underlying236 hi gD gB gF rfl (by decide) vq us.length us rfl ?lG ⟨w.heap.size,0,none⟩ 1 1 [.iface 344 (.pointer (some ⟨b,0,none⟩))] rfl rfl ?lF ?lE (by decide) ?lD ?lC ?lB (w.heap.size+1) ?my ?_)
 case lG=>exact kh.own.alloc _
 case lF=>exact World.news_of_block (heap_alloc_new w _)
 case lE=>intro u hu;simp only[aE]at hu;subst hu;rfl
 case lD=>have:=fP.out;unfold maxLen;omega
 case lC=>have:=fP.out;omega
 case lB=>have:=kh.ge.1;have:=kh.lt.1;simp;omega
 case my=>simp
 intro g cap w1 ly gT gK jg;obtain⟨z1,z2,z3⟩:=kh.grow yR.out (wa:=w.alloc (.cells #[.iface 344 (.pointer (some ⟨b,0,none⟩))] 153)) (H:=w.heap.size+1) (by go_grown) (by omega) ly gT gK jg;have s1:w1.cell? ⟨Sb,0,none⟩=some vq:=by simp[World.cell?,z1]
 have s2:w1.frozen? ⟨Sb,0,none⟩=false:=by simp[World.frozen?,z1]
 have HZ:=eo z2 z3;clear ly gT gK jg z1 z2 z3;go_wp2_with fail;go_end0;exact⟨rfl,_,_,_,HZ.1,HZ.2,by simp only[aj,aH,aG,iJ];omega⟩
theorem SY (t sep:List dE):ke (.eP t sep):=by
 intro w B Sb C vq out us G v F ho hf hlen fY;have e:push (.eP t sep) out=out++[.eP t sep]:=by simp[push]
 rw[e];clear e;have h:=hf.tr;simp only[Tr]at h;obtain⟨b,rfl,dU⟩:=h;clear dU;have eH:=lU (.pointer (some ⟨b,0,none⟩));have tg:=CA (.pointer (some ⟨b,0,none⟩));have gw:=kF (.pointer (some ⟨b,0,none⟩));have jI:=lV (.pointer (some ⟨b,0,none⟩));obtain⟨i0,hi,gD,gB,gF⟩:=info_parts fG;have kh:=aa ho;have yR:=aa hf;have fP:=aa hlen;have lJ:=ho.cells.1;obtain⟨vv,pE⟩:=dS (Value.iface 347 (.pointer (some ⟨b,0,none⟩)));have HV:=aa pE;clear ho hf hlen fY pE;go_enter func184,ntmps184;go_wp2_with (at_builtin;refine wpList_append_lies _ rfl _ _ 236 rfl B 153 i0 .nilIface 1 16 underlying236 hi gD gB gF rfl (by decide) vq us.length us rfl ?lG ⟨w.heap.size,0,none⟩ 1 1 [.iface 347 (.pointer (some ⟨b,0,none⟩))] rfl rfl ?lF ?lE (by decide) ?lD ?lC ?lB (w.heap.size+1) ?my ?_)
 case lG=>exact kh.own.alloc _
 case lF=>exact World.news_of_block (heap_alloc_new w _)
 case lE=>intro u hu;simp only[aE]at hu;subst hu;rfl
 case lD=>have:=fP.out;unfold maxLen;omega
 case lC=>have:=fP.out;omega
 case lB=>have:=kh.ge.1;have:=kh.lt.1;simp;omega
 case my=>simp
 intro g cap w1 ly gT gK jg;obtain⟨z1,z2,z3⟩:=kh.grow yR.out (wa:=w.alloc (.cells #[.iface 347 (.pointer (some ⟨b,0,none⟩))] 153)) (H:=w.heap.size+1) (by go_grown) (by omega) ly gT gK jg;have s1:w1.cell? ⟨Sb,0,none⟩=some vq:=by simp[World.cell?,z1]
 have s2:w1.frozen? ⟨Sb,0,none⟩=false:=by simp[World.frozen?,z1]
 have HZ:=eo z2 z3;clear ly gT gK jg z1 z2 z3;go_wp2_with fail;go_end0;exact⟨rfl,_,_,_,HZ.1,HZ.2,by simp only[aj,aH,aG,iJ];omega⟩
theorem Iv (p q sep:List dE):ke (.dN p q sep):=by
 intro w B Sb C vq out us G v F ho hf hlen fY;have e:push (.dN p q sep) out=out++[.dN p q sep]:=by simp[push]
 rw[e];clear e;have h:=hf.tr;simp only[Tr]at h;obtain⟨b,rfl,dU⟩:=h;clear dU;have eH:=lR (.pointer (some ⟨b,0,none⟩));have tg:=Cz (.pointer (some ⟨b,0,none⟩));have gw:=kE (.pointer (some ⟨b,0,none⟩));have jI:=lS (.pointer (some ⟨b,0,none⟩));obtain⟨i0,hi,gD,gB,gF⟩:=info_parts fG;have kh:=aa ho;have yR:=aa hf;have fP:=aa hlen;have lJ:=ho.cells.1;obtain⟨vv,pE⟩:=dS (Value.iface 349 (.pointer (some ⟨b,0,none⟩)));have HV:=aa pE;clear ho hf hlen fY pE;go_enter func184,ntmps184;go_wp2_with (at_builtin;refine wpList_append_lies _ rfl _ _ 236 rfl B 153 i0 .nilIface 1 16 underlying236 hi gD gB gF rfl (by decide) vq us.length us rfl ?lG ⟨w.heap.size,0,none⟩ 1 1 [.iface 349 (.pointer (some ⟨b,0,none⟩))] rfl rfl ?lF ?lE (by decide) ?lD ?lC ?lB (w.heap.size+1) ?my ?_)
 case lG=>exact kh.own.alloc _
 case lF=>exact World.news_of_block (heap_alloc_new w _)
 case lE=>intro u hu;simp only[aE]at hu;subst hu;rfl
 case lD=>have:=fP.out;unfold maxLen;omega
 case lC=>have:=fP.out;omega
 case lB=>have:=kh.ge.1;have:=kh.lt.1;simp;omega
 case my=>simp
 intro g cap w1 ly gT gK jg;obtain⟨z1,z2,z3⟩:=kh.grow yR.out (wa:=w.alloc (.cells #[.iface 349 (.pointer (some ⟨b,0,none⟩))] 153)) (H:=w.heap.size+1) (by go_grown) (by omega) ly gT gK jg;have s1:w1.cell? ⟨Sb,0,none⟩=some vq:=by simp[World.cell?,z1]
 have s2:w1.frozen? ⟨Sb,0,none⟩=false:=by simp[World.frozen?,z1]
 have HZ:=eo z2 z3;clear ly gT gK jg z1 z2 z3;go_wp2_with fail;go_end0;exact⟨rfl,_,_,_,HZ.1,HZ.2,by simp only[aj,aH,aG,iJ];omega⟩
theorem O7 (t:List dE):ke (.cont t):=by
 intro w B Sb C vq out us G v F ho hf hlen fY;have e:push (.cont t) out=out++[.cont t]:=by simp[push]
 rw[e];clear e;have h:=hf.tr;simp only[Tr]at h;obtain⟨b,rfl,dU⟩:=h;clear dU;have eH:=kC (.pointer (some ⟨b,0,none⟩));have tg:=Cy (.pointer (some ⟨b,0,none⟩));have gw:=kD (.pointer (some ⟨b,0,none⟩));have jI:=lQ (.pointer (some ⟨b,0,none⟩));obtain⟨i0,hi,gD,gB,gF⟩:=info_parts fG;have kh:=aa ho;have yR:=aa hf;have fP:=aa hlen;have lJ:=ho.cells.1;obtain⟨vv,pE⟩:=dS (Value.iface 352 (.pointer (some ⟨b,0,none⟩)));have HV:=aa pE;clear ho hf hlen fY pE;go_enter func184,ntmps184;go_wp2_with (at_builtin;refine wpList_append_lies _ rfl _ _ 236 rfl B 153 i0 .nilIface 1 16 underlying236 hi gD gB gF rfl (by decide) vq us.length us rfl ?lG ⟨w.heap.size,0,none⟩ 1 1 [.iface 352 (.pointer (some ⟨b,0,none⟩))] rfl rfl ?lF ?lE (by decide) ?lD ?lC ?lB (w.heap.size+1) ?my ?_)
 case lG=>exact kh.own.alloc _
 case lF=>exact World.news_of_block (heap_alloc_new w _)
 case lE=>intro u hu;simp only[aE]at hu;subst hu;rfl
 case lD=>have:=fP.out;unfold maxLen;omega
 case lC=>have:=fP.out;omega
 case lB=>have:=kh.ge.1;have:=kh.lt.1;simp;omega
 case my=>simp
 intro g cap w1 ly gT gK jg;obtain⟨z1,z2,z3⟩:=kh.grow yR.out (wa:=w.alloc (.cells #[.iface 352 (.pointer (some ⟨b,0,none⟩))] 153)) (H:=w.heap.size+1) (by go_grown) (by omega) ly gT gK jg;have s1:w1.cell? ⟨Sb,0,none⟩=some vq:=by simp[World.cell?,z1]
 have s2:w1.frozen? ⟨Sb,0,none⟩=false:=by simp[World.frozen?,z1]
 have HZ:=eo z2 z3;clear ly gT gK jg z1 z2 z3;go_wp2_with fail;go_end0;exact⟨rfl,_,_,_,HZ.1,HZ.2,by simp only[aj,aH,aG,iJ];omega⟩
theorem S4 (l:List T):ke (.alt l):=by
 intro w B Sb C vq out us G v F ho hf hlen fY;have e:push (.alt l) out=out++[.alt l]:=by simp[push]
 rw[e];clear e;have h:=hf.tr;simp only[Tr]at h;obtain⟨sv,sG,bl3,G3,rfl,dU⟩:=h;clear dU;have eH:=kN sv;have tg:=CP sv;have gw:=kO sv;have jI:=pd sv;obtain⟨i0,hi,gD,gB,gF⟩:=info_parts fG;have kh:=aa ho;have yR:=aa hf;have fP:=aa hlen;have lJ:=ho.cells.1;obtain⟨vv,pE⟩:=dS (Value.iface 265 sv);have HV:=aa pE;clear ho hf hlen fY pE;go_enter func184,ntmps184;go_wp2_with (at_builtin;refine wpList_append_lies _ rfl _ _ 236 rfl B 153 i0 .nilIface 1 16 underlying236 hi gD gB gF rfl (by decide) vq us.length us rfl ?lG ⟨w.heap.size,0,none⟩ 1 1 [.iface 265 sv] rfl rfl ?lF ?lE (by decide) ?lD ?lC ?lB (w.heap.size+1) ?my ?_)
 case lG=>exact kh.own.alloc _
 case lF=>exact World.news_of_block (heap_alloc_new w _)
 case lE=>intro u hu;simp only[aE]at hu;subst hu;rfl
 case lD=>have:=fP.out;unfold maxLen;omega
 case lC=>have:=fP.out;omega
 case lB=>have:=kh.ge.1;have:=kh.lt.1;simp;omega
 case my=>simp
 intro g cap w1 ly gT gK jg;obtain⟨z1,z2,z3⟩:=kh.grow yR.out (wa:=w.alloc (.cells #[.iface 265 sv] 153)) (H:=w.heap.size+1) (by go_grown) (by omega) ly gT gK jg;have s1:w1.cell? ⟨Sb,0,none⟩=some vq:=by simp[World.cell?,z1]
 have s2:w1.frozen? ⟨Sb,0,none⟩=false:=by simp[World.frozen?,z1]
 have HZ:=eo z2 z3;clear ly gT gK jg z1 z2 z3;go_wp2_with fail;go_end0;exact⟨rfl,_,_,_,HZ.1,HZ.2,by simp only[aj,aH,aG,iJ];omega⟩
theorem O5 (l:List T):ke (.eh l):=by
 intro w B Sb C vq out us G v F ho hf hlen fY;have e:push (.eh l) out=out++[.eh l]:=by simp[push]
 rw[e];clear e;have h:=hf.tr;simp only[Tr]at h;obtain⟨sv,sG,bl3,G3,rfl,dU⟩:=h;clear dU;have eH:=jU sv;have tg:=CE sv;have gw:=kI sv;have jI:=lX sv;obtain⟨i0,hi,gD,gB,gF⟩:=info_parts fG;have kh:=aa ho;have yR:=aa hf;have fP:=aa hlen;have lJ:=ho.cells.1;obtain⟨vv,pE⟩:=dS (Value.iface 342 sv);have HV:=aa pE;clear ho hf hlen fY pE;go_enter func184,ntmps184;go_wp2_with (at_builtin;refine wpList_append_lies _ rfl _ _ 236 rfl B 153 i0 .nilIface 1 16 underlying236 hi gD gB gF rfl (by decide) vq us.length us rfl ?lG ⟨w.heap.size,0,none⟩ 1 1 [.iface 342 sv] rfl rfl ?lF ?lE (by decide) ?lD ?lC ?lB (w.heap.size+1) ?my ?_)
 case lG=>exact kh.own.alloc _
 case lF=>exact World.news_of_block (heap_alloc_new w _)
 case lE=>intro u hu;simp only[aE]at hu;subst hu;rfl
 case lD=>have:=fP.out;unfold maxLen;omega
 case lC=>have:=fP.out;omega
 case lB=>have:=kh.ge.1;have:=kh.lt.1;simp;omega
 case my=>simp
 intro g cap w1 ly gT gK jg;obtain⟨z1,z2,z3⟩:=kh.grow yR.out (wa:=w.alloc (.cells #[.iface 342 sv] 153)) (H:=w.heap.size+1) (by go_grown) (by omega) ly gT gK jg;have s1:w1.cell? ⟨Sb,0,none⟩=some vq:=by simp[World.cell?,z1]
 have s2:w1.frozen? ⟨Sb,0,none⟩=false:=by simp[World.frozen?,z1]
 have HZ:=eo z2 z3;clear ly gT gK jg z1 z2 z3;go_wp2_with fail;go_end0;exact⟨rfl,_,_,_,HZ.1,HZ.2,by simp only[aj,aH,aG,iJ];omega⟩
theorem O3:ke .void:=by
 intro w B Sb C vq out us G v F ho hf hlen fY;have e:push .void out=out:=by simp[push]
 rw[e];clear e;have h:=hf.tr;simp only[Tr]at h;obtain⟨u,rfl,dU⟩:=h;have kh:=aa ho;clear dU ho hf hlen fY;have eH:=jW u;have tg:=CT u;go_enter func184,ntmps184;go_wp2_with fail;refine bodyPost_ret (results_none rfl _ _ _) rfl ?_;exact⟨rfl,vq,us,G,kh.out,⟨ei.refl _ _,λ_ h=>.inl h,λ_ h=>.inl h⟩,by omega⟩
theorem iv.shape (h:iv w B Sb C vq out us G):∃a cap,vq=.slice a us.length cap:=by
 rcases h.own.2 with⟨rfl,e⟩|⟨g,cap,cur,rfl,_⟩
 ·exact⟨none,0,by rw[e]⟩
 ·exact⟨_,_,rfl⟩
theorem iv.last (h:iv w B Sb C vq (init++[x]) us G):∃g cap oP u G0 Fx,vq=.slice (some ⟨g,0,none⟩) (oP.length+1) cap/\us=oP++[u]/\G=G0++Fx/\eW w B init oP G0/\Tr w B x u Fx/\w.cell? ⟨g,oP.length,none⟩=some u/\w.frozen? ⟨g,oP.length,none⟩=false/\g<w.heap.size/\g≠Sb/\g≠C/\oP.length=init.length:=by
 obtain⟨oP,kB,G0,Fx,rfl,rfl,h1,h2⟩:=eW.split init [x] us G h.tr;obtain⟨u,rfl,h3⟩:=eW.one.1 h2;have gh:=h.own.2;rcases gh with⟨_,e⟩|⟨g,cap,cur,rfl,hB,hg,hn,hc,lJ,tD⟩
 ·simp at e
 ·have eB:cur[oP.length]? =some u:=by
   have e:(cur.toList.take ((oP++[u]).length*1))[oP.length]? =(oP++[u])[oP.length]? :=(by rw[tD]);rw[cS (by simp)]at e;simpa using e
  refine⟨g,cap,oP,u,G0,Fx,by simp,rfl,rfl,h1,h3,by simp[World.cell?,hg,eB],by simp[World.frozen?,hg],h.lt.2.2.1 g rfl,λe=>h.apart.1 (by simp[Value.ownBlock,e]),λe=>h.apart.2.1 (by simp[Value.ownBlock,e]),eW.length init oP G0 h1⟩
theorem iv.QZ {w':World} {x':T} {oP:List Value} {u u':Value} {G0 Fx F':List Nat} (h:iv w B Sb C (.slice (some ⟨g,0,none⟩) (oP.length+1) cap) (init++[x]) (oP++[u]) (G0++Fx)) (ll:eW w B init oP G0) (hc:ei (λ_=>False) w w') (ht:Tr w' B x' u' F') (hn:F'.Nodup) (hF:∀z∈F',z∉G0/\z≠Sb/\z≠C/\z≠g/\z<w'.heap.size/\B<=z):iv (w'.setCell ⟨g,oP.length,none⟩ u') B Sb C (.slice (some ⟨g,0,none⟩) (oP.length+1) cap) (init++[x']) (oP++[u']) (G0++F')/\ei (λb=>b=Sb\/Value.ownBlock (.slice (some ⟨g,0,none⟩) (oP.length+1) cap)=some b) w (w'.setCell ⟨g,oP.length,none⟩ u'):=by
 obtain⟨l1,l2,l3,l4⟩:=h.lt;obtain⟨o1,o2,o3⟩:=h.off;have yD:g<w.heap.size:=l3 g rfl;have XL:g≠Sb:=λe=>h.apart.1 (by simp[Value.ownBlock,e]);have ZL:g≠C:=λe=>h.apart.2.1 (by simp[Value.ownBlock,e]);have ZK:g∉G0:=λe=>o3 g rfl (bu _ e);have gY:∀b,b<w.heap.size->b≠g->(w'.setCell ⟨g,oP.length,none⟩ u').heap[b]? =w.heap[b]? :=λb hb eK=>(aq _ _ _ _ eK).trans (hc.same b hb λe=>e);have gh:=h.own.2;rcases gh with⟨e,_⟩|⟨g',oY,cur,e,hB,hg,tF,mX,lJ,tD⟩
 ·simp at e
 simp only[au,ae,aY,and_true]at e;obtain⟨rfl,_,rfl⟩:=e;have zk:w'.heap[g]? =some (.cells cur 153 (0,0)):=(hc.same g yD λe=>e).trans hg;have gE:∀b,b<B->(w'.setCell ⟨g,oP.length,none⟩ u').heap[b]? =w.heap[b]? :=λb hb=>gY b (by have:=h.ge.1;omega) (by omega);refine⟨⟨?_,?_,?_,?_,h.apart,?_,?_,?_,?_⟩,?_⟩
 ·exact(gY Sb l1 λe=>XL e.symm).trans h.sb
 ·exact(gY C l2 λe=>ZL e.symm).trans h.cb
 ·refine⟨by simp,.inr ⟨g,cap,_,by simp,hB,dG zk u',by simpa using tF,mX,by simpa using lJ,?_⟩⟩;rw[Array.toList_setIfInBounds,List.take_set];have e:(oP++[u']).length*1=(oP++[u]).length*1:=by simp
  rw[e,tD];simp
 ·refine eW.append init [x'] oP [u'] G0 F' (eW.keep gE init oP G0 ll λb hb=>gY b (l4 b (bu _ hb)) λe=>ZK (e▸hb)) (eW.one.2 ⟨u',rfl,Tr.keep (w:=w') (λb hb=>aq _ _ _ _ (show b≠g by omega)) x' u' F' ht λb hb=>aq _ _ _ _ (hF b hb).2.2.2.1⟩)
 ·refine⟨λe=> ?_,λe=> ?_,λk hk e=> ?_⟩
  ·rcases ar.1 e with e|e
   ·exact o1 (bu _ e)
   ·exact(hF _ e).2.1 rfl
  ·rcases ar.1 e with e|e
   ·exact o2 (bu _ e)
   ·exact(hF _ e).2.2.1 rfl
  ·simp only[Value.ownBlock,ae]at hk;subst hk;rcases ar.1 e with e|e
   ·exact ZK e
   ·exact(hF _ e).2.2.2.1 rfl
 ·have:=h.nodup;rw[aZ]at this⊢;exact⟨this.1,hn,λa ha b hb e=>(hF b hb).1 (e▸ha)⟩
 ·rw[aK];have:=hc.size;refine⟨by omega,by omega,λk hk=> ?_,λz hz=> ?_⟩
  ·have:=l3 k hk;omega
  ·rcases ar.1 hz with hz|hz
   ·have:=l4 z (bu _ hz);omega
   ·exact(hF z hz).2.2.2.2.1
 ·refine⟨h.ge.1,h.ge.2.1,λz hz=> ?_⟩;rcases ar.1 hz with hz|hz
  ·exact h.ge.2.2 z (bu _ hz)
  ·exact(hF z hz).2.2.2.2.2
 ·refine⟨hc.os,hc.tape,hc.output,by rw[aK];exact hc.size,λb hb yA=>gY b hb λe=>yA (.inr (by rw[e];rfl))⟩
end Go.Proofs.YtfejflhgaphilaaGreatDoor
