/- The sorted map's small functions: the comparer of texts, a copy of the map's head, keys as data. The sorted map's leaf: where a text stands. Rows of pairs, as a leaf of the sorted map holds them: what copying and writing make of them. -/
import Derived.Test.YtfejflhgaphilaaGreatDoorC27
import Derived.Test.YtfejflhgaphilaaGreatDoorC09
import Derived.Test.YtfejflhgaphilaaGreatDoorC06
import Derived.Sort.Walk0
import Derived.Deep.CutBlock
import Derived.Handy
import Derived.Laws.EntriesVeiled
import Derived.KernelRfl
import Derived.BigQuiet
import Derived.Deep.QuietTactic
import Derived.Test.YtfejflhgaphilaaGreatDoorC13
set_option linter.all false
set_option maxRecDepth 100000
set_option maxHeartbeats 64000000
open Go.Proofs.Tryz
namespace Go.Proofs.YtfejflhgaphilaaGreatDoor
open Go.RowKit Gm
variable {w w':World} {l:List (List UInt8)} {E N L c:Nat}
theorem el {b i:Nat} {cs:Array Value} {T:TypeId} (h:w.heap[b]? =some (.cells cs T (0,0))):w.frozen? ⟨b,i,none⟩=false:=by simp[World.frozen?,h]
def sk (k:List UInt8):ByteArray:=⟨k.toArray⟩
theorem se (k:List UInt8):(sk k).toList=k:=by rw[Lib.toList_data];rfl
theorem U1 (a b:List UInt8):Op.bytesLess (sk a).toList (sk b).toList=decide (a<b):=by rw[se,se,Go.Proofs.bytesLess_eq]
def EZ (a b:List UInt8):Int:=if a<b then-1 else if b<a then 1 else 0
theorem sk_eq (a b:List UInt8):((sk a).toList==(sk b).toList)=decide (a=b):=by rw[se,se,bO,beq_iff_eq,decide_eq_true_eq]
theorem f334 (a b:List UInt8) (w:World):Calls prog 334 #[.string (sk a),.string (sk b)] w λe w'=>e=.returned (.int .i64 (EZ a b))/\w'=w:=by
 have h1:=U1 a b;have h2:=sk_eq a b;obtain⟨R,hR⟩:=dS (EZ a b);rw[<-hR];have hc:(decide (a<b)=true/\R= -1)\/(decide (a<b)=false/\decide (a=b)=true/\R=0)\/(decide (a<b)=false/\decide (a=b)=false/\R=1):=by
  unfold EZ at hR;by_cases h:a<b
  ·rw[if_pos h]at hR;exact .inl ⟨by simp[h],hR⟩
  ·rw[if_neg h]at hR;by_cases h2:a=b
   ·subst h2;rw[if_neg h]at hR;exact .inr (.inl ⟨by simp,by simp,hR⟩)
   ·rw[if_pos (sj h h2)]at hR;exact .inr (.inr ⟨by simp[h],by simp[h2],hR⟩)
 generalize sk a=A at*;generalize sk b=B at*;clear hR;rcases hc with⟨e1,rfl⟩|⟨e1,e2,rfl⟩|⟨e1,e2,rfl⟩<;>
 ·rw[e1]at h1
  try rw[e2]at h2
  clear e1
  try clear e2
  go_enter func334,ntmps334;go_wp2_with fail;go_ret;exact⟨rfl,rfl⟩
theorem taS3 (v:Value) (w:World):(Instr.typeAssert (.iface 9 v) 20 3 true).run prog w=.ok (.tuple #[.int .i64 0,.bool false]) w:=by kernel_rfl
theorem Qy (v:Value) (w:World):(Instr.typeAssert (.iface 9 v) 20 371 true).run prog w=.ok (.tuple #[.int .i8 0,.bool false]) w:=by kernel_rfl
theorem Qx (v:Value) (w:World):(Instr.typeAssert (.iface 9 v) 20 372 true).run prog w=.ok (.tuple #[.int .i16 0,.bool false]) w:=by kernel_rfl
theorem WX (v:Value) (w:World):(Instr.typeAssert (.iface 9 v) 20 21 true).run prog w=.ok (.tuple #[.int .i32 0,.bool false]) w:=by kernel_rfl
theorem taS2 (v:Value) (w:World):(Instr.typeAssert (.iface 9 v) 20 2 true).run prog w=.ok (.tuple #[.int .i64 0,.bool false]) w:=by kernel_rfl
theorem QA (v:Value) (w:World):(Instr.typeAssert (.iface 9 v) 20 102 true).run prog w=.ok (.tuple #[.int .u64 0,.bool false]) w:=by kernel_rfl
theorem taS5 (v:Value) (w:World):(Instr.typeAssert (.iface 9 v) 20 5 true).run prog w=.ok (.tuple #[.int .u8 0,.bool false]) w:=by kernel_rfl
theorem Qw (v:Value) (w:World):(Instr.typeAssert (.iface 9 v) 20 373 true).run prog w=.ok (.tuple #[.int .u16 0,.bool false]) w:=by kernel_rfl
theorem WW (v:Value) (w:World):(Instr.typeAssert (.iface 9 v) 20 56 true).run prog w=.ok (.tuple #[.int .u32 0,.bool false]) w:=by kernel_rfl
theorem Qz (v:Value) (w:World):(Instr.typeAssert (.iface 9 v) 20 178 true).run prog w=.ok (.tuple #[.int .u64 0,.bool false]) w:=by kernel_rfl
theorem WY (v:Value) (w:World):(Instr.typeAssert (.iface 9 v) 20 12 true).run prog w=.ok (.tuple #[.int .u64 0,.bool false]) w:=by kernel_rfl
theorem taS9 (v:Value) (w:World):(Instr.typeAssert (.iface 9 v) 20 9 true).run prog w=.ok (.tuple #[v,.bool true]) w:=by kernel_rfl
theorem WV (v:Value) (w:World):(Instr.typeAssert (.iface 9 v) 20 9 false).run prog w=.ok v w:=by kernel_rfl
theorem f322 (p:Value) (a b:List UInt8) (w:World):Calls prog 322 #[p,.string (sk a),.string (sk b)] w λe w'=>e=.returned (.int .i64 (EZ a b))/\w'=w:=by have HC:=aa (f334 a b w);obtain⟨R,hR⟩:=dS (EZ a b);rw[<-hR]at HC⊢;clear hR;obtain⟨A,hA⟩:=dS (sk a);obtain⟨B,hB⟩:=dS (sk b);rw[<-hA,<-hB]at HC⊢;clear hA hB;have h1:=taS3 (.string A);have h2:=Qy (.string A);have h3:=Qx (.string A);have h4:=WX (.string A);have h5:=taS2 (.string A);have h6:=QA (.string A);have h7:=taS5 (.string A);have h8:=Qw (.string A);have h9:=WW (.string A);have UE:=Qz (.string A);have h11:=WY (.string A);have Ql:=taS9 (.string A);have h13:=WV (.string B);go_enter func322,ntmps322;go_wp2_with fail;refine HC.mono ?_;rintro e w2 ⟨rfl,rfl⟩;go_wp2_with fail;go_ret;exact⟨rfl,rfl⟩
theorem f135 (A:ByteArray) (w:World):Calls prog 135 #[.string A] w λe w'=>e=.returned (.iface 374 (.pointer (some ⟨w.heap.size,0,none⟩)))/\w'=w.alloc (.cells #[] 375):=by have h1:=taS3 (.string A);have h2:=Qy (.string A);have h3:=Qx (.string A);have h4:=WX (.string A);have h5:=taS2 (.string A);have h6:=QA (.string A);have h7:=taS5 (.string A);have h8:=Qw (.string A);have h9:=WW (.string A);have UE:=Qz (.string A);have h11:=WY (.string A);have Ql:=taS9 (.string A);have h13:=WV (.string A);go_enter func135,ntmps135;go_wp2_with fail;go_ret;exact⟨rfl,rfl⟩
theorem f136 (M:Nat) (sz:Int) (r c:Value) (w:World) (h:w.heap[M]? =some (.cells #[.int .i64 sz,r,c] 198)) (hrc:(r=.nilIface/\c=.nilIface)\/∃p q,r=.iface 208 p/\c=.iface 374 q):Calls prog 136 #[.pointer (some ⟨M,0,none⟩)] w λe w'=>e=.returned (.pointer (some ⟨w.heap.size,0,none⟩))/\w'=w.alloc (.cells #[.int .i64 sz,r,c] 198):=by
 have c0:w.cell? ⟨M,0,none⟩=some (.int .i64 sz):=cell_of h rfl;have c1:w.cell? ⟨M,1,none⟩=some r:=cell_of h rfl;have c2:w.cell? ⟨M,2,none⟩=some c:=cell_of h rfl;clear h;rcases hrc with⟨rfl,rfl⟩|⟨p,q,rfl,rfl⟩<;>
 ·go_enter func136,ntmps136;go_wp2_with fail;go_ret;exact⟨rfl,rfl⟩
theorem f43 (i n:Nat) (jn:i<n) (hn:n<=1000000) (w:World):Calls prog 43 #[.int .i64 i,.int .i64 n] w λe w'=>e=.returned (.int .i64 i)/\w'=w:=by
 have e:Int.tmod (i:Int) (n:Int)=(i:Int):=by rw[Int.tmod_eq_emod_of_nonneg (by omega),Int.emod_eq_of_lt (by omega) (by omega)]
 go_enter func43,ntmps43;go_wp2_with fail;go_ret;exact⟨rfl,rfl⟩
theorem f42 (w:World):Calls prog 42 #[.nilIface] w λe w'=>e=.returned (.pointer (some ⟨w.heap.size,0,none⟩))/\w'=w.alloc (.cells #[.int .i64 0,.nilIface,.nilIface] 198):=by go_enter func42,ntmps42;go_wp2_with fail;go_ret;exact⟨rfl,rfl⟩
theorem f53 (n v:Value) (w:World):Calls prog 53 #[n,v] w λe w'=>e=.returned v/\w'=w:=by go_enter func53,ntmps53;go_wp2_with fail;go_ret;exact⟨rfl,rfl⟩
theorem f56 (k:ByteArray) (n:Int) (w:World):Calls prog 56 #[.string k,.int .i64 n] w λe w'=>e=.returned (.agg #[.int .i64 0,.string k,.int .i64 n])/\Below w.heap.size w w':=by go_enter func56,ntmps56;go_wp2_with fail;refine bodyPost_ret (results_cell_row rfl _ _ _ _ _ _ _ rfl (heap_alloc_new _ _) underlying39 rfl (by kernel_rfl)) rfl ?_;exact⟨rfl,by go_grown⟩
theorem f23 (w:World):Calls prog 23 #[] w λe w'=>e=.returned (.agg #[.func (.func 53) #[] #[],.func (.func 54) #[] #[],.func (.func 56) #[] #[]])/\Below w.heap.size w w':=by go_enter func23,ntmps23;go_wp2_with fail;refine bodyPost_ret (results_cell_row rfl _ _ _ _ _ _ _ rfl (heap_alloc_new _ _) underlying73 rfl (by kernel_rfl)) rfl ?_;exact⟨rfl,by go_grown⟩
theorem f24 (n:Int) (w:World):Calls prog 24 #[.agg #[.int .u8 0,.int .i64 n]] w λe w'=>e=.returned .nilIface/\Below w.heap.size w w':=by go_enter func24,ntmps24;go_wp2_with fail;go_ret;exact⟨rfl,by go_grown⟩
theorem f49 (M:Nat) (sz:Int) (r c:Value) (w:World) (h:w.heap[M]? =some (.cells #[.int .i64 sz,r,c] 198)):Calls prog 49 #[.pointer (some ⟨M,0,none⟩)] w λe w'=>e=.returned (.int .i64 sz)/\w'=w:=by have c0:w.cell? ⟨M,0,none⟩=some (.int .i64 sz):=cell_of h rfl;clear h;go_enter func49,ntmps49;go_wp2_with fail;go_ret;exact⟨rfl,rfl⟩
theorem f51 (I:Nat) (d:Int) (w:World) (h:w.cell? ⟨I,65,none⟩=some (.int .i64 d)):Calls prog 51 #[.pointer (some ⟨I,0,none⟩)] w λe w'=>e=.returned (.bool (decide (d= -1)))/\w'=w:=by go_enter func51,ntmps51;go_wp2_with fail;go_ret;exact⟨rfl,rfl⟩
def Jh (w:World) (E:Nat) (l:List (List UInt8)):Prop:=∀i k,l[i]? =some k->w.cell? ⟨E,i*2,none⟩=some (.string (sk k))/\w.cell? ⟨E,i*2+1,none⟩=some (.int .i64 0)
theorem Jh.below {B:Nat} (h:Jh w E l) (hb:Below w.heap.size w w'):Jh w' E l:=λi k hk=>⟨dF hb _ _ (h i k hk).1,dF hb _ _ (h i k hk).2⟩
structure jQ (w:World) (L E:Nat) (l:List (List UInt8)) (c:Nat):Prop where
 head:w.heap[L]? =some (.cells #[.slice (some ⟨E,0,none⟩) l.length c] 214 (0,0))
 ir:Jh w E l
 cap:l.length<=c
 small:c<=1000
 gu:E<w.heap.size
theorem jQ.lt (h:jQ w L E l c):L<w.heap.size:=by
 rcases aV L w.heap.size with e|e
 ·exact e
 ·have:=h.head;rw[aO e]at this;cases this
theorem jQ.below (h:jQ w L E l c) (hb:Below w.heap.size w w'):jQ w' L E l c:=⟨(hb.block L h.lt).trans h.head,λi k hk=>⟨dF hb _ _ (h.ir i k hk).1,dF hb _ _ (h.ir i k hk).2⟩,h.cap,h.small,ai h.gu hb.size⟩
theorem jQ.fo {Rz:Nat} (h:jQ w L E l c) (hc:ei (λb=>b=Rz) w w') (h1:L≠Rz) (h2:E≠Rz):jQ w' L E l c:=⟨(hc.same L h.lt h1).trans h.head,λi k hk=>⟨(aF (w:=w) (hc.same E h.gu h2)).trans (h.ir i k hk).1,(aF (w:=w) (hc.same E h.gu h2)).trans (h.ir i k hk).2⟩,h.cap,h.small,ai h.gu hc.size⟩
theorem LK (v:Value) (w:World):(method 435 374 v "Compare").run prog w=.ok (322,v) w:=by kernel_rfl
theorem TK (q:Option Addr) (w:World):(nilAhead (prog.types.size+Made.depth) 374 (.pointer q) "Compare").run prog w=.ok (some false) w:=by kernel_rfl
theorem f235 (L E c X1 X2 X3 i:Nat) (l:List (List UInt8)) (q:Option Addr) (k y:List UInt8) (w:World) (h:jQ w L E l c) (hi:l[i]? =some y) (c1:w.cell? ⟨X1,0,none⟩=some (.iface 374 (.pointer q))) (c2:w.cell? ⟨X2,0,none⟩=some (.pointer (some ⟨L,0,none⟩))) (c3:w.cell? ⟨X3,0,none⟩=some (.string (sk k))):Calls prog 235 #[.int .i64 i,.pointer (some ⟨X1,0,none⟩),.pointer (some ⟨X2,0,none⟩),.pointer (some ⟨X3,0,none⟩)] w λe w'=>e=.returned (.bool (!decide (y<k)))/\Below w.heap.size w w':=by
 have HP:=aa (λwx=>f322 (.pointer q) y k wx);have xT:i<l.length:=(aB.1 hi).1;have c4:=cell_of (i:=0) h.head rfl;have c5:=(h.ir i y hi).1;obtain⟨n,hn⟩:=dS l.length;rw[<-hn]at c4 xT;have j7:=h.cap;have kb:=h.small;rw[<-hn]at j7;have i1:(0:Int)<=(i:Int):=by omega
 have i2:(i:Int)<(n:Int):=by omega
 have hR:∃R:Int,R=EZ y k/\((!decide (y<k))=(R != -1)):=⟨_,rfl,by
  unfold EZ;by_cases h:y<k
  ·simp[h]
  ·by_cases h2:k<y<;>simp[h,h2]⟩
 obtain⟨R,hR,zn⟩:=hR;rw[zn];rw[<-hR]at HP;obtain⟨Y,hY⟩:=dS (sk y);obtain⟨K,hK⟩:=dS (sk k);rw[<-hY]at c5 HP;rw[<-hK]at c3 HP;have hm:=LK (.pointer q);have Qa:=TK q;clear hn h hi hR zn hY hK;go_enter func235,ntmps235;go_wp2_with fail;refine dP (λw'=>w'=w.drew) [(true,0),(true,1),(true,2),(true,3),(true,4),(true,5),(true,6),(true,7),(true,8),(true,9),(true,10),(true,11),(true,12),(false,13),(true,14)] (by kernel_rfl) (by kernel_rfl) rfl (λhHeld=> ?_);iterate 11
  refine dL (v:= ?_) rfl (λ_ _ _ h=>h) (by rfl) ?_ hHeld ?_;rotate_left
  ·rintro _ rfl;go_simp
   try with_reducible rfl
  simp only[Act.put,iX]
 refine dL (v:=.func (.method "Compare") #[.iface 374 (.pointer q)] #[]) rfl (λ_ _ _ h=>h) (by rfl) ?_ hHeld ?_
 ·intro wz _;kernel_rfl
 simp only[Act.put,iX];refine dL (v:= ?_) rfl (λ_ _ _ h=>h) (by rfl) ?_ hHeld ?_;rotate_left
 ·rintro _ rfl;go_simp
  try with_reducible rfl
 simp only[Act.put,iX];refine dM rfl (λK hK=> ?_);go_simp;refine(HP.out _).mono ?_;rintro e w4 ⟨rfl,rfl⟩;refine hK.out _ _ rfl (λiU=> ?_);clear hK K;refine dL (v:= ?_) rfl (λ_ _ _ h=>h) (by rfl) ?_ iU ?_;rotate_left
 ·intro w hSw;go_simp
  try with_reducible rfl
 simp only[Act.put,iX];clear hHeld iU;refine dX rfl ?_;go_wp2_with fail;go_ret;exact⟨rfl,by go_grown⟩
theorem f234 (n m:Nat) (p1 p2 p3:Value) (p:Nat->Bool) (w:World) (hn:n<=1000) (hm:m<=n) (J':∀i,i<m->p i=false) (hhi:∀i,m<=i->i<n->p i=true) (hf:∀(wx:World) (i:Nat),Below w.heap.size w wx->i<n->Calls prog 235 #[.int .i64 i,p1,p2,p3] wx λe w'=>e=.returned (.bool (p i))/\Below wx.heap.size wx w'):Calls prog 234 #[.int .i64 n,.func (.func 235) #[] #[p1,p2,p3]] w λe w'=>e=.returned (.int .i64 m)/\Below w.heap.size w w':=by
 have HF:=jS J' hhi hf;clear J' hhi hf;go_enter func234,ntmps234;go_wp2_with fail;go_loopg [5,6] n (λk s5 s6 wr=>∃lo hi:Nat,s5=.int .i64 lo/\s6=.int .i64 hi/\lo<=m/\m<=hi/\hi<=n/\hi-lo<=k/\Hid (Below w.heap.size w wr))
 case atStart=>exact⟨0,n,rfl,rfl,aU _,hm,af _,by omega,aa (ay _ _)⟩
 case round=>
  obtain⟨lo,hi,rfl,rfl,h1,h2,h3,h4,HB⟩:=hrel;by_cases eR:lo<hi
  ·obtain⟨md,hmd⟩:=dS ((lo+hi) /2);have hmi:(((lo:Int)+(hi:Int)) /2)=(md:Int):=by omega
   have hc:=HF.2.2 wr md HB.out (by omega);have kY:=gW ((md:Int)+1) (by omega);have HC:=aa hc;have HMD:=aa hmd;have qo:lo<=md/\md<hi:=(by omega);clear hc hmd;go_wp2_with fail;refine HC.mono ?_;rintro e w2 ⟨rfl,hb⟩;have jR:=aa hb;clear hb;obtain⟨x,hx⟩:=dS (p md);rw[<-hx];have HX:=aa hx;clear hx;cases x with
   |false=>
    go_wp2_with fail;go_roundg (hi- (md+1))
    case measure=>omega
    case rel=>
     have:md<m:=by
      rcases aV md m with e|e
      ·exact e
      ·have:=HF.2.1 md e (by omega);rw[<-HX.out]at this;cases this
     exact⟨md+1,hi,rfl,rfl,by omega,h2,h3,af _,aa (HB.trans (jR.mono HB.size))⟩
   |true=>
    go_wp2_with fail;go_roundg (md-lo)
    case measure=>omega
    case rel=>
     have:m<=md:=by
      rcases aV md m with e|e
      ·have:=HF.1 md e;rw[<-HX.out]at this;cases this
      ·exact e
     exact⟨lo,md,rfl,rfl,h1,by omega,by omega,af _,aa (HB.trans (jR.mono HB.size))⟩
  ·have hdl:decide ((lo:Int)<(hi:Int))=false:=(by simp;omega);obtain rfl:m=lo:=by omega
   go_wp2_with fail;go_ret;exact⟨rfl,HB.out⟩
theorem f228 (L E c:Nat) (l:List (List UInt8)) (q:Option Addr) (k:List UInt8) (w:World) (h:jQ w L E l c) (hs:KO l):Calls prog 228 #[.pointer (some ⟨L,0,none⟩),.string (sk k),.iface 374 (.pointer q)] w λe w'=>e=.returned (.int .i64 (pos k l))/\Below w.heap.size w w':=by
 obtain⟨n,hn⟩:=dS l.length;have nj:=h.cap;have kr:=h.small;obtain⟨W0,pV⟩:=dS (((w.alloc (.cells #[.pointer (some ⟨L,0,none⟩)] 208)).alloc (.cells #[.string (sk k)] 9)).alloc (.cells #[.iface 374 (.pointer q)] 76));have mQ:Below w.heap.size w W0:=by rw[pV];go_grown
 have b1:W0.heap[w.heap.size]? =some (.cells #[.pointer (some ⟨L,0,none⟩)] 208):=by rw[pV,heap_alloc_old _ _ (by rw[ab,ab];omega)];exact heap_alloc2_old _ _ _
 have b2:W0.heap[w.heap.size+1]? =some (.cells #[.string (sk k)] 9):=by rw[pV,heap_alloc_old _ _ (by rw[ab,ab];omega)];exact heap_alloc2_new _ _ _
 have b3:W0.heap[w.heap.size+1+1]? =some (.cells #[.iface 374 (.pointer q)] 76):=by rw[pV];have:=heap_alloc_new ((w.alloc (.cells #[.pointer (some ⟨L,0,none⟩)] 208)).alloc (.cells #[.string (sk k)] 9)) (.cells #[.iface 374 (.pointer q)] 76);rw[ab,ab]at this;exact this
 have hL0:=h.below mQ;have hC:=f234 n (pos k l) (.pointer (some ⟨w.heap.size+1+1,0,none⟩)) (.pointer (some ⟨w.heap.size,0,none⟩)) (.pointer (some ⟨w.heap.size+1,0,none⟩)) (λi=>match l[i]? with|some y=> !decide (y<k)|none=>false) W0 (by omega) (by rw[hn];exact wK k l) (λi hi=>by have xT:i<l.length:=(by have:=wK k l;omega);have e:l[i]? =some l[i]:=ah xT;simp only[e];rw[decide_eq_true (Q2 k l i _ hi e)];rfl) (λi hi jn=>by have xT:i<l.length:=(by omega);have e:l[i]? =some l[i]:=ah xT;simp only[e];rw[decide_eq_false (Q3 k l hs i _ hi e)];rfl) (λwx i hb jn=>by have xT:i<l.length:=(by omega);have e:l[i]? =some l[i]:=ah xT;simp only[e];exact f235 L E c _ _ _ i l q k _ wx (hL0.below hb) e (dF hb _ _ (cell_of b3 rfl)) (dF hb _ _ (cell_of b1 rfl)) (dF hb _ _ (cell_of b2 rfl)));have y1:W0.cell? ⟨w.heap.size,0,none⟩=some (.pointer (some ⟨L,0,none⟩)):=cell_of b1 rfl;have y2:W0.cell? ⟨L,0,none⟩=some (.slice (some ⟨E,0,none⟩) n c):=by rw[hn];exact cell_of hL0.head rfl
 obtain⟨P,hP⟩:=dS (pos k l);rw[<-hP]at hC⊢;have HC:=eo hC mQ;clear hC mQ b1 b2 b3 hL0 h hs hP hn nj kr;go_enter func228,ntmps228;go_upto_region 1 with fail
 rw[<-pV];clear pV;go_wp2_with fail;refine HC.1.mono ?_;rintro e w2 ⟨rfl,hb⟩;have HB:=aa hb;clear hb;go_wp2_with fail;go_ret;exact⟨rfl,HC.2.trans (HB.mono HC.2.size)⟩
def pc:List (List UInt8)->List Value
 | []=>[]
 |k::l=>.string (sk k):: .int .i64 0::pc l
theorem pz:∀a b,pc (a++b)=pc a++pc b
 | [],b=>rfl
 |k::a,b=>by simp only[aJ,pc,pz a b]
theorem fQ:∀l,(pc l).length=l.length*2
 | []=>rfl
 |k::l=>by simp only[pc,aH,fQ l];omega
theorem D7:∀l,∀v∈pc l,v.oneCell'=true
 | [],v,h=>by simp[pc]at h
 |k::l,v,h=>by
  simp only[pc,az]at h;rcases h with rfl|rfl|h
  ·rfl
  ·rfl
  ·exact D7 l v h
theorem D9:∀(l:List (List UInt8)) (i:Nat) (k:List UInt8),l[i]? =some k->(pc l)[i*2]? =some (.string (sk k))/\(pc l)[i*2+1]? =some (.int .i64 0)
 | [],i,k,h=>by simp at h
 |x::l,0,k,h=>by simp at h;subst h;exact⟨rfl,rfl⟩
 |x::l,i+1,k,h=>by have:=D9 l i k (by simpa using h);rw[show(i+1)*2=i*2+1+1 by omega];simpa[pc]using this
theorem Lr (l:List (List UInt8)) (i:Nat):(pc l).take (i*2)=pc (l.take i):=by
 rcases Nat.le_total i l.length with h|h
 ·have e:=congrArg pc (bN i l);rw[pz]at e;rw[<-e,cP (by rw[fQ,bn];omega),aP (by rw[fQ,bn];omega)]
 ·rw[aP (by rw[fQ];omega),aP h]
theorem Lu (l:List (List UInt8)) (i:Nat):(pc l).drop (i*2)=pc (l.drop i):=by
 rcases Nat.le_total i l.length with h|h
 ·have e:=congrArg pc (bN i l);rw[pz]at e
  conv=>lhs;rw[<-e]
  rw[show i*2=(pc (l.take i)).length by rw[fQ,bn];omega,dn]
 ·rw[aL (by rw[fQ];omega),aL h];rfl
def k8 (w:World) (N:Nat) (l:List (List UInt8)):Prop:=w.heap[N]? =some (.cells (pc l).toArray 211 (0,0))
theorem k8.ir (h:k8 w N l):Jh w N l:=λi k hk=>⟨cell_of h (by simpa using(D9 l i k hk).1),cell_of h (by simpa using(D9 l i k hk).2)⟩
theorem k8.lt (h:k8 w N l):N<w.heap.size:=by
 rcases aV N w.heap.size with e|e
 ·exact e
 ·unfold k8 at h;rw[aO e]at h;cases h
theorem k8.copy (h:k8 w N l) (o:Nat) (m:List (List UInt8)):k8 (w.setRow N ((pc l).toArray.toList.take (o*2)++pc m++(pc l).toArray.toList.drop (o*2+(pc m).length)).toArray) N (l.take o++m++l.drop (o+m.length)):=by unfold k8;rw[setRow_heap w N _ _ _ _ h,pz,pz,<-Lr,<-Lu,fQ,du]
theorem k8.same (h:k8 w N l) (o:Nat):k8 (w.setRow N ((pc l).toArray.toList.take o++[]++(pc l).toArray.toList.drop (o+([]:List Value).length)).toArray) N l:=by unfold k8;rw[setRow_heap w N _ _ _ _ h];simp
theorem Lv:∀(l:List (List UInt8)) (j:Nat) (v:Value),(pc l)[j]? =some v->∃i k,l[i]? =some k/\((j=i*2/\v=.string (sk k))\/(j=i*2+1/\v=.int .i64 0))
 | [],j,v,h=>by simp[pc]at h
 |x::l,0,v,h=>by simp[pc]at h;exact⟨0,x,rfl,.inl ⟨rfl,h.symm⟩⟩
 |x::l,1,v,h=>by simp[pc]at h;exact⟨0,x,rfl,.inr ⟨rfl,h.symm⟩⟩
 |x::l,j+2,v,h=>by
  obtain⟨i,k,h1,h2⟩:=Lv l j v (by simpa[pc]using h);refine⟨i+1,k,by simpa using h1,?_⟩;rcases h2 with⟨rfl,rfl⟩|⟨rfl,rfl⟩
  ·exact .inl ⟨by omega,rfl⟩
  ·exact .inr ⟨by omega,rfl⟩
theorem xr (h:Jh w E l) (o j:Nat) (v:Value) (hj:(pc l)[o*2+j]? =some v):w.cell? ((⟨E,o*2,none⟩:Addr).add j)=some v:=by
 obtain⟨i,k,h1,h2⟩:=Lv l _ v hj;have e:(⟨E,o*2,none⟩:Addr).add j=⟨E,o*2+j,none⟩:=by simp[Addr.add]
 rw[e];rcases h2 with⟨e1,rfl⟩|⟨e1,rfl⟩
 ·rw[e1];exact(h i k h1).1
 ·rw[e1];exact(h i k h1).2
theorem Q5:∀(l:List (List UInt8)) (i:Nat) (k:List UInt8),((pc l).set (i*2) (.string (sk k))).set (i*2+1) (.int .i64 0)=pc (l.set i k)
 | [],i,k=>by simp[pc]
 |x::l,0,k=>by simp[pc]
 |x::l,i+1,k=>by have:=Q5 l i k;rw[show(i+1)*2=i*2+1+1 by omega];simp only[pc,List.set_cons_succ,this]
theorem k8.set (h:k8 w N l) (i:Nat) (k:List UInt8):k8 ((w.setCell ⟨N,i*2,none⟩ (.string (sk k))).setCell ⟨N,i*2+1,none⟩ (.int .i64 0)) N (l.set i k):=by unfold k8 at*;have h1:=dG (w:=w) h (i:=i*2) (v:=.string (sk k));rw[dG h1,<-Q5];congr 2;apply Array.ext';simp
theorem uZ (w:World) (N:Nat) (cs:Array Value):ei (λb=>b=N) w (w.setRow N cs):=⟨rfl,rfl,rfl,by simp[World.setRow],λb _ hn=>setRow_other w N b _ hn⟩
theorem Tryz.Vw:(prog.info? 211).map (λi=>(i.zero,i.size,i.bytes))=some (some (.agg #[.string ⟨#[]⟩,.int .i64 0]),2,24):=by kernel_rfl
theorem Tryz.uh:(prog.info? 211).map (·.size)=some 2:=by kernel_rfl
def oC (n:Nat):Array Value:=(pc (List.replicate n [])).toArray
theorem JU (n:Nat):madeCells #[.string ⟨#[]⟩,.int .i64 0] (n*2)=oC n:=by
 apply Array.ext_getElem?;intro i;unfold oC madeCells;by_cases h:i<n*2
 ·have hr:(List.replicate n ([]:List UInt8))[i /2]? =some []:=by rw[List.getElem?_replicate,if_pos (by omega)]
  obtain⟨g1,g2⟩:=D9 _ _ _ hr;rcases Nat.mod_two_eq_zero_or_one i with e|e
  ·have:i /2*2=i:=(by omega);rw[this]at g1;simp[h,e,g1,sk]
  ·have:i /2*2+1=i:=(by omega);rw[this]at g2;simp[h,e,g2]
 ·have:(pc (List.replicate n [])).length<=i:=by rw[fQ];simp;omega
  simp[h,bz this]
theorem LZ (n:Nat) (hn:n<=2000) (wx:World):(Instr.makeSlice 212 (.int .i64 n) (.int .i64 n)).run prog wx=.ok (.slice (some ⟨wx.heap.size,0,none⟩) n n) (wx.alloc (.cells (oC n) 211)):=by obtain⟨i0,hi,gD,gB,gF⟩:=info_parts Tryz.Vw;have:=run_make (P:=prog) wx 212 211 i0 (.agg #[.string ⟨#[]⟩,.int .i64 0]) underlying212 hi gD .i64 .i64 n n (by omega) (by omega) (by rw[gF];omega) (by omega);rw[<-JU];simpa[gB,Value.cells]using this
theorem F5 (w:World) (n:Nat):k8 (w.alloc (.cells (oC n) 211)) w.heap.size (List.replicate n []):=heap_alloc_new _ _
end Go.Proofs.YtfejflhgaphilaaGreatDoor
