/- The tied card of FnWholeGlob holds: for every input that the row's reading lets in, the call returns true and each argument reads afterwards as it read before; conditions: none but the row's own (what its listed variables hold at the start is tied to the program's text). -/
import Derived.Test.YtfejflhgaphilaaGreatDoorC50
set_option linter.all false
set_option maxRecDepth 100000
set_option maxHeartbeats 64000000
open Go.Proofs.Tryz
namespace Go.Proofs.YtfejflhgaphilaaGreatDoor
open Go.ChangeShapes Go.WideShapes Go.ChangeAt Go.RowKit Go.Lib
theorem closed:joinedFacts prog 3 Tryz.f3 Rows.fnWholeGlobSpec Rows.fnWholeGlobRow=true:=by
 unfold joinedFacts
 repeat' with_reducible refine Bool.and_eq_true_iff.2 ⟨?_,?_⟩
 ·as_aux_lemma=>kernel_rfl
 ·as_aux_lemma=>kernel_rfl
 ·as_aux_lemma=>kernel_rfl
 ·as_aux_lemma=>kernel_rfl
 ·as_aux_lemma=>kernel_rfl
 ·as_aux_lemma=>kernel_rfl
 ·as_aux_lemma=>kernel_rfl
 ·as_aux_lemma=>kernel_rfl
 ·as_aux_lemma=>kernel_rfl
 ·as_aux_lemma=>kernel_rfl
 ·as_aux_lemma=>kernel_rfl
 ·as_aux_lemma=>kernel_rfl
 ·as_aux_lemma=>kernel_rfl
 ·as_aux_lemma=>kernel_rfl
 ·as_aux_lemma=>kernel_rfl
 ·as_aux_lemma=>kernel_rfl
 ·as_aux_lemma=>kernel_rfl
 ·as_aux_lemma=>kernel_rfl
 ·as_aux_lemma=>kernel_rfl
 ·as_aux_lemma=>kernel_rfl
 ·as_aux_lemma=>kernel_rfl
 ·as_aux_lemma=>kernel_rfl
 ·as_aux_lemma=>kernel_rfl
 ·as_aux_lemma=>kernel_rfl
 ·as_aux_lemma=>kernel_rfl
 ·as_aux_lemma=>kernel_rfl
 ·as_aux_lemma=>kernel_rfl
 ·as_aux_lemma=>kernel_rfl
 ·as_aux_lemma=>kernel_rfl
 ·as_aux_lemma=>kernel_rfl
 ·as_aux_lemma=>kernel_rfl
 ·as_aux_lemma=>kernel_rfl
theorem holds:Rows.FnWholeGlobSaid:=OpenClaim.holds_of_wide 3 Tryz.f3 rfl rfl rfl rfl rfl rfl rfl ⟨rfl,rfl,rfl,rfl,rfl⟩ rfl rfl rfl rfl rfl (by kernel_rfl) func3 closed (of_decide_eq_true (by kernel_rfl)) (by unfold Func.isWrapper;first|(rw[if_pos (by decide+kernel)];kernel_rfl)|(rw[if_neg (by decide+kernel)];exact⟨rfl,rfl⟩)) (λos started H enc _=>lifted os started H enc)
theorem card_holds:Rows.FnWholeGlobCardSaid:=Claim7.holds_tied_plain_at .later [] [.data,.data,.data,.data,.pinned,.pinned,.pinned,.pinned,.pinned,.pinned] true (true,"be83b1c8c23c656115a83a71855cce539ec20ed1808a418810ab8159b5e1fc07") true holds (λ_ h=>by cases h) (by kernel_rfl) (λ_ h=>by cases h) fnWholeGlob_row_tie rfl ⟨rfl,rfl⟩ (by kernel_rfl) rfl (λf fn hf hfn=>by
                                                                                                                                                                                                                                                                                                                                                                    obtain rfl:f=3:=Option.some.inj ((show prog.funcNamed "pub-bracken/laws.FnWholeGlob"=some 3 by kernel_rfl).symm.trans hf) |>.symm;obtain rfl:fn=Tryz.f3:=(Option.some.inj (func3.symm.trans hfn)).symm;exact⟨by kernel_rfl,λj t ht=>by
                                                                                                                                                                                                                                                                                                                                                                     rw[Tryz.params3]at ht;have hm:t∈[22,9,23]:=by simpa using Array.mem_of_getElem? ht
                                                                                                                                                                                                                                                                                                                                                                     have jh:([22,9,23].all λu=> !prog.wantsStandIn u)=true:=(by kernel_rfl);exact(show prog.wantsStandIn t=false by simpa using List.all_eq_true.1 jh t hm)⟩) (by kernel_rfl)
end Go.Proofs.YtfejflhgaphilaaGreatDoor
