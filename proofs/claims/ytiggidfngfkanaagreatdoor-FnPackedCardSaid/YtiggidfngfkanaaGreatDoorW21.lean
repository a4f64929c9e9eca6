/- FnPacked: a point packed and unpacked is as it was (packed_card_holds). No condition. -/
import Derived.Test.YtiggidfngfkanaaGreatDoorW20
import Derived.Test.YtiggidfngfkanaaGreatDoorCards
import Derived.Test.YtiggidfngfkanaaGreatDoorWT
namespace Go.Proofs.YtiggidfngfkanaaGreatDoor
open Go Go.Proofs.Tryz
set_option maxRecDepth 100000
set_option maxHeartbeats 4000000
set_option linter.all false
open Bool renaming false->A, true->G
open Go renaming TypeId->es, Value->ip, World->ii
open Go.Proofs.Tryz renaming prog->B
open Option renaming none->N, some->E
section
open Go.ChangeShapes Go.WideShapes Go.RowKit
noncomputable abbrev lw(os:Os):ii:=ii.laidAll B os nC
def Ki(os:Os)(started:os.Started)(H:Type)(enc:es×ip->H):
    ReturnsInHanded {} Tryz.checked os 5 .any (λw args=>(Rows.fnPackedSpec.pre enc B f5 [] A w args/\laidMetH B nC w)/\sizedMet enc B f5 (OpenSpec.ofChange Rows.fnPackedSpec) A w args)
      (Rows.fnPackedSpec.post enc B f5 A Rows.fnPackedRow.fresh Rows.fnPackedRow.handsOn Rows.fnPackedRow.again):=by
  refine returnsInHanded_of_change_and (C:=Tryz.checked) (X:=λw _=>laidMetH B nC w) (λ_ _ _ hh h=>laidMetH.of_heap hh h) aMf started I func5
    (ChangeSpec.witness_at (enc:=enc) (C:=Tryz.checked) (os:=os) (X:=λw _=>laidMetH B nC w) A (lw os) #[.slice N 0 0] 12 (ii.laidAll_os _ _ _) I I I I I (laidMet_laidAll (os:=os) #[.slice N 0 0] I I)) ?_
  intro W base args ds gs before hval hW _ _ hL _;exact Pc W base args ds gs before hval hW hL
def VI:joinedFacts B 5 f5 Rows.fnPackedSpec Rows.fnPackedRow=G:=by
  unfold joinedFacts;simp only[iv]
  repeat' apply eU
  all_goals kernel_rfl
def FZ:Rows.FnPackedSaid:=
  OpenClaim.holds_of_wide 5 f5 K K K K K K K ⟨K,K,K,K,K⟩ K K K K K I func5 VI
    (fU I) (by unfold Func.isWrapper;rw[if_neg (mS I)];exact⟨K,K⟩)
    (λos started H enc _=>Ki os started H enc)
theorem packed_card_holds:Rows.FnPackedCardSaid:=
  Claim7.holds_tied_plain_at .later [] [.data,.data,.sentinel,.sentinel,.sentinel,.data,.data,.data,.data,.data] G (G, "69d087a4d84a754a81cbb38d4307530fe15e50dd9645174c4e30c43f54666b22") G
    FZ (λ_ h=>by cases h) I (λ_ h=>by cases h) Tied.tie_own K ⟨K,K⟩ I K
    (λf fn hf hfn=>by
      obtain rfl:f=5:=zL ((I:B.funcNamed "given.example/pub-waxwright/laws.FnPacked" =E 5).symm.trans hf) |>.symm
      obtain rfl:fn=f5:=(zL (func5.symm.trans hfn)).symm
      exact⟨I,λj t ht=>by
        rw[params5]at ht
        have h3:t=22:=by
          rcases j with _|j
          .simpa using ht.symm
          .simp at ht
        subst h3
        exact(I:B.wantsStandIn 22=A)⟩)
    I
end
end Go.Proofs.YtiggidfngfkanaaGreatDoor
