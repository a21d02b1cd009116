/- FnReadSelections: the row, for every input, in every world in which Go's two tables of UTF-8 read as the row lists them; and the card, by the given tie. No other condition. -/
import Derived.Test.YthgcghpcikbnkaaGreatDoorRows
import Derived.Test.YthgcghpcikbnkaaGreatDoorCards
import Derived.Test.YthgcghpcikbnkaaGreatDoorTie
import Derived.Test.YthgcghpcikbnkaaGreatDoorC43
import Derived.WalkKit
import Derived.ProofKit
import Derived.OpenShut
import Derived.ShutString
import Derived.ChangeOld
import Derived.Below
import Derived.SizedLaws
import Derived.Handed
import Derived.LaidLaws
import Derived.MakeChecks
import Derived.Lay
import Derived.Lib.LaidIn
import Derived.Lib.LaidU8T
import Derived.SevenTiedAt
namespace Go.Proofs.YthgcghpcikbnkaaGreatDoor.fnReadSelections
open Go.ChangeShapes Go.WideShapes Go.ChangeAt Go.RowKit Go.Shelf Go.Lib
open Go.ChangeMaps (open_string shut_string)
set_option linter.unusedVariables false
theorem own:ownKnob Tryz.prog.godebug=none:=by kernel_rfl
def u8Ren:Go.Shelf.Ren:=⟨fun n=>n,fun | 5=>5 | 119=>289 | 138=>291 | 139=>292 | n=>n,fun | 3=>0 | 4=>1 | n=>n⟩
theorem u8Types:U8Types Tryz.prog u8Ren:=⟨by kernel_rfl,by kernel_rfl,by kernel_rfl,by kernel_rfl⟩
theorem u8Extra:U8Extra Tryz.prog u8Ren:=⟨by kernel_rfl,by kernel_rfl,by kernel_rfl,by kernel_rfl,by kernel_rfl,by kernel_rfl,by kernel_rfl⟩
/-- What the row's list gives a walk: the two tables. -/
theorem glob_of {W:World} (h:laidMetH Tryz.prog Rows.fnReadSelectionsRow.laid W):Glob W:=by
  rw [Go.MakeChecks.laidMetH_plain _ _ _ (by kernel_rfl)] at h
  have eF:Rows.laid_unicode_utf8_first=Lib.firstData:=by kernel_rfl
  have eA:(Rows.laid_unicode_utf8_acceptRanges:DataW Unit)=Lib.acceptData:=by kernel_rfl
  have hF := Lib.laidMet.reads (n := "unicode/utf8.first") (d := Rows.laid_unicode_utf8_first) h (.tail _ (.tail _ (.head _)))
  have hA := Lib.laidMet.reads (n := "unicode/utf8.acceptRanges") (d := Rows.laid_unicode_utf8_acceptRanges) h (.head _)
  rw [eF] at hF
  rw [eA] at hA
  exact utf8Tabs_of_readsT u8Types u8Extra hF hA
/-- The witness: the listed variables lie as their data. -/
noncomputable def laidWorld (os:Os):World:=World.laidAll Tryz.prog os Rows.fnReadSelectionsRow.laid
theorem laidWorld_met (os:Os) (args:Array Value):laidMetH Tryz.prog Rows.fnReadSelectionsRow.laid ((laidWorld os).forCall (fun _ _=>0) ⟨#[],args,[]⟩).memory:=by
  rw [Go.MakeChecks.laidMetH_plain _ _ _ (by kernel_rfl)]
  exact laidMet_laidAll args (by kernel_rfl) (by kernel_rfl)
theorem laidWorld_shaped (os:Os):((laidWorld os).forCall (fun _ _=>0) ⟨#[],#[.string ByteArray.empty],[]⟩).Shaped Tryz.prog:=World.shaped_of_ZipB (by kernel_rfl) (by kernel_rfl)
set_option maxRecDepth 100000 in
theorem lifted (os:Os) (started:os.Started) (H:Type) (enc:TypeId × Value→H) :
    ReturnsInHanded {} Tryz.checked os 4 .any (fun w args=>(Rows.fnReadSelectionsSpec.pre enc Tryz.prog Tryz.f4 Rows.fnReadSelectionsRow.domain false w args∧laidMetH Tryz.prog Rows.fnReadSelectionsRow.laid w)∧sizedMet enc Tryz.prog Tryz.f4 (OpenSpec.ofChange Rows.fnReadSelectionsSpec) false w args)
      (Rows.fnReadSelectionsSpec.post enc Tryz.prog Tryz.f4 false true false false):=by
  refine returnsInHanded_of_change_and (C:=Tryz.checked) (X:=fun w _=>laidMetH Tryz.prog Rows.fnReadSelectionsRow.laid w) (fun _ _ _ hh h=>h.of_heap hh) own started (by kernel_rfl) Tryz.func4
    (ChangeSpec.witness_shaped (enc:=enc) (C:=Tryz.checked) (os:=os) (X:=fun w _=>laidMetH Tryz.prog Rows.fnReadSelectionsRow.laid w) false (laidWorld os) #[.string ByteArray.empty] 8 (World.laidAll_os _ _ _) (laidWorld_shaped os) (by kernel_rfl) (by kernel_rfl) (by kernel_rfl) (laidWorld_met os _)) ?_
  intro W base args ds gs before hval0 hW hcnd hsz0 hL _
  have hsz:(DataW.weightsEach Tryz.prog (Tryz.f4.params.toList++Rows.fnReadSelectionsSpec.plain.varTypes Tryz.prog) (ds++gs)).all (·≤reachBytes)=true:=hsz0
  have hval:∀ (j:Nat) t v,Tryz.f4.params[j]?=some t→args[j]?=some v→Value.okWide Tryz.prog W .any base t v:=hval0
  have hW':=hW
  obtain ⟨p,q,hA0,hV,rfl,hfz,hnd⟩:=hW
  have hA:DataW.TrodAll enc Tryz.prog W 0 (fun _=>true) true Tryz.f4.params.toList args.toList ds p:=hA0
  rw [Tryz.params4] at hA hval hsz
  obtain ⟨v0,vs0,d0,ds0,p0,q0,hargs,rfl,rfl,h0,r0⟩:=trodAll_cons hA
  obtain ⟨rfl,rfl,rfl⟩:=trodAll_nil r0
  obtain rfl:args=#[v0]:=by cases args;simp_all
  obtain ⟨rfl,rfl⟩:=trodVars_none hV
  obtain ⟨a0,rfl,rfl,rfl,y0⟩:=open_string Tryz.underlying9 (hval 0 9 v0 rfl rfl) h0
  have w0:a0.size≤140737488351232:=by
    have z:=sized_string hsz (j:=0) (t:=9) rfl rfl
    rw [Array.length_toList] at z
    exact z
  clear hA0 hval0 hsz0 hsz
  refine (R.law_walkS a0 W (glob_of hL)).mono fun e W' ⟨he,bel⟩=>?_
  subst he
  exact ⟨_,rfl,_,_,_,[],_,[],hW',trodAll_mk1 (shut_bool Tryz.underlying4 _),(trodAll_cons_mk (shut_string Tryz.underlying9 y0) trodAll_mk0),rfl,bel.frame _,fun h=>by cases h⟩
theorem over:Rows.fnReadSelectionsRow.holds Tryz.pinned (OpenSpec.ofChange Rows.fnReadSelectionsSpec) :=
  OpenClaim.holds_of_wide 4 Tryz.f4 rfl rfl rfl rfl rfl rfl rfl ⟨rfl,rfl,rfl,rfl,rfl⟩ rfl rfl rfl rfl rfl (by kernel_rfl) Tryz.func4 (by kernel_rfl)
    (of_decide_eq_true (by kernel_rfl)) (by unfold Func.isWrapper;first | (rw [if_pos (by decide +kernel)];kernel_rfl) | (rw [if_neg (by decide +kernel)];exact ⟨rfl,rfl⟩))
    (fun os started H enc _=>lifted os started H enc)
theorem proved:Rows.FnReadSelectionsSaid:=over
theorem card:Rows.FnReadSelectionsCardSaid :=
  Claim7.holds_tied_plain_at .later [] [.data, .sentinel, .pinned] true (true, "86ac901a377b4eef047a184786c63845c0bd0bff9b5e05fb1f6e49f1e059b1c7") true
    proved (fun _ h=>by cases h) (by kernel_rfl) (fun _ h=>by cases h) fnReadSelections_row_tie rfl ⟨rfl,rfl⟩ (by kernel_rfl) rfl
    (fun f fn hf hfn=>by
      obtain rfl : f = 4 := Option.some.inj ((show Tryz.prog.funcNamed "given.example/pub-versicle/laws.FnReadSelections" = some 4 by kernel_rfl).symm.trans hf) |>.symm
      obtain rfl:fn=Tryz.f4:=(Option.some.inj (Tryz.func4.symm.trans hfn)).symm
      exact ⟨by kernel_rfl,fun j t ht=>by
        rw [Tryz.params4] at ht
        have h3:t=9:=by
          rcases j with _ | j
          · simpa using ht.symm
          · simp at ht
        subst h3
        exact (show Tryz.prog.wantsStandIn 9=false by kernel_rfl)⟩)
    (by kernel_rfl)
end Go.Proofs.YthgcghpcikbnkaaGreatDoor.fnReadSelections
namespace Go.Proofs.YthgcghpcikbnkaaGreatDoor
/-- The card, under a short name, for the claim. -/
theorem fnReadSelections_holds:Rows.FnReadSelectionsCardSaid:=fnReadSelections.card
end Go.Proofs.YthgcghpcikbnkaaGreatDoor
