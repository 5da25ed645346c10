/- Part. -/
import Derived.Test.YtkphbhncpdcbeaaGreatDoorQBD
set_option linter.unusedVariables false
set_option linter.unusedSimpArgs false
set_option maxHeartbeats 8000000
set_option maxRecDepth 100000
namespace Go.Proofs.YtkphbhncpdcbeaaGreatDoor.J
open Go.RowKit YtkphbhncpdcbeaaGreatDoorW.PrintWords YtkphbhncpdcbeaaGreatDoorW.PrintLast YtkphbhncpdcbeaaGreatDoorW.PrintMore PJT
theorem copied_of {w:World} {A:Option Addr} {names:List ByteArray} {c:Nat} (hr:Kd.C Kd.string w A names.length names) (hc:names.length≤c) (hlen:names.length < 8796093022208):
  Calls Tryz.prog 55 #[.slice A names.length c] w fun e w'=>∃ v,e= .returned v∧(∃ A' c',v= .slice A' names.length c'∧(Fact.strs (.slice A' names.length c') names).P w')∧Below w.heap.size w w':=by
 refine (impl_copied.calls A c names names w hr hc (by simp [impl_copied.f,hlen])).mono ?_
 rintro e w' ⟨v,rfl,hR,hb⟩
 obtain ⟨A',c',rfl,_⟩:=Kd.R_reads hR
 exact ⟨_,rfl,⟨A',c',rfl,Kd.R_lower hR (Nat.zero_le _)⟩,hb⟩
theorem evaluated_ok (w w0:World) (l:List Blk) (gs:Nat) (s:Sc) (H:At w0 (.b gs (row (Sc.cells ⟨2020,s.loc,s.bool,s.enum,s.const,s.format,s.req,s.props,s.pats,s.deps,s.dreq,s.dsch,s.pat⟩) 119)::l) w) (hgs:w0.heap.size≤gs):
  Calls Tryz.prog 51 #[.pointer (some ⟨gs,0,none⟩)] w fun e w'=>e= .returned (.tuple #[])∧At w0 (.b gs (row (Sc.cells ⟨2020,s.loc,s.bool,s.enum,s.const,s.format,s.req,s.props,s.pats,s.deps,s.dreq,s.dsch,s.pat⟩) 119)::l) w':=by
 have Ggs:=asd_ hgs
 have HK:=asd_ H
 clear H
 replace Bc:=ce1_ HK 0;replace Bf:=fe1_ HK 0
 go_enter Tryz.func51,Tryz.ntmps51
 go_wp2_with (first|((first|((with_reducible refine gate_ (.store 4 (.tmp 11) (.tmp 9)) rfl ?_);refine store_at (t:=4) (p:=11) (g:=gs) (i:=0) (v:=bF) 0 (Sc.cells ⟨2020,s.loc,s.bool,s.enum,s.const,s.format,s.req,s.props,s.pats,s.deps,s.dreq,s.dsch,s.pat⟩) rfl at_ rfl Ggs.out rfl rfl rfl rfl gs_ ?_)|((with_reducible refine gate_ (.store 4 (.tmp 50) (.tmp 48)) rfl ?_);refine store_at (t:=4) (p:=50) (g:=gs) (i:=1) (v:=bF) 0 (Sc.cells ⟨2020,s.loc,s.bool,s.enum,s.const,s.format,s.req,s.props,s.pats,s.deps,s.dreq,s.dsch,s.pat⟩) rfl at_ rfl Ggs.out rfl rfl rfl rfl gs_ ?_)|((with_reducible refine gate_ (.store 3 (.tmp 58) (.tmp 56)) rfl ?_);refine store_at (t:=3) (p:=58) (g:=gs) (i:=2) (v:=i0) 0 (Sc.cells ⟨2020,s.loc,s.bool,s.enum,s.const,s.format,s.req,s.props,s.pats,s.deps,s.dreq,s.dsch,s.pat⟩) rfl at_ rfl Ggs.out rfl rfl rfl rfl gs_ ?_));intro ws1 HK1;replace HK:=asd_ HK1;clear HK1;replace Bc:=ce1_ HK 0;replace Bf:=fe1_ HK 0))
 go_end0
 exact ⟨rfl,HK.out⟩
end Go.Proofs.YtkphbhncpdcbeaaGreatDoor.J
