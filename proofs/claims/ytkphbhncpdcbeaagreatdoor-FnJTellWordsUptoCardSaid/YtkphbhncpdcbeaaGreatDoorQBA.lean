/- Part. -/
import Derived.Test.YtkphbhncpdcbeaaGreatDoorQAT
set_option linter.unusedVariables false
set_option linter.unusedSimpArgs false
set_option maxHeartbeats 8000000
set_option maxRecDepth 100000
namespace Go.Proofs.YtkphbhncpdcbeaaGreatDoor.J
open Go.RowKit YtkphbhncpdcbeaaGreatDoorW.PrintWords YtkphbhncpdcbeaaGreatDoorW.PrintLast YtkphbhncpdcbeaaGreatDoorW.PrintMore PJT
theorem results_tmp4 {fn:Func} {t u v x:Tmp} (h:fn.results=#[.tmp t,.tmp u,.tmp v,.tmp x]) (tmps:Array Value) (P:Program) (w:World):
  (results fn tmps).run P w= .ok (.tuple #[tmps.getD t undef,tmps.getD u undef,tmps.getD v undef,tmps.getD x undef]) w:=by
 simp [results,h]
theorem copied_ok {w:World} {A:Option Addr} {names:List ByteArray} {c:Nat} (hr:Kd.C Kd.string w A names.length names) (hc:names.length≤c) (hlen:names.length < 8796093022208):
  Calls Tryz.prog 55 #[.slice A names.length c] w fun e w'=>∃ v,e= .returned v∧(∃ A' c',v= .slice A' names.length c'∧(Fact.strs (.slice A' names.length c') names).P w')∧Below w.heap.size w w':=by
 refine (impl_copied.calls A c names names w hr hc (by simp [impl_copied.f,hlen])).mono ?_
 rintro e w' ⟨v,rfl,hR,hb⟩
 obtain ⟨A',c',rfl,_⟩:=Kd.R_reads hR
 exact ⟨_,rfl,⟨A',c',rfl,Kd.R_lower hR (Nat.zero_le _)⟩,hb⟩
theorem reads_nil (W:World):Kd.C Kd.string W none 0 ([]:List ByteArray):=⟨rfl,by omega,fun h=>absurd h (Nat.lt_irrefl _)⟩
theorem tk_false_190 (v:Value) (W:World):(Instr.typeAssert (.iface 267 v) 126 190 true).run Tryz.prog W= .ok (.tuple #[.pointer none,.bool false]) W:=by kernel_rfl
theorem tk_false_193 (v:Value) (W:World):(Instr.typeAssert (.iface 267 v) 126 193 true).run Tryz.prog W= .ok (.tuple #[.pointer none,.bool false]) W:=by kernel_rfl
theorem tk_false_196 (v:Value) (W:World):(Instr.typeAssert (.iface 267 v) 126 196 true).run Tryz.prog W= .ok (.tuple #[.pointer none,.bool false]) W:=by kernel_rfl
theorem tk_false_199 (v:Value) (W:World):(Instr.typeAssert (.iface 267 v) 126 199 true).run Tryz.prog W= .ok (.tuple #[.pointer none,.bool false]) W:=by kernel_rfl
theorem tk_false_201 (v:Value) (W:World):(Instr.typeAssert (.iface 267 v) 126 201 true).run Tryz.prog W= .ok (.tuple #[.pointer none,.bool false]) W:=by kernel_rfl
theorem tk_false_205 (v:Value) (W:World):(Instr.typeAssert (.iface 267 v) 126 205 true).run Tryz.prog W= .ok (.tuple #[.pointer none,.bool false]) W:=by kernel_rfl
theorem tk_false_208 (v:Value) (W:World):(Instr.typeAssert (.iface 267 v) 126 208 true).run Tryz.prog W= .ok (.tuple #[.pointer none,.bool false]) W:=by kernel_rfl
theorem tk_false_211 (v:Value) (W:World):(Instr.typeAssert (.iface 267 v) 126 211 true).run Tryz.prog W= .ok (.tuple #[.pointer none,.bool false]) W:=by kernel_rfl
theorem tk_false_215 (v:Value) (W:World):(Instr.typeAssert (.iface 267 v) 126 215 true).run Tryz.prog W= .ok (.tuple #[.pointer none,.bool false]) W:=by kernel_rfl
theorem tk_false_219 (v:Value) (W:World):(Instr.typeAssert (.iface 267 v) 126 219 true).run Tryz.prog W= .ok (.tuple #[.pointer none,.bool false]) W:=by kernel_rfl
theorem tk_false_222 (v:Value) (W:World):(Instr.typeAssert (.iface 267 v) 126 222 true).run Tryz.prog W= .ok (.tuple #[.pointer none,.bool false]) W:=by kernel_rfl
theorem tk_false_225 (v:Value) (W:World):(Instr.typeAssert (.iface 267 v) 126 225 true).run Tryz.prog W= .ok (.tuple #[.pointer none,.bool false]) W:=by kernel_rfl
theorem tk_false_298 (v:Value) (W:World):(Instr.typeAssert (.iface 267 v) 126 298 true).run Tryz.prog W= .ok (.tuple #[.pointer none,.bool false]) W:=by kernel_rfl
theorem tk_false_301 (v:Value) (W:World):(Instr.typeAssert (.iface 267 v) 126 301 true).run Tryz.prog W= .ok (.tuple #[.pointer none,.bool false]) W:=by kernel_rfl
theorem tk_false_303 (v:Value) (W:World):(Instr.typeAssert (.iface 267 v) 126 303 true).run Tryz.prog W= .ok (.tuple #[.pointer none,.bool false]) W:=by kernel_rfl
theorem tk_false_305 (v:Value) (W:World):(Instr.typeAssert (.iface 267 v) 126 305 true).run Tryz.prog W= .ok (.tuple #[.pointer none,.bool false]) W:=by kernel_rfl
theorem tk_false_307 (v:Value) (W:World):(Instr.typeAssert (.iface 267 v) 126 307 true).run Tryz.prog W= .ok (.tuple #[.pointer none,.bool false]) W:=by kernel_rfl
theorem tk_false_309 (v:Value) (W:World):(Instr.typeAssert (.iface 267 v) 126 309 true).run Tryz.prog W= .ok (.tuple #[.pointer none,.bool false]) W:=by kernel_rfl
theorem tk_false_275 (v:Value) (W:World):(Instr.typeAssert (.iface 267 v) 126 275 true).run Tryz.prog W= .ok (.tuple #[.pointer none,.bool false]) W:=by kernel_rfl
theorem tk_false_187 (v:Value) (W:World):(Instr.typeAssert (.iface 267 v) 126 187 true).run Tryz.prog W= .ok (.tuple #[.pointer none,.bool false]) W:=by kernel_rfl
theorem tk_false_185 (v:Value) (W:World):(Instr.typeAssert (.iface 267 v) 126 185 true).run Tryz.prog W= .ok (.tuple #[.pointer none,.bool false]) W:=by kernel_rfl
theorem tk_false_311 (v:Value) (W:World):(Instr.typeAssert (.iface 267 v) 126 311 true).run Tryz.prog W= .ok (.tuple #[.pointer none,.bool false]) W:=by kernel_rfl
theorem tk_false_312 (v:Value) (W:World):(Instr.typeAssert (.iface 267 v) 126 312 true).run Tryz.prog W= .ok (.tuple #[.pointer none,.bool false]) W:=by kernel_rfl
theorem tk_false_313 (v:Value) (W:World):(Instr.typeAssert (.iface 267 v) 126 313 true).run Tryz.prog W= .ok (.tuple #[.pointer none,.bool false]) W:=by kernel_rfl
theorem tk_false_267 (v:Value) (W:World):(Instr.typeAssert (.iface 267 v) 126 267 true).run Tryz.prog W= .ok (.tuple #[v,.bool true]) W:=by kernel_rfl
theorem tk_schema_190 (v:Value) (W:World):(Instr.typeAssert (.iface 187 v) 126 190 true).run Tryz.prog W= .ok (.tuple #[.pointer none,.bool false]) W:=by kernel_rfl
theorem tk_schema_193 (v:Value) (W:World):(Instr.typeAssert (.iface 187 v) 126 193 true).run Tryz.prog W= .ok (.tuple #[.pointer none,.bool false]) W:=by kernel_rfl
theorem tk_schema_196 (v:Value) (W:World):(Instr.typeAssert (.iface 187 v) 126 196 true).run Tryz.prog W= .ok (.tuple #[.pointer none,.bool false]) W:=by kernel_rfl
theorem tk_schema_199 (v:Value) (W:World):(Instr.typeAssert (.iface 187 v) 126 199 true).run Tryz.prog W= .ok (.tuple #[.pointer none,.bool false]) W:=by kernel_rfl
theorem tk_schema_201 (v:Value) (W:World):(Instr.typeAssert (.iface 187 v) 126 201 true).run Tryz.prog W= .ok (.tuple #[.pointer none,.bool false]) W:=by kernel_rfl
theorem tk_schema_205 (v:Value) (W:World):(Instr.typeAssert (.iface 187 v) 126 205 true).run Tryz.prog W= .ok (.tuple #[.pointer none,.bool false]) W:=by kernel_rfl
theorem tk_schema_208 (v:Value) (W:World):(Instr.typeAssert (.iface 187 v) 126 208 true).run Tryz.prog W= .ok (.tuple #[.pointer none,.bool false]) W:=by kernel_rfl
theorem tk_schema_211 (v:Value) (W:World):(Instr.typeAssert (.iface 187 v) 126 211 true).run Tryz.prog W= .ok (.tuple #[.pointer none,.bool false]) W:=by kernel_rfl
theorem tk_schema_215 (v:Value) (W:World):(Instr.typeAssert (.iface 187 v) 126 215 true).run Tryz.prog W= .ok (.tuple #[.pointer none,.bool false]) W:=by kernel_rfl
theorem tk_schema_219 (v:Value) (W:World):(Instr.typeAssert (.iface 187 v) 126 219 true).run Tryz.prog W= .ok (.tuple #[.pointer none,.bool false]) W:=by kernel_rfl
theorem tk_schema_222 (v:Value) (W:World):(Instr.typeAssert (.iface 187 v) 126 222 true).run Tryz.prog W= .ok (.tuple #[.pointer none,.bool false]) W:=by kernel_rfl
theorem tk_schema_225 (v:Value) (W:World):(Instr.typeAssert (.iface 187 v) 126 225 true).run Tryz.prog W= .ok (.tuple #[.pointer none,.bool false]) W:=by kernel_rfl
theorem tk_schema_298 (v:Value) (W:World):(Instr.typeAssert (.iface 187 v) 126 298 true).run Tryz.prog W= .ok (.tuple #[.pointer none,.bool false]) W:=by kernel_rfl
theorem tk_schema_301 (v:Value) (W:World):(Instr.typeAssert (.iface 187 v) 126 301 true).run Tryz.prog W= .ok (.tuple #[.pointer none,.bool false]) W:=by kernel_rfl
theorem tk_schema_303 (v:Value) (W:World):(Instr.typeAssert (.iface 187 v) 126 303 true).run Tryz.prog W= .ok (.tuple #[.pointer none,.bool false]) W:=by kernel_rfl
theorem tk_schema_305 (v:Value) (W:World):(Instr.typeAssert (.iface 187 v) 126 305 true).run Tryz.prog W= .ok (.tuple #[.pointer none,.bool false]) W:=by kernel_rfl
theorem tk_schema_307 (v:Value) (W:World):(Instr.typeAssert (.iface 187 v) 126 307 true).run Tryz.prog W= .ok (.tuple #[.pointer none,.bool false]) W:=by kernel_rfl
theorem tk_schema_309 (v:Value) (W:World):(Instr.typeAssert (.iface 187 v) 126 309 true).run Tryz.prog W= .ok (.tuple #[.pointer none,.bool false]) W:=by kernel_rfl
theorem tk_schema_275 (v:Value) (W:World):(Instr.typeAssert (.iface 187 v) 126 275 true).run Tryz.prog W= .ok (.tuple #[.pointer none,.bool false]) W:=by kernel_rfl
theorem tk_schema_187 (v:Value) (W:World):(Instr.typeAssert (.iface 187 v) 126 187 true).run Tryz.prog W= .ok (.tuple #[v,.bool true]) W:=by kernel_rfl
theorem tv_76 (v:Value) (W:World):(Instr.typeAssert (.iface 76 v) 79 76 false).run Tryz.prog W= .ok v W:=by kernel_rfl
theorem tv_76t (v:Value) (W:World):(Instr.typeAssert (.iface 76 v) 79 76 true).run Tryz.prog W= .ok (.tuple #[v,.bool true]) W:=by kernel_rfl
theorem tv_nilt (W:World):(Instr.typeAssert .nilIface 79 76 true).run Tryz.prog W= .ok (.tuple #[.pointer none,.bool false]) W:=by kernel_rfl
end Go.Proofs.YtkphbhncpdcbeaaGreatDoor.J
namespace Go.Proofs.YtkphbhncpdcbeaaGreatDoor.J
open Go.RowKit YtkphbhncpdcbeaaGreatDoorW.PrintWords YtkphbhncpdcbeaaGreatDoorW.PrintLast YtkphbhncpdcbeaaGreatDoorW.PrintMore PJT
attribute [local go_sem] tk_false_190 tk_false_193 tk_false_196 tk_false_199 tk_false_201 tk_false_205 tk_false_208 tk_false_211 tk_false_215 tk_false_219 tk_false_222 tk_false_225 tk_false_298 tk_false_301 tk_false_303 tk_false_305 tk_false_307 tk_false_309 tk_false_275 tk_false_187 tk_false_185 tk_false_311 tk_false_312 tk_false_313 tk_false_267 tk_schema_190 tk_schema_193 tk_schema_196 tk_schema_199 tk_schema_201 tk_schema_205 tk_schema_208 tk_schema_211 tk_schema_215 tk_schema_219 tk_schema_222 tk_schema_225 tk_schema_298 tk_schema_301 tk_schema_303 tk_schema_305 tk_schema_307 tk_schema_309 tk_schema_275 tk_schema_187 tv_76 tv_76t tv_nilt
theorem count_false (w:World) (gk:Nat):
  Calls Tryz.prog 102 #[.iface 267 (.pointer (some ⟨gk,0,none⟩))] w (rb (.tuple #[eS,i0,i0,bF]) w):=by
 have HK:=st0_ w
 go_enter Tryz.func102,Tryz.ntmps102
 go_wp2_with fail
 ((try simp only [Exit.inBlock,Exit.then]);refine bodyPost_ret (results_tmp4 rfl _ _ _) rfl ?_)
 exact ⟨rfl,be_⟩
theorem count_schema (w:World) (gk:Nat):
  Calls Tryz.prog 102 #[.iface 187 (.pointer (some ⟨gk,0,none⟩))] w (rb (.tuple #[eS,i0,i0,bF]) w):=by
 have HK:=st0_ w
 go_enter Tryz.func102,Tryz.ntmps102
 go_wp2_with fail
 ((try simp only [Exit.inBlock,Exit.then]);refine bodyPost_ret (results_tmp4 rfl _ _ _) rfl ?_)
 exact ⟨rfl,be_⟩
theorem plain_false (w:World) (gk:Nat):
  Calls Tryz.prog 103 #[.iface 267 (.pointer (some ⟨gk,0,none⟩))] w (rb (.string ⟨#[70,97,108,115,101,83,99,104,101,109,97]⟩) w):=by
 have HK:=st0_ w
 go_enter Tryz.func103,Tryz.ntmps103
 go_wp2_with fail
 go_ret
 exact ⟨rfl,be_⟩
theorem plain_schema (w:World) (gk:Nat):
  Calls Tryz.prog 103 #[.iface 187 (.pointer (some ⟨gk,0,none⟩))] w (rb (.string ⟨#[83,99,104,101,109,97]⟩) w):=by
 have HK:=st0_ w
 go_enter Tryz.func103,Tryz.ntmps103
 go_wp2_with fail
 go_ret
 exact ⟨rfl,be_⟩
theorem path_false (w:World) (gk:Nat):
  Calls Tryz.prog 254 #[.pointer (some ⟨gk,0,none⟩)] w fun e w'=>∃ A c,e= .returned (.slice A 0 c)∧0≤c∧Kd.C Kd.string w' A 0 ([]:List ByteArray)∧Below w.heap.size w w':=by
 have HK:=st0_ w
 go_enter Tryz.func254,Tryz.ntmps254
 go_wp2_with fail
 go_ret
 exact ⟨_,_,rfl,Nat.le_refl _,reads_nil _,be_⟩
theorem path_schema (w:World) (gk:Nat):
  Calls Tryz.prog 241 #[.pointer (some ⟨gk,0,none⟩)] w fun e w'=>∃ A c,e= .returned (.slice A 0 c)∧0≤c∧Kd.C Kd.string w' A 0 ([]:List ByteArray)∧Below w.heap.size w w':=by
 have HK:=st0_ w
 go_enter Tryz.func241,Tryz.ntmps241
 go_wp2_with fail
 go_ret
 exact ⟨_,_,rfl,Nat.le_refl _,reads_nil _,be_⟩
theorem kind_false (w:World) (gk:Nat):
  Calls Tryz.prog 56 #[.iface 267 (.pointer (some ⟨gk,0,none⟩))] w (rb (.tuple #[.string ⟨#[70,97,108,115,101,83,99,104,101,109,97]⟩,eS,nilS,nilS]) w):=by
 have HK:=st0_ w
 go_enter Tryz.func56,Tryz.ntmps56
 go_wp2_with (first|((first|((with_reducible refine gd_ 151 ?_);refine cl_ #[.iface 267 (.pointer (some ⟨gk,0,none⟩))] (.tuple #[eS,i0,i0,bF]) Tryz.func102 (count_false _ gk) ?_)|((with_reducible refine gd_ 162 ?_);refine cl_ #[.iface 267 (.pointer (some ⟨gk,0,none⟩))] (.string ⟨#[70,97,108,115,101,83,99,104,101,109,97]⟩) Tryz.func103 (plain_false _ gk) ?_));intro wc151 HK1;replace HK:=asd_ HK1;clear HK1;skip))
 ((try simp only [Exit.inBlock,Exit.then]);refine bodyPost_ret (results_tmp4 rfl _ _ _) rfl ?_)
 exact ⟨rfl,be_⟩
theorem kind_schema (w:World) (gk:Nat):
  Calls Tryz.prog 56 #[.iface 187 (.pointer (some ⟨gk,0,none⟩))] w (rb (.tuple #[.string ⟨#[83,99,104,101,109,97]⟩,eS,nilS,nilS]) w):=by
 have HK:=st0_ w
 go_enter Tryz.func56,Tryz.ntmps56
 go_wp2_with (first|((first|((with_reducible refine gd_ 151 ?_);refine cl_ #[.iface 187 (.pointer (some ⟨gk,0,none⟩))] (.tuple #[eS,i0,i0,bF]) Tryz.func102 (count_schema _ gk) ?_)|((with_reducible refine gd_ 162 ?_);refine cl_ #[.iface 187 (.pointer (some ⟨gk,0,none⟩))] (.string ⟨#[83,99,104,101,109,97]⟩) Tryz.func103 (plain_schema _ gk) ?_));intro wc151 HK1;replace HK:=asd_ HK1;clear HK1;skip))
 ((try simp only [Exit.inBlock,Exit.then]);refine bodyPost_ret (results_tmp4 rfl _ _ _) rfl ?_)
 exact ⟨rfl,be_⟩
end Go.Proofs.YtkphbhncpdcbeaaGreatDoor.J
namespace Go.Proofs.YtkphbhncpdcbeaaGreatDoor.J
open Go.RowKit YtkphbhncpdcbeaaGreatDoorW.PrintWords YtkphbhncpdcbeaaGreatDoorW.PrintLast YtkphbhncpdcbeaaGreatDoorW.PrintMore PJT
theorem len64_0 (w:World):Calls Tryz.prog 162 #[.int .u64 0] w (rb (.int .i64 0) w):=by
 have HK:=st0_ w
 go_enter Tryz.func162,Tryz.ntmps162
 go_wp2_with fail
 go_ret
 exact ⟨by kernel_rfl,be_⟩
theorem len_0 (w:World):Calls Tryz.prog 105 #[.int .u64 0] w (rb (.int .i64 0) w):=by
 have HK:=st0_ w
 go_enter Tryz.func105,Tryz.ntmps105
 go_wp2_with (first|((with_reducible refine gd_ 7 ?_);refine cl_ #[.int .u64 0] (.int .i64 0) Tryz.func162 (len64_0 _) ?_;intro wc7 HK1;replace HK:=asd_ HK1;clear HK1;skip))
 go_ret
 exact ⟨rfl,be_⟩
theorem insert_0 (w:World) (A:Option Addr) (c:Nat) (fv:Value):Calls Tryz.prog 153 #[.slice A 0 c,i0,.int .i64 0,fv] w (rb (.tuple #[]) w):=by
 have HK:=st0_ w
 go_enter Tryz.func153,Tryz.ntmps153
 go_wp2_with fail
 refine wp_loop_once ?_
 go_wp2_with fail
 go_end0
 exact ⟨rfl,be_⟩
theorem pdq_0 (w:World) (A:Option Addr) (c:Nat) (fv:Value):Calls Tryz.prog 104 #[.slice A 0 c,i0,.int .i64 0,.int .i64 0,fv] w (rb (.tuple #[]) w):=by
 have HK:=st0_ w
 go_enter Tryz.func104,Tryz.ntmps104
 go_wp2_with (first|((with_reducible refine gd_ 30 ?_);refine cl_ #[.slice A 0 c,i0,.int .i64 0,fv] (.tuple #[]) Tryz.func153 (insert_0 _ A c fv) ?_;intro wc30 HK1;replace HK:=asd_ HK1;clear HK1;skip))
 refine wp_loop_once ?_
 go_wp2_with (first|((with_reducible refine gd_ 30 ?_);refine cl_ #[.slice A 0 c,i0,.int .i64 0,fv] (.tuple #[]) Tryz.func153 (insert_0 _ A c fv) ?_;intro wc30 HK1;replace HK:=asd_ HK1;clear HK1;skip))
 go_frame
 ((try simp only [Exit.inBlock,Exit.then]);refine bodyPost_ret (results_none rfl _ _ _) rfl ?_)
 exact ⟨rfl,be_⟩
theorem sort_0 (w:World) (A:Option Addr) (c:Nat) (fv:Value):Calls Tryz.prog 57 #[.slice A 0 c,fv] w (rb (.tuple #[]) w):=by
 have HK:=st0_ w
 go_enter Tryz.func57,Tryz.ntmps57
 go_wp2_with (first|((first|((with_reducible refine gd_ 11 ?_);refine cl_ #[.int .u64 0] (.int .i64 0) Tryz.func105 (len_0 _) ?_)|((with_reducible refine gd_ 13 ?_);refine cl_ #[.slice A 0 c,i0,.int .i64 0,.int .i64 0,fv] (.tuple #[]) Tryz.func104 (pdq_0 _ A c fv) ?_));intro wc11 HK1;replace HK:=asd_ HK1;clear HK1;skip))
 go_end0
 exact ⟨rfl,be_⟩
theorem len64_1 (w:World):Calls Tryz.prog 162 #[.int .u64 1] w (rb (.int .i64 1) w):=by
 have HK:=st0_ w
 go_enter Tryz.func162,Tryz.ntmps162
 go_wp2_with fail
 go_ret
 exact ⟨by kernel_rfl,be_⟩
theorem len_1 (w:World):Calls Tryz.prog 105 #[.int .u64 1] w (rb (.int .i64 1) w):=by
 have HK:=st0_ w
 go_enter Tryz.func105,Tryz.ntmps105
 go_wp2_with (first|((with_reducible refine gd_ 7 ?_);refine cl_ #[.int .u64 1] (.int .i64 1) Tryz.func162 (len64_1 _) ?_;intro wc7 HK1;replace HK:=asd_ HK1;clear HK1;skip))
 go_ret
 exact ⟨rfl,be_⟩
theorem insert_1 (w:World) (A:Option Addr) (c:Nat) (fv:Value):Calls Tryz.prog 153 #[.slice A 1 c,i0,.int .i64 1,fv] w (rb (.tuple #[]) w):=by
 have HK:=st0_ w
 go_enter Tryz.func153,Tryz.ntmps153
 go_wp2_with fail
 refine wp_loop_once ?_
 go_wp2_with fail
 go_end0
 exact ⟨rfl,be_⟩
theorem pdq_1 (w:World) (A:Option Addr) (c:Nat) (fv:Value):Calls Tryz.prog 104 #[.slice A 1 c,i0,.int .i64 1,.int .i64 1,fv] w (rb (.tuple #[]) w):=by
 have HK:=st0_ w
 go_enter Tryz.func104,Tryz.ntmps104
 go_wp2_with (first|((with_reducible refine gd_ 30 ?_);refine cl_ #[.slice A 1 c,i0,.int .i64 1,fv] (.tuple #[]) Tryz.func153 (insert_1 _ A c fv) ?_;intro wc30 HK1;replace HK:=asd_ HK1;clear HK1;skip))
 refine wp_loop_once ?_
 go_wp2_with (first|((with_reducible refine gd_ 30 ?_);refine cl_ #[.slice A 1 c,i0,.int .i64 1,fv] (.tuple #[]) Tryz.func153 (insert_1 _ A c fv) ?_;intro wc30 HK1;replace HK:=asd_ HK1;clear HK1;skip))
 go_frame
 ((try simp only [Exit.inBlock,Exit.then]);refine bodyPost_ret (results_none rfl _ _ _) rfl ?_)
 exact ⟨rfl,be_⟩
theorem sort_1 (w:World) (A:Option Addr) (c:Nat) (fv:Value):Calls Tryz.prog 57 #[.slice A 1 c,fv] w (rb (.tuple #[]) w):=by
 have HK:=st0_ w
 go_enter Tryz.func57,Tryz.ntmps57
 go_wp2_with (first|((first|((with_reducible refine gd_ 11 ?_);refine cl_ #[.int .u64 1] (.int .i64 1) Tryz.func105 (len_1 _) ?_)|((with_reducible refine gd_ 13 ?_);refine cl_ #[.slice A 1 c,i0,.int .i64 1,.int .i64 1,fv] (.tuple #[]) Tryz.func104 (pdq_1 _ A c fv) ?_));intro wc11 HK1;replace HK:=asd_ HK1;clear HK1;skip))
 go_end0
 exact ⟨rfl,be_⟩
end Go.Proofs.YtkphbhncpdcbeaaGreatDoor.J
namespace Go.Proofs.YtkphbhncpdcbeaaGreatDoor.J
open Go.RowKit YtkphbhncpdcbeaaGreatDoorW.PrintWords YtkphbhncpdcbeaaGreatDoorW.PrintLast YtkphbhncpdcbeaaGreatDoorW.PrintMore PJT
theorem clone_ok (w:World) (ad:Addr) (c:Nat) (l0:List ByteArray) (hr:Kd.C Kd.string w (some ad) l0.length l0) (hl:l0.length < 8796093022208):
  Calls Tryz.prog 207 #[.slice (some ad) l0.length c] w fun e w'=>∃ v,e= .returned v∧(Fact.strs v l0).P w'∧Below w.heap.size w w':=by
 have hne:∀ W:World,(binOp BinOp.eql 22 (Value.slice (some ad) l0.length c) (Value.slice none 0 0)).run Tryz.prog W= .ok (.bool false) W:=fun W=>by first|rfl|kernel_rfl|simp [binOp,go_sem]
 have HB:=asd_ (Below.refl w.heap.size w)
 have HR0:=asd_ hr
 clear hr
 go_enter Tryz.func207,Tryz.ntmps207
 go_wp2_with (first|((with_reducible refine gd_ 5 ?_);refine Kd.R_lit Kd.string _ 9 ?hg (N:=5) ?hd (xs:=([]:List ByteArray)) (inner:=[]) (ok:=fun _=>True) (okp:=fun _=>True) ?hr ?hp (fun _ hk=>hk) trivial (Below.refl _ _) (Nat.le_refl _) (by simp) ?_;(case hd=>rfl);(case hg=>rfl);(case hr=>first|(go_simp;done)|(go_simp;rfl));(case hp=>exact (Reps.none _ _));intro v181 w3 ho4 hb hg_ hnew_;clear hg_ hnew_;have n0_:=asd_ (Kd.R_lower ho4 (below_size HB.out));have n1_:=asd_ (below_step HB.out hb);clear HB;have HO182:=n0_;have HB:=n1_;clear n0_ n1_;clear hb ho4)|((with_reducible refine gate_builtin (b:= .append) (xs:=#[.tmp 5,.tmp 6]) rfl ?_);at_builtin;refine Kd.R_append_rows Kd.string (w0:=w) w.heap.size rfl (.tmp 5) (.tmp 6) 22 9 (.string ⟨#[]⟩) 16 rfl Tryz.underlying22 info9 rfl (by decide) (by omega) v181 ([]:List ByteArray) l0 _ _ _ (fun _=>True) (fun _=>False) rfl rfl ?aO ?aR (fun _ _ h=>h) (fun _ h=>h.elim) ?aF ?aB ?aS ?aL ?_;(case aR=>exact (Kd.C_below HR0.out HB.out));(case aB=>exact HB.out);(case aF=>exact (fun _ _=>trivial));(case aO=>exact HO182.out);(case aS=>exact (below_size HB.out));(case aL=>have:=hl;simp;omega);intro v184 w5 ho hb hg hat;have n0_:=asd_ (hb);have n1_:=asd_ (ho);clear HB;clear HO182;have HB:=n0_;have HO185:=n1_;clear n0_ n1_;clear ho hb hg hat))
 go_ret
 exact ⟨_,rfl,Kd.R_lower HO185.out (Nat.zero_le _),HB.out⟩
end Go.Proofs.YtkphbhncpdcbeaaGreatDoor.J
namespace Go.Proofs.YtkphbhncpdcbeaaGreatDoor.J
open Go.RowKit YtkphbhncpdcbeaaGreatDoorW.PrintWords YtkphbhncpdcbeaaGreatDoorW.PrintLast YtkphbhncpdcbeaaGreatDoorW.PrintMore PJT
theorem place_ok (w:World) (gv:Nat) (vv sp cp up er:Value) (ad:Addr) (c:Nat) (l0:List ByteArray) (hr:Kd.C Kd.string w (some ad) l0.length l0) (hl:l0.length < 8796093022208) (hv:w.heap[gv]? =some (row (#[vv,.slice (some ad) l0.length c,sp,cp,up,er,.bool false]) 182)):
  Calls Tryz.prog 173 #[.pointer (some ⟨gv,0,none⟩)] w fun e w'=>∃ v,e= .returned v∧(Fact.strs v l0).P w'∧Below w.heap.size w w':=by
 have HK:Aside0 (At w [.b gv (row (#[vv,.slice (some ad) l0.length c,sp,cp,up,er,.bool false]) 182)] w):=asd_ (At.hold (At.start w) hv (by simp [nums]))
 replace Bc:=ce1_ HK 0
 go_enter Tryz.func173,Tryz.ntmps173
 go_wp2_with (first|((with_reducible refine gd_ 7 ?_);refine cw_ #[.slice (some ad) l0.length c] Tryz.func207 (clone_ok _ ad c l0 (Kd.C_below hr HK.out.b) hl) ?_;intro v7 wc7 HK0 hF hB;have HK1:=At.fact (Fact.strs v7 l0) HK0 hF;clear HK0 hF hB;replace HK:=asd_ HK1;clear HK1;replace Bc:=ce1_ HK 1))
 go_ret
 exact ⟨_,rfl,HK.out.k.1,HK.out.b⟩
abbrev vec (loc:ByteArray) (A:Option Addr) (c:Nat) (kd ca:Value):Array Value:=#[.string loc,.slice A 0 c,kd,ca]
theorem At.top {w W:World} {g:Nat} {o:Obj} {l:List Blk} (h:At w (.b g o::l) W):W.heap[g]? =some o:=h.k.1
theorem E76:∀ q,q∈76::kPtr.E→datT q=true:=by
 intro q hq
 have:q=76:=by simpa [kPtr,Kd.scalar] using hq
 rw [this];rfl
theorem info76:(Tryz.prog.info? 76).map (fun i=>(i.zero,i.size,i.bytes))=some (some (.pointer none),1,8):=by kernel_rfl
theorem place_nil (w:World) (gv:Nat) (vv:Value) (ad:Addr) (sp cp up er:Value) (hv:w.heap[gv]? =some (row (vdc vv ad sp cp up er) 182)):
  Calls Tryz.prog 173 #[.pointer (some ⟨gv,0,none⟩)] w fun e w'=>∃ A c,e= .returned (.slice A 0 c)∧Below w.heap.size w w':=by
 refine (place_ok w gv vv sp cp up er ad 8 [] ⟨rfl,by simp,fun h=>absurd h (Nat.lt_irrefl _)⟩ (by simp) hv).mono ?_
 rintro e w' ⟨v,rfl,hF,hb⟩
 obtain ⟨A,c,e⟩:=Kd.R_slice (show Kd.R Kd.string 9 _ _ _ v [] from hF)
 exact ⟨A,c,congrArg _ e,hb⟩
theorem error_ok (w:World) (gv gs gk:Nat) (tk:TypeId) (vv:Value) (ad:Addr) (cp up:Value) (s:Sc) (hv:w.heap[gv]? =some (row (vdc vv ad (.pointer (some ⟨gs,0,none⟩)) cp up nilS) 182)) (hS:w.heap[gs]? =some (row s.cells 119)):
  Calls Tryz.prog 136 #[.pointer (some ⟨gv,0,none⟩),.iface tk (.pointer (some ⟨gk,0,none⟩))] w fun e w'=>∃ ge Ae ce,e= .returned (.pointer (some ⟨ge,0,none⟩))∧w'.heap[ge]? =some (row (vec s.loc Ae ce (.iface tk (.pointer (some ⟨gk,0,none⟩))) nilS) 129)∧w.heap.size≤ge∧Below w.heap.size w w':=by
 have HK:Aside0 (At w [.b gv (row (vdc vv ad (.pointer (some ⟨gs,0,none⟩)) cp up nilS) 182)] w):=asd_ (At.hold (At.start w) hv (by simp [nums]))
 replace Bc:=ce1_ HK 0;have bgs:=cel_ (blk_below hS HK.out.b)
 go_enter Tryz.func136,Tryz.ntmps136
 go_wp2_with fail
 refine st_ 13 (fun w'=>At w [.b gv (row (vdc vv ad (.pointer (some ⟨gs,0,none⟩)) cp up nilS) 182)] w'∧(∀ j,w'.cell? ⟨gv,j,none⟩=(vdc vv ad (.pointer (some ⟨gs,0,none⟩)) cp up nilS:Array Value)[j]?)∧(∀ j,w'.cell? ⟨gs,j,none⟩=(s.cells:Array Value)[j]?)) [] (fun A=>⟨A,(cA_ A 0),(cel_ (blk_below hS A.b))⟩) (fun hHeld=> ?_)
 refine pu_ 0 11 1 ?_
 refine pu_ 1 12 3 ?_
 refine pu_ 2 13 7 ?_
 refine pu_ 7 18 135 ?_
 refine pu_ 9 20 647 ?_
 refine ta3_ 3 14 655 hHeld ?_
 refine pu_ 4 15 671 ?_
 refine pu_ 5 16 703 ?_
 refine ta3_ 6 17 767 hHeld ?_
 refine on_ 8 19 1023 (fun K hK=> ?_)
 have HE:=asd_ (hHeld.1)
 refine ge_ Tryz.func173 #[.pointer (some ⟨gv,0,none⟩)] ?_
 with_reducible refine (place_nil _ gv vv ad (.pointer (some ⟨gs,0,none⟩)) cp up nilS (blk_below hv HE.out.b)).mono ?_
 rintro e w3 ⟨Ae,ce,rfl,hb⟩
 refine ⟨_,rfl,?_⟩
 have HE0:=At.step HE.out hb
 replace HE:=asd_ HE0;clear HE0
 refine hK.out _ _ ⟨HE.out,(cE_ HE 0),(cel_ (blk_below hS HE.out.b))⟩ (fun hHeld=> ?_)
 clear hK K
 refine nq_ 19 ?_
 refine pu_ 10 21 2047 ?_
 refine on_ 11 22 4095 (fun K hK=> ?_)
 refine ne_ 22 (row (vec s.loc Ae ce (.iface tk (.pointer (some ⟨gk,0,none⟩))) nilS) 129) ((fun b=> .pointer (some ⟨b,0,none⟩))) ?_
 intro ge w3 HE0 hgge
 have Gge:=asd_ hgge
 clear hgge
 replace HE:=asd_ HE0;clear HE0
 refine hK.out _ _ ⟨HE.out.drop,(cel_ HE.out.drop.k.1),(cel_ (blk_below hS HE.out.drop.b))⟩ (fun hHeld=> ?_)
 clear hK K
 refine nq_ 22 ?_
 refine pu_ 12 4 8191 ?_
 refine done_ kr_ ?_
 clear HK;have HK:=HE;clear HE
 clear hHeld
 clear bgs
 replace Bc:=ce1_ HK 1
 have bgs:=cel_ (blk_below hS HK.out.b)
 go_wp2_with fail
 go_ret
 exact ⟨ge,Ae,ce,rfl,HK.out.k.1,Gge.out,HK.out.b⟩
end Go.Proofs.YtkphbhncpdcbeaaGreatDoor.J
namespace Go.Proofs.YtkphbhncpdcbeaaGreatDoor.J
open YtkphbhncpdcbeaaGreatDoorW Go.RowKit YtkphbhncpdcbeaaGreatDoorW.PrintWords YtkphbhncpdcbeaaGreatDoorW.PrintLast YtkphbhncpdcbeaaGreatDoorW.PrintMore PJT
def Leafed (loc K:ByteArray) (T:Value) (path names:List ByteArray) (w:World) (e:Ending) (w':World):Prop:=
 ∃ Ap cp Aa ca An cn,e= .returned (.agg #[.string loc,.string K,.slice Ap path.length cp,.slice Aa 0 ca,T,.slice An names.length cn,nilS,nilS])∧(Fact.strs (.slice Ap path.length cp) path).P w'∧(Fact.strs (.slice An names.length cn) names).P w'∧Below w.heap.size w w'
theorem reads0 (W:World) (A:Option Addr):Kd.C Kd.string W A 0 ([]:List ByteArray):=⟨rfl,by omega,fun h=>absurd h (Nat.lt_irrefl _)⟩
theorem copied_nil (w:World) (A:Option Addr) (c:Nat):Calls Tryz.prog 55 #[.slice A 0 c] w fun e w'=>∃ v,e= .returned v∧(∃ A' c',v= .slice A' 0 c'∧(Fact.strs (.slice A' 0 c') []).P w')∧Below w.heap.size w w':=
 copied_ok (names:=[]) (reads0 w A) (Nat.zero_le _) (by simp)
theorem mk_req (v:Value) (W:World):(method 513 193 v "KeywordPath").run Tryz.prog W= .ok (243,v) W:=by kernel_rfl
theorem mk_dep (v:Value) (W:World):(method 513 199 v "KeywordPath").run Tryz.prog W= .ok (245,v) W:=by kernel_rfl
theorem mk_false (v:Value) (W:World):(method 513 267 v "KeywordPath").run Tryz.prog W= .ok (254,v) W:=by kernel_rfl
theorem mk_schema (v:Value) (W:World):(method 513 187 v "KeywordPath").run Tryz.prog W= .ok (241,v) W:=by kernel_rfl
attribute [local go_sem] mk_req mk_dep mk_false mk_schema
end Go.Proofs.YtkphbhncpdcbeaaGreatDoor.J
