/- Part. -/
import Derived.Test.YtkphbhncpdcbeaaGreatDoorQAT
set_option linter.unusedVariables false
set_option linter.unusedSimpArgs false
set_option maxHeartbeats 8000000
set_option maxRecDepth 100000
namespace Go.Proofs.YtkphbhncpdcbeaaGreatDoor.J
open Go.RowKit YtkphbhncpdcbeaaGreatDoorW.PrintWords YtkphbhncpdcbeaaGreatDoorW.PrintLast YtkphbhncpdcbeaaGreatDoorW.PrintMore PJT
theorem ta_null_4 (W:World):(Instr.typeAssert .nilIface 20 4 true).run Tryz.prog W= .ok (.tuple #[.bool false,.bool false]) W:=by kernel_rfl
theorem ta_null_9 (W:World):(Instr.typeAssert .nilIface 20 9 true).run Tryz.prog W= .ok (.tuple #[.string ⟨#[]⟩,.bool false]) W:=by kernel_rfl
theorem ta_null_117 (W:World):(Instr.typeAssert .nilIface 20 117 true).run Tryz.prog W= .ok (.tuple #[.slice none 0 0,.bool false]) W:=by kernel_rfl
theorem ta_null_113 (W:World):(Instr.typeAssert .nilIface 20 113 true).run Tryz.prog W= .ok (.tuple #[.map none,.bool false]) W:=by kernel_rfl
theorem ta_bool_4 (v:Value) (W:World):(Instr.typeAssert (.iface 4 v) 20 4 true).run Tryz.prog W= .ok (.tuple #[v,.bool true]) W:=by kernel_rfl
theorem ta_bool_9 (v:Value) (W:World):(Instr.typeAssert (.iface 4 v) 20 9 true).run Tryz.prog W= .ok (.tuple #[.string ⟨#[]⟩,.bool false]) W:=by kernel_rfl
theorem ta_bool_117 (v:Value) (W:World):(Instr.typeAssert (.iface 4 v) 20 117 true).run Tryz.prog W= .ok (.tuple #[.slice none 0 0,.bool false]) W:=by kernel_rfl
theorem ta_bool_113 (v:Value) (W:World):(Instr.typeAssert (.iface 4 v) 20 113 true).run Tryz.prog W= .ok (.tuple #[.map none,.bool false]) W:=by kernel_rfl
theorem ta_text_4 (v:Value) (W:World):(Instr.typeAssert (.iface 9 v) 20 4 true).run Tryz.prog W= .ok (.tuple #[.bool false,.bool false]) W:=by kernel_rfl
theorem ta_text_340 (v:Value) (W:World):(Instr.typeAssert (.iface 9 v) 20 340 true).run Tryz.prog W= .ok (.tuple #[.float .f64 0,.bool false]) W:=by kernel_rfl
theorem ta_text_343 (v:Value) (W:World):(Instr.typeAssert (.iface 9 v) 20 343 true).run Tryz.prog W= .ok (.tuple #[.float .f32 0,.bool false]) W:=by kernel_rfl
theorem ta_text_3 (v:Value) (W:World):(Instr.typeAssert (.iface 9 v) 20 3 true).run Tryz.prog W= .ok (.tuple #[.int .i64 0,.bool false]) W:=by kernel_rfl
theorem ta_text_344 (v:Value) (W:World):(Instr.typeAssert (.iface 9 v) 20 344 true).run Tryz.prog W= .ok (.tuple #[.int .i8 0,.bool false]) W:=by kernel_rfl
theorem ta_text_345 (v:Value) (W:World):(Instr.typeAssert (.iface 9 v) 20 345 true).run Tryz.prog W= .ok (.tuple #[.int .i16 0,.bool false]) W:=by kernel_rfl
theorem ta_text_21 (v:Value) (W:World):(Instr.typeAssert (.iface 9 v) 20 21 true).run Tryz.prog W= .ok (.tuple #[.int .i32 0,.bool false]) W:=by kernel_rfl
theorem ta_text_2 (v:Value) (W:World):(Instr.typeAssert (.iface 9 v) 20 2 true).run Tryz.prog W= .ok (.tuple #[.int .i64 0,.bool false]) W:=by kernel_rfl
theorem ta_text_232 (v:Value) (W:World):(Instr.typeAssert (.iface 9 v) 20 232 true).run Tryz.prog W= .ok (.tuple #[.int .u64 0,.bool false]) W:=by kernel_rfl
theorem ta_text_5 (v:Value) (W:World):(Instr.typeAssert (.iface 9 v) 20 5 true).run Tryz.prog W= .ok (.tuple #[.int .u8 0,.bool false]) W:=by kernel_rfl
theorem ta_text_346 (v:Value) (W:World):(Instr.typeAssert (.iface 9 v) 20 346 true).run Tryz.prog W= .ok (.tuple #[.int .u16 0,.bool false]) W:=by kernel_rfl
theorem ta_text_324 (v:Value) (W:World):(Instr.typeAssert (.iface 9 v) 20 324 true).run Tryz.prog W= .ok (.tuple #[.int .u32 0,.bool false]) W:=by kernel_rfl
theorem ta_text_326 (v:Value) (W:World):(Instr.typeAssert (.iface 9 v) 20 326 true).run Tryz.prog W= .ok (.tuple #[.int .u64 0,.bool false]) W:=by kernel_rfl
theorem ta_text_9 (v:Value) (W:World):(Instr.typeAssert (.iface 9 v) 20 9 true).run Tryz.prog W= .ok (.tuple #[v,.bool true]) W:=by kernel_rfl
theorem ta_text_117 (v:Value) (W:World):(Instr.typeAssert (.iface 9 v) 20 117 true).run Tryz.prog W= .ok (.tuple #[.slice none 0 0,.bool false]) W:=by kernel_rfl
theorem ta_text_113 (v:Value) (W:World):(Instr.typeAssert (.iface 9 v) 20 113 true).run Tryz.prog W= .ok (.tuple #[.map none,.bool false]) W:=by kernel_rfl
theorem ta_array_4 (v:Value) (W:World):(Instr.typeAssert (.iface 117 v) 20 4 true).run Tryz.prog W= .ok (.tuple #[.bool false,.bool false]) W:=by kernel_rfl
theorem ta_array_340 (v:Value) (W:World):(Instr.typeAssert (.iface 117 v) 20 340 true).run Tryz.prog W= .ok (.tuple #[.float .f64 0,.bool false]) W:=by kernel_rfl
theorem ta_array_343 (v:Value) (W:World):(Instr.typeAssert (.iface 117 v) 20 343 true).run Tryz.prog W= .ok (.tuple #[.float .f32 0,.bool false]) W:=by kernel_rfl
theorem ta_array_3 (v:Value) (W:World):(Instr.typeAssert (.iface 117 v) 20 3 true).run Tryz.prog W= .ok (.tuple #[.int .i64 0,.bool false]) W:=by kernel_rfl
theorem ta_array_344 (v:Value) (W:World):(Instr.typeAssert (.iface 117 v) 20 344 true).run Tryz.prog W= .ok (.tuple #[.int .i8 0,.bool false]) W:=by kernel_rfl
theorem ta_array_345 (v:Value) (W:World):(Instr.typeAssert (.iface 117 v) 20 345 true).run Tryz.prog W= .ok (.tuple #[.int .i16 0,.bool false]) W:=by kernel_rfl
theorem ta_array_21 (v:Value) (W:World):(Instr.typeAssert (.iface 117 v) 20 21 true).run Tryz.prog W= .ok (.tuple #[.int .i32 0,.bool false]) W:=by kernel_rfl
theorem ta_array_2 (v:Value) (W:World):(Instr.typeAssert (.iface 117 v) 20 2 true).run Tryz.prog W= .ok (.tuple #[.int .i64 0,.bool false]) W:=by kernel_rfl
theorem ta_array_232 (v:Value) (W:World):(Instr.typeAssert (.iface 117 v) 20 232 true).run Tryz.prog W= .ok (.tuple #[.int .u64 0,.bool false]) W:=by kernel_rfl
theorem ta_array_5 (v:Value) (W:World):(Instr.typeAssert (.iface 117 v) 20 5 true).run Tryz.prog W= .ok (.tuple #[.int .u8 0,.bool false]) W:=by kernel_rfl
theorem ta_array_346 (v:Value) (W:World):(Instr.typeAssert (.iface 117 v) 20 346 true).run Tryz.prog W= .ok (.tuple #[.int .u16 0,.bool false]) W:=by kernel_rfl
theorem ta_array_324 (v:Value) (W:World):(Instr.typeAssert (.iface 117 v) 20 324 true).run Tryz.prog W= .ok (.tuple #[.int .u32 0,.bool false]) W:=by kernel_rfl
theorem ta_array_326 (v:Value) (W:World):(Instr.typeAssert (.iface 117 v) 20 326 true).run Tryz.prog W= .ok (.tuple #[.int .u64 0,.bool false]) W:=by kernel_rfl
theorem ta_array_9 (v:Value) (W:World):(Instr.typeAssert (.iface 117 v) 20 9 true).run Tryz.prog W= .ok (.tuple #[.string ⟨#[]⟩,.bool false]) W:=by kernel_rfl
theorem ta_array_117 (v:Value) (W:World):(Instr.typeAssert (.iface 117 v) 20 117 true).run Tryz.prog W= .ok (.tuple #[v,.bool true]) W:=by kernel_rfl
theorem ta_array_113 (v:Value) (W:World):(Instr.typeAssert (.iface 117 v) 20 113 true).run Tryz.prog W= .ok (.tuple #[.map none,.bool false]) W:=by kernel_rfl
theorem ta_object_4 (v:Value) (W:World):(Instr.typeAssert (.iface 113 v) 20 4 true).run Tryz.prog W= .ok (.tuple #[.bool false,.bool false]) W:=by kernel_rfl
theorem ta_object_340 (v:Value) (W:World):(Instr.typeAssert (.iface 113 v) 20 340 true).run Tryz.prog W= .ok (.tuple #[.float .f64 0,.bool false]) W:=by kernel_rfl
theorem ta_object_343 (v:Value) (W:World):(Instr.typeAssert (.iface 113 v) 20 343 true).run Tryz.prog W= .ok (.tuple #[.float .f32 0,.bool false]) W:=by kernel_rfl
theorem ta_object_3 (v:Value) (W:World):(Instr.typeAssert (.iface 113 v) 20 3 true).run Tryz.prog W= .ok (.tuple #[.int .i64 0,.bool false]) W:=by kernel_rfl
theorem ta_object_344 (v:Value) (W:World):(Instr.typeAssert (.iface 113 v) 20 344 true).run Tryz.prog W= .ok (.tuple #[.int .i8 0,.bool false]) W:=by kernel_rfl
theorem ta_object_345 (v:Value) (W:World):(Instr.typeAssert (.iface 113 v) 20 345 true).run Tryz.prog W= .ok (.tuple #[.int .i16 0,.bool false]) W:=by kernel_rfl
theorem ta_object_21 (v:Value) (W:World):(Instr.typeAssert (.iface 113 v) 20 21 true).run Tryz.prog W= .ok (.tuple #[.int .i32 0,.bool false]) W:=by kernel_rfl
theorem ta_object_2 (v:Value) (W:World):(Instr.typeAssert (.iface 113 v) 20 2 true).run Tryz.prog W= .ok (.tuple #[.int .i64 0,.bool false]) W:=by kernel_rfl
theorem ta_object_232 (v:Value) (W:World):(Instr.typeAssert (.iface 113 v) 20 232 true).run Tryz.prog W= .ok (.tuple #[.int .u64 0,.bool false]) W:=by kernel_rfl
theorem ta_object_5 (v:Value) (W:World):(Instr.typeAssert (.iface 113 v) 20 5 true).run Tryz.prog W= .ok (.tuple #[.int .u8 0,.bool false]) W:=by kernel_rfl
theorem ta_object_346 (v:Value) (W:World):(Instr.typeAssert (.iface 113 v) 20 346 true).run Tryz.prog W= .ok (.tuple #[.int .u16 0,.bool false]) W:=by kernel_rfl
theorem ta_object_324 (v:Value) (W:World):(Instr.typeAssert (.iface 113 v) 20 324 true).run Tryz.prog W= .ok (.tuple #[.int .u32 0,.bool false]) W:=by kernel_rfl
theorem ta_object_326 (v:Value) (W:World):(Instr.typeAssert (.iface 113 v) 20 326 true).run Tryz.prog W= .ok (.tuple #[.int .u64 0,.bool false]) W:=by kernel_rfl
theorem ta_object_9 (v:Value) (W:World):(Instr.typeAssert (.iface 113 v) 20 9 true).run Tryz.prog W= .ok (.tuple #[.string ⟨#[]⟩,.bool false]) W:=by kernel_rfl
theorem ta_object_117 (v:Value) (W:World):(Instr.typeAssert (.iface 113 v) 20 117 true).run Tryz.prog W= .ok (.tuple #[.slice none 0 0,.bool false]) W:=by kernel_rfl
theorem ta_object_113 (v:Value) (W:World):(Instr.typeAssert (.iface 113 v) 20 113 true).run Tryz.prog W= .ok (.tuple #[v,.bool true]) W:=by kernel_rfl
end Go.Proofs.YtkphbhncpdcbeaaGreatDoor.J
namespace Go.Proofs.YtkphbhncpdcbeaaGreatDoor.J
open Go.RowKit YtkphbhncpdcbeaaGreatDoorW.PrintWords YtkphbhncpdcbeaaGreatDoorW.PrintLast YtkphbhncpdcbeaaGreatDoorW.PrintMore PJT
open Go.ChangeMaps Go.MapKept Go.WideShapes
open Go.Maps (Keyed IsMap)
inductive JE:S25→S25→Prop
 |null {x y:S25} (k:x.f0=0) (k':y.f0=0):JE x y
 |bool {x y:S25} (k:x.f0=1) (k':y.f0=1) (e:x.f1=y.f1):JE x y
 |text {x y:S25} (k:x.f0=3) (k':y.f0=3) (e:x.f3=y.f3):JE x y
 |array {x y:S25} (k:x.f0=4) (k':y.f0=4) (hl:x.f5.length=y.f5.length) (hs:∀ i,i < x.f5.length→JE (x.f5.getD i z25) (y.f5.getD i z25)):JE x y
 |object {x y:S25} (k:x.f0=5) (k':y.f0=5) (hn:∀ s,s∈x.f4↔s∈y.f4) (hs:∀ s i j,lastAt x.f4 s=some i→lastAt y.f4 s=some j→JE (x.f5.getD i z25) (y.f5.getD j z25)):JE x y
theorem ba_iff {a b:ByteArray}:a.toList=b.toList↔a=b:=by
 refine ⟨fun e=> ?_,fun e=>by rw [e]⟩
 rw [ByteArray.toList_eq,ByteArray.toList_eq] at e
 exact lit_inj (by unfold lit;rw [e])
theorem JE.kind {x y:S25} (h:JE x y):x.f0=y.f0:=by cases h<;>omega
theorem JE.bool_iff {x y:S25} (k:x.f0=1) (k':y.f0=1):JE x y↔x.f1=y.f1:=by
 constructor
 ·intro h;cases h<;>first|omega|assumption
 ·exact fun e=> .bool k k' e
theorem JE.text_iff {x y:S25} (k:x.f0=3) (k':y.f0=3):JE x y↔x.f3=y.f3:=by
 constructor
 ·intro h;cases h<;>first|omega|assumption
 ·exact fun e=> .text k k' e
theorem JE.array_iff {x y:S25} (k:x.f0=4) (k':y.f0=4):JE x y↔x.f5.length=y.f5.length∧∀ i,i < x.f5.length→JE (x.f5.getD i z25) (y.f5.getD i z25):=by
 constructor
 ·intro h;cases h<;>first|omega|exact ⟨by assumption,by assumption⟩
 ·exact fun e=> .array k k' e.1 e.2
theorem JE.object_iff {x y:S25} (k:x.f0=5) (k':y.f0=5):JE x y↔(∀ s,s∈x.f4↔s∈y.f4)∧∀ s i j,lastAt x.f4 s=some i→lastAt y.f4 s=some j→JE (x.f5.getD i z25) (y.f5.getD j z25):=by
 constructor
 ·intro h;cases h<;>first|omega|exact ⟨by assumption,by assumption⟩
 ·exact fun e=> .object k k' e.1 e.2
abbrev EqC (p:Prop) (v u:Value) (W:World):Prop:=Calls Tryz.prog 144 #[v,u] W fun e w'=>∃ r:Bool,e= .returned (.tuple #[.bool r,.nilIface])∧(r=true↔p)∧Below W.heap.size W w'
section
variable {P:Program} {ops:Array Oper} {rest:List Oper} {o:Oper} {a:Act} {Q:Exit→Act→World→Prop} {w W:World} {l:List Blk} {kt:TypeId} {R:RD} {es:Array MapEntry} {clock n g r since c0 cnt:Nat} {seen:Array Nat} {left:Lit→Bool} {D:DataW Unit}
theorem lookhd_at (K:Keyed P kt) (hg:W.heap[g]? =some (.map es clock)) (M:MapIs P kt R es clock n D) (hgd:o.guard=none) {m x:Operand} {t e:TypeId} (ho:o.op= .lookup t m x true)
  (ht:P.underlying t=some (.map kt e)) {z:Value} (hz:(zeroValue e).run P W= .ok z W) {zd:DataW Unit} {zp:List MemPlace} (hzd:R z=some (zd,zp)) (hm:a.eval m= .map (some g)) {key:Value} {kl:Lit} (hx:a.eval x=key) (hkey:keyOf P kt key=some kl) (b:Bool) (hb:Maps.has D kl=b)
  (h:∀ v ps,R v=some (D.atKey kl zd,ps)→wpList P ops Q rest (a.put o.dst (.tuple #[v,.bool b])) W):wpList P ops Q (o::rest) a W:=
 wpList_lookup_own_ok W hgd m x t ho kt e K ht R hz zd zp hzd g n D hm ⟨es,clock,hg,M.fit,M.size,M.eq⟩ key kl hx hkey (fun v ps hv=>by rw [hb];exact h v ps hv)
theorem nexthd_more {α β:Type} (K:Keyed P kt) (mkK:α→Value) (mkV:β→Value) (invK:∀ key kl,keyOf P kt key=some kl→∃ x,key=mkK x) (invV:∀ v y,R v=some y→∃ c,v=mkV c) (H:At w l W) (hg:W.heap[g]? =some (.map es clock)) (j:Nat) (hj:l[j]? =some (.b r (.mapIter (some g) since seen c0))) (hr:w.heap.size≤r) (M:MapIs P kt R es clock n D) (I:IterIs P kt R es clock since seen c0 left (cnt + 1))
  (hgd:o.guard=none) {it:Operand} (ho:o.op= .next it false) (hit:a.eval it= .pointer (some ⟨r,0,none⟩))
  (hMore:∀ (x:α) (c:β) (kl:Lit) (y:DataW Unit×List MemPlace) (since':Nat) (seen':Array Nat) (c0' cnt':Nat) (w1:World),keyOf P kt (mkK x)=some kl→left kl=true→R (mkV c)=some y→(∀ zd,D.atKey kl zd=y.1)→IterIs P kt R es clock since' seen' c0' (fun z=>left z&& !z.sameKey kl) cnt'→cnt' < cnt + 1→At w (l.set j (.b r (.mapIter (some g) since' seen' c0'))) w1→
   (Instr.entry (.pointer (some ⟨r,0,none⟩))).run P w1= .ok (.tuple #[mkK x,mkV c]) w1→wpList P ops Q rest (a.put o.dst (.tuple #[.bool true,mkK x,mkV c])) w1):wpList P ops Q (o::rest) a W:=by
 have hR:W.ranges P kt R g r n D left (cnt + 1):=⟨es,clock,since,seen,c0,hg,M.fit,M.size,M.eq,(H.k.get hj).1,I.hold,I.cnt,I.l1,I.l2,I.s1,I.s2⟩
 have hne:r≠g:=hR.ne
 refine wpList_next_ranges W hgd it ho kt K R mkK mkV invK invV g r n D left (cnt + 1) hit hR (fun h0=>absurd h0 (Nat.succ_ne_zero _)) ?_
 intro x c kl y w' cnt' hkey hl hR' hat hrg hlt hgr hsz hen
 obtain ⟨es2,c2,since2,seen2,c02,hb2,F,hs,hD,hr2,h1,h2,h3,h4,h5,h6⟩:=hrg
 have e1:some (Obj.map es2 c2)=some (Obj.map es clock):=hb2.symm.trans ((hgr.block g (blk_lt hg) (by simpa using hne.symm)).trans hg)
 cases e1
 exact hMore x c kl y since2 seen2 c02 cnt' w' hkey hl hR' hat ⟨h1,h2,h3,h4,h5,h6⟩ hlt (H.swept j hj rfl hr hgr hsz hr2) hen
end
section
attribute [local go_sem] ta_null_113 ta_null_117
theorem eq_null_null (w:World):EqC (True) (.nilIface) (.nilIface) w:=by
 have HK:=st0_ w
 go_enter Tryz.func144,Tryz.ntmps144
 go_wp2_with fail
 go_ret2
 exact ⟨_,rfl,by simp,be_⟩
end
section
attribute [local go_sem] ta_null_113 ta_null_117
theorem eq_null_any (w:World) (t:TypeId) (u:Value):EqC (False) (.nilIface) (.iface t u) w:=by
 have HK:=st0_ w
 go_enter Tryz.func144,Tryz.ntmps144
 go_wp2_with fail
 go_ret2
 exact ⟨_,rfl,by simp,be_⟩
end
section
attribute [local go_sem] ta_bool_113 ta_bool_117 ta_bool_4 ta_bool_9
theorem eq_bool_bool (w:World) (a b:Bool):EqC (a=b) (.iface 4 (.bool a)) (.iface 4 (.bool b)) w:=by
 have HK:=st0_ w
 go_enter Tryz.func144,Tryz.ntmps144
 go_wp2_with fail
 go_ret2
 exact ⟨_,rfl,by simp,be_⟩
end
section
attribute [local go_sem] ta_text_113 ta_text_117 ta_text_4 ta_text_9
theorem eq_text_text (w:World) (a b:ByteArray):EqC (a=b) (.iface 9 (.string a)) (.iface 9 (.string b)) w:=by
 have HK:=st0_ w
 go_enter Tryz.func144,Tryz.ntmps144
 go_wp2_with fail
 go_ret2
 exact ⟨_,rfl,by simp [ba_iff],be_⟩
end
section
attribute [local go_sem] ta_bool_113 ta_bool_117 ta_bool_4 ta_bool_9
theorem eq_bool_off (w:World) (a:Bool) (v2:Value) (h2:∀ W,(Instr.typeAssert v2 20 4 true).run Tryz.prog W= .ok (.tuple #[.bool false,.bool false]) W):EqC (False) (.iface 4 (.bool a)) (v2) w:=by
 have HK:=st0_ w
 go_enter Tryz.func144,Tryz.ntmps144
 go_wp2_with fail
 go_ret2
 exact ⟨_,rfl,by simp,be_⟩
end
section
attribute [local go_sem] ta_text_113 ta_text_117 ta_text_4 ta_text_9
theorem eq_text_off (w:World) (a:ByteArray) (v2:Value) (h2:∀ W,(Instr.typeAssert v2 20 9 true).run Tryz.prog W= .ok (.tuple #[.string ⟨#[]⟩,.bool false]) W):EqC (False) (.iface 9 (.string a)) (v2) w:=by
 have HK:=st0_ w
 go_enter Tryz.func144,Tryz.ntmps144
 go_wp2_with fail
 go_ret2
 exact ⟨_,rfl,by simp,be_⟩
end
section
attribute [local go_sem] ta_array_113 ta_array_117 ta_array_4 ta_array_9
theorem eq_array_off (w:World) (A:Option Addr) (n c:Nat) (v2:Value) (h2:∀ W,(Instr.typeAssert v2 20 117 true).run Tryz.prog W= .ok (.tuple #[.slice none 0 0,.bool false]) W):EqC (False) (.iface 117 (.slice A n c)) (v2) w:=by
 have HK:=st0_ w
 go_enter Tryz.func144,Tryz.ntmps144
 go_wp2_with fail
 go_ret2
 exact ⟨_,rfl,by simp,be_⟩
end
section
attribute [local go_sem] ta_object_113
theorem eq_object_off (w:World) (g:Nat) (v2:Value) (h2:∀ W,(Instr.typeAssert v2 20 113 true).run Tryz.prog W= .ok (.tuple #[.map none,.bool false]) W):EqC (False) (.iface 113 (.map (some g))) (v2) w:=by
 have HK:=st0_ w
 go_enter Tryz.func144,Tryz.ntmps144
 go_wp2_with fail
 go_ret2
 exact ⟨_,rfl,by simp,be_⟩
end
section
attribute [local go_sem] ta_array_113 ta_array_117 ta_array_4 ta_array_9
theorem eq_array_len (w:World) (A B:Option Addr) (n c m d:Nat) (hl:((n:Int) != (m:Int))=true):EqC (False) (.iface 117 (.slice A n c)) (.iface 117 (.slice B m d)) w:=by
 have HK:=st0_ w
 go_enter Tryz.func144,Tryz.ntmps144
 go_wp2_with fail
 go_ret2
 exact ⟨_,rfl,by simp,be_⟩
end
section
attribute [local go_sem] ta_array_113 ta_array_117
theorem eq_array_array (w:World) (A B:Option Addr) (n c d:Nat) (vs us:List Value) (PP:Nat→Prop) (hn:n≤LM) (h1:∀ i,i < n→∃ ad,A=some ad∧w.cell? (ad.add i)=some (vs.getD i .nilIface)) (h2:∀ i,i < n→∃ ad,B=some ad∧w.cell? (ad.add i)=some (us.getD i .nilIface))
  (hT:∀ i,i < n→∀ W,Below w.heap.size w W→EqC (PP i) (vs.getD i .nilIface) (us.getD i .nilIface) W):EqC (∀ i,i < n→PP i) (.iface 117 (.slice A n c)) (.iface 117 (.slice B n d)) w:=by
 have H1:=asd_ h1
 have H2:=asd_ h2
 have HT:=asd_ hT
 have Hn:=asd_ hn
 have hlen:((n:Int) != (n:Int))=false:=by simp
 clear h1 h2 hT hn
 have HK:=st0_ w
 go_enter Tryz.func144,Tryz.ntmps144
 go_wp2_with fail
 go_loopg [99] n (fun kq v99 w'=>∃ i:Int,v99= .int .i64 i∧0≤i∧i + kq=n∧Aside0 (∀ j:Nat,(j:Int) < i→PP j)∧Aside0 (At w [] w'))
 case atStart=>exact ⟨0,rfl,by omega,by omega,⟨fun j hj=>absurd hj (by omega)⟩,⟨at_⟩⟩
 case round=>
  clear HK
  obtain ⟨i,rfl,hi0,hik,HP,HK⟩:=hrel
  cases gk with
  |zero=>
   have ht:decide (i < (n:Int))=false:=decide_eq_false (by omega)
   go_wp2_with fail
   go_ret2
   exact ⟨_,rfl,iff_of_true rfl (fun j hj=>HP.out j (by omega)),be_⟩
  |succ kk=>
   have ht:decide (i < (n:Int))=true:=decide_eq_true (by omega)
   have hil:i < (n:Int):=by omega
   have hin:i.toNat < n:=by omega
   obtain ⟨ad,e1,hc1⟩:=H1.out i.toNat hin
   obtain ⟨ae,e2,hc2⟩:=H2.out i.toNat hin
   subst e1;subst e2
   have Hc1:=asd_ hc1;have Hc2:=asd_ hc2;have Hik:=asd_ hik;have Hi0:=asd_ hi0;have Hil:=asd_ hil;have Hin:=asd_ hin
   have p1:=eq_true hi0;have p2:=eq_true hil
   clear hik hi0 hil hin hc1 hc2
   go_wp2_with fail
   refine st_ 14 (fun w'=>At w [] w'∧w'.cell? (ad.add i.toNat)=some (vs.getD i.toNat .nilIface)∧w'.cell? (ae.add i.toNat)=some (us.getD i.toNat .nilIface)) [] (fun A=>⟨A,((A.b.cell (World.block_lt_of_cell? w _ Hc1.out)).trans Hc1.out),((A.b.cell (World.block_lt_of_cell? w _ Hc2.out)).trans Hc2.out)⟩) (fun hHeld=> ?_)
   refine pu_ 0 103 1 ?_
   refine pu_ 1 104 3 ?_
   refine pu_ 2 105 7 ?_
   refine pu_ 4 107 23 ?_
   refine pu_ 5 108 55 ?_
   refine pu_ 6 109 119 ?_
   refine ta3_ 3 106 127 hHeld ?_
   refine ta3_ 7 110 255 hHeld ?_
   refine on_ 8 111 511 (fun K hK=> ?_)
   have HE:=asd_ (hHeld.1)
   refine ge_ Tryz.func144 #[vs.getD i.toNat .nilIface,us.getD i.toNat .nilIface] ?_
   with_reducible refine (HT.out i.toNat Hin.out _ HE.out.b).mono ?_
   rintro e w3 ⟨rb,rfl,hrb,hb⟩
   refine ⟨_,rfl,?_⟩
   have HE0:=At.step HE.out hb
   have Hrb:=asd_ hrb
   clear hrb
   replace HE:=asd_ HE0;clear HE0
   refine hK.out _ _ ⟨HE.out,((HE.out.b.cell (World.block_lt_of_cell? w _ Hc1.out)).trans Hc1.out),((HE.out.b.cell (World.block_lt_of_cell? w _ Hc2.out)).trans Hc2.out)⟩ (fun hHeld=> ?_)
   clear hK K
   refine nq_ 111 ?_
   refine pu_ 9 102 1023 ?_
   refine pu_ 10 112 2047 ?_
   refine pu_ 11 113 4095 ?_
   refine pu_ 12 19 8191 ?_
   refine pu_ 13 20 16383 ?_
   refine done_ kr_ ?_
   clear HK;have HK:=HE;clear HE
   clear hHeld
   cases rb
   case false=>
    go_wp2_with fail
    go_ret2
    exact ⟨_,rfl,iff_of_false (by simp) (fun h=>absurd (Hrb.out.2 (h _ Hin.out)) (by simp)),be_⟩
   case true=>
    go_wp2_with fail
    go_roundg kk
    case measure=>exact Nat.lt_succ_self _
    case rel=>
     have e1:wrap64 (i + 1)=i + 1:=wup Hi0.out Hil.out Hn.out
     refine ⟨wrap64 (i + 1),rfl,by have:=Hi0.out;rw [e1];omega,by have:=Hik.out;rw [e1];omega,⟨fun j hj=> ?_⟩,⟨at_⟩⟩
     rw [e1] at hj
     by_cases hji:(j:Int) < i
     ·exact HP.out j hji
     ·have:j=i.toNat:=by have:=Hi0.out;omega
      subst this
      have hq:=Hrb.out;simpa using hq
end
theorem next_is {names:List ByteArray} {vs:List Value} (hl:names.length=vs.length) (hco:∀ i,i < vs.length→Coded (vs.getD i .nilIface)) {pk:ByteArray} {pv:Value} {kl:Lit} {yv:DataW Unit×List MemPlace} (hkey:keyOf Tryz.prog 9 (.string pk)=some kl) (hh:Maps.has (mapV names vs) kl=true) (hR:RC pv=some yv) (hat:∀ zd,(mapV names vs).atKey kl zd=yv.1):
  kl=lit pk∧∃ i,lastAt names pk=some i∧i < vs.length∧pv=vs.getD i .nilIface:=by
 obtain ⟨s,e,rfl⟩:=key_inv Tryz.underlying9 hkey
 cases e
 obtain ⟨i,hi⟩:=lastAt_mem.2 ((mapV_has hl pk).1 hh)
 have hil:i < vs.length:=by have:=lastAt_lt hi;omega
 refine ⟨rfl,i,hi,hil,?_⟩
 have h1:=hat .nil
 rw [mapV_at hl,hi] at h1
 exact RC_inj hR (RC_cd (hco i hil)) h1.symm
theorem look_is {names:List ByteArray} {vs:List Value} (hl:names.length=vs.length) (hco:∀ i,i < vs.length→Coded (vs.getD i .nilIface)) {pk:ByteArray} {v:Value} {z:DataW Unit} {ps:List MemPlace} {i:Nat} (hi:lastAt names pk=some i) (hR:RC v=some ((mapV names vs).atKey (lit pk) z,ps)):v=vs.getD i .nilIface:=by
 have hil:i < vs.length:=by have:=lastAt_lt hi;omega
 rw [mapV_at hl,hi] at hR
 exact RC_inj hR (RC_cd (hco i hil)) rfl
abbrev OkS (x y:S25) (s:ByteArray):Prop:=∃ i j,lastAt x.f4 s=some i∧lastAt y.f4 s=some j∧JE (x.f5.getD i z25) (y.f5.getD j z25)
abbrev JEobj (x y:S25):Prop:=(∀ s,s∈x.f4↔s∈y.f4)∧∀ s i j,lastAt x.f4 s=some i→lastAt y.f4 s=some j→JE (x.f5.getD i z25) (y.f5.getD j z25)
theorem eq_names {x y:S25} (h:∀ s,s∈x.f4→OkS x y s) (hs:many x.f4=many y.f4):JEobj x y:=by
 have h1:∀ s∈x.f4,s∈y.f4:=fun s hm=>by
  obtain ⟨_,j,_,hj,_⟩:=h s hm
  exact lastAt_mem.1 ⟨j,hj⟩
 refine ⟨fun s=>⟨h1 s,many_eq h1 hs s⟩,fun s i j hi hj=> ?_⟩
 obtain ⟨i',j',hi',hj',hE⟩:=h s (lastAt_mem.1 ⟨i,hi⟩)
 rw [hi] at hi';rw [hj] at hj'
 cases hi';cases hj'
 exact hE
theorem tup_form {f:FuncId} {args:Array Value} {W:World} {p:Prop} (h:Calls Tryz.prog f args W fun e w'=>∃ r:Bool,e= .returned (.tuple #[.bool r,.nilIface])∧(r=true↔p)∧Below W.heap.size W w'):Calls Tryz.prog f args W fun e w'=>∃ v,e= .returned v∧(∃ r:Bool,v= .tuple #[.bool r,.nilIface]∧(r=true↔p))∧Below W.heap.size W w':=by
 refine h.mono ?_
 rintro e w' ⟨r,rfl,h1,h2⟩
 exact ⟨_,rfl,⟨r,rfl,h1⟩,h2⟩
section
attribute [local go_sem] ta_object_113
theorem eq_object_len (w:World) (x y:S25) (g1 g2:Nat) (es1 es2:Array MapEntry) (ck1 ck2 n1 n2:Nat) (vs us:List Value) (hg1:w.heap[g1]? =some (.map es1 ck1)) (hg2:w.heap[g2]? =some (.map es2 ck2)) (hM1:MapIs Tryz.prog 9 RC es1 ck1 n1 (mapV x.f4 vs)) (hM2:MapIs Tryz.prog 9 RC es2 ck2 n2 (mapV y.f4 us)) (hl1:x.f4.length=vs.length) (hl2:y.f4.length=us.length) (h451:x.f4.length=x.f5.length) (h452:y.f4.length=y.f5.length) (hco1:∀ i,i < vs.length→Coded (vs.getD i .nilIface)) (hco2:∀ i,i < us.length→Coded (us.getD i .nilIface)) (hs:((many x.f4:Int) != (many y.f4:Int))=true):EqC False (.iface 113 (.map (some g1))) (.iface 113 (.map (some g2))) w:=by
 have hle1:(Builtin.len_ #[113] 3 #[.map (some g1)]).run Tryz.prog w= .ok (.int .i64 (many x.f4)) w:=by
  rw [World.ownsMap.len (R:=RC) (n:=n1) (D:=mapV x.f4 vs) ⟨es1,ck1,hg1,hM1.fit,hM1.size,hM1.eq⟩ Tryz.underlying113 3,mapV_size _ _ hl1]
 have hle2:(Builtin.len_ #[113] 3 #[.map (some g2)]).run Tryz.prog w= .ok (.int .i64 (many y.f4)) w:=by
  rw [World.ownsMap.len (R:=RC) (n:=n2) (D:=mapV y.f4 us) ⟨es2,ck2,hg2,hM2.fit,hM2.size,hM2.eq⟩ Tryz.underlying113 3,mapV_size _ _ hl2]
 have HM1:=asd_ hM1
 have HM2:=asd_ hM2
 have Hl1:=asd_ hl1
 have Hl2:=asd_ hl2
 have H451:=asd_ h451
 have H452:=asd_ h452
 have Hco1:=asd_ hco1
 have Hco2:=asd_ hco2
 clear hM1 hM2 hl1 hl2 h451 h452 hco1 hco2
 have HK:=st0_ w
 go_enter Tryz.func144,Tryz.ntmps144
 go_wp2_with fail
 go_ret2
 exact ⟨_,rfl,by simp,be_⟩
theorem eq_object_object (w:World) (x y:S25) (g1 g2:Nat) (es1 es2:Array MapEntry) (ck1 ck2 n1 n2:Nat) (vs us:List Value) (hg1:w.heap[g1]? =some (.map es1 ck1)) (hg2:w.heap[g2]? =some (.map es2 ck2)) (hM1:MapIs Tryz.prog 9 RC es1 ck1 n1 (mapV x.f4 vs)) (hM2:MapIs Tryz.prog 9 RC es2 ck2 n2 (mapV y.f4 us)) (hl1:x.f4.length=vs.length) (hl2:y.f4.length=us.length) (h451:x.f4.length=x.f5.length) (h452:y.f4.length=y.f5.length) (hco1:∀ i,i < vs.length→Coded (vs.getD i .nilIface)) (hco2:∀ i,i < us.length→Coded (us.getD i .nilIface)) (hsz:many x.f4=many y.f4) (hT:∀ i j,i < x.f5.length→j < y.f5.length→∀ W,Below w.heap.size w W→EqC (JE (x.f5.getD i z25) (y.f5.getD j z25)) (vs.getD i .nilIface) (us.getD j .nilIface) W):EqC (JEobj x y) (.iface 113 (.map (some g1))) (.iface 113 (.map (some g2))) w:=by
 have Hsz:=asd_ hsz
 have HT:=asd_ hT
 have hs:((many x.f4:Int) != (many y.f4:Int))=false:=by simp [hsz]
 clear hsz hT
 have hle1:(Builtin.len_ #[113] 3 #[.map (some g1)]).run Tryz.prog w= .ok (.int .i64 (many x.f4)) w:=by
  rw [World.ownsMap.len (R:=RC) (n:=n1) (D:=mapV x.f4 vs) ⟨es1,ck1,hg1,hM1.fit,hM1.size,hM1.eq⟩ Tryz.underlying113 3,mapV_size _ _ hl1]
 have hle2:(Builtin.len_ #[113] 3 #[.map (some g2)]).run Tryz.prog w= .ok (.int .i64 (many y.f4)) w:=by
  rw [World.ownsMap.len (R:=RC) (n:=n2) (D:=mapV y.f4 us) ⟨es2,ck2,hg2,hM2.fit,hM2.size,hM2.eq⟩ Tryz.underlying113 3,mapV_size _ _ hl2]
 have HM1:=asd_ hM1
 have HM2:=asd_ hM2
 have Hl1:=asd_ hl1
 have Hl2:=asd_ hl2
 have H451:=asd_ h451
 have H452:=asd_ h452
 have Hco1:=asd_ hco1
 have Hco2:=asd_ hco2
 clear hM1 hM2 hl1 hl2 h451 h452 hco1 hco2
 have HK:=st0_ w
 go_enter Tryz.func144,Tryz.ntmps144
 go_wp2_with (first|((with_reducible refine gd_ 52 ?_);refine rangeh_at KS at_ (blk_below hg1 be_) HM1.out rfl rfl Tryz.underlying113 rfl ?_;intro r52 since seen c0 wm52 hI HK1 hr52;have Gr52:=asd_ hr52;clear hr52;have HI:=asd_ hI;clear hI;replace HK:=asd_ HK1;clear HK1))
 go_frame
 go_loopg [] (Maps.size (mapV x.f4 vs)) (fun kq w'=>∃ (since:Nat) (seen:Array Nat) (c0:Nat) (left:Lit→Bool),Aside0 (IterIs Tryz.prog 9 RC es1 ck1 since seen c0 left kq)∧Aside0 (∀ kl,left kl=true→Maps.has (mapV x.f4 vs) kl=true)∧Aside0 (∀ s,s∈x.f4→left (lit s)=true∨OkS x y s)∧Aside0 (At w [.b r52 (.mapIter (some g1) since seen c0)] w'))
 case atStart=>exact ⟨since,seen,c0,_,HI,⟨fun _ h=>h⟩,⟨fun s hs=>Or.inl ((mapV_has Hl1.out s).2 hs)⟩,⟨at_⟩⟩
 case round=>
  clear HK HI
  obtain ⟨since,seen,c0,left,HI,HL,HO,HK⟩:=hrel
  cases gk with
  |zero=>
   go_wp2_with (first|((with_reducible refine gd_ 53 ?_);refine next_done at_ (blk_below hg1 be_) 0 rfl HI.out.cnt HI.out.hold HI.out.s1 rfl rfl rfl ?_))
   go_ret2
   have hall:∀ s,s∈x.f4→OkS x y s:=fun s hs=>by
    rcases HO.out s hs with h|h
    ·obtain ⟨e,he,hk⟩:=HI.out.l2 _ h
     have h1:=HI.out.l1 e he
     rw [hk,h] at h1
     have hsz:(leftOf es1 seen).size=0:=HI.out.cnt
     have hem:e∈leftOf es1 seen:=by
      simp only [leftOf,Array.mem_filter]
      exact ⟨Array.mem_toList_iff.1 he,h1.symm⟩
     rw [Array.eq_empty_of_size_eq_zero hsz] at hem
     simp at hem
    ·exact h
   exact ⟨_,rfl,iff_of_true rfl (eq_names hall Hsz.out),be_⟩
  |succ kk=>
   go_upto_region 12 with (first|((with_reducible refine gd_ 53 ?_);refine nexthd_more (α:=ByteArray) (β:=Value) KS Value.string id (fun key kl h=>let ⟨s,e,_⟩:=key_inv Tryz.underlying9 h;⟨s,e⟩) (fun v _ _=>⟨v,rfl⟩) at_ (blk_below hg1 be_) 0 rfl Gr52.out HM1.out HI.out rfl rfl rfl ?_;intro pk pv kl yv since2 seen2 c02 cnt2 wn53 hkey hl2 hRv hat hI2 hlt HK1 hent;have HI2:=asd_ hI2;have Hlt:=asd_ hlt;have Hkey:=asd_ hkey;have HN:=asd_ (next_is Hl1.out Hco1.out hkey (HL.out _ hl2) hRv hat);clear hI2 hl2 hlt hkey hRv hat HI;replace HK:=asd_ HK1;clear HK1))
   obtain ⟨ekl,i,hi,hil,epv⟩:=HN.out
   have Hekl:=asd_ ekl;have Hi:=asd_ hi;have Hil:=asd_ hil;have Hepv:=asd_ epv;have hpk:pk∈x.f4:=lastAt_mem.1 ⟨i,hi⟩;have Hpk:=asd_ hpk
   clear ekl hi hil epv hpk HN
   by_cases hm:pk∈y.f4
   ·have hb2:Maps.has (mapV y.f4 us) kl=true:=by rw [Hekl.out];exact (mapV_has Hl2.out pk).2 hm
    obtain ⟨j,hj⟩:=lastAt_mem.2 hm
    have Hj:=asd_ hj;have Hb2:=asd_ hb2;clear hj hb2 hm
    go_upto_region 15 with (first|((with_reducible refine gd_ 61 ?_);refine lookhd_at KS (blk_below hg2 be_) HM2.out rfl rfl Tryz.underlying113 (zero20 _) (zd:= .nil) (zp:=[]) rfl rfl rfl Hkey.out true Hb2.out ?_;intro v61 ps61 hv61;have Hv61:=asd_ hv61;clear hv61))
    have hu:v61=us.getD j .nilIface:=look_is Hl2.out Hco2.out Hj.out (by have h:=Hv61.out;rw [Hekl.out] at h;exact h)
    have hjl:j < y.f5.length:=by have:=lastAt_lt Hj.out;have:=H452.out;omega
    have hil2:i < x.f5.length:=by have:=lastAt_lt Hi.out;have:=H451.out;omega
    have hcall:∀ W,Below w.heap.size w W→EqC (JE (x.f5.getD i z25) (y.f5.getD j z25)) pv v61 W:=fun W hb=>by rw [show pv=vs.getD i .nilIface from Hepv.out,hu];exact HT.out i j hil2 hjl W hb
    have Hcall:=asd_ hcall;clear hcall hu hjl hil2
    go_upto_region 16 with (first|((with_reducible refine gd_ 69 ?_);refine cw_ #[pv,v61] Tryz.func144 (tup_form (Hcall.out _ be_)) ?_;rintro v69 wc69 HK1 ⟨rb,rfl,hrb⟩ hB;have Hrb:=asd_ hrb;clear hrb hB;replace HK:=asd_ HK1;clear HK1))
    cases rb
    case false=>
     go_wp2_with fail
     go_ret2
     exact ⟨_,rfl,iff_of_false (by simp) (fun h=>by have h1:=Hrb.out;simp at h1;exact h1 (h.2 pk i j Hi.out Hj.out)),be_⟩
    case true=>
     go_wp2_with fail
     go_roundg cnt2
     case measure=>exact Hlt.out
     case rel=>
      refine ⟨since2,seen2,c02,_,HI2,⟨fun z hz=>HL.out z (by simp at hz;exact hz.1)⟩,⟨fun s hs=> ?_⟩,⟨at_⟩⟩
      by_cases e:s=pk
      ·subst e
       exact Or.inr ⟨i,j,Hi.out,Hj.out,by have h1:=Hrb.out;simpa using h1⟩
      ·rcases HO.out s hs with h|h
       ·refine Or.inl ?_
        have hne:(lit s).sameKey kl=false:=by rw [Hekl.out];exact Maps.sameKey_ne (fun h=>e (lit_inj h))
        simp [h,hne]
       ·exact Or.inr h
   ·have hb2:Maps.has (mapV y.f4 us) kl=false:=by rw [Hekl.out];exact Bool.eq_false_iff.2 (fun h=>hm ((mapV_has Hl2.out pk).1 h))
    have Hb2:=asd_ hb2;have Hm:=asd_ hm;clear hb2 hm
    go_wp2_with (first|((with_reducible refine gd_ 61 ?_);refine lookhd_at KS (blk_below hg2 be_) HM2.out rfl rfl Tryz.underlying113 (zero20 _) (zd:= .nil) (zp:=[]) rfl rfl rfl Hkey.out false Hb2.out ?_;intro v61 ps61 hv61;have Hv61:=asd_ hv61;clear hv61))
    go_ret2
    exact ⟨_,rfl,iff_of_false (by simp) (fun h=>Hm.out ((h.1 pk).1 Hpk.out)),be_⟩
end
end Go.Proofs.YtkphbhncpdcbeaaGreatDoor.J
namespace Go.Proofs.YtkphbhncpdcbeaaGreatDoor.J
open Go.RowKit YtkphbhncpdcbeaaGreatDoorW.PrintWords YtkphbhncpdcbeaaGreatDoorW.PrintLast YtkphbhncpdcbeaaGreatDoorW.PrintMore PJT
theorem eqs_ne (w:World) (x y:S25) (A4 A5 B4 B5:Option Addr) (c4 c5 d4 d5:Nat) (hne:(x.f0 != y.f0)=true):
  Calls Tryz.prog 61 #[.agg (jvc x A4 A5 c4 c5),.agg (jvc y B4 B5 d4 d5)] w fun e w'=>∃ r:Bool,e= .returned (.bool r)∧Below w.heap.size w w':=by
 have HK:=st0_ w
 go_enter Tryz.func61,Tryz.ntmps61
 go_wp2_with (first|((with_reducible refine gd_ 2 ?_);refine bx_ (jvc x A4 A5 c4 c5) 25 ?_;clear HK;intro g2 wb2 HK Gg2;replace Bc:=ce1_ HK 0)|((with_reducible refine gd_ 3 ?_);refine bx_ (jvc y B4 B5 d4 d5) 25 ?_;clear HK;intro g3 wb3 HK Gg3;replace Bc:=ce2_ HK 1 0))
 go_ret
 exact ⟨_,rfl,be_⟩
theorem eqs_null (w:World) (x y:S25) (A4 A5 B4 B5:Option Addr) (c4 c5 d4 d5:Nat) (hne:(x.f0 != y.f0)=false) (k1:(x.f0 == 1)=false) (k2:(x.f0 == 2)=false) (k3:(x.f0 == 3)=false) (k4:(x.f0 == 4)=false) (k5:(x.f0 == 5)=false):
  Calls Tryz.prog 61 #[.agg (jvc x A4 A5 c4 c5),.agg (jvc y B4 B5 d4 d5)] w fun e w'=>∃ r:Bool,e= .returned (.bool r)∧Below w.heap.size w w':=by
 have HK:=st0_ w
 go_enter Tryz.func61,Tryz.ntmps61
 go_wp2_with (first|((with_reducible refine gd_ 2 ?_);refine bx_ (jvc x A4 A5 c4 c5) 25 ?_;clear HK;intro g2 wb2 HK Gg2;replace Bc:=ce1_ HK 0)|((with_reducible refine gd_ 3 ?_);refine bx_ (jvc y B4 B5 d4 d5) 25 ?_;clear HK;intro g3 wb3 HK Gg3;replace Bc:=ce2_ HK 1 0))
 go_ret
 exact ⟨_,rfl,be_⟩
theorem eqs_bool (w:World) (x y:S25) (A4 A5 B4 B5:Option Addr) (c4 c5 d4 d5:Nat) (hne:(x.f0 != y.f0)=false) (k1:(x.f0 == 1)=true):
  Calls Tryz.prog 61 #[.agg (jvc x A4 A5 c4 c5),.agg (jvc y B4 B5 d4 d5)] w fun e w'=>∃ r:Bool,e= .returned (.bool r)∧Below w.heap.size w w':=by
 have HK:=st0_ w
 go_enter Tryz.func61,Tryz.ntmps61
 go_wp2_with (first|((with_reducible refine gd_ 2 ?_);refine bx_ (jvc x A4 A5 c4 c5) 25 ?_;clear HK;intro g2 wb2 HK Gg2;replace Bc:=ce1_ HK 0)|((with_reducible refine gd_ 3 ?_);refine bx_ (jvc y B4 B5 d4 d5) 25 ?_;clear HK;intro g3 wb3 HK Gg3;replace Bc:=ce2_ HK 1 0))
 go_ret
 exact ⟨_,rfl,be_⟩
theorem eqs_text (w:World) (x y:S25) (A4 A5 B4 B5:Option Addr) (c4 c5 d4 d5:Nat) (hne:(x.f0 != y.f0)=false) (k1:(x.f0 == 1)=false) (k2:(x.f0 == 2)=false) (k3:(x.f0 == 3)=true):
  Calls Tryz.prog 61 #[.agg (jvc x A4 A5 c4 c5),.agg (jvc y B4 B5 d4 d5)] w fun e w'=>∃ r:Bool,e= .returned (.bool r)∧Below w.heap.size w w':=by
 have HK:=st0_ w
 go_enter Tryz.func61,Tryz.ntmps61
 go_wp2_with (first|((with_reducible refine gd_ 2 ?_);refine bx_ (jvc x A4 A5 c4 c5) 25 ?_;clear HK;intro g2 wb2 HK Gg2;replace Bc:=ce1_ HK 0)|((with_reducible refine gd_ 3 ?_);refine bx_ (jvc y B4 B5 d4 d5) 25 ?_;clear HK;intro g3 wb3 HK Gg3;replace Bc:=ce2_ HK 1 0))
 go_ret
 exact ⟨_,rfl,be_⟩
theorem eqs_len (w:World) (x y:S25) (A4 A5 B4 B5:Option Addr) (c4 c5 d4 d5:Nat) (hne:(x.f0 != y.f0)=false) (k1:(x.f0 == 1)=false) (k2:(x.f0 == 2)=false) (k3:(x.f0 == 3)=false) (k4:(x.f0 == 4)=true) (hl:((x.f5.length:Int) != (y.f5.length:Int))=true):
  Calls Tryz.prog 61 #[.agg (jvc x A4 A5 c4 c5),.agg (jvc y B4 B5 d4 d5)] w fun e w'=>∃ r:Bool,e= .returned (.bool r)∧Below w.heap.size w w':=by
 have HK:=st0_ w
 go_enter Tryz.func61,Tryz.ntmps61
 go_wp2_with (first|((with_reducible refine gd_ 2 ?_);refine bx_ (jvc x A4 A5 c4 c5) 25 ?_;clear HK;intro g2 wb2 HK Gg2;replace Bc:=ce1_ HK 0)|((with_reducible refine gd_ 3 ?_);refine bx_ (jvc y B4 B5 d4 d5) 25 ?_;clear HK;intro g3 wb3 HK Gg3;replace Bc:=ce2_ HK 1 0))
 go_ret
 exact ⟨_,rfl,be_⟩
theorem eqs_array (w:World) (x y:S25) (A4 A5 B4 B5:Option Addr) (c4 c5 d4 d5:Nat) (hne:(x.f0 != y.f0)=false) (k1:(x.f0 == 1)=false) (k2:(x.f0 == 2)=false) (k3:(x.f0 == 3)=false) (k4:(x.f0 == 4)=true) (hx:Rep w x A4 c4 A5 c5) (hy:Rep w y B4 d4 B5 d5) (hn5:x.f5.length≤LM) (hl:x.f5.length=y.f5.length) (hVy:∀ z∈y.f5,V z) (hT:∀ a∈x.f5,∀ b,V b→∀ W A4 A5 B4 B5 c4 c5 d4 d5,Below w.heap.size w W→Rep W a A4 c4 A5 c5→Rep W b B4 d4 B5 d5→Calls Tryz.prog 61 #[.agg (jvc a A4 A5 c4 c5),.agg (jvc b B4 B5 d4 d5)] W fun e w'=>∃ r:Bool,e= .returned (.bool r)∧Below W.heap.size W w'):
  Calls Tryz.prog 61 #[.agg (jvc x A4 A5 c4 c5),.agg (jvc y B4 B5 d4 d5)] w fun e w'=>∃ r:Bool,e= .returned (.bool r)∧Below w.heap.size w w':=by
 have Hx:=asd_ hx
 have Hy:=asd_ hy
 have Hn5:=asd_ hn5
 have HVy:=asd_ hVy
 have HT:=asd_ hT
 have hlen:((x.f5.length:Int) != (y.f5.length:Int))=false:=by simp [hl]
 clear hx hy hn5 hVy hT
 have HK:=st0_ w
 go_enter Tryz.func61,Tryz.ntmps61
 go_wp2_with (first|((with_reducible refine gd_ 2 ?_);refine bx_ (jvc x A4 A5 c4 c5) 25 ?_;clear HK;intro g2 wb2 HK Gg2;replace Bc:=ce1_ HK 0)|((with_reducible refine gd_ 3 ?_);refine bx_ (jvc y B4 B5 d4 d5) 25 ?_;clear HK;intro g3 wb3 HK Gg3;replace Bc:=ce2_ HK 1 0))
 go_loopg [5] x.f5.length (fun kq v5 w'=>∃ i:Int,v5= .int .i64 i∧0≤i∧i + kq=x.f5.length∧Aside0 (At w [.b g3 (row (jvc y B4 B5 d4 d5) 25),.b g2 (row (jvc x A4 A5 c4 c5) 25)] w'))
 case atStart=>exact ⟨0,rfl,by omega,by omega,⟨at_⟩⟩
 case round=>
  clear HK
  obtain ⟨i,rfl,hi0,hik,HK⟩:=hrel
  replace Bc:=ce2_ HK 1 0
  cases gk with
  |zero=>
   have ht:decide (i < (x.f5.length:Int))=false:=decide_eq_false (by omega)
   go_wp2_with fail
   go_ret
   exact ⟨_,rfl,be_⟩
  |succ kk=>
   have ht:decide (i < (x.f5.length:Int))=true:=decide_eq_true (by omega)
   have hil:i < (x.f5.length:Int):=by omega
   have hil2:i < (y.f5.length:Int):=by omega
   obtain ⟨adp,Ep4,ep4,Ep5,ep5,eqp,h0p,h1p,h2p,h3p,h4p,h5p,m4,n4,m5,n5⟩:=at_T25 Hx.out.h5 i hi0 hil
   subst eqp
   have Hcp:=asd_ (And.intro h0p (And.intro h1p (And.intro h2p (And.intro h3p (And.intro h4p h5p)))));have HNp:=asd_ (And.intro m4 (And.intro n4 (And.intro m5 n5)));clear m4 n4 m5 n5 h0p h1p h2p h3p h4p h5p
   obtain ⟨adq,Eq4,eq4,Eq5,eq5,eqq,h0q,h1q,h2q,h3q,h4q,h5q,m4,n4,m5,n5⟩:=at_T25 Hy.out.h5 i hi0 hil2
   subst eqq
   have Hcq:=asd_ (And.intro h0q (And.intro h1q (And.intro h2q (And.intro h3q (And.intro h4q h5q)))));have HNq:=asd_ (And.intro m4 (And.intro n4 (And.intro m5 n5)));clear m4 n4 m5 n5 h0q h1q h2q h3q h4q h5q
   have HY1:=asd_ (rd_T25_in hi0 hil);have HY2:=asd_ (rd_T25_in hi0 hil2);have Hik:=asd_ hik;have Hi0:=asd_ hi0;have Hil:=asd_ hil
   have p1:=eq_true hi0;have p2:=eq_true hil;have p3:=eq_true hil2
   clear hik hi0 hil hil2
   go_wp2_with fail
   refine st_ 12 (fun w'=>At w [.b g3 (row (jvc y B4 (some adq) d4 d5) 25),.b g2 (row (jvc x A4 (some adp) c4 c5) 25)] w'∧(∀ j,w'.cell? ⟨g2,j,none⟩=(jvc x A4 (some adp) c4 c5:Array Value)[j]?)∧(∀ j,w'.cell? ⟨g3,j,none⟩=(jvc y B4 (some adq) d4 d5:Array Value)[j]?)∧w'.cell? (adp.add (i.toNat * 6))=some (.int .i64 (rd_T25 x.f5 i).f0)∧w'.cell? ⟨(adp.add (i.toNat * 6)).block,(adp.add (i.toNat * 6)).off + 1,none⟩=some (.bool (rd_T25 x.f5 i).f1)∧w'.cell? ⟨(adp.add (i.toNat * 6)).block,(adp.add (i.toNat * 6)).off + 2,none⟩=some (.int .i64 (rd_T25 x.f5 i).f2)∧w'.cell? ⟨(adp.add (i.toNat * 6)).block,(adp.add (i.toNat * 6)).off + 3,none⟩=some (.string (rd_T25 x.f5 i).f3)∧w'.cell? ⟨(adp.add (i.toNat * 6)).block,(adp.add (i.toNat * 6)).off + 4,none⟩=some (.slice Ep4 (rd_T25 x.f5 i).f4.length ep4)∧w'.cell? ⟨(adp.add (i.toNat * 6)).block,(adp.add (i.toNat * 6)).off + 5,none⟩=some (.slice Ep5 (rd_T25 x.f5 i).f5.length ep5)∧w'.cell? (adq.add (i.toNat * 6))=some (.int .i64 (rd_T25 y.f5 i).f0)∧w'.cell? ⟨(adq.add (i.toNat * 6)).block,(adq.add (i.toNat * 6)).off + 1,none⟩=some (.bool (rd_T25 y.f5 i).f1)∧w'.cell? ⟨(adq.add (i.toNat * 6)).block,(adq.add (i.toNat * 6)).off + 2,none⟩=some (.int .i64 (rd_T25 y.f5 i).f2)∧w'.cell? ⟨(adq.add (i.toNat * 6)).block,(adq.add (i.toNat * 6)).off + 3,none⟩=some (.string (rd_T25 y.f5 i).f3)∧w'.cell? ⟨(adq.add (i.toNat * 6)).block,(adq.add (i.toNat * 6)).off + 4,none⟩=some (.slice Eq4 (rd_T25 y.f5 i).f4.length eq4)∧w'.cell? ⟨(adq.add (i.toNat * 6)).block,(adq.add (i.toNat * 6)).off + 5,none⟩=some (.slice Eq5 (rd_T25 y.f5 i).f5.length eq5)) [] (fun A=>⟨A,(cA_ A 1),(cA_ A 0),((A.b.cell (World.block_lt_of_cell? w _ Hcp.out.1)).trans Hcp.out.1),((A.b.cell (World.block_lt_of_cell? w _ Hcp.out.2.1)).trans Hcp.out.2.1),((A.b.cell (World.block_lt_of_cell? w _ Hcp.out.2.2.1)).trans Hcp.out.2.2.1),((A.b.cell (World.block_lt_of_cell? w _ Hcp.out.2.2.2.1)).trans Hcp.out.2.2.2.1),((A.b.cell (World.block_lt_of_cell? w _ Hcp.out.2.2.2.2.1)).trans Hcp.out.2.2.2.2.1),((A.b.cell (World.block_lt_of_cell? w _ Hcp.out.2.2.2.2.2)).trans Hcp.out.2.2.2.2.2),((A.b.cell (World.block_lt_of_cell? w _ Hcq.out.1)).trans Hcq.out.1),((A.b.cell (World.block_lt_of_cell? w _ Hcq.out.2.1)).trans Hcq.out.2.1),((A.b.cell (World.block_lt_of_cell? w _ Hcq.out.2.2.1)).trans Hcq.out.2.2.1),((A.b.cell (World.block_lt_of_cell? w _ Hcq.out.2.2.2.1)).trans Hcq.out.2.2.2.1),((A.b.cell (World.block_lt_of_cell? w _ Hcq.out.2.2.2.2.1)).trans Hcq.out.2.2.2.2.1),((A.b.cell (World.block_lt_of_cell? w _ Hcq.out.2.2.2.2.2)).trans Hcq.out.2.2.2.2.2)⟩) (fun hHeld=> ?_)
   refine pu_ 0 51 1 ?_
   refine pu_ 2 53 5 ?_
   refine pu_ 5 56 37 ?_
   refine pu_ 7 58 165 ?_
   refine ta15_ 1 52 167 hHeld ?_
   refine pu_ 3 54 175 ?_
   refine ta15_ 4 55 191 hHeld ?_
   refine ta15_ 6 57 255 hHeld ?_
   refine pu_ 8 59 511 ?_
   refine ta15_ 9 60 1023 hHeld ?_
   refine on_ 10 61 2047 (fun K hK=> ?_)
   have HE:=asd_ (hHeld.1)
   refine ge_ Tryz.func61 #[.agg (#[.int .i64 (rd_T25 x.f5 i).f0,.bool (rd_T25 x.f5 i).f1,.int .i64 (rd_T25 x.f5 i).f2,.string (rd_T25 x.f5 i).f3,.slice Ep4 (rd_T25 x.f5 i).f4.length ep4,.slice Ep5 (rd_T25 x.f5 i).f5.length ep5]),.agg (#[.int .i64 (rd_T25 y.f5 i).f0,.bool (rd_T25 y.f5 i).f1,.int .i64 (rd_T25 y.f5 i).f2,.string (rd_T25 y.f5 i).f3,.slice Eq4 (rd_T25 y.f5 i).f4.length eq4,.slice Eq5 (rd_T25 y.f5 i).f5.length eq5])] ?_
   with_reducible refine (HT.out _ HY1.out _ (HVy.out _ HY2.out) _ _ _ _ _ _ _ _ _ HE.out.b ⟨Kd.C_below HNp.out.2.1 HE.out.b,HNp.out.1,Kd.C_below HNp.out.2.2.2 HE.out.b,HNp.out.2.2.1⟩ ⟨Kd.C_below HNq.out.2.1 HE.out.b,HNq.out.1,Kd.C_below HNq.out.2.2.2 HE.out.b,HNq.out.2.2.1⟩).mono ?_
   rintro e w3 ⟨rb,rfl,hb⟩
   refine ⟨_,rfl,?_⟩
   have HE0:=At.step HE.out hb
   replace HE:=asd_ HE0;clear HE0
   refine hK.out _ _ ⟨HE.out,(cE_ HE 1),(cE_ HE 0),((HE.out.b.cell (World.block_lt_of_cell? w _ Hcp.out.1)).trans Hcp.out.1),((HE.out.b.cell (World.block_lt_of_cell? w _ Hcp.out.2.1)).trans Hcp.out.2.1),((HE.out.b.cell (World.block_lt_of_cell? w _ Hcp.out.2.2.1)).trans Hcp.out.2.2.1),((HE.out.b.cell (World.block_lt_of_cell? w _ Hcp.out.2.2.2.1)).trans Hcp.out.2.2.2.1),((HE.out.b.cell (World.block_lt_of_cell? w _ Hcp.out.2.2.2.2.1)).trans Hcp.out.2.2.2.2.1),((HE.out.b.cell (World.block_lt_of_cell? w _ Hcp.out.2.2.2.2.2)).trans Hcp.out.2.2.2.2.2),((HE.out.b.cell (World.block_lt_of_cell? w _ Hcq.out.1)).trans Hcq.out.1),((HE.out.b.cell (World.block_lt_of_cell? w _ Hcq.out.2.1)).trans Hcq.out.2.1),((HE.out.b.cell (World.block_lt_of_cell? w _ Hcq.out.2.2.1)).trans Hcq.out.2.2.1),((HE.out.b.cell (World.block_lt_of_cell? w _ Hcq.out.2.2.2.1)).trans Hcq.out.2.2.2.1),((HE.out.b.cell (World.block_lt_of_cell? w _ Hcq.out.2.2.2.2.1)).trans Hcq.out.2.2.2.2.1),((HE.out.b.cell (World.block_lt_of_cell? w _ Hcq.out.2.2.2.2.2)).trans Hcq.out.2.2.2.2.2)⟩ (fun hHeld=> ?_)
   clear hK K
   refine nq_ 61 ?_
   refine pu_ 11 62 4095 ?_
   refine done_ kr_ ?_
   clear HK;have HK:=HE;clear HE
   clear hHeld
   replace Bc:=ce2_ HK 1 0
   cases rb
   case false=>
    go_wp2_with fail
    go_ret
    exact ⟨_,rfl,be_⟩
   case true=>
    go_wp2_with fail
    go_roundg kk
    case measure=>exact Nat.lt_succ_self _
    case rel=>
     exact ⟨wrap64 (i + 1),rfl,by have:=Hi0.out;rw [wup Hi0.out Hil.out Hn5.out];omega,by have:=Hik.out;rw [wup Hi0.out Hil.out Hn5.out];omega,⟨at_⟩⟩
theorem R_C {α:Type} {d:Kd α} {e:Nat} {w:World} {base:Nat} {ok:Nat→Prop} {A:Option Addr} {n c:Nat} {xs:List α} (h:Kd.R d e w base ok (.slice A n c) xs):n=xs.length∧xs.length≤c∧Kd.C d w A xs.length xs:=by
 obtain ⟨A',c',e,h1,h2⟩:=Kd.R_reads h
 cases e
 exact ⟨rfl,h1,h2⟩
def Fact.ints (v : Value) (xs : List Int) : Fact where
  P W := Kd.R (Kd.int .i64) 3 W 0 (fun _ => True) v xs
  below h hb := Kd.R_below h hb
  far h hg ht ho := R_far_of h hg ht ho (by intro q hq; have : q = 3 := by simpa [Kd.int, Kd.scalar] using hq
                                            subst this; rfl)
theorem rd_mem {l:List Int} {i:Int} (h0:0≤i) (h1:i < (l.length:Int)):rd l i∈l:=by
 unfold rd
 rw [getD_lt (by omega:i.toNat < l.length)]
 exact List.getElem_mem _
theorem ints_at {W:World} {ad:Addr} {n c:Nat} {l:List Int} (h:(Fact.ints (.slice (some ad) n c) l).P W) (i:Int) (h0:0≤i) (h1:i < (l.length:Int)):W.cell? (ad.add i.toNat)=some (.int .i64 (rd l i)):=by
 obtain ⟨ad',e,h⟩:=Kd.at_int (R_C h).2.2 i h0 h1
 cases e
 exact h
theorem members_ok (w:World) (x:S25) (A4 A5:Option Addr) (c4 c5:Nat) (l:List Int) (k:Nat) (hx:Rep w x A4 c4 A5 c5) (hl:spec_JMembers.f k x.f0 x.f1 x.f2 x.f3 x.f4 x.f5=some l):
  Calls Tryz.prog 74 #[.agg (jvc x A4 A5 c4 c5)] w fun e w'=>∃ v,e= .returned v∧(∃ A c,v= .slice A l.length c∧(Fact.ints (.slice A l.length c) l).P w')∧Below w.heap.size w w':=by
 refine (spec_JMembers.calls k x.f0 x.f1 x.f2 x.f3 A4 c4 x.f4 A5 c5 x.f5 l w hx.h4 hx.l4 hx.h5 hx.l5 hl).mono ?_
 rintro e w' ⟨v,rfl,hR,hb⟩
 obtain ⟨A,c,rfl,_,_⟩:=Kd.R_reads hR
 exact ⟨_,rfl,⟨A,c,rfl,Kd.R_lower hR (Nat.zero_le _)⟩,hb⟩
theorem strs_ints {W:World} {A:Option Addr} {n c:Nat} {l:List Int} (h:(Fact.ints (.slice A n c) l).P W):Kd.C (Kd.int .i64) W A l.length l:=(R_C (show Kd.R (Kd.int .i64) 3 W 0 _ (.slice A n c) l from h)).2.2
theorem members_all (x:S25) (hn:x.f4.length≤LM):∃ k l,spec_JMembers.f k x.f0 x.f1 x.f2 x.f3 x.f4 x.f5=some l∧(∀ j∈l,0≤j∧j < (x.f4.length:Int))∧l.length≤LM:=by
 obtain ⟨l,k,h1,h3,h2⟩:=members_is x.f0 x.f1 x.f2 x.f3 x.f4 x.f5 hn
 exact ⟨k,l,h1,h3,Nat.le_trans h2 hn⟩
theorem bool_form {f:FuncId} {args:Array Value} {W:World} (h:Calls Tryz.prog f args W fun e w'=>∃ r:Bool,e= .returned (.bool r)∧Below W.heap.size W w'):Calls Tryz.prog f args W fun e w'=>∃ v,e= .returned v∧(∃ r:Bool,v= .bool r)∧Below W.heap.size W w':=by
 refine h.mono ?_
 rintro e w' ⟨r,rfl,hb⟩
 exact ⟨_,rfl,⟨r,rfl⟩,hb⟩
section
variable (q0:Int) (q1:Bool) (q2:Int) (q3:ByteArray) (xs:List ByteArray) (q5:List S25) (p0:Int) (p1:Bool) (p2:Int) (p3:ByteArray) (ys:List ByteArray) (p5:List S25)
theorem has_tells (hx:xs.length≤LM) (hy:ys.length≤LM) (d:Nat):∀ (i:Int),0≤i→i≤xs.length→(xs.length:Int) - i=d→∃ r,∀ k,d + ys.length < k→spec_jHas.l0 k i q0 q1 q2 q3 xs q5 p0 p1 p2 p3 ys p5=some r:=by
 induction d with
 |zero=>
  intro i h0 h1 hd
  refine ⟨true,fun k hk=> ?_⟩
  obtain ⟨k,rfl⟩:∃ m,k=m + 1:=⟨k - 1,by omega⟩
  simp only [spec_jHas.l0];rw [if_neg (by omega)]
 |succ d ih=>
  intro i h0 h1 hd
  obtain ⟨r0,hr0,_⟩:=member_is p0 p1 p2 p3 ys p5 (rdOf ByteArray.empty xs i) hy
  by_cases hn:r0 < 0
  ·refine ⟨false,fun k hk=> ?_⟩
   obtain ⟨k,rfl⟩:∃ m,k=m + 1:=⟨k - 1,by omega⟩
   simp only [spec_jHas.l0]
   rw [if_pos (by omega),if_pos h0,hr0 k (by omega)]
   simp [hn]
  ·obtain ⟨r,hr⟩:=ih (i + 1) (by omega) (by omega) (by omega)
   refine ⟨r,fun k hk=> ?_⟩
   obtain ⟨k,rfl⟩:∃ m,k=m + 1:=⟨k - 1,by omega⟩
   simp only [spec_jHas.l0]
   rw [if_pos (by omega),if_pos h0,hr0 k (by omega)]
   simp only [Option.bind_some,if_neg hn]
   rw [wup (n:=xs.length) h0 (by omega) hx]
   exact hr k (by omega)
end
theorem has_ok (w:World) (x y:S25) (A4 A5 B4 B5:Option Addr) (c4 c5 d4 d5:Nat) (hx:Rep w x A4 c4 A5 c5) (hy:Rep w y B4 d4 B5 d5) (hn:x.f4.length≤LM) (hm:y.f4.length≤LM):
  Calls Tryz.prog 114 #[.agg (jvc x A4 A5 c4 c5),.agg (jvc y B4 B5 d4 d5)] w fun e w'=>∃ r:Bool,e= .returned (.bool r)∧Below w.heap.size w w':=by
 obtain ⟨r,hr⟩:=has_tells x.f0 x.f1 x.f2 x.f3 x.f4 x.f5 y.f0 y.f1 y.f2 y.f3 y.f4 y.f5 hn hm x.f4.length 0 (Int.le_refl _) (by omega) (by omega)
 refine (spec_jHas.calls (x.f4.length + y.f4.length + 1) x.f0 x.f1 x.f2 x.f3 A4 c4 x.f4 A5 c5 x.f5 y.f0 y.f1 y.f2 y.f3 B4 d4 y.f4 B5 d5 y.f5 r w hx.h4 hx.l4 hx.h5 hx.l5 hy.h4 hy.l4 hy.h5 hy.l5 (hr _ (Nat.lt_succ_self _))).mono ?_
 rintro e w' ⟨rfl,hb⟩
 exact ⟨r,rfl,hb⟩
theorem within_any (w:World) (x y:S25) (A4 A5 B4 B5:Option Addr) (c4 c5 d4 d5:Nat) (hx:Rep w x A4 c4 A5 c5) (hy:Rep w y B4 d4 B5 d5) (hn4:x.f4.length≤LM) (hm4:y.f4.length≤LM) (hex:x.f4.length=x.f5.length) (hey:y.f4.length=y.f5.length) (hVy:∀ z∈y.f5,V z) (hT:∀ a∈x.f5,∀ b,V b→∀ W A4 A5 B4 B5 c4 c5 d4 d5,Below w.heap.size w W→Rep W a A4 c4 A5 c5→Rep W b B4 d4 B5 d5→Calls Tryz.prog 61 #[.agg (jvc a A4 A5 c4 c5),.agg (jvc b B4 B5 d4 d5)] W fun e w'=>∃ r:Bool,e= .returned (.bool r)∧Below W.heap.size W w'):
  Calls Tryz.prog 115 #[.agg (jvc x A4 A5 c4 c5),.agg (jvc y B4 B5 d4 d5)] w fun e w'=>∃ r:Bool,e= .returned (.bool r)∧Below w.heap.size w w':=by
 obtain ⟨km,l,hkm,hlm,hll⟩:=members_all x hn4
 have Hx:=asd_ hx
 have Hy:=asd_ hy
 have HVy:=asd_ hVy
 have HT:=asd_ hT
 have Hex:=asd_ hex
 have Hey:=asd_ hey
 clear hx hy hVy hT hex hey
 have HK:=st0_ w
 go_enter Tryz.func115,Tryz.ntmps115
 go_wp2_with (first|((with_reducible refine gd_ 2 ?_);refine bx_ (jvc x A4 A5 c4 c5) 25 ?_;clear HK;intro g2 wb2 HK Gg2;replace Bc:=ce1_ HK 0)|((with_reducible refine gd_ 3 ?_);refine bx_ (jvc y B4 B5 d4 d5) 25 ?_;clear HK;intro g3 wb3 HK Gg3;replace Bc:=ce2_ HK 1 0)|((with_reducible refine gd_ 8 ?_);refine lo_ 25 2 g2 (jvc x A4 A5 c4 c5) HK.out.k.2.1 Tryz.underlying25 ?_)|((with_reducible refine gd_ 9 ?_);refine cw_ #[.agg (jvc x A4 A5 c4 c5)] Tryz.func74 (members_ok _ x A4 A5 c4 c5 l km (Hx.out.below HK.out.b) hkm) ?_;rintro v9 wc9 HK0 ⟨Al,cl,rfl,hF⟩ hB;have HK1:=At.fact (Fact.ints (.slice Al l.length cl) l) HK0 hF;clear HK0 hF hB;replace HK:=asd_ HK1;clear HK1;replace Bc:=ce2_ HK 2 1))
 go_loopg [6] l.length (fun kq v6 w'=>∃ i:Int,v6= .int .i64 i∧0≤i∧i + kq=l.length∧Aside0 (At w [.f (Fact.ints (.slice Al l.length cl) l),.b g3 (row (jvc y B4 B5 d4 d5) 25),.b g2 (row (jvc x A4 A5 c4 c5) 25)] w'))
 case atStart=>exact ⟨0,rfl,by omega,by omega,⟨at_⟩⟩
 case round=>
  clear HK
  obtain ⟨i,rfl,hi0,hik,HK⟩:=hrel
  replace Bc:=ce2_ HK 2 1
  cases gk with
  |zero=>
   have ht:decide (i < (l.length:Int))=false:=decide_eq_false (by omega)
   go_wp2_with fail
   go_ret
   exact ⟨_,rfl,be_⟩
  |succ kk=>
   have ht:decide (i < (l.length:Int))=true:=decide_eq_true (by omega)
   have hil:i < (l.length:Int):=by omega
   obtain ⟨adl,el⟩:=some_of (strs_ints HK.out.k.1) (by omega)
   subst el
   have hj:=hlm _ (rd_mem hi0 hil)
   obtain ⟨hj0,hj1⟩:=hj
   obtain ⟨ad4,e4,hc4⟩:=Kd.at_string Hx.out.h4 (rd l i) hj0 hj1
   subst e4
   obtain ⟨r,hr,hr0,hr1,hrm⟩:=member_is y.f0 y.f1 y.f2 y.f3 y.f4 y.f5 (rdOf ByteArray.empty x.f4 (rd l i)) hm4
   have Hc4:=asd_ hc4;have Hr:=asd_ hr;have Hik:=asd_ hik;have Hi0:=asd_ hi0;have Hil:=asd_ hil;have Hj0:=asd_ hj0;have Hj1:=asd_ hj1;have Hr1:=asd_ hr1
   have p1:=eq_true hi0;have p2:=eq_true hil;have p3:=eq_true hj0;have p4:=eq_true hj1
   clear hrm hc4 hr hr0 hik hi0 hil hj0 hj1 hr1
   go_wp2_with fail
   refine st_ 11 (fun w'=>At w [.f (Fact.ints (.slice (some adl) l.length cl) l),.b g3 (row (jvc y B4 B5 d4 d5) 25),.b g2 (row (jvc x (some ad4) A5 c4 c5) 25)] w'∧(∀ j,w'.cell? ⟨g2,j,none⟩=(jvc x (some ad4) A5 c4 c5:Array Value)[j]?)∧(∀ j,w'.cell? ⟨g3,j,none⟩=(jvc y B4 B5 d4 d5:Array Value)[j]?)∧w'.cell? (adl.add i.toNat)=some (.int .i64 (rd l i))∧w'.cell? (ad4.add (rd l i).toNat)=some (.string (rdOf ByteArray.empty x.f4 (rd l i)))) [] (fun A=>⟨A,(cA_ A 2),(cA_ A 1),(ints_at A.k.1 i Hi0.out Hil.out),((A.b.cell (World.block_lt_of_cell? w _ Hc4.out)).trans Hc4.out)⟩) (fun hHeld=> ?_)
   refine pu_ 1 17 2 ?_
   refine pu_ 3 19 10 ?_
   refine pu_ 4 20 26 ?_
   refine pu_ 5 21 58 ?_
   refine ta5_ 2 18 62 hHeld ?_
   refine ta5_ 6 22 126 hHeld ?_
   refine pu_ 7 23 254 ?_
   refine ta5_ 8 24 510 hHeld ?_
   refine on_ 0 16 511 (fun K hK=> ?_)
   refine loadr_ (ty:=25) (x:= .tmp 3) g3 (jvc y B4 B5 d4 d5) (by rfl) rfl rfl rfl hHeld.1.k.2.1 Tryz.underlying25 rfl kr_ ?_
   refine hK.out _ _ ⟨hHeld.1,hHeld.2.1,hHeld.2.2.1,hHeld.2.2.2.1,hHeld.2.2.2.2⟩ (fun hHeld=> ?_)
   clear hK K
   refine nq_ 16 ?_
   refine on_ 9 25 1023 (fun K hK=> ?_)
   have HE:=asd_ (hHeld.1)
   refine ge_ Tryz.func65 #[.agg (jvc y B4 B5 d4 d5),.string (rdOf ByteArray.empty x.f4 (rd l i))] ?_
   with_reducible refine (member_ok _ y B4 B5 d4 d5 _ r (Hy.out.below HE.out.b) Hr.out).mono ?_
   rintro e w3 ⟨rfl,hb⟩
   refine ⟨_,rfl,?_⟩
   replace HE:=asd_ (At.step HE.out hb)
   refine hK.out _ _ ⟨HE.out,(cE_ HE 2),(cE_ HE 1),(ints_at HE.out.k.1 i Hi0.out Hil.out),((HE.out.b.cell (World.block_lt_of_cell? w _ Hc4.out)).trans Hc4.out)⟩ (fun hHeld=> ?_)
   clear hK K
   refine nq_ 25 ?_
   refine pu_ 10 7 2047 ?_
   refine done_ kr_ ?_
   clear HK;have HK:=HE;clear HE
   clear hHeld
   replace Bc:=ce2_ HK 2 1
   go_wp2_with fail
   cases hd:decide (r < 0)
   case true=>
    refine su2_ 19 HK 2 1 [] (fun HS hHeld=> ?_)
    refine pu_ 0 26 1 ?_
    refine pu_ 1 27 3 ?_
    refine pu_ 2 28 7 ?_
    refine pn_ 3 29 15 ?_
    refine pn_ 4 30 31 ?_
    refine pn_ 5 31 63 ?_
    refine pn_ 6 32 127 ?_
    refine pn_ 7 33 255 ?_
    refine pn_ 8 34 511 ?_
    refine pn_ 9 35 1023 ?_
    refine pn_ 10 36 2047 ?_
    refine pn_ 11 37 4095 ?_
    refine pn_ 12 38 8191 ?_
    refine pn_ 13 39 16383 ?_
    refine pn_ 14 40 32767 ?_
    refine pn_ 15 41 65535 ?_
    refine pn_ 16 42 131071 ?_
    refine pn_ 17 43 262143 ?_
    refine pu_ 18 44 524287 ?_
    refine done_ kr_ ?_
    clear HK;have HK:=asd_ hHeld.1
    clear hHeld
    replace Bc:=ce2_ HK 2 1
    go_wp2_with fail
    go_ret
    exact ⟨_,rfl,be_⟩
   case false=>
    have hr0:0≤r:=by have:=of_decide_eq_false hd;omega
    have hj5:rd l i < (x.f5.length:Int):=by have:=Hj1.out;have:=Hex.out;omega
    have hr5:r < (y.f5.length:Int):=by have:=Hr1.out;have:=Hey.out;omega
    obtain ⟨adp,Ep4,ep4,Ep5,ep5,eqp,h0p,h1p,h2p,h3p,h4p,h5p,m4,n4,m5,n5⟩:=at_T25 Hx.out.h5 (rd l i) Hj0.out hj5
    subst eqp
    have Hcp:=asd_ (And.intro h0p (And.intro h1p (And.intro h2p (And.intro h3p (And.intro h4p h5p)))));have HNp:=asd_ (And.intro m4 (And.intro n4 (And.intro m5 n5)));clear m4 n4 m5 n5 h0p h1p h2p h3p h4p h5p
    obtain ⟨adq,Eq4,eq4,Eq5,eq5,eqq,h0q,h1q,h2q,h3q,h4q,h5q,m4,n4,m5,n5⟩:=at_T25 Hy.out.h5 r hr0 hr5
    subst eqq
    have Hcq:=asd_ (And.intro h0q (And.intro h1q (And.intro h2q (And.intro h3q (And.intro h4q h5q)))));have HNq:=asd_ (And.intro m4 (And.intro n4 (And.intro m5 n5)));clear m4 n4 m5 n5 h0q h1q h2q h3q h4q h5q
    have HY1:=asd_ (rd_T25_in Hj0.out hj5);have HY2:=asd_ (rd_T25_in hr0 hr5)
    have p5:=eq_true hr0;have p6:=eq_true hr5;have p7:=eq_true hj5
    clear hr0 hr5 hj5
    refine st_ 19 (fun w'=>At w [.f (Fact.ints (.slice (some adl) l.length cl) l),.b g3 (row (jvc y B4 (some adq) d4 d5) 25),.b g2 (row (jvc x (some ad4) (some adp) c4 c5) 25)] w'∧(∀ j,w'.cell? ⟨g2,j,none⟩=(jvc x (some ad4) (some adp) c4 c5:Array Value)[j]?)∧(∀ j,w'.cell? ⟨g3,j,none⟩=(jvc y B4 (some adq) d4 d5:Array Value)[j]?)∧w'.cell? (adl.add i.toNat)=some (.int .i64 (rd l i))∧w'.cell? (adp.add ((rd l i).toNat * 6))=some (.int .i64 (rd_T25 x.f5 (rd l i)).f0)∧w'.cell? ⟨(adp.add ((rd l i).toNat * 6)).block,(adp.add ((rd l i).toNat * 6)).off + 1,none⟩=some (.bool (rd_T25 x.f5 (rd l i)).f1)∧w'.cell? ⟨(adp.add ((rd l i).toNat * 6)).block,(adp.add ((rd l i).toNat * 6)).off + 2,none⟩=some (.int .i64 (rd_T25 x.f5 (rd l i)).f2)∧w'.cell? ⟨(adp.add ((rd l i).toNat * 6)).block,(adp.add ((rd l i).toNat * 6)).off + 3,none⟩=some (.string (rd_T25 x.f5 (rd l i)).f3)∧w'.cell? ⟨(adp.add ((rd l i).toNat * 6)).block,(adp.add ((rd l i).toNat * 6)).off + 4,none⟩=some (.slice Ep4 (rd_T25 x.f5 (rd l i)).f4.length ep4)∧w'.cell? ⟨(adp.add ((rd l i).toNat * 6)).block,(adp.add ((rd l i).toNat * 6)).off + 5,none⟩=some (.slice Ep5 (rd_T25 x.f5 (rd l i)).f5.length ep5)∧w'.cell? (adq.add (r.toNat * 6))=some (.int .i64 (rd_T25 y.f5 r).f0)∧w'.cell? ⟨(adq.add (r.toNat * 6)).block,(adq.add (r.toNat * 6)).off + 1,none⟩=some (.bool (rd_T25 y.f5 r).f1)∧w'.cell? ⟨(adq.add (r.toNat * 6)).block,(adq.add (r.toNat * 6)).off + 2,none⟩=some (.int .i64 (rd_T25 y.f5 r).f2)∧w'.cell? ⟨(adq.add (r.toNat * 6)).block,(adq.add (r.toNat * 6)).off + 3,none⟩=some (.string (rd_T25 y.f5 r).f3)∧w'.cell? ⟨(adq.add (r.toNat * 6)).block,(adq.add (r.toNat * 6)).off + 4,none⟩=some (.slice Eq4 (rd_T25 y.f5 r).f4.length eq4)∧w'.cell? ⟨(adq.add (r.toNat * 6)).block,(adq.add (r.toNat * 6)).off + 5,none⟩=some (.slice Eq5 (rd_T25 y.f5 r).f5.length eq5)) [] (fun A=>⟨A,(cA_ A 2),(cA_ A 1),(ints_at A.k.1 i Hi0.out Hil.out),((A.b.cell (World.block_lt_of_cell? w _ Hcp.out.1)).trans Hcp.out.1),((A.b.cell (World.block_lt_of_cell? w _ Hcp.out.2.1)).trans Hcp.out.2.1),((A.b.cell (World.block_lt_of_cell? w _ Hcp.out.2.2.1)).trans Hcp.out.2.2.1),((A.b.cell (World.block_lt_of_cell? w _ Hcp.out.2.2.2.1)).trans Hcp.out.2.2.2.1),((A.b.cell (World.block_lt_of_cell? w _ Hcp.out.2.2.2.2.1)).trans Hcp.out.2.2.2.2.1),((A.b.cell (World.block_lt_of_cell? w _ Hcp.out.2.2.2.2.2)).trans Hcp.out.2.2.2.2.2),((A.b.cell (World.block_lt_of_cell? w _ Hcq.out.1)).trans Hcq.out.1),((A.b.cell (World.block_lt_of_cell? w _ Hcq.out.2.1)).trans Hcq.out.2.1),((A.b.cell (World.block_lt_of_cell? w _ Hcq.out.2.2.1)).trans Hcq.out.2.2.1),((A.b.cell (World.block_lt_of_cell? w _ Hcq.out.2.2.2.1)).trans Hcq.out.2.2.2.1),((A.b.cell (World.block_lt_of_cell? w _ Hcq.out.2.2.2.2.1)).trans Hcq.out.2.2.2.2.1),((A.b.cell (World.block_lt_of_cell? w _ Hcq.out.2.2.2.2.2)).trans Hcq.out.2.2.2.2.2)⟩) (fun hHeld=> ?_)
    refine pu_ 0 26 1 ?_
    refine pu_ 1 27 3 ?_
    refine pu_ 2 28 7 ?_
    refine pu_ 3 29 15 ?_
    refine pu_ 5 31 47 ?_
    refine pu_ 6 32 111 ?_
    refine pu_ 7 33 239 ?_
    refine pu_ 11 37 2287 ?_
    refine pu_ 13 39 10479 ?_
    refine ta16_ 4 30 10495 hHeld ?_
    refine ta16_ 8 34 10751 hHeld ?_
    refine pu_ 9 35 11263 ?_
    refine ta16_ 10 36 12287 hHeld ?_
    refine ta16_ 12 38 16383 hHeld ?_
    refine pu_ 14 40 32767 ?_
    refine ta16_ 15 41 65535 hHeld ?_
    refine on_ 16 42 131071 (fun K hK=> ?_)
    have HE:=asd_ (hHeld.1)
    refine ge_ Tryz.func61 #[.agg (#[.int .i64 (rd_T25 x.f5 (rd l i)).f0,.bool (rd_T25 x.f5 (rd l i)).f1,.int .i64 (rd_T25 x.f5 (rd l i)).f2,.string (rd_T25 x.f5 (rd l i)).f3,.slice Ep4 (rd_T25 x.f5 (rd l i)).f4.length ep4,.slice Ep5 (rd_T25 x.f5 (rd l i)).f5.length ep5]),.agg (#[.int .i64 (rd_T25 y.f5 r).f0,.bool (rd_T25 y.f5 r).f1,.int .i64 (rd_T25 y.f5 r).f2,.string (rd_T25 y.f5 r).f3,.slice Eq4 (rd_T25 y.f5 r).f4.length eq4,.slice Eq5 (rd_T25 y.f5 r).f5.length eq5])] ?_
    with_reducible refine (HT.out _ HY1.out _ (HVy.out _ HY2.out) _ _ _ _ _ _ _ _ _ HE.out.b ⟨Kd.C_below HNp.out.2.1 HE.out.b,HNp.out.1,Kd.C_below HNp.out.2.2.2 HE.out.b,HNp.out.2.2.1⟩ ⟨Kd.C_below HNq.out.2.1 HE.out.b,HNq.out.1,Kd.C_below HNq.out.2.2.2 HE.out.b,HNq.out.2.2.1⟩).mono ?_
    rintro e w3 ⟨rb,rfl,hb⟩
    refine ⟨_,rfl,?_⟩
    have HE0:=At.step HE.out hb
    replace HE:=asd_ HE0;clear HE0
    refine hK.out _ _ ⟨HE.out,(cE_ HE 2),(cE_ HE 1),(ints_at HE.out.k.1 i Hi0.out Hil.out),((HE.out.b.cell (World.block_lt_of_cell? w _ Hcp.out.1)).trans Hcp.out.1),((HE.out.b.cell (World.block_lt_of_cell? w _ Hcp.out.2.1)).trans Hcp.out.2.1),((HE.out.b.cell (World.block_lt_of_cell? w _ Hcp.out.2.2.1)).trans Hcp.out.2.2.1),((HE.out.b.cell (World.block_lt_of_cell? w _ Hcp.out.2.2.2.1)).trans Hcp.out.2.2.2.1),((HE.out.b.cell (World.block_lt_of_cell? w _ Hcp.out.2.2.2.2.1)).trans Hcp.out.2.2.2.2.1),((HE.out.b.cell (World.block_lt_of_cell? w _ Hcp.out.2.2.2.2.2)).trans Hcp.out.2.2.2.2.2),((HE.out.b.cell (World.block_lt_of_cell? w _ Hcq.out.1)).trans Hcq.out.1),((HE.out.b.cell (World.block_lt_of_cell? w _ Hcq.out.2.1)).trans Hcq.out.2.1),((HE.out.b.cell (World.block_lt_of_cell? w _ Hcq.out.2.2.1)).trans Hcq.out.2.2.1),((HE.out.b.cell (World.block_lt_of_cell? w _ Hcq.out.2.2.2.1)).trans Hcq.out.2.2.2.1),((HE.out.b.cell (World.block_lt_of_cell? w _ Hcq.out.2.2.2.2.1)).trans Hcq.out.2.2.2.2.1),((HE.out.b.cell (World.block_lt_of_cell? w _ Hcq.out.2.2.2.2.2)).trans Hcq.out.2.2.2.2.2)⟩ (fun hHeld=> ?_)
    clear hK K
    refine nq_ 42 ?_
    refine pu_ 17 43 262143 ?_
    refine pu_ 18 44 524287 ?_
    refine done_ kr_ ?_
    clear HK;have HK:=HE;clear HE
    clear hHeld
    replace Bc:=ce2_ HK 2 1
    cases rb
    case false=>
     go_wp2_with fail
     go_ret
     exact ⟨_,rfl,be_⟩
    case true=>
     go_wp2_with fail
     go_roundg kk
     case measure=>exact Nat.lt_succ_self _
     case rel=>
      exact ⟨wrap64 (i + 1),rfl,by have:=Hi0.out;rw [wup Hi0.out Hil.out hll];omega,by have:=Hik.out;rw [wup Hi0.out Hil.out hll];omega,⟨at_⟩⟩
end Go.Proofs.YtkphbhncpdcbeaaGreatDoor.J
