/- Part. -/
import Derived.Test.YtlblbefbbibpaaaGreatDoorQBF
import Derived.LaidEqlPtr
import Derived.WalkLawsBesides
set_option linter.unusedVariables false
set_option linter.unusedSimpArgs false
set_option maxHeartbeats 8000000
set_option maxRecDepth 100000
namespace Go.Proofs.YtlblbefbbibpaaaGreatDoor.J
open Go.RowKit Zw Zw.PrintWords Zw.PrintLast Zw.PrintMore PAM
def sm (m:Nat):Nat:=(m / 2)|||(m % 2)
def hx1:Nat→Nat→Int→Nat×Int
 |0,m,e=>(m,e)
 |f + 1,m,e=>if m≠0∧m / 18014398509481984=0 then hx1 f (m * 2) (e - 1) else (m,e)
def hx2:Nat→Nat→Int→Nat×Int
 |0,m,e=>(m,e)
 |f + 1,m,e=>if m / 36028797018963968≠0 then hx2 f (sm m) (e + 1) else (m,e)
def hx3:Nat→Nat→Int→Nat×Int
 |0,m,e=>(m,e)
 |f + 1,m,e=>if 1 < m∧e < -1024 then hx3 f (sm m) (e + 1) else (m,e)
def hx5 (neg:Bool) (m:Nat) (e:Int):Int×Bool:=
 let e2:=if m / 4503599627370496=0 then -1023 else e
 if 1023 < e2 then (fout neg 4503599627370496 1024,true) else (fout neg m e2,false)
def hx4 (neg:Bool) (m:Nat) (e:Int):Int×Bool:=
 let r:=(m % 4)|||(m / 4 % 2)
 if r=3 then (if m / 4 + 1=9007199254740992 then hx5 neg 4503599627370496 (e + 3) else hx5 neg (m / 4 + 1) (e + 2)) else hx5 neg (m / 4) (e + 2)
def hexF (m:Nat) (p:Int) (neg tr:Bool):Int×Bool:=
 let a:=hx1 64 m (p + 52)
 let b:=hx2 64 (if tr then a.1|||1 else a.1) a.2
 let c:=hx3 64 b.1 b.2
 hx4 neg c.1 c.2
theorem sm_lt {m k:Nat} (h:m < 2 ^ (k + 2)):sm m < 2 ^ (k + 1):=by
 unfold sm
 refine Nat.or_lt_two_pow ?_ ?_
 ·rw [Nat.pow_succ] at h;omega
 ·have:1≤2 ^ k:=Nat.one_le_two_pow
  rw [Nat.pow_succ];omega
theorem sm_le (m:Nat) (h:m < 18446744073709551616):sm m < 18446744073709551616:=Nat.lt_of_lt_of_le (sm_lt (k:=62) (by omega)) (by omega)
theorem and1 (m:Nat) (h:m < 18446744073709551616):bits .and .u64 (m:Int) 1=((m % 2:Nat):Int):=and_mask m 1 h (by omega)
theorem and3 (m:Nat) (h:m < 18446744073709551616):bits .and .u64 (m:Int) 3=((m % 4:Nat):Int):=and_mask m 2 h (by omega)
theorem or_sm (m:Nat) (h:m < 18446744073709551616):bits .or .u64 (((m / 2:Nat)):Int) ((m % 2:Nat):Int)=(sm m:Int):=bits_or_u64_nat _ _ (by omega) (by omega)
structure Two (w:World):Prop where
 a:∃ c t,w.heap[5]? =some (.cells c t (0,0))
 b:∃ c t,w.heap[3]? =some (.cells c t (0,0))
theorem Two.ne {w0 W:World} {l:List Blk} (T:Two w0) (H:At w0 l W):(binOp .eql 224 (.pointer (some ⟨5,0,none⟩)) (.pointer (some ⟨3,0,none⟩))).run Tryz.prog W= .ok (.bool false) W:=by
 obtain ⟨c5,t5,h5⟩:=T.a
 obtain ⟨c3,t3,h3⟩:=T.b
 have q5:W.heap[5]? =some (.cells c5 t5 (0,0)):=(H.b.block 5 (Array.getElem?_eq_some_iff.1 h5).1).trans h5
 have q3:W.heap[3]? =some (.cells c3 t3 (0,0)):=(H.b.block 3 (Array.getElem?_eq_some_iff.1 h3).1).trans h3
 have hp:Tryz.prog.underlying 224=some (.pointer 226):=by kernel_rfl
 have hs:(Tryz.prog.info? 226).map (·.size)=some 3:=by kernel_rfl
 obtain ⟨j,hj,hjs⟩:=Option.map_eq_some_iff.1 hs
 exact run_eql_ptr_other W hp hj (by rw [hjs];decide) (by intro h;cases h) q5 q3
theorem Two.nes {w0 W:World} {l:List Blk} (T:Two w0) (H:At w0 l W) (n:Nat):(binOp .eql 224 (.pointer (some ⟨5,0,none⟩)) (.pointer (some ⟨3,0,none⟩))).run Tryz.prog (W.drewN n)= .ok (.bool false) (W.drewN n):=T.ne (H.drewN n)
theorem hexfl_ok (s:ByteArray) (m:Nat) (p:Int) (ng tr:Bool) (w:World) (hI:Finfo w) (hT:Two w) (hm0:m < 18446744073709551616) (hp1: -10000000≤p) (hp2:p≤10000000):
  Calls Tryz.prog 111 #[.string s,.pointer (some ⟨5,0,none⟩),.int .u64 m,.int .i64 p,.bool ng,.bool tr] w fun e w'=>e= .returned (.tuple #[.float .f64 (hexF m p ng tr).1.toNat,erv (hexF m p ng tr).2])∧Below w.heap.size w w':=by
 obtain ⟨HI,Hm0⟩:=as2_ hI hm0;have Hp:=asd_ (And.intro hp1 hp2);clear hI hm0 hp1 hp2;obtain ⟨r,hr⟩:∃ r,hexF m p ng tr=r:=⟨_,rfl⟩;rw [hr];unfold hexF at hr;dsimp only at hr
 obtain ⟨e0,he0⟩:∃ e0,p + 52=e0:=⟨_,rfl⟩;rw [he0] at hr;have ku0:IntKind.i64.wrap (p + 52)=e0:=(IntWalk.i64_in _ (by have:=Hp.out;omega)).trans he0;have Heb:Aside0 (-20000000≤e0∧e0≤20000000):=⟨by have:=Hp.out;omega⟩;clear he0
 obtain ⟨R1,hR1⟩:∃ R,hx1 64 m e0=R:=⟨_,rfl⟩;rw [hR1] at hr;obtain ⟨HR1,Hr⟩:=as2_ hR1 hr;clear hR1 hr
 have HK:=st0_ w
 have hm:World.cell? w ⟨5,0,none⟩=some (.int .u64 52):=pw_cell_add HK.out HI.out.m;have he:World.cell? w ⟨5,1,none⟩=some (.int .u64 11):=pw_cell_add HK.out HI.out.e;have hb:World.cell? w ⟨5,2,none⟩=some (.int .i64 (-1023)):=pw_cell_add HK.out HI.out.b
 go_enter Tryz.func111,Tryz.ntmps111
 go_wp2_with fail
 go_quiet (fail)
 go_upto_block 0 with fail
 go_cut [2,3] from 42 to 57 (fun v2 v3 wc=>∃ (m:Nat) (e:Int),v2= .int .u64 m∧v3= .int .i64 e∧Aside0 ((m,e)=R1)∧Aside0 (m < 18446744073709551616)∧Aside0 (-20000064≤e∧e≤20000000)∧Aside0 (At w [] wc))
 case first=>
  go_wp2_with fail
  go_loopg [2,3] 64 (fun kq v2 v3 w'=>∃ (m:Nat) (e:Int),v2= .int .u64 m∧v3= .int .i64 e∧Aside0 (hx1 kq m e=R1)∧Aside0 (m < 18446744073709551616)∧Aside0 (-20000000 - (64 - (kq:Int))≤e∧e≤20000000)∧Aside0 (kq≤64)∧Aside0 (m≠0→2 ^ (64 - kq)≤m)∧Aside0 (At w [] w'))
  case atStart=>exact ⟨m,e0,rfl,rfl,HR1,Hm0,⟨by have:=Heb.out;omega⟩,⟨Nat.le_refl _⟩,⟨fun h=>by show 1≤m;omega⟩,⟨at_⟩⟩
  case round=>
   clear HK HR1 Heb ku0 hm he hb;obtain ⟨n,e,rfl,rfl,Hh,Hn,He,Hk,Hp2,HK⟩:=hrel
   have hm:World.cell? wr ⟨5,0,none⟩=some (.int .u64 52):=pw_cell_add HK.out HI.out.m;have he:World.cell? wr ⟨5,1,none⟩=some (.int .u64 11):=pw_cell_add HK.out HI.out.e;have hb:World.cell? wr ⟨5,2,none⟩=some (.int .i64 (-1023)):=pw_cell_add HK.out HI.out.b
   by_cases hn0:n=0
   case pos=>
    have Hst:Aside0 ((n,e)=R1):=⟨by rw [← Hh.out];cases gk with|zero=>rfl|succ q=>exact (if_neg (by omega)).symm⟩
    have g1:((n:Int) != 0)=false:=bne_eq_false_iff_eq.2 (by omega);clear hn0
    go_wp2_with fail
    go_meet
    case rel=>exact ⟨n,e,rfl,rfl,Hst,Hn,⟨by have:=He.out;have:=Hk.out;omega⟩,⟨at_⟩⟩
   case neg=>
    have g1:((n:Int) != 0)=true:=bne_iff_ne.2 (by omega)
    by_cases hd:n / 18014398509481984=0
    case pos=>
     have g2:((n:Int) / 18014398509481984 == 0)=true:=beq_iff_eq.2 (by omega)
     have ku1:IntKind.u64.wrap ((n:Int) * 2)=(n:Int) * 2:=u64w _ (by omega) (by omega);have ku2:IntKind.i64.wrap (e - 1)=e - 1:=IntWalk.i64_in _ (by have:=He.out;have:=Hk.out;omega)
     have hgk:0 < gk:=Nat.pos_of_ne_zero (fun h9=>by have h8:=Hp2.out hn0;rw [h9] at h8;omega);obtain ⟨q,hq⟩:∃ q,gk=q + 1:=⟨gk - 1,by omega⟩;clear hgk;subst hq;have hh:=Hh.out;simp only [hx1] at hh;rw [if_pos ⟨hn0,hd⟩] at hh;obtain ⟨Hh2,Hn0,Hd⟩:=as3_ hh hn0 hd;clear hh hn0 hd
     go_wp2_with fail
     go_roundg q
     case measure=>exact Nat.lt_succ_self _
     case rel=>exact ⟨n * 2,e - 1,by go_num,rfl,Hh2,⟨by have:=Hd.out;omega⟩,⟨by have:=He.out;omega⟩,⟨by have:=Hk.out;omega⟩,⟨fun _=>by have h8:=Hp2.out Hn0.out;rw [show 64 - q=(64 - (q + 1)) + 1 by have:=Hk.out;omega,Nat.pow_succ];omega⟩,⟨at_⟩⟩
    case neg=>
     have Hst:Aside0 ((n,e)=R1):=⟨by rw [← Hh.out];cases gk with|zero=>rfl|succ q=>exact (if_neg (by omega)).symm⟩
     have g2:((n:Int) / 18014398509481984 == 0)=false:=beq_eq_false_iff_ne.2 (by omega);clear hd hn0
     go_wp2_with fail
     go_meet
     case rel=>exact ⟨n,e,rfl,rfl,Hst,Hn,⟨by have:=He.out;have:=Hk.out;omega⟩,⟨at_⟩⟩
 case rest=>
  clear HK HR1 Heb ku0 hm he hb Hm0;obtain ⟨n,e,rfl,rfl,Hst,Hn,He,HK⟩:=hcut;have hr:=Hr.out;rw [← Hst.out] at hr;dsimp only at hr;clear Hr Hst;obtain ⟨n2,hn2⟩:∃ n2,(if tr=true then n|||1 else n)=n2:=⟨_,rfl⟩;rw [hn2] at hr;obtain ⟨Hr,Hn2⟩:=as2_ hr hn2;clear hr hn2
  have hm:World.cell? wc ⟨5,0,none⟩=some (.int .u64 52):=pw_cell_add HK.out HI.out.m;have he:World.cell? wc ⟨5,1,none⟩=some (.int .u64 11):=pw_cell_add HK.out HI.out.e;have hb:World.cell? wc ⟨5,2,none⟩=some (.int .i64 (-1023)):=pw_cell_add HK.out HI.out.b
  go_upto_if 58 with fail
  go_cut [2] from 58 to 60 (fun v2 wc=>v2= .int .u64 n2∧Aside0 (n2 < 18446744073709551616)∧Aside0 (At w [] wc))
  case first=>
   have hn2:=Hn2.out;clear Hn2;cases tr
   case false=>
    rw [if_neg (by decide)] at hn2;subst hn2;go_wp2_with fail
    go_meet
    case rel=>exact ⟨rfl,Hn,⟨at_⟩⟩
   case true=>
    rw [if_pos rfl] at hn2;have ku1:bits .or .u64 (n:Int) 1=(n2:Int):=by rw [← hn2];exact bits_or_u64_nat n 1 Hn.out (by omega)
    have Hn3:Aside0 (n2 < 18446744073709551616):=⟨by rw [← hn2];exact Nat.or_lt_two_pow (n:=64) Hn.out (by omega)⟩;clear hn2;go_wp2_with fail
    go_meet
    case rel=>exact ⟨rfl,Hn3,⟨at_⟩⟩
  case rest=>
   clear HK Hn Hn2 hm he hb;obtain ⟨rfl,Hn,HK⟩:=hcut;obtain ⟨R2,hR2⟩:∃ R,hx2 64 n2 e=R:=⟨_,rfl⟩;have hr:=Hr.out;rw [hR2] at hr;clear Hr;obtain ⟨HR2,Hr⟩:=as2_ hR2 hr;clear hR2 hr
   have hm:World.cell? wc ⟨5,0,none⟩=some (.int .u64 52):=pw_cell_add HK.out HI.out.m;have he:World.cell? wc ⟨5,1,none⟩=some (.int .u64 11):=pw_cell_add HK.out HI.out.e;have hb:World.cell? wc ⟨5,2,none⟩=some (.int .i64 (-1023)):=pw_cell_add HK.out HI.out.b
   go_upto_block 2 with fail
   go_cut [2,3] from 61 to 76 (fun v2 v3 wc=>∃ (m:Nat) (e:Int),v2= .int .u64 m∧v3= .int .i64 e∧Aside0 ((m,e)=R2)∧Aside0 (m < 18446744073709551616)∧Aside0 (-21000000≤e∧e≤20000064)∧Aside0 (At w [] wc))
   case first=>
    go_wp2_with fail
    go_loopg [2,3] 64 (fun kq v2 v3 w'=>∃ (m:Nat) (e:Int),v2= .int .u64 m∧v3= .int .i64 e∧Aside0 (hx2 kq m e=R2)∧Aside0 (m < 18446744073709551616)∧Aside0 (-21000000≤e∧e≤20000000 + (64 - (kq:Int)))∧Aside0 (kq≤64)∧Aside0 (m < 2 ^ kq)∧Aside0 (At w [] w'))
    case atStart=>exact ⟨n2,e,rfl,rfl,HR2,Hn,⟨by have:=He.out;omega⟩,⟨Nat.le_refl _⟩,⟨by have:=Hn.out;omega⟩,⟨at_⟩⟩
    case round=>
     clear HK HR2 He Hn hm he hb;obtain ⟨n,e,rfl,rfl,Hh,Hn,He,Hk,Hp2,HK⟩:=hrel
     have hm:World.cell? wr ⟨5,0,none⟩=some (.int .u64 52):=pw_cell_add HK.out HI.out.m;have he:World.cell? wr ⟨5,1,none⟩=some (.int .u64 11):=pw_cell_add HK.out HI.out.e;have hb:World.cell? wr ⟨5,2,none⟩=some (.int .i64 (-1023)):=pw_cell_add HK.out HI.out.b
     by_cases hd:n / 36028797018963968=0
     case pos=>
      have Hst:Aside0 ((n,e)=R2):=⟨by rw [← Hh.out];cases gk with|zero=>rfl|succ q=>exact (if_neg (fun h=>h hd)).symm⟩
      have g2:((n:Int) / 36028797018963968 != 0)=false:=bne_eq_false_iff_eq.2 (by omega);clear hd
      go_wp2_with fail
      go_meet
      case rel=>exact ⟨n,e,rfl,rfl,Hst,Hn,⟨by have:=He.out;have:=Hk.out;omega⟩,⟨at_⟩⟩
     case neg=>
      have g2:((n:Int) / 36028797018963968 != 0)=true:=bne_iff_ne.2 (by omega)
      have ku1:bits .and .u64 (n:Int) 1=((n % 2:Nat):Int):=and1 _ Hn.out;have ku2:(n:Int) / 2=((n / 2:Nat):Int):=(by omega);obtain ⟨a,ha⟩:∃ a,n / 2=a:=⟨_,rfl⟩;obtain ⟨b,hb9⟩:∃ b,n % 2=b:=⟨_,rfl⟩;rw [ha] at ku2;rw [hb9] at ku1;have ku3:bits .or .u64 (a:Int) (b:Int)=(sm n:Int):=by rw [← ha,← hb9];exact or_sm _ Hn.out
      have ku4:IntKind.i64.wrap (e + 1)=e + 1:=IntWalk.i64_in _ (by have:=He.out;have:=Hk.out;omega)
      have hgk:2≤gk:=Nat.le_of_not_lt (fun h9=>by have h8:=Hp2.out;have h7:gk=0∨gk=1:=(by omega);rcases h7 with h7|h7<;>rw [h7] at h8<;>omega);obtain ⟨q,hq⟩:∃ q,gk=q + 2:=⟨gk - 2,by omega⟩;clear hgk;subst hq;have hh:=Hh.out;simp only [hx2] at hh;rw [if_pos hd] at hh;have Hh2:=asd_ hh;clear hh ha hb9
      clear hd
      go_wp2_with fail
      go_roundg (q + 1)
      case measure=>exact Nat.lt_succ_self _
      case rel=>exact ⟨sm n,e + 1,rfl,rfl,Hh2,⟨sm_le n Hn.out⟩,⟨by have:=He.out;omega⟩,⟨by have:=Hk.out;omega⟩,⟨sm_lt Hp2.out⟩,⟨at_⟩⟩
   case rest=>
    clear HK Hn He HR2 hm he hb;obtain ⟨n,e,rfl,rfl,Hst,Hn,He,HK⟩:=hcut;have hr:=Hr.out;rw [← Hst.out] at hr;dsimp only at hr;clear Hr Hst;obtain ⟨R3,hR3⟩:∃ R,hx3 64 n e=R:=⟨_,rfl⟩;rw [hR3] at hr;obtain ⟨HR3,Hr⟩:=as2_ hR3 hr;clear hR3 hr
    have hm:World.cell? wc ⟨5,0,none⟩=some (.int .u64 52):=pw_cell_add HK.out HI.out.m;have he:World.cell? wc ⟨5,1,none⟩=some (.int .u64 11):=pw_cell_add HK.out HI.out.e;have hb:World.cell? wc ⟨5,2,none⟩=some (.int .i64 (-1023)):=pw_cell_add HK.out HI.out.b
    go_upto_block 4 with fail
    go_cut [2,3] from 77 to 91 (fun v2 v3 wc=>∃ (m:Nat) (e:Int),v2= .int .u64 m∧v3= .int .i64 e∧Aside0 ((m,e)=R3)∧Aside0 (m < 18446744073709551616)∧Aside0 (-21000000≤e∧e≤20000128)∧Aside0 (At w [] wc))
    case first=>
     go_wp2_with fail
     go_loopg [2,3] 64 (fun kq v2 v3 w'=>∃ (m:Nat) (e:Int),v2= .int .u64 m∧v3= .int .i64 e∧Aside0 (hx3 kq m e=R3)∧Aside0 (m < 18446744073709551616)∧Aside0 (-21000000≤e∧e≤20000064 + (64 - (kq:Int)))∧Aside0 (kq≤64)∧Aside0 (m < 2 ^ kq)∧Aside0 (At w [] w'))
     case atStart=>exact ⟨n,e,rfl,rfl,HR3,Hn,⟨by have:=He.out;omega⟩,⟨Nat.le_refl _⟩,⟨by have:=Hn.out;omega⟩,⟨at_⟩⟩
     case round=>
      clear HK HR3 He Hn hm he hb;obtain ⟨n,e,rfl,rfl,Hh,Hn,He,Hk,Hp2,HK⟩:=hrel
      have hm:World.cell? wr ⟨5,0,none⟩=some (.int .u64 52):=pw_cell_add HK.out HI.out.m;have he:World.cell? wr ⟨5,1,none⟩=some (.int .u64 11):=pw_cell_add HK.out HI.out.e;have hb:World.cell? wr ⟨5,2,none⟩=some (.int .i64 (-1023)):=pw_cell_add HK.out HI.out.b
      by_cases hd:1 < n
      case pos=>
       have g1:decide (1 < n)=true:=decide_eq_true (hd)
       have g1i:decide ((1:Int) < (n:Int))=true:=decide_eq_true (by omega)
       by_cases hd2:e < -1024
       case pos=>
        have g2:decide (e < -1024)=true:=decide_eq_true (hd2)
        have ku1:bits .and .u64 (n:Int) 1=((n % 2:Nat):Int):=and1 _ Hn.out;have ku2:(n:Int) / 2=((n / 2:Nat):Int):=(by omega);obtain ⟨a,ha⟩:∃ a,n / 2=a:=⟨_,rfl⟩;obtain ⟨b,hb9⟩:∃ b,n % 2=b:=⟨_,rfl⟩;rw [ha] at ku2;rw [hb9] at ku1;have ku3:bits .or .u64 (a:Int) (b:Int)=(sm n:Int):=by rw [← ha,← hb9];exact or_sm _ Hn.out
        have ku4:IntKind.i64.wrap (e + 1)=e + 1:=IntWalk.i64_in _ (by have:=He.out;have:=Hk.out;omega)
        have hgk:2≤gk:=Nat.le_of_not_lt (fun h9=>by have h8:=Hp2.out;have h7:gk=0∨gk=1:=(by omega);rcases h7 with h7|h7<;>rw [h7] at h8<;>omega);obtain ⟨q,hq⟩:∃ q,gk=q + 2:=⟨gk - 2,by omega⟩;clear hgk;subst hq;have hh:=Hh.out;simp only [hx3] at hh;rw [if_pos ⟨hd,hd2⟩] at hh;have Hh2:=asd_ hh;clear hh ha hb9
        clear hd hd2
        go_wp2_with fail
        go_roundg (q + 1)
        case measure=>exact Nat.lt_succ_self _
        case rel=>exact ⟨sm n,e + 1,rfl,rfl,Hh2,⟨sm_le n Hn.out⟩,⟨by have:=He.out;omega⟩,⟨by have:=Hk.out;omega⟩,⟨sm_lt Hp2.out⟩,⟨at_⟩⟩
       case neg=>
        have Hst:Aside0 ((n,e)=R3):=⟨by rw [← Hh.out];cases gk with|zero=>rfl|succ q=>exact (if_neg (by omega)).symm⟩
        have g2:decide (e < -1024)=false:=decide_eq_false (hd2)
        clear hd hd2
        go_wp2_with fail
        go_meet
        case rel=>exact ⟨n,e,rfl,rfl,Hst,Hn,⟨by have:=He.out;have:=Hk.out;omega⟩,⟨at_⟩⟩
      case neg=>
       have Hst:Aside0 ((n,e)=R3):=⟨by rw [← Hh.out];cases gk with|zero=>rfl|succ q=>exact (if_neg (by omega)).symm⟩
       have g1:decide (1 < n)=false:=decide_eq_false (hd)
       have g1i:decide ((1:Int) < (n:Int))=false:=decide_eq_false (by omega)
       clear hd
       go_wp2_with fail
       go_meet
       case rel=>exact ⟨n,e,rfl,rfl,Hst,Hn,⟨by have:=He.out;have:=Hk.out;omega⟩,⟨at_⟩⟩
    case rest=>
     clear HK Hn He HR3 hm he hb;obtain ⟨n,e,rfl,rfl,Hst,Hn,He,HK⟩:=hcut;have hr:=Hr.out;rw [← Hst.out] at hr;dsimp only at hr;clear Hr Hst;unfold hx4 at hr;dsimp only at hr
     have hm:World.cell? wc ⟨5,0,none⟩=some (.int .u64 52):=pw_cell_add HK.out HI.out.m;have he:World.cell? wc ⟨5,1,none⟩=some (.int .u64 11):=pw_cell_add HK.out HI.out.e;have hb:World.cell? wc ⟨5,2,none⟩=some (.int .i64 (-1023)):=pw_cell_add HK.out HI.out.b
     obtain ⟨z,hz⟩:∃ z,(n % 4)|||(n / 4 % 2)=z:=⟨_,rfl⟩;rw [hz] at hr;obtain ⟨y,hy⟩:∃ y,n / 4=y:=⟨_,rfl⟩;rw [hy] at hz hr;obtain ⟨t,ht⟩:∃ t,n % 4=t:=⟨_,rfl⟩;rw [ht] at hz;obtain ⟨v,hv⟩:∃ v,y % 2=v:=⟨_,rfl⟩;rw [hv] at hz
     have yb:y < 4611686018427387904:=(by have:=Hn.out;omega);have Hyb:=asd_ yb;have ku1:bits .and .u64 (n:Int) 3=(t:Int):=(by rw [← ht];exact and3 n Hn.out);have ku2:(n:Int) / 4=(y:Int):=(by omega);have ku3:bits .and .u64 (y:Int) 1=(v:Int):=(by rw [← hv];exact and1 y (by omega));have ku4:bits .or .u64 (t:Int) (v:Int)=(z:Int):=(by rw [← hz];exact bits_or_u64_nat t v (by omega) (by omega));have ku5:IntKind.i64.wrap (e + 2)=e + 2:=IntWalk.i64_in _ (by have:=He.out;omega);have ku6:IntKind.u64.wrap ((y:Int) + 1)=(y:Int) + 1:=u64w _ (by omega) (by omega);have ku7:IntKind.i64.wrap (e + 2 + 1)=e + 3:=(by rw [IntWalk.i64_in _ (by have:=He.out;omega)];omega)
     have Hr:=asd_ hr;clear hr hz hy ht hv yb
     go_upto_if 103 with fail
     go_cut [2,3] from 102 to 117 (fun v2 v3 wc=>∃ (m:Nat) (e:Int),v2= .int .u64 m∧v3= .int .i64 e∧Aside0 (hx5 ng m e=r)∧Aside0 (m < 4611686018427387905)∧Aside0 (-22000000≤e∧e≤22000000)∧Aside0 (At w [] wc))
     case first=>
      have hr:=Hr.out;clear Hr
      by_cases h3:z=3
      case pos=>
       rw [if_pos h3] at hr
       have g3:((z:Int) == 3)=true:=beq_iff_eq.2 (by omega)
       have hz3:(z:Int)=3:=(by omega);clear h3 hz3
       by_cases h9:y + 1=9007199254740992
       case pos=>
        rw [if_pos h9] at hr
        have g9:((y:Int) + 1 == 9007199254740992)=true:=beq_iff_eq.2 (by omega)
        have ku8:((y:Int) + 1) / 2=4503599627370496:=(by omega);clear h9
        have Hr:=asd_ hr;clear hr
        go_wp2_with fail
        go_meet
        case rel=>exact ⟨4503599627370496,e + 3,rfl,rfl,Hr,⟨by have:=Hyb.out;omega⟩,⟨by have:=He.out;omega⟩,⟨at_⟩⟩
       case neg=>
        rw [if_neg h9] at hr
        have g9:((y:Int) + 1 == 9007199254740992)=false:=beq_eq_false_iff_ne.2 (by omega)
        clear h9
        have Hr:=asd_ hr;clear hr
        go_wp2_with fail
        go_meet
        case rel=>exact ⟨y + 1,e + 2,by go_num,rfl,Hr,⟨by have:=Hyb.out;omega⟩,⟨by have:=He.out;omega⟩,⟨at_⟩⟩
      case neg=>
       rw [if_neg h3] at hr
       have g3:((z:Int) == 3)=false:=beq_eq_false_iff_ne.2 (by omega)
       clear h3
       have Hr:=asd_ hr;clear hr
       go_wp2_with fail
       go_meet
       case rel=>exact ⟨y,e + 2,rfl,rfl,Hr,⟨by have:=Hyb.out;omega⟩,⟨by have:=He.out;omega⟩,⟨at_⟩⟩
     case rest=>
      clear HK Hn He Hyb Hr ku1 ku2 ku3 ku4 ku5 ku6 ku7 hm he hb;obtain ⟨n,e,rfl,rfl,Hr,Hn,He,HK⟩:=hcut;have hr:=Hr.out;unfold hx5 at hr;dsimp only at hr;clear Hr;obtain ⟨e2,he2⟩:∃ e2,(if n / 4503599627370496=0 then -1023 else e)=e2:=⟨_,rfl⟩;rw [he2] at hr;obtain ⟨Hr,He2⟩:=as2_ hr he2;clear hr he2
      have hm:World.cell? wc ⟨5,0,none⟩=some (.int .u64 52):=pw_cell_add HK.out HI.out.m;have he:World.cell? wc ⟨5,1,none⟩=some (.int .u64 11):=pw_cell_add HK.out HI.out.e;have hb:World.cell? wc ⟨5,2,none⟩=some (.int .i64 (-1023)):=pw_cell_add HK.out HI.out.b
      go_upto_if 124 with fail
      go_cut [3] from 118 to 128 (fun v3 wc=>v3= .int .i64 e2∧Aside0 (At w [] wc))
      case first=>
       have he2:=He2.out;clear He2
       by_cases h3:n / 4503599627370496=0
       case pos=>
        rw [if_pos h3] at he2
        have g3:((n:Int) / 4503599627370496 == 0)=true:=beq_iff_eq.2 (by omega);clear h3
        subst he2
        go_wp2_with fail
        go_meet
        case rel=>exact ⟨rfl,⟨at_⟩⟩
       case neg=>
        rw [if_neg h3] at he2
        have g3:((n:Int) / 4503599627370496 == 0)=false:=beq_eq_false_iff_ne.2 (by omega);clear h3
        subst he2
        go_wp2_with fail
        go_meet
        case rel=>exact ⟨rfl,⟨at_⟩⟩
      case rest=>
       clear HK He2 hm he hb;obtain ⟨rfl,HK⟩:=hcut;have hr:=Hr.out;clear Hr
       have hm:World.cell? wc ⟨5,0,none⟩=some (.int .u64 52):=pw_cell_add HK.out HI.out.m;have he:World.cell? wc ⟨5,1,none⟩=some (.int .u64 11):=pw_cell_add HK.out HI.out.e;have hb:World.cell? wc ⟨5,2,none⟩=some (.int .i64 (-1023)):=pw_cell_add HK.out HI.out.b
       by_cases h3:1023 < e2
       case pos=>
        rw [if_pos h3] at hr
        have g3:decide (1023 < e2)=true:=decide_eq_true (h3)
        clear h3
        have Hr:=asd_ hr;clear hr;cases ng
        case false=>
         go_wp2_with fail
         go_quiet (fail)
         go_wp2_with fail;rw [hT.nes HK.out nq];go_wp2_with (first|((with_reducible refine gd_ 190 ?_);refine from_at (9218868437227405312) (9218868437227405312) rfl rfl rfl ar_ ?_))
         go_ret2
         exact ⟨by rw [← Hr.out];kernel_rfl,be_⟩
        case true=>
         go_wp2_with fail
         go_quiet (fail)
         go_wp2_with fail;go_quiet (fail);go_wp2_with fail;rw [hT.nes HK.out];go_wp2_with (first|((with_reducible refine gd_ 190 ?_);refine from_at (18442240474082181120) (18442240474082181120) rfl rfl rfl ar_ ?_))
         go_ret2
         exact ⟨by rw [← Hr.out];kernel_rfl,be_⟩
       case neg=>
        rw [if_neg h3] at hr
        have g3:decide (1023 < e2)=false:=decide_eq_false (h3)
        clear h3
        have Hr:=asd_ hr;clear hr;cases ng
        case false=>
         go_wp2_with fail
         go_quiet (fail)
         go_wp2_with fail;rw [hT.nes HK.out nq];go_wp2_with (first|((with_reducible refine gd_ 190 ?_);refine from_at (fout false n e2) ((fout false n e2).toNat) rfl rfl rfl ar_ ?_))
         go_ret2
         exact ⟨by rw [← Hr.out];rfl,be_⟩
        case true=>
         go_wp2_with fail
         go_quiet (fail)
         go_wp2_with fail;go_quiet (fail);go_wp2_with fail;rw [hT.nes HK.out];go_wp2_with (first|((with_reducible refine gd_ 190 ?_);refine from_at (fout true n e2) ((fout true n e2).toNat) rfl rfl rfl ar_ ?_))
         go_ret2
         exact ⟨by rw [← Hr.out];rfl,be_⟩
@[go_sem] theorem unary_neg_float (k:FloatKind) (b:Nat):Op.unary .neg (.float k b)=pure (.float k (Op.negFloat k b)):=rfl
def nn (x:Nat):Prop:=x % 9223372036854775808≤9218868437227405312
theorem word_nn (neg:Bool) {r:Nat} (h:r≤9218868437227405312):nn (Ieee.double.word neg r):=by
 unfold nn Ieee.Format.word
 have e:Ieee.double.signWeight=9223372036854775808:=rfl
 rw [e]
 split<;>omega
theorem near_nn (neg:Bool) (m:Nat) (p:Int):nn (Ieee.double.nearest neg m p):=by
 unfold Ieee.Format.nearest
 have e:Ieee.double.infRung=9218868437227405312:=rfl
 split
 ·exact word_nn _ (by omega)
 ·exact word_nn _ (by rw [e];exact Nat.min_le_right _ _)
theorem int_nn (n:Int):nn (floatOfInt .f64 n):=near_nn _ _ _
theorem neg_nn {x:Nat} (h:nn x):nn (Op.negFloat .f64 x):=by
 unfold nn at *
 have e:Op.negFloat .f64 x=x ^^^ 2 ^ 63:=rfl
 rw [e,show (9223372036854775808:Nat)=2 ^ 63 from rfl,Nat.xor_mod_two_pow,Nat.mod_self,Nat.xor_zero]
 exact h
theorem read_nn {x:Nat} (h:nn x):(∃ s m p,Ieee.double.read x= .number s m p)∨∃ s,Ieee.double.read x= .infinity s:=by
 unfold nn at h
 have e1:Ieee.double.signWeight=9223372036854775808:=rfl
 have e2:Ieee.double.infRung=9218868437227405312:=rfl
 unfold Ieee.Format.read
 dsimp only
 rw [e1,e2]
 split
 ·exact .inl ⟨_,_,_,rfl⟩
 ·split
  ·exact .inl ⟨_,_,_,rfl⟩
  ·rw [if_pos (by omega)]
   exact .inr ⟨_,rfl⟩
def fin0 (y:Nat):Bool:=match Ieee.double.read y with| .number _ n _=>n != 0|_=>false
theorem mul_some {x y:Nat} (hx:nn x) (hy:fin0 y=true):∃ r,floatBits .mul .f64 x y=some r∧nn r:=by
 unfold fin0 at hy
 cases hr:Ieee.double.read y with
 |number t n j=>
  rw [hr] at hy
  have hn:n≠0:=by simpa using hy
  rcases read_nn hx with ⟨s,m,p,e⟩|⟨s,e⟩
  ·refine ⟨Ieee.double.write (.number (s ^^ t) (m * n) (p + j)),?_,near_nn _ _ _⟩
   show ((Ieee.double.read x).product (Ieee.double.read y)).map Ieee.double.write=_
   rw [e,hr];rfl
  ·refine ⟨Ieee.double.write (.infinity (s ^^ t)),?_,word_nn _ (Nat.le_refl _)⟩
   show ((Ieee.double.read x).product (Ieee.double.read y)).map Ieee.double.write=_
   rw [e,hr];simp [Ieee.Datum.product,hn]
 |infinity t=>rw [hr] at hy;cases hy
 |nan t f=>rw [hr] at hy;cases hy
theorem div_some {x y:Nat} (hx:nn x) (hy:fin0 y=true):∃ r,floatBits .quo .f64 x y=some r∧nn r:=by
 unfold fin0 at hy
 cases hr:Ieee.double.read y with
 |number t n j=>
  rw [hr] at hy
  have hn:n≠0:=by simpa using hy
  rcases read_nn hx with ⟨s,m,p,e⟩|⟨s,e⟩
  ·refine ⟨_,?_,near_nn (s ^^ t) (2 * ((m <<< (Ieee.double.fractionBits + 2 + n.log2 - m.log2)) / n) + ((m <<< (Ieee.double.fractionBits + 2 + n.log2 - m.log2)) % n != 0).toNat) (p - j - ((Ieee.double.fractionBits + 2 + n.log2 - m.log2:Nat):Int) - 1)⟩
   show ((Ieee.double.read x).quotient (Ieee.double.fractionBits + 2) (Ieee.double.read y)).map Ieee.double.write=_
   rw [e,hr];simp [Ieee.Datum.quotient,hn,Ieee.Format.write]
  ·refine ⟨Ieee.double.write (.infinity (s ^^ t)),?_,word_nn _ (Nat.le_refl _)⟩
   show ((Ieee.double.read x).quotient (Ieee.double.fractionBits + 2) (Ieee.double.read y)).map Ieee.double.write=_
   rw [e,hr];rfl
 |infinity t=>rw [hr] at hy;cases hy
 |nan t f=>rw [hr] at hy;cases hy
def fmul (x y:Nat):Nat:=(floatBits .mul .f64 x y).getD 0
def fdiv (x y:Nat):Nat:=(floatBits .quo .f64 x y).getD 0
theorem fmul_run {x y:Nat} (hx:nn x) (hy:fin0 y=true):(∀ w,(binOp .mul 97 (.float .f64 x) (.float .f64 y)).run Tryz.prog w= .ok (.float .f64 (fmul x y)) w)∧nn (fmul x y):=by
 obtain ⟨r,h1,h2⟩:=mul_some hx hy
 have e:fmul x y=r:=by simp [fmul,h1]
 rw [e]
 exact ⟨fun w=>run_float_arith w .mul 97 .f64 x y r h1,h2⟩
theorem fdiv_run {x y:Nat} (hx:nn x) (hy:fin0 y=true):(∀ w,(binOp .quo 97 (.float .f64 x) (.float .f64 y)).run Tryz.prog w= .ok (.float .f64 (fdiv x y)) w)∧nn (fdiv x y):=by
 obtain ⟨r,h1,h2⟩:=div_some hx hy
 have e:fdiv x y=r:=by simp [fdiv,h1]
 rw [e]
 exact ⟨fun w=>run_float_arith w .quo 97 .f64 x y r h1,h2⟩
def t10 (k:Nat):Nat:=[4607182418800017408,4621819117588971520,4636737291354636288,4652007308841189376,4666723172467343360,4681608360884174848,4696837146684686336,4711630319722168320,4726483295884279808,4741671816366391296,4756540486875873280,4771362005757984768,4786511204640096256,4801453603149578240,4816244402031689728,4831355200913801216,4846369599423283200,4861130398305394688,4876203697187506176,4891288408196988160,4906019910204099648,4921056587992461136,4936209963552724370].getD k 4607182418800017408
theorem t10_fin (k:Nat):fin0 (t10 k)=true:=by
 by_cases h:k < 23
 ·have:∀ i:Fin 23,fin0 (t10 i)=true:=by decide +kernel
  exact this ⟨k,h⟩
 ·have e:t10 k=4607182418800017408:=by unfold t10 List.getD;rw [List.getElem?_eq_none (by simp;omega)];rfl
  rw [e];decide +kernel
structure Pow8 (w:World) (ad:Addr) (c:Nat):Prop where
 v:w.cell? ⟨8,0,none⟩=some (.slice (some ad) 23 c)
 d:∀ k,k < 23→w.cell? (ad.add k)=some (.float .f64 (t10 k))
def ex1 (f:Nat) (k:Nat):Nat×Bool:=if (FloatKind.f64.format.order f 4831355200913801216 == some .gt)||(FloatKind.f64.format.order f 14054727237768577024 == some .lt) then (f,false) else (fmul f (t10 k),true)
def ex0 (m:Int) (neg:Bool):Nat:=if neg then Op.negFloat .f64 (floatOfInt .f64 m) else floatOfInt .f64 m
def ex64 (m p:Int) (neg:Bool):Nat×Bool:=
 if m / 4503599627370496≠0 then (0,false) else
 if p=0 then (ex0 m neg,true) else
 if 0 < p∧p≤37 then (if 22 < p then ex1 (fmul (ex0 m neg) (t10 (p - 22).toNat)) 22 else ex1 (ex0 m neg) p.toNat) else
 if p < 0∧ -22≤p then (fdiv (ex0 m neg) (t10 (-p).toNat),true) else (ex0 m neg,false)
theorem ex64_ok {ad:Addr} {c:Nat} (m p:Int) (ng:Bool) (w:World) (hI:Finfo w) (hP:Pow8 w ad c):
  Calls Tryz.prog 120 #[.int .u64 m,.int .i64 p,.bool ng] w fun e w'=>e= .returned (.tuple #[.float .f64 (ex64 m p ng).1,.bool (ex64 m p ng).2])∧Below w.heap.size w w':=by
 obtain ⟨r,hr⟩:∃ r,ex64 m p ng=r:=⟨_,rfl⟩;rw [hr];unfold ex64 at hr;obtain ⟨HI,HP⟩:=as2_ hI hP;clear hI hP
 have HK:=st0_ w
 have hm:w.cell? ⟨5,0,none⟩=some (.int .u64 52):=HI.out.m;have hv:w.cell? ⟨8,0,none⟩=some (.slice (some ad) 23 c):=HP.out.v
 by_cases h0:m / 4503599627370496=0
 case neg=>
  rw [if_pos h0] at hr;have f0:(m / 4503599627370496 != 0)=true:=bne_iff_ne.2 h0;clear h0
  have Hr:=asd_ hr;clear hr
  go_enter Tryz.func120,Tryz.ntmps120
  go_wp2_with fail
  go_ret2
  exact ⟨by rw [← Hr.out];rfl,be_⟩
 case pos=>
  rw [if_neg (fun h=>h h0)] at hr;have f0:(m / 4503599627370496 != 0)=false:=bne_eq_false_iff_eq.2 h0;clear h0
  obtain ⟨f,hf⟩:∃ f,ex0 m ng=f:=⟨_,rfl⟩;rw [hf] at hr;have hnn:nn f:=by rw [← hf];unfold ex0;split;exact neg_nn (int_nn m);exact int_nn m
  have Hnn:=asd_ hnn;clear hnn;unfold ex0 at hf
  obtain ⟨i,hi⟩:∃ i,floatOfInt .f64 m=i:=⟨_,rfl⟩;have hcv:∀ w,(convert 27 97 (.int .u64 m)).run Tryz.prog w= .ok (.float .f64 i) w:=fun w=>by rw [← hi];exact run_convert_int_float w 27 97 .u64 .f64 m kr_ Tryz.underlying97
  have hng:∀ b:Bool,b=ng→(if b=true then Op.negFloat .f64 i else i)=f:=fun b hb=>by rw [hb,← hi];exact hf
  clear hf;cases ng
  case false=>
   have hfi:=hng false rfl;clear hng;rw [if_neg (by decide)] at hfi;subst hfi
   have Hi2:=asd_ hi;clear hi
   by_cases h1:p=0
   case pos=>
    rw [if_pos h1] at hr;have f1:(p == 0)=true:=beq_iff_eq.2 h1;clear h1
    have Hr:=asd_ hr;clear hr
    go_enter Tryz.func120,Tryz.ntmps120
    go_wp2_with fail
    go_ret2
    exact ⟨by rw [← Hr.out];rfl,be_⟩
   case neg=>
    rw [if_neg h1] at hr;have f1:(p == 0)=false:=beq_eq_false_iff_ne.2 h1
    by_cases h2:0 < p∧p≤37
    case pos=>
     rw [if_pos h2] at hr;have f2:decide (0 < p)=true:=decide_eq_true h2.1;have f3:decide (p≤37)=true:=decide_eq_true h2.2
     by_cases h3:22 < p
     case pos=>
      rw [if_pos h3] at hr;have f4:decide (22 < p)=true:=decide_eq_true h3;obtain ⟨k,hk⟩:∃ k:Nat,p - 22=(k:Int):=⟨(p - 22).toNat,by omega⟩;have hkt:(p - 22).toNat=k:=(by omega);rw [hkt] at hr;have e1:IntKind.i64.wrap (p - 22)=(k:Int):=(IntWalk.i64_in _ (by omega)).trans hk;have q0:(0:Int)≤(k:Int):=(by omega);have q1:(k:Int) < 23:=(by omega);have q1n:k < 23:=(by omega);have ct:w.cell? (ad.add k)=some (.float .f64 (t10 k)):=HP.out.d k q1n;have ct2:w.cell? ⟨ad.block,ad.off + 22,none⟩=some (.float .f64 (t10 22)):=HP.out.d 22 (by omega);clear h3 hkt hk h1
      obtain ⟨hm0,hn2⟩:=fmul_run (y:=t10 k) Hnn.out (t10_fin _);obtain ⟨f2,hf2⟩:∃ f2,fmul i (t10 k)=f2:=⟨_,rfl⟩;rw [hf2] at hm0 hn2 hr;have Hn2:=asd_ hn2;clear hn2 hf2
      unfold ex1 at hr;obtain ⟨o1,ho1⟩:∃ o,(FloatKind.f64.format.order f2 4831355200913801216 == some .gt)=o:=⟨_,rfl⟩;obtain ⟨o2,ho2⟩:∃ o,(FloatKind.f64.format.order f2 14054727237768577024 == some .lt)=o:=⟨_,rfl⟩;rw [ho1,ho2] at hr
      obtain ⟨hm1,_⟩:=fmul_run (y:=t10 22) Hn2.out (t10_fin _);clear h2
      have Hr:=asd_ hr;clear hr
      cases o1<;>cases o2
      all_goals (go_enter Tryz.func120,Tryz.ntmps120;go_wp2_with fail;go_ret2;exact ⟨by rw [← Hr.out];rfl,be_⟩)
     case neg=>
      rw [if_neg h3] at hr;have f4:decide (22 < p)=false:=decide_eq_false h3;obtain ⟨k,hk⟩:∃ k:Nat,p=(k:Int):=⟨p.toNat,by omega⟩;have hkt:p.toNat=k:=(by omega);rw [hkt] at hr;have q1n:k < 23:=(by omega);have ct:w.cell? (ad.add k)=some (.float .f64 (t10 k)):=HP.out.d k q1n;have q0:(0:Int)≤p:=(by omega);have q1:p < 23:=(by omega);have ept:p.toNat=k:=hkt;clear h3 hkt hk h1
      have Hn2:=Hnn
      unfold ex1 at hr;obtain ⟨o1,ho1⟩:∃ o,(FloatKind.f64.format.order i 4831355200913801216 == some .gt)=o:=⟨_,rfl⟩;obtain ⟨o2,ho2⟩:∃ o,(FloatKind.f64.format.order i 14054727237768577024 == some .lt)=o:=⟨_,rfl⟩;rw [ho1,ho2] at hr
      obtain ⟨hm1,_⟩:=fmul_run (y:=t10 k) Hn2.out (t10_fin _);clear h2
      have Hr:=asd_ hr;clear hr
      cases o1<;>cases o2
      all_goals (go_enter Tryz.func120,Tryz.ntmps120;go_wp2_with fail;go_ret2;exact ⟨by rw [← Hr.out];rfl,be_⟩)
    case neg=>
     rw [if_neg h2] at hr
     by_cases h4:p < 0∧ -22≤p
     case pos=>
      rw [if_pos h4] at hr;have f2:decide (0 < p)=false:=decide_eq_false (by omega);have f5:decide (p < 0)=true:=decide_eq_true h4.1;have f6:decide (-22≤p)=true:=decide_eq_true h4.2;obtain ⟨k,hk⟩:∃ k:Nat,-p=(k:Int):=⟨(-p).toNat,by omega⟩;have hkt:(-p).toNat=k:=(by omega);rw [hkt] at hr;have e1:IntKind.i64.wrap (-p)=(k:Int):=(IntWalk.i64_in _ (by omega)).trans hk;have q0:(0:Int)≤(k:Int):=(by omega);have q1:(k:Int) < 23:=(by omega);have q1n:k < 23:=(by omega);have ct:w.cell? (ad.add k)=some (.float .f64 (t10 k)):=HP.out.d k q1n;clear h1 h2 h4 hkt hk
      obtain ⟨hm1,_⟩:=fdiv_run (y:=t10 k) Hnn.out (t10_fin _)
      have Hr:=asd_ hr;clear hr
      go_enter Tryz.func120,Tryz.ntmps120
      go_wp2_with fail
      go_ret2
      exact ⟨by rw [← Hr.out];rfl,be_⟩
     case neg=>
      rw [if_neg h4] at hr;have Hr:=asd_ hr;clear hr
      by_cases h5:0 < p
      case pos=>
       have f2:decide (0 < p)=true:=decide_eq_true h5;have f3:decide (p≤37)=false:=decide_eq_false (by omega);have f5:decide (p < 0)=false:=decide_eq_false (by omega);clear h1 h2 h4 h5
       go_enter Tryz.func120,Tryz.ntmps120
       go_wp2_with fail
       go_ret2
       exact ⟨by rw [← Hr.out];rfl,be_⟩
      case neg=>
       have f2:decide (0 < p)=false:=decide_eq_false h5;have f5:decide (p < 0)=true:=decide_eq_true (by omega);have f6:decide (-22≤p)=false:=decide_eq_false (by omega);clear h1 h2 h4 h5
       go_enter Tryz.func120,Tryz.ntmps120
       go_wp2_with fail
       go_ret2
       exact ⟨by rw [← Hr.out];rfl,be_⟩
  case true=>
   have hfi:=hng true rfl;clear hng;rw [if_pos rfl] at hfi
   have Hi2:=asd_ hi;clear hi
   by_cases h1:p=0
   case pos=>
    rw [if_pos h1] at hr;have f1:(p == 0)=true:=beq_iff_eq.2 h1;clear h1
    have Hr:=asd_ hr;clear hr
    go_enter Tryz.func120,Tryz.ntmps120
    go_wp2_with fail
    go_ret2
    exact ⟨by rw [← Hr.out];rfl,be_⟩
   case neg=>
    rw [if_neg h1] at hr;have f1:(p == 0)=false:=beq_eq_false_iff_ne.2 h1
    by_cases h2:0 < p∧p≤37
    case pos=>
     rw [if_pos h2] at hr;have f2:decide (0 < p)=true:=decide_eq_true h2.1;have f3:decide (p≤37)=true:=decide_eq_true h2.2
     by_cases h3:22 < p
     case pos=>
      rw [if_pos h3] at hr;have f4:decide (22 < p)=true:=decide_eq_true h3;obtain ⟨k,hk⟩:∃ k:Nat,p - 22=(k:Int):=⟨(p - 22).toNat,by omega⟩;have hkt:(p - 22).toNat=k:=(by omega);rw [hkt] at hr;have e1:IntKind.i64.wrap (p - 22)=(k:Int):=(IntWalk.i64_in _ (by omega)).trans hk;have q0:(0:Int)≤(k:Int):=(by omega);have q1:(k:Int) < 23:=(by omega);have q1n:k < 23:=(by omega);have ct:w.cell? (ad.add k)=some (.float .f64 (t10 k)):=HP.out.d k q1n;have ct2:w.cell? ⟨ad.block,ad.off + 22,none⟩=some (.float .f64 (t10 22)):=HP.out.d 22 (by omega);clear h3 hkt hk h1
      obtain ⟨hm0,hn2⟩:=fmul_run (y:=t10 k) Hnn.out (t10_fin _);obtain ⟨f2,hf2⟩:∃ f2,fmul f (t10 k)=f2:=⟨_,rfl⟩;rw [hf2] at hm0 hn2 hr;have Hn2:=asd_ hn2;clear hn2 hf2
      unfold ex1 at hr;obtain ⟨o1,ho1⟩:∃ o,(FloatKind.f64.format.order f2 4831355200913801216 == some .gt)=o:=⟨_,rfl⟩;obtain ⟨o2,ho2⟩:∃ o,(FloatKind.f64.format.order f2 14054727237768577024 == some .lt)=o:=⟨_,rfl⟩;rw [ho1,ho2] at hr
      obtain ⟨hm1,_⟩:=fmul_run (y:=t10 22) Hn2.out (t10_fin _);clear h2
      have Hr:=asd_ hr;clear hr
      cases o1<;>cases o2
      all_goals (go_enter Tryz.func120,Tryz.ntmps120;go_wp2_with fail;go_ret2;exact ⟨by rw [← Hr.out];rfl,be_⟩)
     case neg=>
      rw [if_neg h3] at hr;have f4:decide (22 < p)=false:=decide_eq_false h3;obtain ⟨k,hk⟩:∃ k:Nat,p=(k:Int):=⟨p.toNat,by omega⟩;have hkt:p.toNat=k:=(by omega);rw [hkt] at hr;have q1n:k < 23:=(by omega);have ct:w.cell? (ad.add k)=some (.float .f64 (t10 k)):=HP.out.d k q1n;have q0:(0:Int)≤p:=(by omega);have q1:p < 23:=(by omega);have ept:p.toNat=k:=hkt;clear h3 hkt hk h1
      have Hn2:=Hnn
      unfold ex1 at hr;obtain ⟨o1,ho1⟩:∃ o,(FloatKind.f64.format.order f 4831355200913801216 == some .gt)=o:=⟨_,rfl⟩;obtain ⟨o2,ho2⟩:∃ o,(FloatKind.f64.format.order f 14054727237768577024 == some .lt)=o:=⟨_,rfl⟩;rw [ho1,ho2] at hr
      obtain ⟨hm1,_⟩:=fmul_run (y:=t10 k) Hn2.out (t10_fin _);clear h2
      have Hr:=asd_ hr;clear hr
      cases o1<;>cases o2
      all_goals (go_enter Tryz.func120,Tryz.ntmps120;go_wp2_with fail;go_ret2;exact ⟨by rw [← Hr.out];rfl,be_⟩)
    case neg=>
     rw [if_neg h2] at hr
     by_cases h4:p < 0∧ -22≤p
     case pos=>
      rw [if_pos h4] at hr;have f2:decide (0 < p)=false:=decide_eq_false (by omega);have f5:decide (p < 0)=true:=decide_eq_true h4.1;have f6:decide (-22≤p)=true:=decide_eq_true h4.2;obtain ⟨k,hk⟩:∃ k:Nat,-p=(k:Int):=⟨(-p).toNat,by omega⟩;have hkt:(-p).toNat=k:=(by omega);rw [hkt] at hr;have e1:IntKind.i64.wrap (-p)=(k:Int):=(IntWalk.i64_in _ (by omega)).trans hk;have q0:(0:Int)≤(k:Int):=(by omega);have q1:(k:Int) < 23:=(by omega);have q1n:k < 23:=(by omega);have ct:w.cell? (ad.add k)=some (.float .f64 (t10 k)):=HP.out.d k q1n;clear h1 h2 h4 hkt hk
      obtain ⟨hm1,_⟩:=fdiv_run (y:=t10 k) Hnn.out (t10_fin _)
      have Hr:=asd_ hr;clear hr
      go_enter Tryz.func120,Tryz.ntmps120
      go_wp2_with fail
      go_ret2
      exact ⟨by rw [← Hr.out];rfl,be_⟩
     case neg=>
      rw [if_neg h4] at hr;have Hr:=asd_ hr;clear hr
      by_cases h5:0 < p
      case pos=>
       have f2:decide (0 < p)=true:=decide_eq_true h5;have f3:decide (p≤37)=false:=decide_eq_false (by omega);have f5:decide (p < 0)=false:=decide_eq_false (by omega);clear h1 h2 h4 h5
       go_enter Tryz.func120,Tryz.ntmps120
       go_wp2_with fail
       go_ret2
       exact ⟨by rw [← Hr.out];rfl,be_⟩
      case neg=>
       have f2:decide (0 < p)=false:=decide_eq_false h5;have f5:decide (p < 0)=true:=decide_eq_true (by omega);have f6:decide (-22≤p)=false:=decide_eq_false (by omega);clear h1 h2 h4 h5
       go_enter Tryz.func120,Tryz.ntmps120
       go_wp2_with fail
       go_ret2
       exact ⟨by rw [← Hr.out];rfl,be_⟩
end Go.Proofs.YtlblbefbbibpaaaGreatDoor.J
