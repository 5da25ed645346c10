/- Part. -/
import Derived.Test.YtlblbefbbibpaaaGreatDoorQBB
set_option linter.unusedVariables false
set_option linter.unusedSimpArgs false
set_option maxHeartbeats 8000000
set_option maxRecDepth 100000
namespace Go.Proofs.YtlblbefbbibpaaaGreatDoor.J
open Go.RowKit Zw Zw.PrintWords Zw.PrintLast Zw.PrintMore PAM
def lw (c:Int):Int:=bits .or .u8 c 32
theorem lw_ok (c:Int) (w:World):Calls Tryz.prog 89 #[.int .u8 c] w fun e w'=>e= .returned (.int .u8 (lw c))∧Below w.heap.size w w':=(strconv_lower.calls c _ w rfl).mono fun _ _ h=>⟨h.1,h.2.below⟩
def uhd (c:Int) (hex:Bool):Bool:=(decide (48≤c)&&decide (c≤57))||(hex&&decide (97≤lw c)&&decide (lw c≤102))
def ul (s:ByteArray) (hex:Bool):Nat→Nat→Int→Bool
 |0,_,saw=>saw != 95
 |f + 1,i,saw=>if uhd (ch s i) hex then ul s hex f (i + 1) 48 else
  if ch s i=95 then (if saw=48 then ul s hex f (i + 1) 95 else false) else if saw=95 then false else ul s hex f (i + 1) 33
def ubase (s:ByteArray):Bool:=decide (2≤s.size)&&decide (ch s 0=48)&&(decide (lw (ch s 1)=98)||decide (lw (ch s 1)=111)||decide (lw (ch s 1)=120))
def unum (s:ByteArray):Bool:=if ubase s then ul s (lw (ch s 1) == 120) (s.size - 2) 2 48 else ul s false s.size 0 94
def sgB (s:ByteArray):Bool:=decide (1≤s.size)&&(decide (ch s 0=45)||decide (ch s 0=43))
def uok (s:ByteArray):Bool:=if sgB s then unum (s.extract 1 s.size) else unum s
theorem bv_ {a b:Bool} (h:a=b):Value.bool a= .bool b:=by rw [h]
theorem rb_ {a b:Bool} (h:a=b):Ending.returned (.bool a)= .returned (.bool b):=by rw [h]
theorem uok_ok (s:ByteArray) (w:World) (hs:s.size≤1048576):
  Calls Tryz.prog 90 #[.string s] w fun e w'=>e= .returned (.bool (uok s))∧Below w.heap.size w w':=by
 have Hs:=asd_ hs;clear hs;obtain ⟨r,hr⟩:∃ r,uok s=r:=⟨_,rfl⟩;rw [hr];unfold uok at hr
 have HK:=st0_ w
 obtain ⟨b,hb⟩:∃ b,sgB s=b:=⟨_,rfl⟩;rw [hb] at hr;unfold sgB at hb;have Hr:=asd_ hr;clear hr
 go_enter Tryz.func90,Tryz.ntmps90
 go_upto_region 3 with (fail)
 go_cut [18] from 6 to 17 (fun v18 wc=>v18= .bool b∧Aside0 (At w [] wc))
 case first=>
  by_cases h1:1≤s.size
  case pos=>
   have f1:decide ((1:Int)≤(s.size:Int))=true:=decide_eq_true (by omega)
   have f1n:decide (1≤s.size)=true:=decide_eq_true (by omega)
   have q1:0 < s.size:=(by omega);have q2:(0:Int) < s.size:=(by omega);obtain ⟨c,hc⟩:∃ c,ch s 0=c:=⟨_,rfl⟩;have x1:((s[0]'q1).toNat:Int)=c:=(ch_at q1).trans hc;rw [hc] at hb;clear hc
   by_cases h45:c=45
   case pos=>
    have g1:(c == 45)=true:=beq_iff_eq.2 (by omega)
    have hb2:true=b:=(by rw [← hb];simp [*]);subst hb2;clear hb
    go_wp2_with fail
    go_meet
    case rel=>exact ⟨rfl,⟨at_⟩⟩
   case neg=>
    have g1:(c == 45)=false:=beq_eq_false_iff_ne.2 (by omega)
    by_cases h43:c=43
    case pos=>
     have g2:(c == 43)=true:=beq_iff_eq.2 (by omega)
     have hb2:true=b:=(by rw [← hb];simp [*]);subst hb2;clear hb
     go_wp2_with fail
     go_meet
     case rel=>exact ⟨rfl,⟨at_⟩⟩
    case neg=>
     have g2:(c == 43)=false:=beq_eq_false_iff_ne.2 (by omega)
     have hb2:false=b:=(by rw [← hb];simp [*]);subst hb2;clear hb
     go_wp2_with fail
     go_meet
     case rel=>exact ⟨rfl,⟨at_⟩⟩
  case neg=>
   have f1:decide ((1:Int)≤(s.size:Int))=false:=decide_eq_false (by omega)
   have f1n:decide (1≤s.size)=false:=decide_eq_false (by omega)
   have hb2:false=b:=(by rw [← hb];simp [*]);subst hb2;clear hb
   go_wp2_with fail
   go_meet
   case rel=>exact ⟨rfl,⟨at_⟩⟩
 case rest=>
  clear HK;obtain ⟨rfl,HK⟩:=hcut
  go_upto_if 18 with fail
  go_cut [0] from 18 to 20 (fun v0 wc=>∃ T:ByteArray,v0= .string T∧Aside0 (T.size≤1048576)∧Aside0 (unum T=r)∧Aside0 (At w [] wc))
  case first=>
   have hr:=Hr.out;clear Hr;cases b
   case false=>
    rw [if_neg (by decide)] at hr;have Hr:=asd_ hr;clear hr hb;go_wp2_with fail
    go_meet
    case rel=>exact ⟨s,rfl,Hs,Hr,⟨at_⟩⟩
   case true=>
    rw [if_pos rfl] at hr;have Hr:=asd_ hr;have q3:1≤s.size:=(by simp at hb;omega);have q4:(1:Int)≤s.size:=(by omega);clear hr hb;go_wp2_with fail
    go_meet
    case rel=>exact ⟨s.extract 1 s.size,rfl,⟨by have:=Hs.out;rw [ByteArray.size_extract];omega⟩,Hr,⟨at_⟩⟩
  case rest=>
   clear HK Hs Hr hb;obtain ⟨T,rfl,Hs,Hr,HK⟩:=hcut;have hr:=Hr.out;unfold unum at hr;clear Hr
   obtain ⟨b,hb⟩:∃ b,ubase T=b:=⟨_,rfl⟩;rw [hb] at hr;unfold ubase at hb;have Hr:=asd_ hr;clear hr
   go_upto_region 6 with (fail)
   go_cut [46] from 21 to 45 (fun v46 wc=>v46= .bool b∧Aside0 (At w [] wc))
   case first=>
    by_cases h2:2≤T.size
    case pos=>
     have f2:decide ((2:Int)≤(T.size:Int))=true:=decide_eq_true (by omega)
     have f2n:decide (2≤T.size)=true:=decide_eq_true (by omega)
     have q1:0 < T.size:=(by omega);have q2:(0:Int) < T.size:=(by omega);have q3:1 < T.size:=(by omega);have q4:(1:Int) < T.size:=(by omega);obtain ⟨c,hc⟩:∃ c,ch T 0=c:=⟨_,rfl⟩;have x1:((T[0]'q1).toNat:Int)=c:=(ch_at q1).trans hc;obtain ⟨d,hd⟩:∃ d,ch T 1=d:=⟨_,rfl⟩;have x2:((T[1]'q3).toNat:Int)=d:=(ch_at q3).trans hd;obtain ⟨e,he⟩:∃ e,lw d=e:=⟨_,rfl⟩;rw [hc,hd,he] at hb;have He:=asd_ he;clear hc hd he
     by_cases h48:c=48
     case pos=>
      have g48:(c == 48)=true:=beq_iff_eq.2 (by omega)
      by_cases h98:e=98
      case pos=>
       have g98:(e == 98)=true:=beq_iff_eq.2 (by omega)
       have hb2:true=b:=(by rw [← hb];simp [*]);subst hb2;clear hb
       go_wp2_with (first|((first|((with_reducible refine gd_ 32 ?_);(try (refine gate_guard (by rfl) ?_;dsimp only));refine cl_ #[.int .u8 d] (.int .u8 e) Tryz.func89 (by rw [← He.out];exact lw_ok _ _) ?_)|((with_reducible refine gd_ 37 ?_);(try (refine gate_guard (by rfl) ?_;dsimp only));refine cl_ #[.int .u8 d] (.int .u8 e) Tryz.func89 (by rw [← He.out];exact lw_ok _ _) ?_)|((with_reducible refine gd_ 43 ?_);(try (refine gate_guard (by rfl) ?_;dsimp only));refine cl_ #[.int .u8 d] (.int .u8 e) Tryz.func89 (by rw [← He.out];exact lw_ok _ _) ?_));intro wc32 HK1;replace HK:=asd_ HK1;clear HK1;skip))
       go_meet
       case rel=>exact ⟨rfl,⟨at_⟩⟩
      case neg=>
       have g98:(e == 98)=false:=beq_eq_false_iff_ne.2 (by omega)
       by_cases h111:e=111
       case pos=>
        have g111:(e == 111)=true:=beq_iff_eq.2 (by omega)
        have hb2:true=b:=(by rw [← hb];simp [*]);subst hb2;clear hb
        go_wp2_with (first|((first|((with_reducible refine gd_ 32 ?_);(try (refine gate_guard (by rfl) ?_;dsimp only));refine cl_ #[.int .u8 d] (.int .u8 e) Tryz.func89 (by rw [← He.out];exact lw_ok _ _) ?_)|((with_reducible refine gd_ 37 ?_);(try (refine gate_guard (by rfl) ?_;dsimp only));refine cl_ #[.int .u8 d] (.int .u8 e) Tryz.func89 (by rw [← He.out];exact lw_ok _ _) ?_)|((with_reducible refine gd_ 43 ?_);(try (refine gate_guard (by rfl) ?_;dsimp only));refine cl_ #[.int .u8 d] (.int .u8 e) Tryz.func89 (by rw [← He.out];exact lw_ok _ _) ?_));intro wc32 HK1;replace HK:=asd_ HK1;clear HK1;skip))
        go_meet
        case rel=>exact ⟨rfl,⟨at_⟩⟩
       case neg=>
        have g111:(e == 111)=false:=beq_eq_false_iff_ne.2 (by omega)
        by_cases h120:e=120
        case pos=>
         have g120:(e == 120)=true:=beq_iff_eq.2 (by omega)
         have hb2:true=b:=(by rw [← hb];simp [*]);subst hb2;clear hb
         go_wp2_with (first|((first|((with_reducible refine gd_ 32 ?_);(try (refine gate_guard (by rfl) ?_;dsimp only));refine cl_ #[.int .u8 d] (.int .u8 e) Tryz.func89 (by rw [← He.out];exact lw_ok _ _) ?_)|((with_reducible refine gd_ 37 ?_);(try (refine gate_guard (by rfl) ?_;dsimp only));refine cl_ #[.int .u8 d] (.int .u8 e) Tryz.func89 (by rw [← He.out];exact lw_ok _ _) ?_)|((with_reducible refine gd_ 43 ?_);(try (refine gate_guard (by rfl) ?_;dsimp only));refine cl_ #[.int .u8 d] (.int .u8 e) Tryz.func89 (by rw [← He.out];exact lw_ok _ _) ?_));intro wc32 HK1;replace HK:=asd_ HK1;clear HK1;skip))
         go_meet
         case rel=>exact ⟨rfl,⟨at_⟩⟩
        case neg=>
         have g120:(e == 120)=false:=beq_eq_false_iff_ne.2 (by omega)
         have hb2:false=b:=(by rw [← hb];simp [*]);subst hb2;clear hb
         go_wp2_with (first|((first|((with_reducible refine gd_ 32 ?_);(try (refine gate_guard (by rfl) ?_;dsimp only));refine cl_ #[.int .u8 d] (.int .u8 e) Tryz.func89 (by rw [← He.out];exact lw_ok _ _) ?_)|((with_reducible refine gd_ 37 ?_);(try (refine gate_guard (by rfl) ?_;dsimp only));refine cl_ #[.int .u8 d] (.int .u8 e) Tryz.func89 (by rw [← He.out];exact lw_ok _ _) ?_)|((with_reducible refine gd_ 43 ?_);(try (refine gate_guard (by rfl) ?_;dsimp only));refine cl_ #[.int .u8 d] (.int .u8 e) Tryz.func89 (by rw [← He.out];exact lw_ok _ _) ?_));intro wc32 HK1;replace HK:=asd_ HK1;clear HK1;skip))
         go_meet
         case rel=>exact ⟨rfl,⟨at_⟩⟩
     case neg=>
      have g48:(c == 48)=false:=beq_eq_false_iff_ne.2 (by omega)
      have hb2:false=b:=(by rw [← hb];simp [*]);subst hb2;clear hb
      go_wp2_with (first|((first|((with_reducible refine gd_ 32 ?_);(try (refine gate_guard (by rfl) ?_;dsimp only));refine cl_ #[.int .u8 d] (.int .u8 e) Tryz.func89 (by rw [← He.out];exact lw_ok _ _) ?_)|((with_reducible refine gd_ 37 ?_);(try (refine gate_guard (by rfl) ?_;dsimp only));refine cl_ #[.int .u8 d] (.int .u8 e) Tryz.func89 (by rw [← He.out];exact lw_ok _ _) ?_)|((with_reducible refine gd_ 43 ?_);(try (refine gate_guard (by rfl) ?_;dsimp only));refine cl_ #[.int .u8 d] (.int .u8 e) Tryz.func89 (by rw [← He.out];exact lw_ok _ _) ?_));intro wc32 HK1;replace HK:=asd_ HK1;clear HK1;skip))
      go_meet
      case rel=>exact ⟨rfl,⟨at_⟩⟩
    case neg=>
     have f2:decide ((2:Int)≤(T.size:Int))=false:=decide_eq_false (by omega)
     have f2n:decide (2≤T.size)=false:=decide_eq_false (by omega)
     have hb2:false=b:=(by rw [← hb];simp [*]);subst hb2;clear hb
     go_wp2_with fail
     go_meet
     case rel=>exact ⟨rfl,⟨at_⟩⟩
   case rest=>
    clear HK;obtain ⟨rfl,HK⟩:=hcut
    go_upto_if 46 with fail
    go_cut [3,4,5] from 46 to 50 (fun v3 v4 v5 wc=>∃ (saw:Int) (i:Nat) (hex:Bool),v3= .int .i32 saw∧v4= .int .i64 i∧v5= .bool hex∧Aside0 (i≤T.size)∧Aside0 (ul T hex (T.size - i) i saw=r)∧Aside0 (At w [] wc))
    case first=>
     have hr:=Hr.out;clear Hr;cases b
     case false=>
      rw [if_neg (by decide)] at hr;have Hr:=asd_ hr;clear hr hb;go_wp2_with fail
      go_meet
      case rel=>exact ⟨94,0,false,rfl,rfl,rfl,⟨Nat.zero_le _⟩,⟨Hr.out⟩,⟨at_⟩⟩
     case true=>
      rw [if_pos rfl] at hr;have q5:2≤T.size:=(by simp at hb;omega);have Hsz:Aside0 (2≤T.size):=⟨q5⟩;have q3:1 < T.size:=q5;have q4:(1:Int) < T.size:=(by omega);clear q5 hb;obtain ⟨d,hd⟩:∃ d,ch T 1=d:=⟨_,rfl⟩;have x2:((T[1]'q3).toNat:Int)=d:=(ch_at q3).trans hd;obtain ⟨e,he⟩:∃ e,lw d=e:=⟨_,rfl⟩;rw [hd,he] at hr;obtain ⟨He,Hr⟩:=as2_ he hr;clear hr hd he
      go_wp2_with (first|((with_reducible refine gd_ 49 ?_);refine cl_ #[.int .u8 d] (.int .u8 e) Tryz.func89 (by rw [← He.out];exact lw_ok _ _) ?_;intro wc49 HK1;replace HK:=asd_ HK1;clear HK1;skip))
      go_meet
      case rel=>exact ⟨48,2,e == 120,rfl,rfl,rfl,Hsz,Hr,⟨at_⟩⟩
    case rest=>
     clear HK Hr hb;obtain ⟨saw,i,hex,rfl,rfl,rfl,Hi,Hr,HK⟩:=hcut
     go_wp2_with fail
     go_loopg [3,4] (T.size - i) (fun kq v3 v4 w'=>∃ (saw':Int) (i':Nat),v3= .int .i32 saw'∧v4= .int .i64 i'∧Aside0 (kq + i'=T.size)∧Aside0 (ul T hex kq i' saw'=r)∧Aside0 (At w [] w'))
     case atStart=>exact ⟨saw,i,rfl,rfl,⟨by have:=Hi.out;omega⟩,Hr,⟨at_⟩⟩
     case round=>
      clear HK Hi Hr;obtain ⟨y,k,rfl,rfl,Hk,Hr,HK⟩:=hrel;cases gk with
      |zero=>
       have hr:=Hr.out;clear Hr;unfold ul at hr
       have f0:decide (k < T.size)=false:=decide_eq_false (by have:=Hk.out;omega)
       have Hr:=asd_ hr;clear hr
       go_wp2_with fail
       go_ret
       exact ⟨rb_ Hr.out,be_⟩
      |succ q=>
       have hk:k < T.size:=(by have:=Hk.out;omega);have f0:decide (k < T.size)=true:=decide_eq_true (hk);have q4:(k:Int) < T.size:=(by omega);obtain ⟨c,hc⟩:∃ c,ch T k=c:=⟨_,rfl⟩;have x1:((T[k]'hk).toNat:Int)=c:=(ch_at hk).trans hc;have hr:=Hr.out;unfold ul at hr;rw [hc] at hr;clear hc Hr
       have e1:IntKind.i64.wrap ((k:Int) + 1)=(k:Int) + 1:=IntWalk.i64_in _ (by have:=Hs.out;omega)
       obtain ⟨e,he⟩:∃ e,lw c=e:=⟨_,rfl⟩;have He:=asd_ he;obtain ⟨b,hb⟩:∃ b,uhd c hex=b:=⟨_,rfl⟩;rw [hb] at hr;have Hr:=asd_ hr;unfold uhd at hb;rw [he] at hb;clear hr he
       go_upto_region 12 with (fail)
       go_cut [83] from 57 to 82 (fun v83 wc=>v83= .bool b∧Aside0 (At w [] wc))
       case first=>
        by_cases h48:48≤c
        case pos=>
         have g1:decide (48≤c)=true:=decide_eq_true (by omega)
         by_cases h57:c≤57
         case pos=>
          have g2:decide (c≤57)=true:=decide_eq_true (by omega)
          have hb2:true=b:=(by rw [← hb];simp [*]);subst hb2;clear hb
          go_wp2_with (first|((first|((with_reducible refine gd_ 73 ?_);(try (refine gate_guard (by rfl) ?_;dsimp only));refine cl_ #[.int .u8 c] (.int .u8 e) Tryz.func89 (by rw [← He.out];exact lw_ok _ _) ?_)|((with_reducible refine gd_ 80 ?_);(try (refine gate_guard (by rfl) ?_;dsimp only));refine cl_ #[.int .u8 c] (.int .u8 e) Tryz.func89 (by rw [← He.out];exact lw_ok _ _) ?_));intro wc73 HK1;replace HK:=asd_ HK1;clear HK1;skip))
          go_meet
          case rel=>exact ⟨rfl,⟨at_⟩⟩
         case neg=>
          have g2:decide (c≤57)=false:=decide_eq_false (by omega)
          cases hex
          case false=>
           have hb2:false=b:=(by rw [← hb];simp [*]);subst hb2;clear hb
           go_wp2_with (first|((first|((with_reducible refine gd_ 73 ?_);(try (refine gate_guard (by rfl) ?_;dsimp only));refine cl_ #[.int .u8 c] (.int .u8 e) Tryz.func89 (by rw [← He.out];exact lw_ok _ _) ?_)|((with_reducible refine gd_ 80 ?_);(try (refine gate_guard (by rfl) ?_;dsimp only));refine cl_ #[.int .u8 c] (.int .u8 e) Tryz.func89 (by rw [← He.out];exact lw_ok _ _) ?_));intro wc73 HK1;replace HK:=asd_ HK1;clear HK1;skip))
           go_meet
           case rel=>exact ⟨rfl,⟨at_⟩⟩
          case true=>
           by_cases h97:97≤e
           case pos=>
            have g3:decide (97≤e)=true:=decide_eq_true (by omega)
            by_cases h102:e≤102
            case pos=>
             have g4:decide (e≤102)=true:=decide_eq_true (by omega)
             have hb2:true=b:=(by rw [← hb];simp [*]);subst hb2;clear hb
             go_wp2_with (first|((first|((with_reducible refine gd_ 73 ?_);(try (refine gate_guard (by rfl) ?_;dsimp only));refine cl_ #[.int .u8 c] (.int .u8 e) Tryz.func89 (by rw [← He.out];exact lw_ok _ _) ?_)|((with_reducible refine gd_ 80 ?_);(try (refine gate_guard (by rfl) ?_;dsimp only));refine cl_ #[.int .u8 c] (.int .u8 e) Tryz.func89 (by rw [← He.out];exact lw_ok _ _) ?_));intro wc73 HK1;replace HK:=asd_ HK1;clear HK1;skip))
             go_meet
             case rel=>exact ⟨rfl,⟨at_⟩⟩
            case neg=>
             have g4:decide (e≤102)=false:=decide_eq_false (by omega)
             have hb2:false=b:=(by rw [← hb];simp [*]);subst hb2;clear hb
             go_wp2_with (first|((first|((with_reducible refine gd_ 73 ?_);(try (refine gate_guard (by rfl) ?_;dsimp only));refine cl_ #[.int .u8 c] (.int .u8 e) Tryz.func89 (by rw [← He.out];exact lw_ok _ _) ?_)|((with_reducible refine gd_ 80 ?_);(try (refine gate_guard (by rfl) ?_;dsimp only));refine cl_ #[.int .u8 c] (.int .u8 e) Tryz.func89 (by rw [← He.out];exact lw_ok _ _) ?_));intro wc73 HK1;replace HK:=asd_ HK1;clear HK1;skip))
             go_meet
             case rel=>exact ⟨rfl,⟨at_⟩⟩
           case neg=>
            have g3:decide (97≤e)=false:=decide_eq_false (by omega)
            have hb2:false=b:=(by rw [← hb];simp [*]);subst hb2;clear hb
            go_wp2_with (first|((first|((with_reducible refine gd_ 73 ?_);(try (refine gate_guard (by rfl) ?_;dsimp only));refine cl_ #[.int .u8 c] (.int .u8 e) Tryz.func89 (by rw [← He.out];exact lw_ok _ _) ?_)|((with_reducible refine gd_ 80 ?_);(try (refine gate_guard (by rfl) ?_;dsimp only));refine cl_ #[.int .u8 c] (.int .u8 e) Tryz.func89 (by rw [← He.out];exact lw_ok _ _) ?_));intro wc73 HK1;replace HK:=asd_ HK1;clear HK1;skip))
            go_meet
            case rel=>exact ⟨rfl,⟨at_⟩⟩
        case neg=>
         have g1:decide (48≤c)=false:=decide_eq_false (by omega)
         cases hex
         case false=>
          have hb2:false=b:=(by rw [← hb];simp [*]);subst hb2;clear hb
          go_wp2_with (first|((first|((with_reducible refine gd_ 73 ?_);(try (refine gate_guard (by rfl) ?_;dsimp only));refine cl_ #[.int .u8 c] (.int .u8 e) Tryz.func89 (by rw [← He.out];exact lw_ok _ _) ?_)|((with_reducible refine gd_ 80 ?_);(try (refine gate_guard (by rfl) ?_;dsimp only));refine cl_ #[.int .u8 c] (.int .u8 e) Tryz.func89 (by rw [← He.out];exact lw_ok _ _) ?_));intro wc73 HK1;replace HK:=asd_ HK1;clear HK1;skip))
          go_meet
          case rel=>exact ⟨rfl,⟨at_⟩⟩
         case true=>
          by_cases h97:97≤e
          case pos=>
           have g3:decide (97≤e)=true:=decide_eq_true (by omega)
           by_cases h102:e≤102
           case pos=>
            have g4:decide (e≤102)=true:=decide_eq_true (by omega)
            have hb2:true=b:=(by rw [← hb];simp [*]);subst hb2;clear hb
            go_wp2_with (first|((first|((with_reducible refine gd_ 73 ?_);(try (refine gate_guard (by rfl) ?_;dsimp only));refine cl_ #[.int .u8 c] (.int .u8 e) Tryz.func89 (by rw [← He.out];exact lw_ok _ _) ?_)|((with_reducible refine gd_ 80 ?_);(try (refine gate_guard (by rfl) ?_;dsimp only));refine cl_ #[.int .u8 c] (.int .u8 e) Tryz.func89 (by rw [← He.out];exact lw_ok _ _) ?_));intro wc73 HK1;replace HK:=asd_ HK1;clear HK1;skip))
            go_meet
            case rel=>exact ⟨rfl,⟨at_⟩⟩
           case neg=>
            have g4:decide (e≤102)=false:=decide_eq_false (by omega)
            have hb2:false=b:=(by rw [← hb];simp [*]);subst hb2;clear hb
            go_wp2_with (first|((first|((with_reducible refine gd_ 73 ?_);(try (refine gate_guard (by rfl) ?_;dsimp only));refine cl_ #[.int .u8 c] (.int .u8 e) Tryz.func89 (by rw [← He.out];exact lw_ok _ _) ?_)|((with_reducible refine gd_ 80 ?_);(try (refine gate_guard (by rfl) ?_;dsimp only));refine cl_ #[.int .u8 c] (.int .u8 e) Tryz.func89 (by rw [← He.out];exact lw_ok _ _) ?_));intro wc73 HK1;replace HK:=asd_ HK1;clear HK1;skip))
            go_meet
            case rel=>exact ⟨rfl,⟨at_⟩⟩
          case neg=>
           have g3:decide (97≤e)=false:=decide_eq_false (by omega)
           have hb2:false=b:=(by rw [← hb];simp [*]);subst hb2;clear hb
           go_wp2_with (first|((first|((with_reducible refine gd_ 73 ?_);(try (refine gate_guard (by rfl) ?_;dsimp only));refine cl_ #[.int .u8 c] (.int .u8 e) Tryz.func89 (by rw [← He.out];exact lw_ok _ _) ?_)|((with_reducible refine gd_ 80 ?_);(try (refine gate_guard (by rfl) ?_;dsimp only));refine cl_ #[.int .u8 c] (.int .u8 e) Tryz.func89 (by rw [← He.out];exact lw_ok _ _) ?_));intro wc73 HK1;replace HK:=asd_ HK1;clear HK1;skip))
           go_meet
           case rel=>exact ⟨rfl,⟨at_⟩⟩
       case rest=>
        clear HK hb;obtain ⟨rfl,HK⟩:=hcut;have hr:=Hr.out;clear Hr;cases b
        case true=>
         rw [if_pos rfl] at hr
         have Hr:=asd_ hr;clear hr
         go_wp2_with fail
         go_roundg q
         case measure=>exact Nat.lt_succ_self _
         case rel=>exact ⟨48,k + 1,rfl,by go_num,⟨by have:=Hk.out;omega⟩,Hr,⟨at_⟩⟩
        case false=>
         rw [if_neg (by decide)] at hr
         by_cases h95:c=95
         case pos=>
          rw [if_pos h95] at hr
          have g95:(c == 95)=true:=beq_iff_eq.2 (by omega)
          clear h95
          by_cases hy:y=48
          case pos=>
           rw [if_pos hy] at hr;have g48:(y != 48)=false:=bne_eq_false_iff_eq.2 hy;clear hy
           have Hr:=asd_ hr;clear hr
           go_wp2_with fail
           go_roundg q
           case measure=>exact Nat.lt_succ_self _
           case rel=>exact ⟨95,k + 1,rfl,by go_num,⟨by have:=Hk.out;omega⟩,Hr,⟨at_⟩⟩
          case neg=>
           rw [if_neg hy] at hr;have g48:(y != 48)=true:=bne_iff_ne.2 hy;clear hy
           have Hr:=asd_ hr;clear hr
           go_wp2_with fail
           go_ret
           exact ⟨rb_ Hr.out,be_⟩
         case neg=>
          rw [if_neg h95] at hr
          have g95:(c == 95)=false:=beq_eq_false_iff_ne.2 (by omega)
          clear h95
          by_cases hy:y=95
          case pos=>
           rw [if_pos hy] at hr
           have gy:(y == 95)=true:=beq_iff_eq.2 (by omega)
           clear hy
           have Hr:=asd_ hr;clear hr
           go_wp2_with fail
           go_ret
           exact ⟨rb_ Hr.out,be_⟩
          case neg=>
           rw [if_neg hy] at hr
           have gy:(y == 95)=false:=beq_eq_false_iff_ne.2 (by omega)
           clear hy
           have Hr:=asd_ hr;clear hr
           go_wp2_with fail
           go_roundg q
           case measure=>exact Nat.lt_succ_self _
           case rel=>exact ⟨33,k + 1,rfl,by go_num,⟨by have:=Hk.out;omega⟩,Hr,⟨at_⟩⟩
end Go.Proofs.YtlblbefbbibpaaaGreatDoor.J
