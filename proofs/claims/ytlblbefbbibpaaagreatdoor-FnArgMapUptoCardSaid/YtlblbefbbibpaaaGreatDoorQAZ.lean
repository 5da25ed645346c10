/- Part. -/
import Derived.Test.YtlblbefbbibpaaaGreatDoorQAH
import Derived.IntWalk
set_option linter.unusedVariables false
set_option linter.unusedSimpArgs false
set_option maxHeartbeats 8000000
set_option maxRecDepth 100000
namespace Go.Proofs.YtlblbefbbibpaaaGreatDoor.Dec
def num:List Nat→Nat
 |[]=>0
 |c::l=>c * 10 ^ l.length + num l
theorem num_lt:∀ (l:List Nat),(∀ c∈l,c≤9)→num l < 10 ^ l.length
 |[],_=>by simp [num]
 |c::l,h=>by
  have h1:=num_lt l (fun x hx=>h x (List.mem_cons_of_mem _ hx))
  have h2:=h c List.mem_cons_self
  have h3:c * 10 ^ l.length≤9 * 10 ^ l.length:=Nat.mul_le_mul_right _ h2
  simp only [num,List.length_cons,Nat.pow_succ]
  omega
def carry (k:Nat):List Nat→Nat
 |[]=>0
 |c::l=>(carry k l + c * 2 ^ k) / 10
theorem carry_eq (k:Nat):∀ (l:List Nat),carry k l=num l * 2 ^ k / 10 ^ l.length
 |[]=>by simp [carry,num]
 |c::l=>by
  have ih:=carry_eq k l
  simp only [carry,num,List.length_cons,ih]
  have e:(c * 10 ^ l.length + num l) * 2 ^ k=num l * 2 ^ k + 10 ^ l.length * (c * 2 ^ k):=by
   rw [Nat.add_mul,Nat.add_comm];congr 1;rw [Nat.mul_comm c,Nat.mul_assoc]
  rw [e,Nat.pow_succ,← Nat.div_div_eq_div_mul,Nat.add_mul_div_left _ _ (Nat.pow_pos (by omega))]
theorem carry_lt (k:Nat) (l:List Nat) (h:∀ c∈l,c≤9):carry k l < 2 ^ k:=by
 rw [carry_eq]
 have h1:=num_lt l h
 have h2:0 < 2 ^ k:=Nat.pow_pos (by omega)
 refine (Nat.div_lt_iff_lt_mul (Nat.pow_pos (by omega))).2 ?_
 rw [Nat.mul_comm (2 ^ k)]
 exact Nat.mul_lt_mul_of_pos_right h1 h2
def lexLt:List Nat→List Nat→Bool
 |_,[]=>false
 |[],_::_=>true
 |b::l,s::t=>if b=s then lexLt l t else decide (b < s)
def Ends:List Nat→Prop
 |[]=>True
 |c::l=>(l=[]→c≠0)∧Ends l
theorem Ends.pos:∀ {l:List Nat},Ends l→l≠[]→0 < num l
 |[],_,h=>absurd rfl h
 |c::l,h,_=>by
  cases l with
  |nil=>have:=h.1 rfl;simp [num];omega
  |cons d l=>have:=Ends.pos h.2 (by simp);simp only [num] at *;omega
theorem lexLt_num:∀ (l s:List Nat),(∀ c∈l,c≤9)→(∀ c∈s,c≤9)→Ends s→(lexLt l s=true→num l * 10 ^ s.length < num s * 10 ^ l.length)∧(lexLt l s=false→num s * 10 ^ l.length≤num l * 10 ^ s.length)
 |l,[],_,_,_=>by
  constructor
  ·intro h;cases l<;>simp [lexLt] at h
  ·intro _;simp [num]
 |[],s::t,_,_,he=>by
  constructor
  ·intro _;have:=he.pos (by simp);simpa [num] using this
  ·intro h;simp [lexLt] at h
 |b::l,s::t,hl,hs,he=>by
  have ih:=lexLt_num l t (fun x hx=>hl x (List.mem_cons_of_mem _ hx)) (fun x hx=>hs x (List.mem_cons_of_mem _ hx)) he.2
  have n1:=num_lt l (fun x hx=>hl x (List.mem_cons_of_mem _ hx))
  have n2:=num_lt t (fun x hx=>hs x (List.mem_cons_of_mem _ hx))
  have p1:0 < 10 ^ l.length:=Nat.pow_pos (by omega)
  have p2:0 < 10 ^ t.length:=Nat.pow_pos (by omega)
  have m1:num l * 10 ^ t.length < 10 ^ l.length * 10 ^ t.length:=Nat.mul_lt_mul_of_pos_right n1 p2
  have m2:num t * 10 ^ l.length < 10 ^ l.length * 10 ^ t.length:=by rw [Nat.mul_comm (10 ^ l.length)];exact Nat.mul_lt_mul_of_pos_right n2 p1
  generalize hM:10 ^ l.length * 10 ^ t.length=M at *
  have X:num (b::l) * 10 ^ (s::t).length=10 * (b * M) + 10 * (num l * 10 ^ t.length):=by
   rw [← hM];simp only [num,List.length_cons,Nat.pow_succ,Nat.add_mul]
   congr 1
   ·rw [← Nat.mul_assoc,Nat.mul_comm _ 10,Nat.mul_assoc b]
   ·rw [← Nat.mul_assoc,Nat.mul_comm _ 10]
  have Y:num (s::t) * 10 ^ (b::l).length=10 * (s * M) + 10 * (num t * 10 ^ l.length):=by
   rw [← hM];simp only [num,List.length_cons,Nat.pow_succ,Nat.add_mul]
   congr 1
   ·rw [← Nat.mul_assoc,Nat.mul_comm _ 10,Nat.mul_assoc s,Nat.mul_comm (10 ^ t.length)]
   ·rw [← Nat.mul_assoc,Nat.mul_comm _ 10]
  rw [X,Y]
  by_cases e:b=s
  ·subst e
   simp only [lexLt,if_true]
   exact ⟨fun h=>by have:=ih.1 h;omega,fun h=>by have:=ih.2 h;omega⟩
  ·simp only [lexLt,if_neg e,decide_eq_true_eq,decide_eq_false_iff_not]
   constructor
   ·intro h
    have h3:(b + 1) * M≤s * M:=Nat.mul_le_mul_right _ h
    rw [Nat.add_mul] at h3
    omega
   ·intro h
    have h3:(s + 1) * M≤b * M:=Nat.mul_le_mul_right _ (by omega)
    rw [Nat.add_mul] at h3
    omega
structure Cheat (k delta:Nat) (cut:List Nat):Prop where
 five:num cut=5 ^ k
 len:cut.length + delta=k + 1
 le:cut.length≤k
 lo:10 ^ (delta - 1)≤2 ^ k
 hi:2 ^ k < 10 ^ delta
 ends:Ends cut
 dig:∀ c∈cut,c≤9
theorem carry_bd {k delta:Nat} {cut:List Nat} (C:Cheat k delta cut) (l:List Nat) (hl:∀ c∈l,c≤9) (hp:10 ^ (l.length - 1)≤num l) (hn:0 < l.length):
  carry k l < 10 ^ (if lexLt l cut then delta - 1 else delta)∧(0 < (if lexLt l cut then delta - 1 else delta)→10 ^ ((if lexLt l cut then delta - 1 else delta) - 1)≤carry k l):=by
 have q1:0 < 10 ^ cut.length:=Nat.pow_pos (by omega)
 have q2:0 < 10 ^ l.length:=Nat.pow_pos (by omega)
 have ek:10 ^ k=10 ^ (k - cut.length) * 10 ^ cut.length:=by rw [← Nat.pow_add];congr 1;have:=C.le;omega
 have e10:(10:Nat) ^ k=5 ^ k * 2 ^ k:=by rw [← Nat.mul_pow]
 have hd:k - cut.length=delta - 1:=by have:=C.len;have:=C.le;omega
 obtain ⟨h1,h2⟩:=lexLt_num l cut hl C.dig C.ends
 rw [carry_eq]
 by_cases h:lexLt l cut=true
 ·simp only [h,if_true]
  have h3:=h1 h
  rw [C.five] at h3
  constructor
  ·refine (Nat.div_lt_iff_lt_mul q2).2 ?_
   have h4:num l * 10 ^ cut.length * 2 ^ k < 5 ^ k * 10 ^ l.length * 2 ^ k:=Nat.mul_lt_mul_of_pos_right h3 (Nat.pow_pos (by omega))
   have h5:5 ^ k * 10 ^ l.length * 2 ^ k=10 ^ (delta - 1) * 10 ^ l.length * 10 ^ cut.length:=by
    rw [Nat.mul_right_comm,← e10,ek,hd,Nat.mul_right_comm]
   rw [h5,Nat.mul_right_comm] at h4
   exact Nat.lt_of_mul_lt_mul_right h4
  ·intro hpos
   refine (Nat.le_div_iff_mul_le q2).2 ?_
   have e1:10 ^ (delta - 1 - 1) * 10 ^ l.length=10 ^ (delta - 1) * 10 ^ (l.length - 1):=by
    rw [← Nat.pow_add,← Nat.pow_add];congr 1;omega
   rw [e1,Nat.mul_comm]
   exact Nat.mul_le_mul hp C.lo
 ·have hf:lexLt l cut=false:=by simpa using h
  simp only [hf,Bool.false_eq_true,if_false]
  have h3:=h2 hf
  rw [C.five] at h3
  constructor
  ·refine (Nat.div_lt_iff_lt_mul q2).2 ?_
   rw [Nat.mul_comm (10 ^ delta)]
   exact Nat.mul_lt_mul_of_lt_of_le (num_lt l hl) (Nat.le_of_lt C.hi) (Nat.pow_pos (by omega))
  ·intro _
   refine (Nat.le_div_iff_mul_le q2).2 ?_
   have h4:5 ^ k * 10 ^ l.length * 2 ^ k≤num l * 10 ^ cut.length * 2 ^ k:=Nat.mul_le_mul_right _ h3
   have h5:5 ^ k * 10 ^ l.length * 2 ^ k=10 ^ (delta - 1) * 10 ^ l.length * 10 ^ cut.length:=by
    rw [Nat.mul_right_comm,← e10,ek,hd,Nat.mul_right_comm]
   rw [h5,Nat.mul_right_comm (num l)] at h4
   exact Nat.le_of_mul_le_mul_right h4 q1
theorem num_head {c:Nat} {l:List Nat} (h:1≤c):10 ^ ((c::l).length - 1)≤num (c::l):=by
 simp only [num,List.length_cons,Nat.add_sub_cancel]
 have:=Nat.mul_le_mul_right (10 ^ l.length) h
 omega
structure D where
 d:List Nat
 nd:Nat
 dp:Int
 neg:Bool
 trunc:Bool
def Dg (c:Nat):Prop:=48≤c∧c≤57
def put (w r:Nat) (d:List Nat) (t:Bool):List Nat×Bool:=if w < 800 then (d.set w (r + 48),t) else (d,t||r != 0)
theorem put_len {w r:Nat} {d:List Nat} {t:Bool}:(put w r d t).1.length=d.length:=by unfold put;split<;>simp
theorem put_get {w r:Nat} {d:List Nat} {t:Bool} (i:Nat) (h:i≠w):(put w r d t).1.getD i 0=d.getD i 0:=by
 unfold put;split<;>simp [List.getD_eq_getElem?_getD,List.getElem?_set_ne (Ne.symm h)]
theorem put_at {w r:Nat} {d:List Nat} {t:Bool} (h:w < 800) (hd:d.length=800):(put w r d t).1.getD w 0=r + 48:=by
 unfold put;rw [if_pos h];simp [List.getD_eq_getElem?_getD,List.getElem?_set_self (hd ▸ h)]
def l1 (k:Nat):Nat→Nat→Nat→List Nat→Bool→Nat×Nat×List Nat×Bool
 |0,n,w,d,t=>(n,w,d,t)
 |m + 1,n,w,d,t=>l1 k m ((n + (d.getD m 0 - 48) * 2 ^ k) / 10) (w - 1) (put (w - 1) ((n + (d.getD m 0 - 48) * 2 ^ k) % 10) d t).1 (put (w - 1) ((n + (d.getD m 0 - 48) * 2 ^ k) % 10) d t).2
def l2:Nat→Nat→Nat→List Nat→Bool→List Nat×Bool
 |0,_,_,d,t=>(d,t)
 |f + 1,n,w,d,t=>if n=0 then (d,t) else l2 f (n / 10) (w - 1) (put (w - 1) (n % 10) d t).1 (put (w - 1) (n % 10) d t).2
structure I1 (k nd delta:Nat) (d0:List Nat) (m n w:Nat) (d:List Nat):Prop where
 ew:w=m + delta
 em:m≤nd
 len:d.length=800
 old:∀ i,i < m→d.getD i 0=d0.getD i 0
 dg:∀ i,w≤i→i < nd + delta→i < 800→Dg (d.getD i 0)
 en:n=carry k (((d0.take nd).map (· - 48)).drop m)
 top:delta=0→m=0→0 < nd→d.getD 0 0=(carry k (((d0.take nd).map (· - 48)).drop 1) + (d0.getD 0 0 - 48) * 2 ^ k) % 10 + 48
theorem drop_at {d0:List Nat} {nd m:Nat} (hm:m < nd) (h:nd≤800) (hd:d0.length=800):((d0.take nd).map (· - 48)).drop m=(d0.getD m 0 - 48)::((d0.take nd).map (· - 48)).drop (m + 1):=by
 have hl:m < ((d0.take nd).map (· - 48)).length:=by simp;omega
 rw [List.drop_eq_getElem_cons hl]
 congr 1
 simp [List.getD_eq_getElem?_getD,List.getElem?_eq_getElem (show m < d0.length by omega)]
theorem I1.step {k nd delta:Nat} {d0:List Nat} {m n w:Nat} {d:List Nat} {t:Bool} (h:I1 k nd delta d0 (m + 1) n w d) (hnd:nd≤800) (hd0:d0.length=800):
  I1 k nd delta d0 m ((n + (d.getD m 0 - 48) * 2 ^ k) / 10) (w - 1) (put (w - 1) ((n + (d.getD m 0 - 48) * 2 ^ k) % 10) d t).1:=by
 have ew:w - 1=m + delta:=by have:=h.ew;omega
 have hm:m < nd:=h.em
 have en0:n + (d.getD m 0 - 48) * 2 ^ k=carry k (((d0.take nd).map (· - 48)).drop (m + 1)) + (d0.getD m 0 - 48) * 2 ^ k:=by rw [h.en,h.old m (by omega)]
 refine ⟨ew,by omega,by rw [put_len];exact h.len,fun i hi=> ?_,fun i h1 h2 h3=> ?_,?_,fun hz h0 hp=> ?_⟩
 ·rw [put_get i (by omega)];exact h.old i (by omega)
 ·by_cases e:i=w - 1
  ·subst e
   rw [put_at h3 h.len]
   exact ⟨by omega,by have:=Nat.mod_lt (n + (d.getD m 0 - 48) * 2 ^ k) (show 10 > 0 by omega);omega⟩
  ·rw [put_get i e];exact h.dg i (by omega) h2 h3
 ·rw [drop_at hm hnd hd0,carry,en0]
 ·subst h0
  have ew0:w - 1=0:=by omega
  rw [ew0,put_at (by omega) h.len,en0]
structure I2 (W n w:Nat) (d:List Nat):Prop where
 lt:n < 10 ^ w
 lo:0 < n→10 ^ (w - 1)≤n
 z:n=0→w=0
 len:d.length=800
 dg:∀ i,w≤i→i < W→i < 800→Dg (d.getD i 0)
 top:w=0→0 < W→49≤d.getD 0 0
theorem I2.step {W n w:Nat} {d:List Nat} {t:Bool} (h:I2 W n w d) (hn:0 < n) (hW:w≤W):0 < w∧I2 W (n / 10) (w - 1) (put (w - 1) (n % 10) d t).1:=by
 have hw:0 < w:=by
  rcases Nat.eq_zero_or_pos w with e|e
  ·have:=h.lt;subst e;simp at this;omega
  ·exact e
 obtain ⟨v,rfl⟩:∃ v,w=v + 1:=⟨w - 1,by omega⟩
 have h1:=h.lt
 have h2:=h.lo hn
 rw [Nat.pow_succ] at h1
 simp only [Nat.add_sub_cancel] at *
 refine ⟨hw,(Nat.div_lt_iff_lt_mul (by omega)).2 h1,fun h3=> ?_,fun h3=> ?_,by rw [put_len];exact h.len,fun i e1 e2 e3=> ?_,fun e1 e2=> ?_⟩
 ·cases v with
  |zero=>simp;omega
  |succ v=>
   rw [Nat.pow_succ] at h2
   exact (Nat.le_div_iff_mul_le (by omega)).2 h2
 ·cases v with
  |zero=>rfl
  |succ v=>
   exfalso
   rw [Nat.pow_succ] at h2
   have:0 < 10 ^ v:=Nat.pow_pos (by omega)
   omega
 ·by_cases e:i=v
  ·subst e
   rw [put_at e3 h.len]
   exact ⟨by omega,by have:=Nat.mod_lt n (show 10 > 0 by omega);omega⟩
  ·rw [put_get i e];exact h.dg i (by omega) e2 e3
 ·subst e1
  rw [put_at (by omega) h.len]
  simp at h1
  omega
def q0 (k r n:Nat):Nat×Nat:=if h:2 ^ k≤n∨n=0 then (r,n) else q0 k (r + 1) (n * 10)
termination_by 2 ^ k - n
decreasing_by omega
def q1 (k nd:Nat) (d:List Nat) (r n:Nat):Nat×Nat:=if 2 ^ k≤n then (r,n) else if h:r < nd then q1 k nd d (r + 1) (n * 10 + (d.getD r 0 - 48)) else q0 k r n
termination_by nd - r
decreasing_by omega
def q2 (k nd r w n:Nat) (d:List Nat):Nat×Nat×List Nat:=if h:r < nd then q2 k nd (r + 1) (w + 1) (n % 2 ^ k * 10 + (d.getD r 0 - 48)) (d.set w (n / 2 ^ k + 48)) else (w,n,d)
termination_by nd - r
decreasing_by omega
def q3 (k:Nat):Nat→Nat→Nat→List Nat→Bool→Nat×List Nat×Bool
 |0,_,w,d,t=>(w,d,t)
 |f + 1,n,w,d,t=>if n=0 then (w,d,t) else if w < 800 then q3 k f (n % 2 ^ k * 10) (w + 1) (d.set w (n / 2 ^ k + 48)) t else q3 k f (n % 2 ^ k * 10) w d (t||n / 2 ^ k != 0)
structure J1 (k nd:Nat) (d:List Nat) (r n:Nat):Prop where
 lt:n < 10 * 2 ^ k
 pos:0 < r→0 < n
 rn:r≤nd + n
 one:r=1→n=d.getD 0 0 - 48
 zero:r=0→n=0
theorem J1.start (k nd:Nat) (d:List Nat):J1 k nd d 0 0:=⟨by have:0 < 2 ^ k:=Nat.pow_pos (by omega);omega,by omega,by omega,by omega,fun _=>rfl⟩
theorem J1.step {k nd:Nat} {d:List Nat} {r n:Nat} (h:J1 k nd d r n) (hn:¬ 2 ^ k≤n) (hr:r < nd) (hd:Dg (d.getD r 0)) (h0:49≤d.getD 0 0):J1 k nd d (r + 1) (n * 10 + (d.getD r 0 - 48)):=by
 have h1:=hd.1;have h2:=hd.2
 refine ⟨by omega,fun _=> ?_,?_,fun e=> ?_,by omega⟩
 ·rcases Nat.eq_zero_or_pos r with e|e
  ·subst e;omega
  ·have:=h.pos e;omega
 ·rcases Nat.eq_zero_or_pos r with e|e
  ·subst e;omega
  ·have:=h.rn;have:=h.pos e;omega
 ·obtain rfl:r=0:=by omega
  have:=h.zero rfl
  subst this;simp
theorem J1.more {k nd:Nat} {d:List Nat} {r n:Nat} (h:J1 k nd d r n) (hn:¬ 2 ^ k≤n) (hr:¬ r < nd) (h0:0 < nd):J1 k nd d (r + 1) (n * 10):=by
 have hp:=h.pos (by omega)
 have:=h.rn
 exact ⟨by omega,by omega,by omega,by omega,by omega⟩
structure J2 (k nd r1 n1:Nat) (d0:List Nat) (r w n:Nat) (d:List Nat):Prop where
 er:r=w + r1
 lt:n < 10 * 2 ^ k
 len:d.length=800
 old:∀ i,w≤i→d.getD i 0=d0.getD i 0
 dg:∀ i,i < w→Dg (d.getD i 0)
 top:0 < w→d.getD 0 0=n1 / 2 ^ k + 48
 z:w=0→n=n1
 b:w=0∨r≤nd
theorem J2.step {k nd r1 n1:Nat} {d0:List Nat} {r w n:Nat} {d:List Nat} (h:J2 k nd r1 n1 d0 r w n d) (hr:r < nd) (hnd:nd≤800) (hr1:1≤r1) (hd:Dg (d0.getD r 0)):w < 800∧d.getD r 0=d0.getD r 0∧J2 k nd r1 n1 d0 (r + 1) (w + 1) (n % 2 ^ k * 10 + (d.getD r 0 - 48)) (d.set w (n / 2 ^ k + 48)):=by
 have e:=h.er
 have er0:d.getD r 0=d0.getD r 0:=h.old r (by omega)
 have hw:w < 800:=by omega
 have hp:0 < 2 ^ k:=Nat.pow_pos (by omega)
 have hq:n / 2 ^ k < 10:=(Nat.div_lt_iff_lt_mul hp).2 h.lt
 have hm:=Nat.mod_lt n hp
 have g1:=hd.1;have g2:=hd.2
 have gne:∀ i,i≠w→(d.set w (n / 2 ^ k + 48)).getD i 0=d.getD i 0:=fun i hi=>by simp [List.getD_eq_getElem?_getD,List.getElem?_set_ne (Ne.symm hi)]
 have gat:(d.set w (n / 2 ^ k + 48)).getD w 0=n / 2 ^ k + 48:=by simp [List.getD_eq_getElem?_getD,List.getElem?_set_self (h.len ▸ hw)]
 refine ⟨hw,er0,by omega,by rw [er0];omega,by simp [h.len],fun i hi=> ?_,fun i hi=> ?_,fun _=> ?_,by omega,by omega⟩
 ·rw [gne i (by omega)];exact h.old i (by omega)
 ·by_cases e1:i=w
  ·subst e1;unfold Dg;generalize n / 2 ^ k=Q at *;omega
  ·rw [gne i e1];exact h.dg i (by omega)
 ·rcases Nat.eq_zero_or_pos w with e1|e1
  ·subst e1;rw [gat,h.z rfl]
  ·rw [gne 0 (by omega)];exact h.top e1
structure J3 (k n1 f n w:Nat) (d:List Nat):Prop where
 lt:n < 10 * 2 ^ k
 ef:∃ j,f + j=k + 1∧(2 ^ j∣n∧j≤k∨n=0)
 ew:w≤800
 len:d.length=800
 dg:∀ i,i < w→Dg (d.getD i 0)
 top:0 < w→d.getD 0 0=n1 / 2 ^ k + 48
 z:w=0→n=n1
theorem J3.fuel {k n1 f n w:Nat} {d:List Nat} (h:J3 k n1 f n w d) (hn:0 < n):0 < f:=by
 obtain ⟨j,h1,h2⟩:=h.ef
 omega
theorem J3.step {k n1 f n w:Nat} {d:List Nat} (h:J3 k n1 (f + 1) n w d) (hn:0 < n):n / 2 ^ k < 10∧(w < 800→J3 k n1 f (n % 2 ^ k * 10) (w + 1) (d.set w (n / 2 ^ k + 48)))∧(¬ w < 800→J3 k n1 f (n % 2 ^ k * 10) w d):=by
 have hp:0 < 2 ^ k:=Nat.pow_pos (by omega)
 have hq:n / 2 ^ k < 10:=(Nat.div_lt_iff_lt_mul hp).2 h.lt
 have hm:=Nat.mod_lt n hp
 have hf:∃ j,f + j=k + 1∧(2 ^ j∣n % 2 ^ k * 10∧j≤k∨n % 2 ^ k * 10=0):=by
  obtain ⟨j,h1,h2⟩:=h.ef
  refine ⟨j + 1,by omega,?_⟩
  rcases h2 with ⟨h2,h3⟩|h2
  ·rcases Nat.lt_or_ge j k with h4|h4
   ·left
    refine ⟨?_,h4⟩
    have h5:2 ^ j∣n % 2 ^ k:=(Nat.dvd_mod_iff (Nat.pow_dvd_pow 2 h3)).2 h2
    rw [Nat.pow_succ,show 10=2 * 5 by rfl,← Nat.mul_assoc]
    exact Nat.dvd_trans (Nat.mul_dvd_mul_right h5 2) (Nat.dvd_mul_right _ _)
   ·right
    obtain rfl:j=k:=by omega
    rw [Nat.mod_eq_zero_of_dvd h2]
  ·omega
 have gne:∀ i,i≠w→(d.set w (n / 2 ^ k + 48)).getD i 0=d.getD i 0:=fun i hi=>by simp [List.getD_eq_getElem?_getD,List.getElem?_set_ne (Ne.symm hi)]
 refine ⟨hq,fun hw=> ?_,fun hw=> ?_⟩
 ·have gat:(d.set w (n / 2 ^ k + 48)).getD w 0=n / 2 ^ k + 48:=by simp [List.getD_eq_getElem?_getD,List.getElem?_set_self (h.len ▸ hw)]
  refine ⟨by omega,hf,by omega,by simp [h.len],fun i hi=> ?_,fun _=> ?_,by omega⟩
  ·by_cases e1:i=w
   ·subst e1;unfold Dg;generalize n / 2 ^ k=Q at *;omega
   ·rw [gne i e1];exact h.dg i (by omega)
  ·rcases Nat.eq_zero_or_pos w with e1|e1
   ·subst e1;rw [gat,h.z rfl]
   ·rw [gne 0 (by omega)];exact h.top e1
 ·exact ⟨by omega,hf,h.ew,h.len,h.dg,h.top,by have:=h.ew;omega⟩
def tr (d:List Nat):Nat→Nat
 |0=>0
 |m + 1=>if d.getD m 0=48 then tr d m else m + 1
theorem tr_le (d:List Nat):∀ m,tr d m≤m
 |0=>Nat.le_refl _
 |m + 1=>by unfold tr;split<;>have:=tr_le d m<;>omega
theorem tr_pos {d:List Nat} (h:49≤d.getD 0 0):∀ {m:Nat},0 < m→0 < tr d m
 |0,h0=>absurd h0 (Nat.lt_irrefl _)
 |m + 1,_=>by
  unfold tr
  split
  ·rcases Nat.eq_zero_or_pos m with e|e
   ·subst e;omega
   ·exact tr_pos h e
  ·omega
structure Good (s:D):Prop where
 len:s.d.length=800
 nd:s.nd≤800
 dg:∀ i,i < s.nd→Dg (s.d.getD i 0)
 top:0 < s.nd→49≤s.d.getD 0 0
def trim (s:D):D:={s with nd:=tr s.d s.nd,dp:=if tr s.d s.nd=0 then 0 else s.dp}
theorem Good.trim {s:D} (h:Good s):Good (trim s)∧(0 < s.nd→0 < (Dec.trim s).nd∧(Dec.trim s).dp=s.dp):=by
 have h1:=tr_le s.d s.nd
 refine ⟨⟨h.len,Nat.le_trans h1 h.nd,fun i hi=>h.dg i (Nat.lt_of_lt_of_le hi h1),fun hp=>h.top (Nat.lt_of_lt_of_le hp h1)⟩,fun hp=> ?_⟩
 have:=tr_pos (h.top hp) hp
 refine ⟨this,?_⟩
 show (if _ then _ else _)=_
 rw [if_neg (by omega)]
def digs (s:D):List Nat:=(s.d.take s.nd).map (· - 48)
theorem digs_len {s:D} (h:Good s):(digs s).length=s.nd:=by have:=h.nd;simp [digs,h.len];omega
theorem digs_le {s:D} (h:Good s):∀ c∈digs s,c≤9:=by
 intro c hc
 simp only [digs,List.mem_map] at hc
 obtain ⟨b,hb,rfl⟩:=hc
 obtain ⟨i,hi,e⟩:=List.getElem_of_mem hb
 have hi':i < s.nd∧i < s.d.length:=by simp at hi;omega
 have hD:=h.dg i hi'.1
 have e2:s.d.getD i 0=b:=by simp [List.getD_eq_getElem?_getD,List.getElem?_eq_getElem hi'.2,← e]
 rw [e2] at hD
 have:=hD.2
 omega
theorem digs_cons {s:D} (h:Good s) (hp:0 < s.nd):digs s=(s.d.getD 0 0 - 48)::(digs s).drop 1:=by
 have:=drop_at (d0:=s.d) (nd:=s.nd) (m:=0) hp h.nd h.len
 simpa [digs] using this
theorem digs_lo {s:D} (h:Good s) (hp:0 < s.nd):10 ^ ((digs s).length - 1)≤num (digs s):=by
 rw [digs_cons h hp]
 exact num_head (by have:=h.top hp;omega)
def added (delta:Nat) (cut:List Nat) (s:D):Nat:=if lexLt (digs s) cut then delta - 1 else delta
def lsh (k delta:Nat) (cut:List Nat) (s:D):D:=
 let a:=added delta cut s
 let r:=l1 k s.nd 0 (s.nd + a) s.d s.trunc
 let q:=l2 r.1 r.1 r.2.1 r.2.2.1 r.2.2.2
 trim {s with d:=q.1,trunc:=q.2,nd:=if s.nd + a ≥ 800 then 800 else s.nd + a,dp:=s.dp + a}
theorem I1.start {s:D} {k a:Nat} (h:Good s):I1 k s.nd a s.d s.nd 0 (s.nd + a) s.d:=by
 refine ⟨rfl,Nat.le_refl _,h.len,fun _ _=>rfl,fun i h1 h2=>by omega,?_,fun _ h0 hp=>by omega⟩
 rw [List.drop_of_length_le (by simp;omega)];rfl
theorem l1_inv {k nd delta:Nat} {d0:List Nat} (hnd:nd≤800) (hd0:d0.length=800):∀ (m n w:Nat) (d:List Nat) (t:Bool),I1 k nd delta d0 m n w d→I1 k nd delta d0 0 (l1 k m n w d t).1 (l1 k m n w d t).2.1 (l1 k m n w d t).2.2.1
 |0,_,_,_,_,h=>h
 |m + 1,n,w,d,t,h=>by
  unfold l1
  exact l1_inv hnd hd0 m _ _ _ _ (h.step hnd hd0)
theorem I2.start {s:D} {k delta:Nat} {cut:List Nat} (C:Cheat k delta cut) (h:Good s) (hp:0 < s.nd) {n w:Nat} {d:List Nat} (g:I1 k s.nd (added delta cut s) s.d 0 n w d):I2 (s.nd + added delta cut s) n w d:=by
 have hw:w=added delta cut s:=by have:=g.ew;omega
 have hn:n=carry k (digs s):=by have:=g.en;simpa [digs] using this
 obtain ⟨h1,h2⟩:=carry_bd C (digs s) (digs_le h) (digs_lo h hp) (by rw [digs_len h];exact hp)
 have ea:(if lexLt (digs s) cut then delta - 1 else delta)=w:=by rw [hw];rfl
 rw [ea,← hn] at h1 h2
 refine ⟨h1,fun hn0=> ?_,fun hn0=> ?_,g.len,fun i e1 e2 e3=>g.dg i e1 e2 e3,fun hz hW=> ?_⟩
 ·rcases Nat.eq_zero_or_pos w with e|e
  ·subst e;simp;omega
  ·exact h2 e
 ·rcases Nat.eq_zero_or_pos w with e|e
  ·exact e
  ·have:=h2 e;have:0 < 10 ^ (w - 1):=Nat.pow_pos (by omega);omega
 ·have ha:added delta cut s=0:=by omega
  rw [g.top ha rfl hp]
  have e1:(carry k (((s.d.take s.nd).map (· - 48)).drop 1) + (s.d.getD 0 0 - 48) * 2 ^ k) / 10=n:=by
   rw [hn,digs_cons h hp];rfl
  rw [hz] at h1
  have ht:=h.top hp
  have hk:0 < 2 ^ k:=Nat.pow_pos (by omega)
  have hm:1 * 1≤(s.d.getD 0 0 - 48) * 2 ^ k:=Nat.mul_le_mul (by omega) hk
  generalize (s.d.getD 0 0 - 48) * 2 ^ k=Y at *
  generalize carry k (((s.d.take s.nd).map (· - 48)).drop 1)=X at *
  simp at h1
  omega
theorem l2_inv {W:Nat}:∀ (f n w:Nat) (d:List Nat) (t:Bool),n≤f→w≤W→I2 W n w d→I2 W 0 0 (l2 f n w d t).1
 |0,n,w,d,t,hf,hW,h=>by
  obtain rfl:n=0:=by omega
  obtain rfl:=h.z rfl
  exact h
 |f + 1,n,w,d,t,hf,hW,h=>by
  unfold l2
  by_cases e:n=0
  ·rw [if_pos e];subst e;obtain rfl:=h.z rfl;exact h
  ·rw [if_neg e]
   exact l2_inv f _ _ _ _ (by omega) (by omega) (h.step (by omega) hW).2
theorem lsh_good {s:D} {k delta:Nat} {cut:List Nat} (C:Cheat k delta cut) (h:Good s) (hp:0 < s.nd) (hk:1≤k):
  Good (lsh k delta cut s)∧0 < (lsh k delta cut s).nd∧(lsh k delta cut s).dp=s.dp + added delta cut s∧(added delta cut s=0→s.d.getD 0 0 < (lsh k delta cut s).d.getD 0 0):=by
 have g1:=l1_inv (delta:=added delta cut s) h.nd h.len s.nd 0 (s.nd + added delta cut s) s.d s.trunc (I1.start (k:=k) h)
 have g2:=I2.start C h hp g1
 have g3:=l2_inv (W:=s.nd + added delta cut s) (l1 k s.nd 0 (s.nd + added delta cut s) s.d s.trunc).1 (l1 k s.nd 0 (s.nd + added delta cut s) s.d s.trunc).1 (l1 k s.nd 0 (s.nd + added delta cut s) s.d s.trunc).2.1 (l1 k s.nd 0 (s.nd + added delta cut s) s.d s.trunc).2.2.1 (l1 k s.nd 0 (s.nd + added delta cut s) s.d s.trunc).2.2.2 (Nat.le_refl _) (by have:=g1.ew;omega) g2
 have hG:Good {s with d:=(l2 (l1 k s.nd 0 (s.nd + added delta cut s) s.d s.trunc).1 (l1 k s.nd 0 (s.nd + added delta cut s) s.d s.trunc).1 (l1 k s.nd 0 (s.nd + added delta cut s) s.d s.trunc).2.1 (l1 k s.nd 0 (s.nd + added delta cut s) s.d s.trunc).2.2.1 (l1 k s.nd 0 (s.nd + added delta cut s) s.d s.trunc).2.2.2).1,trunc:=(l2 (l1 k s.nd 0 (s.nd + added delta cut s) s.d s.trunc).1 (l1 k s.nd 0 (s.nd + added delta cut s) s.d s.trunc).1 (l1 k s.nd 0 (s.nd + added delta cut s) s.d s.trunc).2.1 (l1 k s.nd 0 (s.nd + added delta cut s) s.d s.trunc).2.2.1 (l1 k s.nd 0 (s.nd + added delta cut s) s.d s.trunc).2.2.2).2,nd:=if s.nd + added delta cut s ≥ 800 then 800 else s.nd + added delta cut s,dp:=s.dp + added delta cut s}:=by
  refine ⟨g3.len,by dsimp only;split<;>omega,fun i hi=> ?_,fun _=>g3.top rfl (by omega)⟩
  dsimp only at hi ⊢
  split at hi
  ·exact g3.dg i (Nat.zero_le _) (by omega) hi
  ·exact g3.dg i (Nat.zero_le _) hi (by omega)
 obtain ⟨h1,h2⟩:=hG.trim
 have h3:=h2 (by dsimp only;split<;>omega)
 refine ⟨h1,h3.1,h3.2,fun ha=> ?_⟩
 show s.d.getD 0 0 < _
 have gt:=g1.top ha rfl hp
 have hw:=g1.ew
 have hn0:(l1 k s.nd 0 (s.nd + added delta cut s) s.d s.trunc).1=0:=by
  have h9:=g2.lt
  have e9:(l1 k s.nd 0 (s.nd + added delta cut s) s.d s.trunc).2.1=0:=by omega
  rw [e9] at h9
  simpa using h9
 have el2:(l2 (l1 k s.nd 0 (s.nd + added delta cut s) s.d s.trunc).1 (l1 k s.nd 0 (s.nd + added delta cut s) s.d s.trunc).1 (l1 k s.nd 0 (s.nd + added delta cut s) s.d s.trunc).2.1 (l1 k s.nd 0 (s.nd + added delta cut s) s.d s.trunc).2.2.1 (l1 k s.nd 0 (s.nd + added delta cut s) s.d s.trunc).2.2.2).1=(l1 k s.nd 0 (s.nd + added delta cut s) s.d s.trunc).2.2.1:=by
  rw [hn0];rfl
 have ed:(lsh k delta cut s).d=(l1 k s.nd 0 (s.nd + added delta cut s) s.d s.trunc).2.2.1:=el2
 rw [ed,gt]
 have ht:=h.top hp
 have e1:(carry k (((s.d.take s.nd).map (· - 48)).drop 1) + (s.d.getD 0 0 - 48) * 2 ^ k) / 10=0:=by
  have h8:=g1.en
  rw [hn0,List.drop_zero] at h8
  exact ((congrArg (carry k) (digs_cons h hp)).symm:carry k _=_).trans h8.symm
 have hk2:2≤2 ^ k:=by
  have:=Nat.pow_le_pow_right (show 0 < 2 by omega) hk
  omega
 have hm:(s.d.getD 0 0 - 48) * 2≤(s.d.getD 0 0 - 48) * 2 ^ k:=Nat.mul_le_mul_left _ hk2
 generalize carry k (((s.d.take s.nd).map (· - 48)).drop 1)=X at *
 generalize (s.d.getD 0 0 - 48) * 2 ^ k=Y at *
 omega
def rsh (k:Nat) (s:D):D:=
 let r:=q1 k s.nd s.d 0 0
 let q:=q2 k s.nd r.1 0 r.2 s.d
 let z:=q3 k (k + 1) q.2.1 q.1 q.2.2 s.trunc
 trim {s with d:=z.2.1,trunc:=z.2.2,nd:=z.1,dp:=s.dp - ((r.1:Int) - 1)}
theorem q0_inv {k nd:Nat} {d:List Nat} (h0:0 < nd) (r n:Nat) (h:J1 k nd d r n) (hr:¬ r < nd):J1 k nd d (q0 k r n).1 (q0 k r n).2∧2 ^ k≤(q0 k r n).2:=by
 rw [q0]
 split
 ·rename_i e
  refine ⟨h,?_⟩
  rcases e with e|e
  ·exact e
  ·have:=h.pos (by omega);dsimp only at *;omega
 ·rename_i e
  exact q0_inv h0 (r + 1) (n * 10) (h.more (by omega) hr h0) (by omega)
termination_by 2 ^ k - n
decreasing_by omega
theorem q1_inv {s:D} (hs:Good s) (h0:0 < s.nd) (k r n:Nat) (h:J1 k s.nd s.d r n):J1 k s.nd s.d (q1 k s.nd s.d r n).1 (q1 k s.nd s.d r n).2∧2 ^ k≤(q1 k s.nd s.d r n).2:=by
 rw [q1]
 split
 ·exact ⟨h,by assumption⟩
 ·rename_i e
  split
  ·rename_i hr
   exact q1_inv hs h0 k (r + 1) _ (h.step e hr (hs.dg r hr) (hs.top h0))
  ·rename_i hr
   exact q0_inv h0 r n h hr
termination_by s.nd - r
decreasing_by omega
theorem q2_inv {s:D} (hs:Good s) {k r1 n1:Nat} (hr1:1≤r1) (r w n:Nat) (d:List Nat) (h:J2 k s.nd r1 n1 s.d r w n d):∃ r',¬ r' < s.nd∧J2 k s.nd r1 n1 s.d r' (q2 k s.nd r w n d).1 (q2 k s.nd r w n d).2.1 (q2 k s.nd r w n d).2.2:=by
 rw [q2]
 split
 ·rename_i hr
  obtain ⟨h1,h2,h3⟩:=h.step hr hs.nd hr1 (hs.dg r hr)
  exact q2_inv hs hr1 (r + 1) (w + 1) _ _ h3
 ·rename_i hr
  exact ⟨r,hr,h⟩
termination_by s.nd - r
decreasing_by omega
theorem q3_inv {k n1:Nat}:∀ (f n w:Nat) (d:List Nat) (t:Bool),J3 k n1 f n w d→∃ f',J3 k n1 f' 0 (q3 k f n w d t).1 (q3 k f n w d t).2.1
 |0,n,w,d,t,h=>by
  rcases Nat.eq_zero_or_pos n with e|e
  ·subst e;exact ⟨0,h⟩
  ·exact absurd (h.fuel e) (Nat.lt_irrefl _)
 |f + 1,n,w,d,t,h=>by
  unfold q3
  by_cases e:n=0
  ·rw [if_pos e];subst e;exact ⟨_,h⟩
  ·rw [if_neg e]
   obtain ⟨h1,h2,h3⟩:=h.step (by omega)
   by_cases hw:w < 800
   ·rw [if_pos hw];exact q3_inv f _ _ _ _ (h2 hw)
   ·rw [if_neg hw];exact q3_inv f _ _ _ _ (h3 hw)
def rd (k:Nat) (s:D):Nat×Nat:=q1 k s.nd s.d 0 0
theorem J2.start {s:D} (hs:Good s) {k r n:Nat} (h:J1 k s.nd s.d r n):J2 k s.nd r n s.d r 0 n s.d:=
 ⟨by omega,h.lt,hs.len,fun _ _=>rfl,fun _ h=>by omega,fun h=>by omega,fun _=>rfl,.inl rfl⟩
theorem J3.start {s:D} (hs:Good s) {k r1 n1 r w n:Nat} {d:List Nat} (h:J2 k s.nd r1 n1 s.d r w n d):J3 k n1 (k + 1) n w d:=
 ⟨h.lt,⟨0,by omega,.inl ⟨by simp,Nat.zero_le _⟩⟩,by have:=h.b;have:=h.er;have:=hs.nd;omega,h.len,h.dg,h.top,h.z⟩
theorem rd_inv {s:D} (hs:Good s) (hp:0 < s.nd) (k:Nat):J1 k s.nd s.d (rd k s).1 (rd k s).2∧2 ^ k≤(rd k s).2∧1≤(rd k s).1:=by
 obtain ⟨h1,h2⟩:=q1_inv hs hp k 0 0 (J1.start k s.nd s.d)
 refine ⟨h1,h2,?_⟩
 rcases Nat.eq_zero_or_pos (rd k s).1 with e|e
 ·have h3:=h1.zero e
  have:0 < 2 ^ k:=Nat.pow_pos (by omega)
  unfold rd at *
  omega
 ·exact e
theorem rsh_good {s:D} (hs:Good s) (hp:0 < s.nd) (k:Nat):
  Good (rsh k s)∧0 < (rsh k s).nd∧(rsh k s).dp=s.dp - (((rd k s).1:Int) - 1)∧(rsh k s).d.getD 0 0=(rd k s).2 / 2 ^ k + 48:=by
 obtain ⟨h1,h2,h3⟩:=rd_inv hs hp k
 obtain ⟨r',hr',h4⟩:=q2_inv hs h3 _ 0 _ s.d (J2.start hs h1)
 obtain ⟨f',h5⟩:=q3_inv (k + 1) _ _ _ s.trunc (J3.start hs h4)
 have hk:0 < 2 ^ k:=Nat.pow_pos (by omega)
 have hw:0 < (q3 k (k + 1) (q2 k s.nd (rd k s).1 0 (rd k s).2 s.d).2.1 (q2 k s.nd (rd k s).1 0 (rd k s).2 s.d).1 (q2 k s.nd (rd k s).1 0 (rd k s).2 s.d).2.2 s.trunc).1:=by
  rcases Nat.eq_zero_or_pos (q3 k (k + 1) (q2 k s.nd (rd k s).1 0 (rd k s).2 s.d).2.1 (q2 k s.nd (rd k s).1 0 (rd k s).2 s.d).1 (q2 k s.nd (rd k s).1 0 (rd k s).2 s.d).2.2 s.trunc).1 with e|e
  ·have:=h5.z e;omega
  ·exact e
 have ht:=h5.top hw
 have hq:1≤(rd k s).2 / 2 ^ k:=(Nat.le_div_iff_mul_le hk).2 (by omega)
 have hG:Good {s with d:=(q3 k (k + 1) (q2 k s.nd (rd k s).1 0 (rd k s).2 s.d).2.1 (q2 k s.nd (rd k s).1 0 (rd k s).2 s.d).1 (q2 k s.nd (rd k s).1 0 (rd k s).2 s.d).2.2 s.trunc).2.1,trunc:=(q3 k (k + 1) (q2 k s.nd (rd k s).1 0 (rd k s).2 s.d).2.1 (q2 k s.nd (rd k s).1 0 (rd k s).2 s.d).1 (q2 k s.nd (rd k s).1 0 (rd k s).2 s.d).2.2 s.trunc).2.2,nd:=(q3 k (k + 1) (q2 k s.nd (rd k s).1 0 (rd k s).2 s.d).2.1 (q2 k s.nd (rd k s).1 0 (rd k s).2 s.d).1 (q2 k s.nd (rd k s).1 0 (rd k s).2 s.d).2.2 s.trunc).1,dp:=s.dp - (((rd k s).1:Int) - 1)}:=by
  refine ⟨h5.len,h5.ew,fun i hi=>h5.dg i hi,fun _=> ?_⟩
  dsimp only;rw [ht];omega
 obtain ⟨g1,g2⟩:=hG.trim
 have g3:=g2 hw
 exact ⟨g1,g3.1,g3.2,ht⟩
theorem rsh_less {s:D} (hs:Good s) (hp:0 < s.nd) (k:Nat) (hk:3≤k):(rsh k s).dp≤s.dp∧((rsh k s).dp=s.dp→56≤s.d.getD 0 0∧(rsh k s).d.getD 0 0 < 56):=by
 obtain ⟨h1,h2,h3⟩:=rd_inv hs hp k
 obtain ⟨_,_,h4,h5⟩:=rsh_good hs hp k
 rw [h4,h5]
 refine ⟨by omega,fun e=> ?_⟩
 have e1:(rd k s).1=1:=by omega
 have e2:=h1.one e1
 have h8:8≤2 ^ k:=by
  have:=Nat.pow_le_pow_right (show 0 < 2 by omega) hk
  omega
 have hd:=(hs.dg 0 hp).2
 refine ⟨by omega,?_⟩
 have:(rd k s).2 / 2 ^ k < 2:=(Nat.div_lt_iff_lt_mul (by omega)).2 (by omega)
 omega
end Go.Proofs.YtlblbefbbibpaaaGreatDoor.Dec
namespace Go.Proofs.YtlblbefbbibpaaaGreatDoor.J
open Go.RowKit Zw Zw.PrintWords Zw.PrintLast Zw.PrintMore PAM
def dc (s:Dec.D):Array Value:=(s.d.map (fun c:Nat=>Value.int .u8 c) ++ [Value.int .i64 s.nd,.int .i64 s.dp,.bool s.neg,.bool s.trunc]).toArray
theorem dc_at {s:Dec.D} {i:Nat} (h:s.d.length=800) (hi:i < 800):(dc s)[i]? =some (.int .u8 (s.d.getD i 0:Nat)):=by
 unfold dc
 rw [List.getElem?_toArray,List.getElem?_append_left (by simp;omega),List.getElem?_map,List.getElem?_eq_getElem (by omega)]
 simp [List.getElem?_eq_getElem (show i < s.d.length by omega)]
theorem dc_tail {s:Dec.D} (j:Nat) (h:s.d.length=800):(dc s)[800 + j]? =[Value.int .i64 s.nd,.int .i64 s.dp,.bool s.neg,.bool s.trunc][j]? :=by
 unfold dc
 rw [List.getElem?_toArray,List.getElem?_append_right (by simp;omega)]
 simp [h]
theorem dc_nd {s:Dec.D} (h:s.d.length=800):(dc s)[800]? =some (.int .i64 s.nd):=dc_tail 0 h
theorem dc_dp {s:Dec.D} (h:s.d.length=800):(dc s)[801]? =some (.int .i64 s.dp):=dc_tail 1 h
theorem dc_neg {s:Dec.D} (h:s.d.length=800):(dc s)[802]? =some (.bool s.neg):=dc_tail 2 h
theorem dc_trunc {s:Dec.D} (h:s.d.length=800):(dc s)[803]? =some (.bool s.trunc):=dc_tail 3 h
theorem dc_set {s:Dec.D} (h:s.d.length=800) (j:Nat) (v:Value):(dc s).setIfInBounds (800 + j) v=(s.d.map (fun c:Nat=>Value.int .u8 c) ++ [Value.int .i64 s.nd,.int .i64 s.dp,.bool s.neg,.bool s.trunc].set j v).toArray:=by
 unfold dc
 rw [List.setIfInBounds_toArray,List.set_append_right _ _ (by simp;omega)]
 simp [h]
theorem dc_set_nd {s:Dec.D} (h:s.d.length=800) (n:Nat):(dc s).setIfInBounds 800 (.int .i64 n)=dc {s with nd:=n}:=dc_set h 0 _
theorem dc_set_dp {s:Dec.D} (h:s.d.length=800) (n:Int):(dc s).setIfInBounds 801 (.int .i64 n)=dc {s with dp:=n}:=dc_set h 1 _
theorem dc_set_neg {s:Dec.D} (h:s.d.length=800) (b:Bool):(dc s).setIfInBounds 802 (.bool b)=dc {s with neg:=b}:=dc_set h 2 _
theorem dc_set_trunc {s:Dec.D} (h:s.d.length=800) (b:Bool):(dc s).setIfInBounds 803 (.bool b)=dc {s with trunc:=b}:=dc_set h 3 _
theorem dc_set_d {s:Dec.D} {i:Nat} (h:s.d.length=800) (hi:i < 800) (c:Nat):(dc s).setIfInBounds i (.int .u8 c)=dc {s with d:=s.d.set i c}:=by
 unfold dc
 rw [List.setIfInBounds_toArray,List.set_append_left _ _ (by simp;omega),List.map_set]
theorem At.dnd {w0 W:World} {l:List Blk} {g:Nat} {s:Dec.D} (H:At w0 (.b g (row (dc s) 235)::l) W) (h:s.d.length=800):W.cell? ⟨g,800,none⟩=some (.int .i64 s.nd):=(blk_cell H.k.1 800).trans (dc_nd h)
theorem At.ddp {w0 W:World} {l:List Blk} {g:Nat} {s:Dec.D} (H:At w0 (.b g (row (dc s) 235)::l) W) (h:s.d.length=800):W.cell? ⟨g,801,none⟩=some (.int .i64 s.dp):=(blk_cell H.k.1 801).trans (dc_dp h)
theorem At.dneg {w0 W:World} {l:List Blk} {g:Nat} {s:Dec.D} (H:At w0 (.b g (row (dc s) 235)::l) W) (h:s.d.length=800):W.cell? ⟨g,802,none⟩=some (.bool s.neg):=(blk_cell H.k.1 802).trans (dc_neg h)
theorem At.dtr {w0 W:World} {l:List Blk} {g:Nat} {s:Dec.D} (H:At w0 (.b g (row (dc s) 235)::l) W) (h:s.d.length=800):W.cell? ⟨g,803,none⟩=some (.bool s.trunc):=(blk_cell H.k.1 803).trans (dc_trunc h)
theorem At.dd {w0 W:World} {l:List Blk} {g:Nat} {s:Dec.D} (H:At w0 (.b g (row (dc s) 235)::l) W) (h:s.d.length=800) (i:Nat) (hi:i < 800):W.cell? ⟨g,i,none⟩=some (.int .u8 (s.d.getD i 0:Nat)):=(blk_cell H.k.1 i).trans (dc_at h hi)
theorem At.dfro {w0 W:World} {l:List Blk} {g:Nat} {s:Dec.D} (H:At w0 (.b g (row (dc s) 235)::l) W) (j:Nat):W.frozen? ⟨g,j,none⟩=false:=blk_frozen H.k.1 j
theorem trim_ok {w0 w:World} {l:List Blk} {g:Nat} {s:Dec.D} (H:At w0 (.b g (row (dc s) 235)::l) w) (hg:w0.heap.size≤g) (hl:s.d.length=800) (hn:s.nd≤800):
  Calls Tryz.prog 157 #[.pointer (some ⟨g,0,none⟩)] w fun e w'=>e= .returned (.tuple #[])∧At w0 (.b g (row (dc (Dec.trim s)) 235)::l) w':=by
 obtain ⟨Hg,HL,Hn⟩:=as3_ hg hl hn;clear hg hl hn
 have HK:=asd_ H;clear H
 have cnd:=At.dnd (W:=w) HK.out HL.out;have cdp:=At.ddp (W:=w) HK.out HL.out;have cneg:=At.dneg (W:=w) HK.out HL.out;have ctr:=At.dtr (W:=w) HK.out HL.out;have cfr:=At.dfro (W:=w) HK.out
 go_enter Tryz.func157,Tryz.ntmps157
 go_wp2_with fail
 go_loopg [] s.nd (fun kq w'=>Aside0 (kq≤s.nd)∧Aside0 (Dec.tr s.d kq=Dec.tr s.d s.nd)∧Aside0 (At w0 (.b g (row (dc {s with nd:=kq}) 235)::l) w'))
 case atStart=>exact ⟨⟨Nat.le_refl _⟩,⟨rfl⟩,⟨at_⟩⟩
 case round=>
  clear HK cnd cdp cneg ctr cfr
  obtain ⟨Hk,Ht,HK⟩:=hrel
  cases gk with
  |zero=>
   have cnd:=At.dnd (W:=wr) HK.out HL.out;have cdp:=At.ddp (W:=wr) HK.out HL.out;have cneg:=At.dneg (W:=wr) HK.out HL.out;have ctr:=At.dtr (W:=wr) HK.out HL.out;have cfr:=At.dfro (W:=wr) HK.out
   go_wp2_with fail
   go_quiet (fail)
   go_wp2_with (first|((with_reducible refine gate_ (.store 3 (.tmp 34) (.const (.int .i64 0))) rfl ?_);refine store_at (t:=3) (p:=34) (g:=g) (i:=801) (v:= .int .i64 0) 0 (dc {s with nd:=0,dp:=0}) (dc_set_dp (s:={s with nd:=0}) HL.out 0) at_ rfl Hg.out rfl rfl rfl rfl gs_ ?_;intro ws1 HK1;replace HK:=asd_ HK1;clear HK1;clear cnd cdp cneg ctr cfr;have cnd:=At.dnd (W:=ws1) HK.out HL.out;have cdp:=At.ddp (W:=ws1) HK.out HL.out;have cneg:=At.dneg (W:=ws1) HK.out HL.out;have ctr:=At.dtr (W:=ws1) HK.out HL.out;have cfr:=At.dfro (W:=ws1) HK.out))
   go_end0
   have e:Dec.trim s={s with nd:=0,dp:=0}:=by unfold Dec.trim;rw [← Ht.out];rfl
   rw [e];exact ⟨rfl,at_⟩
  |succ k=>
   have cnd:=At.dnd (W:=wr) HK.out HL.out;have cdp:=At.ddp (W:=wr) HK.out HL.out;have cneg:=At.dneg (W:=wr) HK.out HL.out;have ctr:=At.dtr (W:=wr) HK.out HL.out;have cix:=At.dd (W:=wr) HK.out HL.out k (by have:=Hk.out;have:=Hn.out;omega);have cfr:=At.dfro (W:=wr) HK.out
   have e1:IntKind.i64.wrap (((k + 1:Nat):Int) - 1)=(k:Int):=by rw [IntWalk.i64_in _ (by have:=Hk.out;have:=Hn.out;omega)];omega
   have e2:decide ((0:Int) < ((k + 1:Nat):Int))=true:=decide_eq_true (by omega)
   have e3:(0:Int)≤(k:Int):=by omega
   have e4:(k:Int) < 800:=by have:=Hk.out;have:=Hn.out;omega
   obtain ⟨c,hc⟩:∃ c,s.d.getD k 0=c:=⟨_,rfl⟩
   have Hc:=asd_ hc;simp only [hc] at cix;clear hc
   by_cases h48:c=48
   case pos=>
    subst h48
    go_wp2_with fail
    go_quiet (fail)
    go_wp2_with (first|((with_reducible refine gate_ (.store 3 (.tmp 26) (.tmp 24)) rfl ?_);refine store_at (t:=3) (p:=26) (g:=g) (i:=800) (v:= .int .i64 k) 0 (dc {s with nd:=k}) (dc_set_nd (s:={s with nd:=k + 1}) HL.out k) at_ rfl Hg.out rfl rfl rfl rfl gs_ ?_;intro ws2 HK1;replace HK:=asd_ HK1;clear HK1;clear cnd cdp cneg ctr cix cfr;have cnd:=At.dnd (W:=ws2) HK.out HL.out;have cdp:=At.ddp (W:=ws2) HK.out HL.out;have cneg:=At.dneg (W:=ws2) HK.out HL.out;have ctr:=At.dtr (W:=ws2) HK.out HL.out;have cix:=At.dd (W:=ws2) HK.out HL.out k (by have:=Hk.out;have:=Hn.out;omega);have cfr:=At.dfro (W:=ws2) HK.out))
    go_roundg k
    case measure=>exact Nat.lt_succ_self _
    case rel=>exact ⟨⟨by have:=Hk.out;omega⟩,⟨by rw [← Ht.out];simp only [Dec.tr];rw [if_pos Hc.out]⟩,⟨at_⟩⟩
   case neg=>
    have f48:((c:Int) == 48)=false:=beq_eq_false_iff_ne.2 (by omega)
    have e5:(((k + 1:Nat):Int) == 0)=false:=beq_eq_false_iff_ne.2 (by omega)
    go_wp2_with fail
    go_quiet (fail)
    go_wp2_with fail
    go_end0
    have e:Dec.trim s={s with nd:=k + 1}:=by
     have e0:Dec.tr s.d s.nd=k + 1:=by rw [← Ht.out];exact if_neg (by rw [Hc.out];exact h48)
     simp [Dec.trim,e0]
    rw [e];exact ⟨rfl,at_⟩
def sru (s:Dec.D) (n:Int):Bool:=if n < 0∨(s.nd:Int)≤n then false else
 if s.d.getD n.toNat 0=53∧n.toNat + 1=s.nd then (if s.trunc then true else decide (0 < n∧(IntKind.u8.wrap ((s.d.getD (n.toNat - 1) 0:Nat) - 48)).tmod 2≠0)) else decide (53≤s.d.getD n.toNat 0)
def ri1 (s:Dec.D):Nat→Nat→Int→Nat×Int
 |0,i,n=>(i,n)
 |f + 1,i,n=>if (i:Int) < s.dp then ri1 s f (i + 1) (IntKind.u64.wrap (IntKind.u64.wrap (n * 10) + ((s.d.getD i 0:Nat) - 48:Int) % 256)) else (i,n)
def ri2:Nat→Int→Int
 |0,n=>n
 |f + 1,n=>ri2 f (IntKind.u64.wrap (n * 10))
def ri (s:Dec.D):Int:=if 20 < s.dp then 18446744073709551615 else
 let r:=ri1 s s.nd 0 0
 let n:=ri2 (s.dp - r.1).toNat r.2
 if sru s s.dp then IntKind.u64.wrap (n + 1) else n
theorem sru_ok {w:World} {g:Nat} {s:Dec.D} (n:Int) (H:w.heap[g]? =some (row (dc s) 235)) (hl:s.d.length=800) (hn:s.nd≤800):
  Calls Tryz.prog 152 #[.pointer (some ⟨g,0,none⟩),.int .i64 n] w fun e w'=>e= .returned (.bool (sru s n))∧Below w.heap.size w w':=by
 obtain ⟨HL,Hn⟩:=as2_ hl hn;clear hl hn
 have HK:Aside0 (At w [.b g (row (dc s) 235)] w):=asd_ ((At.start w).hold H (by simp [nums]));clear H
 have cnd:=At.dnd (W:=w) HK.out HL.out;have cdp:=At.ddp (W:=w) HK.out HL.out;have cneg:=At.dneg (W:=w) HK.out HL.out;have ctr:=At.dtr (W:=w) HK.out HL.out;have cfr:=At.dfro (W:=w) HK.out
 by_cases h0:n < 0
 case pos=>
  have f0:decide (n < 0)=true:=decide_eq_true h0
  have e:sru s n=false:=if_pos (.inl h0)
  rw [e];clear e h0
  go_enter Tryz.func152,Tryz.ntmps152
  go_wp2_with fail
  go_ret
  exact ⟨by rfl,be_⟩
 case neg=>
  have f0:decide (n < 0)=false:=decide_eq_false h0
  by_cases h1:(s.nd:Int)≤n
  case pos=>
   have f1:decide ((s.nd:Int)≤n)=true:=decide_eq_true h1
   have e:sru s n=false:=if_pos (.inr h1)
   rw [e];clear e h0 h1
   go_enter Tryz.func152,Tryz.ntmps152
   go_wp2_with fail
   go_ret
   exact ⟨by rfl,be_⟩
  case neg=>
   obtain ⟨k,rfl⟩:∃ k:Nat,n=(k:Int):=⟨n.toNat,by omega⟩
   have f1:decide (s.nd≤k)=false:=decide_eq_false (by omega)
   have hk:k < s.nd:=by omega
   have Hk:=asd_ hk;clear h0 h1 hk
   have p1n:k < 800:=(by have:=Hk.out;have:=Hn.out;omega);have p0:(0:Int)≤(k:Int):=(by omega);have p1:(k:Int) < 800:=(by omega)
   have e1:IntKind.i64.wrap ((k:Int) + 1)=(k:Int) + 1:=IntWalk.i64_in _ (by omega)
   obtain ⟨c,hc⟩:∃ c,s.d.getD k 0=c:=⟨_,rfl⟩
   have ck:=At.dd (W:=w) HK.out HL.out k (by have:=Hk.out;have:=Hn.out;omega)
   have e0:sru s k=if c=53∧k + 1=s.nd then (if s.trunc then true else decide ((0:Int) < k∧(IntKind.u8.wrap ((s.d.getD (k - 1) 0:Nat) - 48)).tmod 2≠0)) else decide (53≤c):=by rw [← hc];unfold sru;rw [if_neg (by have:=Hk.out;omega)];rfl
   rw [hc] at ck;clear hc;rw [e0];clear e0
   by_cases h53:c=53
   case neg=>
    have f2:((c:Int) == 53)=false:=beq_eq_false_iff_ne.2 (by omega)
    rw [if_neg (fun h=>h53 h.1)];clear h53
    by_cases h6:53≤c
    ·have f3:decide ((53:Int)≤(c:Int))=true:=decide_eq_true (by omega)
     rw [decide_eq_true h6];clear h6
     go_enter Tryz.func152,Tryz.ntmps152
     go_wp2_with fail
     repeat (go_quiet (fail);try go_wp2_with fail)
     go_ret
     exact ⟨by rfl,be_⟩
    ·have f3:decide ((53:Int)≤(c:Int))=false:=decide_eq_false (by omega)
     rw [decide_eq_false h6];clear h6
     go_enter Tryz.func152,Tryz.ntmps152
     go_wp2_with fail
     repeat (go_quiet (fail);try go_wp2_with fail)
     go_ret
     exact ⟨by rfl,be_⟩
   case pos=>
    subst h53
    by_cases h5:k + 1=s.nd
    case neg=>
     have f2:((k:Int) + 1 == (s.nd:Int))=false:=beq_eq_false_iff_ne.2 (by omega)
     rw [if_neg (fun h=>h5 h.2),decide_eq_true (by decide)];clear h5
     go_enter Tryz.func152,Tryz.ntmps152
     go_wp2_with fail
     repeat (go_quiet (fail);try go_wp2_with fail)
     go_ret
     exact ⟨by rfl,be_⟩
    case pos=>
     have f2:((k:Int) + 1 == (s.nd:Int))=true:=beq_iff_eq.2 (by omega)
     rw [if_pos ⟨rfl,h5⟩];clear h5
     obtain ⟨b,hb⟩:∃ b,s.trunc=b:=⟨_,rfl⟩;rw [hb] at ctr ⊢;clear hb
     cases b
     case true=>
      go_enter Tryz.func152,Tryz.ntmps152
      go_wp2_with fail
      repeat (go_quiet (fail);try go_wp2_with fail)
      go_ret
      exact ⟨by rfl,be_⟩
     case false=>
      by_cases hk0:k=0
      case pos=>
       have f4:decide (0 < k)=false:=decide_eq_false (by omega)
       rw [decide_eq_false (fun h=>by have:=h.1;omega)];clear hk0
       go_enter Tryz.func152,Tryz.ntmps152
       go_wp2_with fail
       repeat (go_quiet (fail);try go_wp2_with fail)
       go_ret
       exact ⟨by rfl,be_⟩
      case neg=>
       have f4:decide (0 < k)=true:=decide_eq_true (by omega)
       obtain ⟨j,hj⟩:∃ j,k=j + 1:=⟨k - 1,by omega⟩
       have e5:IntKind.i64.wrap ((k:Int) - 1)=(j:Int):=by rw [IntWalk.i64_in _ (by omega)];omega
       have p3n:j < 800:=(by omega);have p2:(0:Int)≤(j:Int):=(by omega);have p3:(j:Int) < 800:=(by omega)
       have cj:=At.dd (W:=w) HK.out HL.out j (by omega)
       rw [show k - 1=j by omega];obtain ⟨c,hc⟩:∃ c,s.d.getD j 0=c:=⟨_,rfl⟩;rw [hc] at cj ⊢;clear hc
       obtain ⟨m,hm⟩:∃ m,IntKind.u8.wrap ((c:Int) - 48)=m:=⟨_,rfl⟩;rw [hm];obtain ⟨Hj,Hk0⟩:=as2_ hj hk0;clear hj hk0
       by_cases h6:m.tmod 2=0
       ·have f6:(m.tmod 2 != 0)=false:=by simp [h6]
        rw [decide_eq_false (fun h=>h.2 h6)];clear h6
        go_enter Tryz.func152,Tryz.ntmps152
        go_wp2_with fail
        repeat (go_quiet (fail);try go_wp2_with fail)
        go_ret
        exact ⟨by rfl,be_⟩
       ·have f6:(m.tmod 2 != 0)=true:=by simpa using h6
        rw [decide_eq_true ⟨by have:=Hk0.out;omega,h6⟩];clear h6
        go_enter Tryz.func152,Tryz.ntmps152
        go_wp2_with fail
        repeat (go_quiet (fail);try go_wp2_with fail)
        go_ret
        exact ⟨by rfl,be_⟩
theorem rint_ok {w:World} {g:Nat} {s:Dec.D} (H:w.heap[g]? =some (row (dc s) 235)) (hl:s.d.length=800) (hn:s.nd≤800):
  Calls Tryz.prog 140 #[.pointer (some ⟨g,0,none⟩)] w fun e w'=>e= .returned (.int .u64 (ri s))∧Below w.heap.size w w':=by
 obtain ⟨HL,Hn⟩:=as2_ hl hn;clear hl hn
 have HK:Aside0 (At w [.b g (row (dc s) 235)] w):=asd_ ((At.start w).hold H (by simp [nums]));clear H
 obtain ⟨r,hr⟩:∃ r,ri s=r:=⟨_,rfl⟩;rw [hr];unfold ri at hr;have Hr:=asd_ hr;clear hr
 have cnd:=At.dnd (W:=w) HK.out HL.out;have cdp:=At.ddp (W:=w) HK.out HL.out;have cneg:=At.dneg (W:=w) HK.out HL.out;have ctr:=At.dtr (W:=w) HK.out HL.out;have cfr:=At.dfro (W:=w) HK.out
 by_cases h20:20 < s.dp
 case pos=>
  have f0:decide (20 < s.dp)=true:=decide_eq_true h20
  have e:=Hr.out;rw [if_pos h20] at e;subst e;clear Hr h20
  go_enter Tryz.func140,Tryz.ntmps140
  go_wp2_with fail
  go_ret
  exact ⟨by rfl,be_⟩
 case neg=>
  have f0:decide (20 < s.dp)=false:=decide_eq_false h20
  have e:=Hr.out;rw [if_neg h20] at e;clear Hr;obtain ⟨Hr,H20⟩:=as2_ e h20;clear e h20
  go_enter Tryz.func140,Tryz.ntmps140
  go_wp2_with fail
  go_loopg [3,4] s.nd (fun kq i n w'=>∃ (k:Nat) (m:Int),i= .int .i64 k∧n= .int .u64 m∧Aside0 (kq + k=s.nd)∧Aside0 (ri1 s kq k m=ri1 s s.nd 0 0)∧Aside0 (At w [.b g (row (dc s) 235)] w'))
  case atStart=>exact ⟨0,0,rfl,rfl,⟨rfl⟩,⟨rfl⟩,⟨at_⟩⟩
  case round=>
   clear HK cnd cdp cneg ctr cfr
   obtain ⟨k,m,rfl,rfl,Hk,Hs,HK⟩:=hrel
   have cnd:=At.dnd (W:=wr) HK.out HL.out;have cdp:=At.ddp (W:=wr) HK.out HL.out;have cneg:=At.dneg (W:=wr) HK.out HL.out;have ctr:=At.dtr (W:=wr) HK.out HL.out;have cfr:=At.dfro (W:=wr) HK.out
   have hkn:k≤800:=(by have:=Hk.out;have:=Hn.out;omega);have Hkn:=asd_ hkn;clear hkn
   by_cases hlt:(k:Int) < s.dp∧k < s.nd
   case pos=>
    obtain ⟨h1,h2⟩:=hlt;have f1:decide ((k:Int) < s.dp)=true:=decide_eq_true h1;have f2:decide (k < s.nd)=true:=decide_eq_true h2
    have p1n:k < 800:=(by have:=Hn.out;omega);have p0:(0:Int)≤(k:Int):=(by omega);have p1:(k:Int) < 800:=(by omega)
    have e1:IntKind.i64.wrap ((k:Int) + 1)=(k:Int) + 1:=IntWalk.i64_in _ (by omega)
    obtain ⟨q,hq⟩:∃ q,gk=q + 1:=⟨gk - 1,by have:=Hk.out;omega⟩;subst hq
    have ck:=At.dd (W:=wr) HK.out HL.out k p1n;obtain ⟨c,hc⟩:∃ c,s.d.getD k 0=c:=⟨_,rfl⟩;rw [hc] at ck;obtain ⟨Hc,H1⟩:=as2_ hc h1;clear hc h1 h2
    go_wp2_with fail
    go_roundg q
    case measure=>exact Nat.lt_succ_self _
    case rel=>exact ⟨k + 1,_,by go_num,rfl,⟨by have:=Hk.out;omega⟩,⟨by rw [← Hs.out];simp only [ri1];rw [if_pos H1.out,Hc.out]⟩,⟨at_⟩⟩
   case neg=>
    have hx:ri1 s s.nd 0 0=(k,m):=by
     rw [← Hs.out]
     cases gk with
     |zero=>rfl
     |succ q=>simp only [ri1];rw [if_neg (fun h=>hlt ⟨h,by have:=Hk.out;omega⟩)]
    have e:=Hr.out;rw [hx] at e;clear Hr Hs hx;have Hr:=asd_ e;clear e
    have hg2:(k:Int) < s.dp→s.nd≤k:=fun h=>Nat.le_of_not_lt (fun h2=>hlt ⟨h,h2⟩)
    by_cases h1:(k:Int) < s.dp
    case pos=>
     have f1:decide ((k:Int) < s.dp)=true:=decide_eq_true h1;have f2:decide (k < s.nd)=false:=decide_eq_false (by have:=hg2 h1;omega);clear hlt hg2 h1
     go_wp2_with fail
     go_loopg [3,4] ((s.dp - k).toNat) (fun kq i n w'=>∃ (j:Nat) (x:Int),i= .int .i64 j∧n= .int .u64 x∧Aside0 (kq=(s.dp - j).toNat)∧Aside0 (ri2 kq x=ri2 (s.dp - k).toNat m)∧Aside0 (At w [.b g (row (dc s) 235)] w'))
     case atStart=>exact ⟨k,m,rfl,rfl,⟨rfl⟩,⟨rfl⟩,⟨at_⟩⟩
     case round=>
      clear HK cnd cdp cneg ctr cfr
      obtain ⟨j,x,rfl,rfl,Hj,Hx,HK⟩:=hrel
      have cnd:=At.dnd (W:=wr) HK.out HL.out;have cdp:=At.ddp (W:=wr) HK.out HL.out;have cneg:=At.dneg (W:=wr) HK.out HL.out;have ctr:=At.dtr (W:=wr) HK.out HL.out;have cfr:=At.dfro (W:=wr) HK.out
      by_cases hj2:(j:Int) < s.dp
      case pos=>
       have f5:decide ((j:Int) < s.dp)=true:=decide_eq_true hj2;have e1:IntKind.i64.wrap ((j:Int) + 1)=(j:Int) + 1:=IntWalk.i64_in _ (by have:=H20.out;omega)
       obtain ⟨q,hq⟩:∃ q,gk=q + 1:=⟨gk - 1,by have:=Hj.out;omega⟩;subst hq;have Hj2:=asd_ hj2;clear hj2
       go_wp2_with fail
       go_roundg q
       case measure=>exact Nat.lt_succ_self _
       case rel=>exact ⟨j + 1,_,by go_num,rfl,⟨by have:=Hj.out;have:=Hj2.out;omega⟩,⟨by rw [← Hx.out];rfl⟩,⟨at_⟩⟩
      case neg=>
       have f5:decide ((j:Int) < s.dp)=false:=decide_eq_false hj2
       obtain rfl:gk=0:=by have:=Hj.out;omega
       have e:=Hr.out;rw [← Hx.out] at e;clear Hr Hx hj2;simp only [ri2] at e;obtain ⟨b,hb⟩:∃ b,sru s s.dp=b:=⟨_,rfl⟩;rw [hb] at e;have Hb:=asd_ hb;clear hb
       cases b
       case false=>
        obtain rfl:x=r:=e
        go_wp2_with (first|((with_reducible refine gd_ 52 ?_);refine cl_ #[.pointer (some ⟨g,0,none⟩),.int .i64 s.dp] (.bool false) Tryz.func152 (by rw [← Hb.out];exact sru_ok s.dp HK.out.k.1 HL.out Hn.out) ?_;intro wc52 HK1;replace HK:=asd_ HK1;clear HK1;clear cnd cdp cneg ctr cfr;have cnd:=At.dnd (W:=wc52) HK.out HL.out;have cdp:=At.ddp (W:=wc52) HK.out HL.out;have cneg:=At.dneg (W:=wc52) HK.out HL.out;have ctr:=At.dtr (W:=wc52) HK.out HL.out;have cfr:=At.dfro (W:=wc52) HK.out))
        go_ret
        exact ⟨by rfl,be_⟩
       case true=>
        obtain rfl:IntKind.u64.wrap (x + 1)=r:=e
        go_wp2_with (first|((with_reducible refine gd_ 52 ?_);refine cl_ #[.pointer (some ⟨g,0,none⟩),.int .i64 s.dp] (.bool true) Tryz.func152 (by rw [← Hb.out];exact sru_ok s.dp HK.out.k.1 HL.out Hn.out) ?_;intro wc52 HK1;replace HK:=asd_ HK1;clear HK1;clear cnd cdp cneg ctr cfr;have cnd:=At.dnd (W:=wc52) HK.out HL.out;have cdp:=At.ddp (W:=wc52) HK.out HL.out;have cneg:=At.dneg (W:=wc52) HK.out HL.out;have ctr:=At.dtr (W:=wc52) HK.out HL.out;have cfr:=At.dfro (W:=wc52) HK.out))
        go_ret
        exact ⟨by rfl,be_⟩
    case neg=>
     have f1:decide ((k:Int) < s.dp)=false:=decide_eq_false h1;clear hlt hg2 h1
     go_wp2_with fail
     go_loopg [3,4] ((s.dp - k).toNat) (fun kq i n w'=>∃ (j:Nat) (x:Int),i= .int .i64 j∧n= .int .u64 x∧Aside0 (kq=(s.dp - j).toNat)∧Aside0 (ri2 kq x=ri2 (s.dp - k).toNat m)∧Aside0 (At w [.b g (row (dc s) 235)] w'))
     case atStart=>exact ⟨k,m,rfl,rfl,⟨rfl⟩,⟨rfl⟩,⟨at_⟩⟩
     case round=>
      clear HK cnd cdp cneg ctr cfr
      obtain ⟨j,x,rfl,rfl,Hj,Hx,HK⟩:=hrel
      have cnd:=At.dnd (W:=wr) HK.out HL.out;have cdp:=At.ddp (W:=wr) HK.out HL.out;have cneg:=At.dneg (W:=wr) HK.out HL.out;have ctr:=At.dtr (W:=wr) HK.out HL.out;have cfr:=At.dfro (W:=wr) HK.out
      by_cases hj2:(j:Int) < s.dp
      case pos=>
       have f5:decide ((j:Int) < s.dp)=true:=decide_eq_true hj2;have e1:IntKind.i64.wrap ((j:Int) + 1)=(j:Int) + 1:=IntWalk.i64_in _ (by have:=H20.out;omega)
       obtain ⟨q,hq⟩:∃ q,gk=q + 1:=⟨gk - 1,by have:=Hj.out;omega⟩;subst hq;have Hj2:=asd_ hj2;clear hj2
       go_wp2_with fail
       go_roundg q
       case measure=>exact Nat.lt_succ_self _
       case rel=>exact ⟨j + 1,_,by go_num,rfl,⟨by have:=Hj.out;have:=Hj2.out;omega⟩,⟨by rw [← Hx.out];rfl⟩,⟨at_⟩⟩
      case neg=>
       have f5:decide ((j:Int) < s.dp)=false:=decide_eq_false hj2
       obtain rfl:gk=0:=by have:=Hj.out;omega
       have e:=Hr.out;rw [← Hx.out] at e;clear Hr Hx hj2;simp only [ri2] at e;obtain ⟨b,hb⟩:∃ b,sru s s.dp=b:=⟨_,rfl⟩;rw [hb] at e;have Hb:=asd_ hb;clear hb
       cases b
       case false=>
        obtain rfl:x=r:=e
        go_wp2_with (first|((with_reducible refine gd_ 52 ?_);refine cl_ #[.pointer (some ⟨g,0,none⟩),.int .i64 s.dp] (.bool false) Tryz.func152 (by rw [← Hb.out];exact sru_ok s.dp HK.out.k.1 HL.out Hn.out) ?_;intro wc52 HK1;replace HK:=asd_ HK1;clear HK1;clear cnd cdp cneg ctr cfr;have cnd:=At.dnd (W:=wc52) HK.out HL.out;have cdp:=At.ddp (W:=wc52) HK.out HL.out;have cneg:=At.dneg (W:=wc52) HK.out HL.out;have ctr:=At.dtr (W:=wc52) HK.out HL.out;have cfr:=At.dfro (W:=wc52) HK.out))
        go_ret
        exact ⟨by rfl,be_⟩
       case true=>
        obtain rfl:IntKind.u64.wrap (x + 1)=r:=e
        go_wp2_with (first|((with_reducible refine gd_ 52 ?_);refine cl_ #[.pointer (some ⟨g,0,none⟩),.int .i64 s.dp] (.bool true) Tryz.func152 (by rw [← Hb.out];exact sru_ok s.dp HK.out.k.1 HL.out Hn.out) ?_;intro wc52 HK1;replace HK:=asd_ HK1;clear HK1;clear cnd cdp cneg ctr cfr;have cnd:=At.dnd (W:=wc52) HK.out HL.out;have cdp:=At.ddp (W:=wc52) HK.out HL.out;have cneg:=At.dneg (W:=wc52) HK.out HL.out;have ctr:=At.dtr (W:=wc52) HK.out HL.out;have cfr:=At.dfro (W:=wc52) HK.out))
        go_ret
        exact ⟨by rfl,be_⟩
end Go.Proofs.YtlblbefbbibpaaaGreatDoor.J
