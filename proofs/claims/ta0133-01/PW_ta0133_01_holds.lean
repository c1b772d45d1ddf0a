import PyProof.Rows.All
import Wide.All
import OpenK.AllK
import Wide.FinOn
import PySem.Challenge.RW_ta0133_01
set_option Elab.async false
set_option maxRecDepth 100000
set_option maxHeartbeats 8000000
set_option linter.all false
set_option genSizeOf false
set_option genInjectivity false
namespace Mine.Internal
inductive Nt | v (i : Nat) | k (c : Nat) | a (x y : Nt) | m (c : Nat) (x : Nt) | r (x : Nt) (c : Nat)
inductive Zt | v (i : Nat) | k (c : Int) | a (x y : Zt) | s (x y : Zt) | g (x : Zt) | m (c : Int) (x : Zt) | r (x : Zt) (c : Int) | o (x : Nt)
inductive Ct | l (x y : Nt) | e (x y : Nt) | L (x y : Zt) | E (x y : Zt) | n (c : Ct) | w (m : Int) (c : Ct)
noncomputable def zgt{α:Type}(l:List α)(d:α)(i:Nat):α:=(fun _=>l.rec (fun _=>d) (fun x _ f i=>i.casesOn x f):_→Nat→α) @PySem.treeTable i
noncomputable def Nt.d(N:List Nat)(x:Nt):Nat:=x.rec (fun i=>zgt N 0 i) (fun c=>c) (fun _ _ p q=>p+q) (fun c _ p=>c*p) (fun _ c p=>p*c)
noncomputable def Zt.d(N:List Nat)(Z:List Int)(x:Zt):Int:=x.rec (fun i=>zgt Z 0 i) (fun c=>c) (fun _ _ p q=>p+q) (fun _ _ p q=>p -q) (fun _ p=> -p) (fun c _ p=>c*p) (fun _ c p=>p*c) (fun x=>x.d N)
noncomputable def Ct.d(N:List Nat)(Z:List Int)(c:Ct):Prop:=c.rec (fun x y=>x.d N≤y.d N) (fun x y=>x.d N=y.d N) (fun x y=>x.d N Z≤y.d N Z) (fun x y=>x.d N Z=y.d N Z) (fun _ p=> ¬p) (fun _ _ p=>p)
noncomputable def Ct.t(x y:Nt):Ct:= .l (.a x (.k 1)) y
noncomputable def Ct.T(x y:Zt):Ct:= .L (.a x (.k 1)) y
abbrev Fn:=Nat→Int
noncomputable def zdot(p:List Int):Fn→Int:=p.rec (fun _=>0) (fun c _ f X=>c*X 0+f (fun i=>X (i+1)))
noncomputable def zadd(p:List Int):List Int→List Int:=p.rec (fun q=>q) (fun c p f q=>match q with|[]=>c::p|e::q=>(c+e)::f q)
noncomputable def zmul(k:Int)(p:List Int):List Int:=p.rec [] (fun c _ f=>k*c::f)
noncomputable def zone(i:Nat):List Int:=i.rec [1] (fun _ f=>0::f)
theorem zadd_d(p:List Int): ∀q X,zdot (zadd p q) X=zdot p X+zdot q X:=by
 induction p with
 |nil=>intro q X;exact(Int.zero_add _).symm
 |cons c p ih=>
  intro q X
  cases q with
  |nil=>exact(Int.add_zero _).symm
  |cons e q=>
   show(c+e)*X 0+zdot (zadd p q) _=(c*X 0+zdot p _)+(e*X 0+zdot q _)
   rw[ih,Int.add_mul,Int.add_assoc,Int.add_assoc,Int.add_left_comm (e*X 0)]
theorem zmul_d(k:Int)(p:List Int): ∀X,zdot (zmul k p) X=k*zdot p X:=by
 induction p with
 |nil=>intro X;exact(Int.mul_zero k).symm
 |cons c p ih=>
  intro X
  show k*c*X 0+zdot (zmul k p) _=k*(c*X 0+zdot p _)
  rw[ih,Int.mul_add,Int.mul_assoc]
theorem zone_d(i:Nat): ∀X,zdot (zone i) X=X i:=by
 induction i with
 |zero=>intro X;show 1*X 0+0=_;rw[Int.one_mul,Int.add_zero]
 |succ i ih=>intro X;show 0*X 0+zdot (zone i) _=_;rw[ih,Int.zero_mul,Int.zero_add]
noncomputable def zX(N:List Nat)(Z:List Int):Fn:=fun i=>i.casesOn 1 (fun k=>bif k % 2==0 then((zgt N 0 (k/2):Nat):Int) else zgt Z 0 (k/2))
noncomputable def zn(p:List Int):List Int:=zmul (-1) p
noncomputable def zs(p q:List Int):List Int:=zadd p (zn q)
theorem zs_d(p q X):zdot (zs p q) X=zdot p X -zdot q X:=by
 show zdot (zadd p (zmul (-1) q)) X=_
 rw[zadd_d,zmul_d,Int.neg_one_mul];rfl
theorem zk_d(c X):zdot [c] X=c*X 0:=Int.add_zero _
noncomputable def Nt.p(x:Nt):List Int:=x.rec (fun i=>zone (2*i+1)) (fun c=>[(c:Int)]) (fun _ _ p q=>zadd p q) (fun c _ p=>zmul c p) (fun _ c p=>zmul c p)
noncomputable def Zt.p(x:Zt):List Int:=x.rec (fun i=>zone (2*i+2)) (fun c=>[c]) (fun _ _ p q=>zadd p q) (fun _ _ p q=>zs p q) (fun _ p=>zn p) (fun c _ p=>zmul c p) (fun _ c p=>zmul c p) (fun x=>x.p)
theorem Nt.pd(N Z)(x:Nt):zdot x.p (zX N Z)=x.d N:=by
 induction x with
 |v i=>
  refine Eq.trans (zone_d (2*i+1) (zX N Z)) ?_
  show(bif (2*i)% 2==0 then((zgt N 0 ((2*i)/2):Nat):Int) else _)=_
  rw[Nat.mul_mod_right,Nat.mul_div_right i (by decide)];rfl
 |k c=>exact Eq.trans (zk_d (c:Int) (zX N Z)) (Int.mul_one _)
 |a x y h k=>exact Eq.trans (zadd_d x.p y.p _) (by rw[h,k];rfl)
 |m c x h=>exact Eq.trans (zmul_d c x.p _) (by rw[h];rfl)
 |r x c h=>exact Eq.trans (zmul_d c x.p _) (by rw[h,Int.mul_comm];rfl)
theorem Zt.pd(N Z)(x:Zt):zdot x.p (zX N Z)=x.d N Z:=by
 induction x with
 |v i=>
  refine Eq.trans (zone_d (2*i+2) (zX N Z)) ?_
  show(bif (2*i+1)% 2==0 then _ else zgt Z 0 ((2*i+1)/2))=_
  rw[Nat.mul_add_mod,Nat.mul_add_div (by decide)];rfl
 |k c=>exact Eq.trans (zk_d c (zX N Z)) (Int.mul_one _)
 |a x y h k=>exact Eq.trans (zadd_d x.p y.p _) (by rw[h,k];rfl)
 |s x y h k=>exact Eq.trans (zs_d x.p y.p _) (by rw[h,k];rfl)
 |g x h=>exact Eq.trans (zmul_d (-1) x.p _) (by rw[h];exact Int.neg_one_mul _)
 |m c x h=>exact Eq.trans (zmul_d c x.p _) (by rw[h];rfl)
 |r x c h=>exact Eq.trans (zmul_d c x.p _) (by rw[h,Int.mul_comm];rfl)
 |o x=>exact Nt.pd N Z x
noncomputable def zge(m:Int)(p q:List Int)(c:Int):List Int:=bif decide (0≤m) then zmul m (zadd (zs q p) [c]) else[]
noncomputable def zeq(m:Int)(p q:List Int)(b:Bool):List Int:=bif b then zmul m (zs q p) else[]
noncomputable def Ct.q(c:Ct):Int→Bool→List Int:=
 c.rec (fun x y m b=>bif b then zge m x.p y.p 0 else zge m y.p x.p (-1)) (fun x y m b=>zeq m x.p y.p b)
  (fun x y m b=>bif b then zge m x.p y.p 0 else zge m y.p x.p (-1)) (fun x y m b=>zeq m x.p y.p b) (fun _ f m b=>f m (!b)) (fun k _ f m b=>f (m*k) b)
noncomputable def Ct.h(N:List Nat)(Z:List Int)(c:Ct)(b:Bool):Prop:=bif b then c.d N Z else¬c.d N Z
theorem zge_d{m p q c}{X:Fn}(h1:X 0=1)(h:zdot p X≤zdot q X+c):0≤zdot (zge m p q c) X:=by
 unfold zge
 by_cases hm:0≤m
 ·rw[decide_eq_true hm]
  show 0≤zdot (zmul m (zadd (zs q p) [c])) X
  rw[zmul_d,zadd_d,zs_d,zk_d,h1,Int.mul_one]
  exact Int.mul_nonneg hm (by rw[Int.sub_eq_add_neg,Int.add_right_comm,←Int.sub_eq_add_neg];exact Int.sub_nonneg_of_le h)
 ·rw[decide_eq_false hm];exact Int.le_refl 0
theorem zeq_d{m p q}{X:Fn}(h:zdot p X=zdot q X):zdot (zeq m p q true) X=0:=by
 show zdot (zmul m (zs q p)) X=0
 rw[zmul_d,zs_d,h,Int.sub_self,Int.mul_zero]
theorem Ct.qd(N Z)(c:Ct): ∀(m:Int) (b:Bool),c.h N Z b→0≤zdot (c.q m b) (zX N Z):=by
 induction c with
 |l x y=>
  intro m b h
  cases b with
  |true=>exact zge_d rfl (by rw[Nt.pd,Nt.pd,Int.add_zero];exact Int.ofNat_le.mpr h)
  |false=>exact zge_d rfl (by rw[Nt.pd,Nt.pd];exact Int.le_sub_one_of_lt (Int.ofNat_lt.mpr (Nat.not_le.mp h)))
 |L x y=>
  intro m b h
  cases b with
  |true=>exact zge_d rfl (by rw[Zt.pd,Zt.pd,Int.add_zero];exact h)
  |false=>exact zge_d rfl (by rw[Zt.pd,Zt.pd];exact Int.le_sub_one_of_lt (Int.not_le.mp h))
 |e x y=>
  intro m b h
  cases b with
  |true=>exact Int.le_of_eq (zeq_d (by rw[Nt.pd,Nt.pd];exact congrArg _ h)).symm
  |false=>exact Int.le_refl 0
 |E x y=>
  intro m b h
  cases b with
  |true=>exact Int.le_of_eq (zeq_d (by rw[Zt.pd,Zt.pd];exact h)).symm
  |false=>exact Int.le_refl 0
 |n c ih=>
  intro m b h
  cases b with
  |true=>exact ih m false h
  |false=>exact ih m true (Classical.not_not.mp h)
 |w k c ih=>intro m b h;exact ih (m*k) b (by cases b<;>exact h)
noncomputable def zneg(p:List Int):Bool→Bool:=p.rec (fun _=>true) (fun c _ f b=>(bif b then decide (c≤0) else decide (c=0))&&f (!b))
noncomputable def zbad(p:List Int):Bool:=p.casesOn false (fun c p=>decide (c<0)&&zneg p true)
theorem zneg_d(p:List Int): ∀(b:Bool) (X:Fn),(∀i,(bif i % 2==0 then b else !b)=true→0≤X i)→zneg p b=true→zdot p X≤0:=by
 induction p with
 |nil=>intro b X _ _;exact Int.le_refl 0
 |cons c p ih=>
  intro b X hX h
  have h:=Bool.and_eq_true_iff.mp h
  have t:zdot p (fun i=>X (i+1))≤0:=ih (!b) _ (fun i hi=>hX (i+1) (by
   rw[Nat.add_mod]
   cases Nat.mod_two_eq_zero_or_one i with
   |inl e=>rw[e] at hi⊢;exact hi
   |inr e=>rw[e] at hi⊢;rw[Bool.not_not] at hi;exact hi)) h.2
  refine(Int.add_le_add (b:=0) ?_ t:c*X 0+_≤0+0)
  cases b with
  |true=>exact Int.mul_nonpos_of_nonpos_of_nonneg (of_decide_eq_true h.1) (hX 0 rfl)
  |false=>rw[show c=0 from of_decide_eq_true h.1,Int.zero_mul];exact Int.le_refl 0
theorem zbad_d{N Z p}(h:zbad p=true):zdot p (zX N Z)<0:=by
 cases p with
 |nil=>cases h
 |cons c p=>
  have h:=Bool.and_eq_true_iff.mp h
  have t:zdot p (fun i=>zX N Z (i+1))≤0:=zneg_d p true _ (fun i hi=>by
   show 0≤(bif i % 2==0 then((zgt N 0 (i/2):Nat):Int) else zgt Z 0 (i/2))
   cases e:i % 2==0 with
   |true=>exact Int.natCast_nonneg _
   |false=>rw[e] at hi;cases hi) h.2
  exact(Int.add_lt_add_of_lt_of_le (d:=0) (by rw[show zX N Z 0=1 from rfl,Int.mul_one];exact of_decide_eq_true h.1) t:c*zX N Z 0+_<0+0)
noncomputable def zc0(p:List Int)(g:Ct):Bool:=zbad (zadd p (g.q 1 false))
noncomputable def zc1(p:List Int)(a g:Ct):Bool:=zc0 (zadd p (a.q 1 true)) g
noncomputable def zc2(p:List Int)(a b g:Ct):Bool:=zc1 (zadd p (a.q 1 true)) b g
noncomputable def zc3(p:List Int)(a b c g:Ct):Bool:=zc2 (zadd p (a.q 1 true)) b c g
noncomputable def zc4(p:List Int)(a b c d g:Ct):Bool:=zc3 (zadd p (a.q 1 true)) b c d g
noncomputable def zc5(p:List Int)(a b c d e g:Ct):Bool:=zc4 (zadd p (a.q 1 true)) b c d e g
theorem zst{p q X}(h:0≤zdot p X)(k:0≤zdot q X):0≤zdot (zadd p q) X:=(zadd_d p q X).symm▸Int.add_nonneg h k
theorem zl0{N Z p}(n:0≤zdot p (zX N Z)){g:Ct}(h:zc0 p g=true):g.d N Z:=Classical.byContradiction fun k=>Int.not_lt.mpr (zst n (Ct.qd N Z g 1 false k)) (zbad_d h)
theorem zl1{N Z p}(n:0≤zdot p (zX N Z)){a g:Ct}(h:zc1 p a g=true)(x:a.d N Z):g.d N Z:=zl0 (zst n (Ct.qd N Z a 1 true x)) h
theorem zl2{N Z p}(n:0≤zdot p (zX N Z)){a b g:Ct}(h:zc2 p a b g=true)(x:a.d N Z):b.d N Z→g.d N Z:=zl1 (zst n (Ct.qd N Z a 1 true x)) h
theorem zl3{N Z p}(n:0≤zdot p (zX N Z)){a b c g:Ct}(h:zc3 p a b c g=true)(x:a.d N Z):b.d N Z→c.d N Z→g.d N Z:=zl2 (zst n (Ct.qd N Z a 1 true x)) h
theorem zl4{N Z p}(n:0≤zdot p (zX N Z)){a b c d g:Ct}(h:zc4 p a b c d g=true)(x:a.d N Z):b.d N Z→c.d N Z→d.d N Z→g.d N Z:=zl3 (zst n (Ct.qd N Z a 1 true x)) h
theorem zz{N Z}:0≤zdot [] (zX N Z):=Int.le_refl 0
theorem zq0(N Z)(g:Ct)(p:zc0 [] g=true):g.d N Z:=zl0 zz p
theorem zq1(N Z)(a g:Ct)(p:zc1 [] a g=true):a.d N Z→g.d N Z:=zl1 zz p
theorem zq2(N Z)(a b g:Ct)(p:zc2 [] a b g=true):a.d N Z→b.d N Z→g.d N Z:=zl2 zz p
theorem zq3(N Z)(a b c g:Ct)(p:zc3 [] a b c g=true):a.d N Z→b.d N Z→c.d N Z→g.d N Z:=zl3 zz p
theorem zq4(N Z)(a b c d g:Ct)(p:zc4 [] a b c d g=true):a.d N Z→b.d N Z→c.d N Z→d.d N Z→g.d N Z:=zl4 zz p
theorem zq5(N Z)(a b c d e g:Ct)(p:zc5 [] a b c d e g=true)(x:a.d N Z):b.d N Z→c.d N Z→d.d N Z→e.d N Z→g.d N Z:=zl4 (zst zz (Ct.qd N Z a 1 true x)) p
noncomputable def Ct.i(c:Ct):Bool:=c.rec (fun _ _=>false) (fun _ _=>true) (fun _ _=>false) (fun _ _=>true) (fun _ _=>false) (fun _ _ i=>i)
noncomputable def Ct.y(c:Ct):Bool:=c.casesOn (fun _ _=>false) (fun _ _=>true) (fun _ _=>false) (fun _ _=>true) (fun _=>false) (fun _ _=>false)
theorem zqi{N Z}(c:Ct): ∀m:Int,c.i=true→c.d N Z→zdot (c.q m true) (zX N Z)=0:=by
 induction c with
 |e x y=>intro m _ h;exact zeq_d (by rw[Nt.pd,Nt.pd];exact congrArg _ h)
 |E x y=>intro m _ h;exact zeq_d (by rw[Zt.pd,Zt.pd];exact h)
 |w k c ih=>intro m;exact ih (m*k)
 |_=>intro m h;cases h
theorem zyg{N Z}(c:Ct)(i:c.y=true)(h:zdot (c.q 1 true) (zX N Z)=0):c.d N Z:=by
 have t: ∀p q,zdot (zeq 1 p q true) (zX N Z)=0→zdot p (zX N Z)=zdot q (zX N Z):=fun p q h=>by
  have h:zdot (zmul 1 (zs q p)) (zX N Z)=0:=h
  rw[zmul_d,zs_d,Int.one_mul] at h
  exact(Int.sub_eq_zero.mp h).symm
 cases c with
 |e x y=>have h:=t _ _ h;rw[Nt.pd,Nt.pd] at h;exact Int.ofNat.inj h
 |E x y=>have h:=t _ _ h;rw[Zt.pd,Zt.pd] at h;exact h
 |_=>cases i
noncomputable def znul(p:List Int):Bool:=p.rec true (fun c _ f=>decide (c=0)&&f)
theorem znul_d(p:List Int): ∀X:Fn,znul p=true→zdot p X=0:=by
 induction p with
 |nil=>intro X _;rfl
 |cons c p ih=>
  intro X h
  have h:=Bool.and_eq_true_iff.mp h
  show c*X 0+zdot p _=0
  rw[ih _ h.2,show c=0 from of_decide_eq_true h.1,Int.zero_mul];rfl
theorem zzt{p q X}(h:zdot p X=0)(k:zdot q X=0):zdot (zadd p q) X=0:=by rw[zadd_d,h,k];rfl
noncomputable def zg0(p:List Int)(g:Ct):Bool:=g.y&&znul (zadd p (g.q 1 true))
noncomputable def zg1(p:List Int)(a g:Ct):Bool:=a.i&&zg0 (zadd p (a.q 1 true)) g
noncomputable def zg2(p:List Int)(a b g:Ct):Bool:=a.i&&zg1 (zadd p (a.q 1 true)) b g
noncomputable def zg3(p:List Int)(a b c g:Ct):Bool:=a.i&&zg2 (zadd p (a.q 1 true)) b c g
theorem zm0{N Z p}(n:zdot p (zX N Z)=0){g:Ct}(h:zg0 p g=true):g.d N Z:=have h:=Bool.and_eq_true_iff.mp h;zyg g h.1 (by have k:=znul_d _ (zX N Z) h.2;rw[zadd_d,n,Int.zero_add] at k;exact k)
theorem zm1{N Z p}(n:zdot p (zX N Z)=0){a g:Ct}(h:zg1 p a g=true)(x:a.d N Z):g.d N Z:=have h:=Bool.and_eq_true_iff.mp h;zm0 (zzt n (zqi a 1 h.1 x)) h.2
theorem zm2{N Z p}(n:zdot p (zX N Z)=0){a b g:Ct}(h:zg2 p a b g=true)(x:a.d N Z):b.d N Z→g.d N Z:=have h:=Bool.and_eq_true_iff.mp h;zm1 (zzt n (zqi a 1 h.1 x)) h.2
theorem zm3{N Z p}(n:zdot p (zX N Z)=0){a b c g:Ct}(h:zg3 p a b c g=true)(x:a.d N Z):b.d N Z→c.d N Z→g.d N Z:=have h:=Bool.and_eq_true_iff.mp h;zm2 (zzt n (zqi a 1 h.1 x)) h.2
theorem zf0(N Z)(g:Ct)(h:zg0 [] g=true):g.d N Z:=zm0 rfl h
theorem zf1(N Z)(a g:Ct)(h:zg1 [] a g=true):a.d N Z→g.d N Z:=zm1 rfl h
theorem zf2(N Z)(a b g:Ct)(h:zg2 [] a b g=true):a.d N Z→b.d N Z→g.d N Z:=zm2 rfl h
theorem zf3(N Z)(a b c g:Ct)(h:zg3 [] a b c g=true):a.d N Z→b.d N Z→c.d N Z→g.d N Z:=zm3 rfl h
theorem zsb(a b:Nat):a≤a -b+b:=Nat.sub_le_iff_le_add.mp (Nat.le_refl _)
open Lean in
def zdig : List Char → String → String × List Char
  | c :: r, s => if c.isDigit then zdig r (s.push c) else (s, c :: r)
  | [], s => (s, [])
open Lean in
def znum (r : List Char) : Term × List Char :=
  let p := r.head? == some '^'
  let x := zdig (if p || r.head? == some '_' then r.tail else r) ""
  (if p then ⟨mkNode `«term_^_» #[Syntax.mkNumLit "2", mkAtom "^", Syntax.mkNumLit x.1]⟩ else Syntax.mkNumLit x.1, x.2)
def zfind (s c : Char) : List Char → List Char
  | ' ' :: a :: b :: r => if a == s && b == c then r else zfind s c (a :: b :: r)
  | _ :: r => zfind s c r
  | [] => []
open Lean in
def zrd : Nat → Char → List Char → Term × List Char
  | n + 1, s, c :: r =>
    let t (f : Char) (a : Array Term) : Term := Syntax.mkApp (mkIdent (.str (.str `Mine.Internal (s.toString ++ "t")) f.toString)) a
    if s == 'n' then znum (c :: r) else
    if s == 'i' then let x := znum (c :: r); (Syntax.mkApp (mkIdent `Int.neg) #[x.1], x.2) else
    match zfind s c " N+aNN N*mnN N%rNn Z+aZZ Z-sZZ Z~gZ  Z'oN  Z*mnZ Z%rZn C<tNN C[lNN C=eNN C>TZZ C]LZZ C#EZZ C!nC  C:wnC C;wiC".toList with
    | f :: k :: l :: _ =>
      let x := zrd n k r
      if l == ' ' then (t f #[x.1], x.2) else
      let y := zrd n l x.2
      (t f #[x.1, y.1], y.2)
    | _ => if c.isAlpha then (t 'v' #[Syntax.mkNumLit (toString (c.toNat % 32 - 1))], r) else let x := znum (c :: r); (t 'k' #[x.1], x.2)
  | _, _, r => (⟨.missing⟩, r)
open Lean in
def zall : Nat → List Char → Array Term → Array Term
  | n + 1, c :: r, a => if c == '@' || c == '&' then zall n r a else let x := zrd 999 'C' (c :: r); zall n x.2 (a.push x.1)
  | _, _, a => a
def zmx (u : Bool) : List Char → Nat
  | c :: r => if c.isUpper == u && c.isAlpha then max (zmx u r) (c.toNat % 32) else zmx u r
  | [] => 0
open Lean in
def zls : Nat → Term → Term
  | n + 1, h => Syntax.mkApp (mkIdent `List.cons) #[h, zls n h]
  | 0, _ => mkIdent `List.nil
open Lean in
def zarg (u : Term) : List Term → Array Term → Array Term
  | x :: l, a => zarg u l (if x.raw.getKind == `Lean.Parser.Term.tuple then a else a.push (if x.raw.getKind == `Lean.Parser.Term.hole then u else x))
  | [], a => a
open Lean in
def zby (k : Name) (s : String) : Term := ⟨mkNode `Lean.Parser.Term.byTactic #[mkAtom "by", mkNode `Lean.Parser.Tactic.tacticSeq #[mkNode `Lean.Parser.Tactic.tacticSeq1Indented #[mkNullNode #[mkNode k #[mkAtom s]]]]]⟩
open Lean in
def zmac (s : String) (a : Array Term) : Term :=
  let l := s.toList
  let b := zarg (zby `Lean.Parser.Tactic.assumption "assumption") a.toList #[]
  let h : Term := ⟨mkNode `Lean.Parser.Term.hole #[mkAtom "_"]⟩
  Syntax.mkApp (mkIdent (.str `Mine.Internal ((if l.contains '@' then "zf" else "zq") ++ toString b.size))) (((zall 11 l #[zls (zmx true l) h, zls (zmx false l) h]).push (if l.contains '&' then zby `Lean.Parser.Tactic.tacticRfl "rfl" else mkIdent `rfl)).append b)
end Mine.Internal
local macro_rules | `($s:str $a*) => return Mine.Internal.zmac s.getString a
open And renaming left->adn,right->aej
open Array renaming length_toList->abr,getElem?_eq_getElem->acw,getElem?_toList->ac0
open Bool renaming and_eq_true_iff->ZT,and_eq_true->aax,false_ne_true->aa5,eq_iff_iff->aa9,not_eq_true'->abR,false_eq_true->abU,and_true->acn,true_and->adU
open Classical renaming byContradiction->aeM,propDecidable->ae0
open Exists renaming imp->ac5
open ForInStep renaming yield->abN
open Function renaming comp_def->aaF
open Int renaming toNat_of_nonneg->ZV,natCast_nonneg->Z0,natAbs_of_nonneg->aas,toNat_natCast->aaD,natAbs_natCast->aaK,ofNat_natAbs_of_nonpos->aaS,not_lt->abK,le_antisymm->ab0,ofNat_lt->acd,lt_of_le_of_lt->acf,lt_of_lt_of_le->acg,fmod_eq_emod_of_nonneg->aco,fdiv_eq_ediv_of_nonneg->acp,ofNat->acs,ofNat_fmod->acN,le_of_lt->ac7,eq_ofNat_of_zero_le->adh,le_trans->adx,mul_le_mul_of_nonneg_right->ad6,ofNat_le->aei,natCast_mul->aeN,lt_or_gt_of_ne->aeT,mul_nonneg->aeW
open Int.ofNat renaming inj->adD
open List renaming mem_cons_of_mem->ZP,length_map->ZQ,mem_cons_self->ZR,mem_cons->ZU,mem_map->Z1,all_eq_true->Z3,mem_singleton->Z4,range->aac,map_map->aaf,mem_of_getElem?->aag,map_cons->aah,getElem?_map->aal,length_append->aap,mem_range->aaq,mem_append->aaw,not_mem_nil->aaz,map_append->aaA,replicate->aaB,length_filter_le->aaE,getD_eq_getElem?_getD->aaG,mem_filter->aaQ,getElem?_eq_getElem->aaT,length_take->aaU,take_of_length_le->aaX,length_cons->aaY,map_congr_left->aa0,getElem?_eq_some_iff->aa2,flatMap_cons->aa3,pairwise_cons->abi,length_drop->abk,mem_of_mem_take->abl,length_range->abw,mem_of_mem_drop->abx,nodup_cons->abC,mem_append_right->abP,mem_append_left->abX,replicate_succ->ab7,take_add_one->ab9,mem_singleton_self->ach,count_le_length->aci,length_pos_iff->acu,lookup_cons->acC,mem_flatMap->acF,nodup_nil->acJ,flatMap_append->acQ,drop_of_length_le->acW,getElem?_eq_none->ac2,count_cons->ac8,filter_congr->ade,sum_cons->adg,filterMap_cons->adi,take_length->adj,filter_cons->ado,take_append_drop->adz,filter_map->adA,forIn_nil->adK,map_eq_flatMap->adQ,append_nil->adZ,forIn_cons->ad0,mem_filterMap->ad4,nodup_append->aec,cons_ne_nil->ael,contains_eq_mem->aem,map_flatMap->aes,map_drop->aeA,length_reverse->aeG,length_take_le->aeH,findSome?_cons->aeI,drop_eq_getElem_cons->aeJ,exists_mem_of_ne_nil->aeO,Sublist->aeR,length_eq_zero_iff->aeX,pairwise_singleton->aeZ
open List.Pairwise renaming nil->ada,filter->aev
open List.Sublist renaming refl->aae
open Nat renaming sub_add_cancel->ZM,le_trans->ZW,lt_of_le_of_lt->ZY,le_antisymm->Z5,lt_of_lt_of_le->aaa,le_refl->aab,beq->aak,div_add_mod->aan,div_le_self->aao,pow_le_pow_right->aat,zero_le->aav,shiftLeft->aay,sub->aaO,mod_lt->aaR,eq_of_beq_eq_true->aa7,lt_or_gt_of_ne->aa8,shiftLeft_eq->abe,le_add_left->abf,lt_trans->abh,min_le_right->abj,le_of_lt->abq,ble->abt,min_eq_left->abB,min_le_left->abD,ne_of_lt->abV,mul_comm->ab1,two_pow_pos->ab2,pow_add->ab5,mod_eq_of_lt->ab6,le_of_ble_eq_true->aca,ne_of_gt->acj,add_mul->acq,add->acr,ble_eq->acy,lt_succ_self->acB,mul_add->acH,mul_le_mul_right->acM,mod->acR,zero_add->acS,add_comm->acT,le_succ->acU,one_mul->acX,min_eq_right->adl,shiftRight->adp,mul->adq,testBit_lt_two_pow->adv,add_zero->adw,lt_succ_of_lt->adG,shiftRight_eq_div_pow->adH,mul_one->adJ,le_add_right->adM,succ->adN,mul_le_mul_left->adR,not_lt->adV,sub_le->ad5,beq_eq->ad7,log2_lt->ad9,div_lt_iff_lt_mul->aeh,succ_le_succ->aeo,mul_lt_mul''->aet,pow_lt_pow_right->aeu,lt_irrefl->aew,testBit_two_pow_add_gt->aeC
open Option renaming bind_eq_some_iff->aaP,isSome_iff_exists->abO,map_eq_some_iff->ad8,getD_some->aen
open Option.some renaming inj->abM,injEq->adF
open Ordering renaming lt->aeF
open PUnit renaming unit->adY
open PyProof renaming noPylong_of_log2->acE
open PyProof.Rows renaming callWith_type->abn,Subscript_->ad1,bitNot_bitNot->aeB,Assign_Tuple_swapped->ae2
open PySem renaming Shared->ZL,Value->ZN,wpAny_bind->ZO,wpAny_pure->ZS,Scope->ZZ,World->Z2,wpAny->Z6,sizeLine->Z7,model->Z8,Around->aaj,NameKind->aam,wpAny_execs_cons->aar,mainGlobals->aaI,FuncData->aaL,wpAny_standAt->aaM,foldedSetIterable->aaN,wpAny_holding->aaV,wpAny_Call_NameR->aaZ,starEach->aa4,bindArgs->aba,Params->abm,Comprehension->abv,compareOp->abz,DictEntry->abG,binaryOp->abI,wpAny_mono->abJ,keywordEach->abL,cellsFrom->abQ,backTo->abW,swapsWith->abY,exec_Assign_Name->ab3,sliceBounds->ab4,wpAny_execs_nil->ace,callEnvC->acv,builtinsNs->acx,holding->acA,backToKw->acD,sysModules->acI,wpAny_bindName->acL,builtinLookup_eq_fast->acZ,execs->ac3,subscripted->ac4,wpAny_call->ac6,standAt->ac9,wpAny_newObj_type->adb,wpAny_Expr_any->adm,interactive->adt,importBound->adu,wpAny_ite_false->ady,attributeBase->adC,Result->adE,wpAny_of_eq->adI,rawInt->adO,intKind_is->adW,typeLookup_type->adX,seqIndex?->ad2,pushCells->ad3,wpAny_typeNameOfWhole_keyiter->aeb,wpAny_dictEntries->aed,wpAny_call_entry->aep,swapsWithSole->aex,swappedStores->aey,wpAny_items_nil->aeK,letOwnedTupleGo->aeL,wpAny_typeNameOf_keyiter->aeS
open PySem.Around renaming frames_deeper->aer
open PySem.AutoListH renaming list___mul___list_int_3->ae1
open PySem.Builtin renaming bitNot->acb,bitAnd->acK
open PySem.Builtin.Int renaming intBits->aad
open PySem.Builtin.Range renaming rangeSize->adS
open PySem.Builtin.Str renaming occurrences->abH,glued->acO
open PySem.Calls renaming evalArgs_plain->abu,spliced_cons->abZ,spliced_nil->acV,callWith_builtin->adk
open PySem.Challenge renaming rw_ta0133_01->ae3
open PySem.F renaming args_tuple_add_2->aeQ,entry_tuple_add->aeY
open PySem.Float64 renaming mul->aaC,sub->aaJ,cmp->aaW,ofInt->abb,sgn->abg,add->abE,isZero->abT,div->acG,infMag->ads,isInf->adB,divmod->adL,halfEven->adP,ofFrac->aef,decode->aeg,shift->aeD
open PySem.Heap renaming get?_push_of_some->Z9,get?_push_size->aai,lt_size->aa1,SameBut->abp,size_push->abS,get?_update_self->acY
open PySem.Heap.SameBut renaming update->acP,refl->aee
open PySem.NameKind renaming free->abd,globalImplicit->abo,cell->acm
open PySem.PyData renaming keyHash->ZX,strOk->aa6,eqv->acz
open PySem.Sem renaming wp->aby,wp_bind'->ack,wp_mono->aeE
open PySem.SeqAt renaming readOf->ac1
open PySem.StrLaws renaming glued_between_self->aez
open PySem.Txt renaming lower->aau,upper->abA,replace->aea
open PySem.Value renaming ref->adf,type->aeq
open PySem.W renaming SharedT->aaH,behindTheImports->abF,emptyDict->ab8,opening->adT
open PySem.W.Fast renaming tw11892475500146522536->aeU,tw14364793385576792824->aeV
open PySem.W.WData renaming int->aek
open UInt64 renaming toNat_lt->aeP
namespace Mine.Internal
open PySem PySem.W PySem.Calls PyProof.Rows
local macro_rules | `(tactic| walk_at "au") => `(tactic| (intros; first | exact ⟨_, rfl⟩ | rfl | exact .inl rfl | exact .inr rfl | exact ⟨_, by with_unfolding_all rfl⟩ | with_unfolding_all rfl | trivial))
local macro_rules | `(tactic| obtain $p:rcasesPatMed := $v:term) => if ((p.raw.reprint.getD "").toList.filter (· == ',')).length < 3 then `(tactic| rcases $v:term with $p) else let k := Lean.mkIdent `z1; let q := Lean.mkIdent `z2; `(tactic| first | (refine Mine.Internal.gz fun $q $k => ?_; (rcases $v:term with $p) <;> (refine $k ?_; clear $k $q)) | rcases $v:term with $p)
set_option tactic.hygienic false
theorem Xy:PySem.W.Fast.tw9446332074065402090 ae3=true:=by kernel_rfl
theorem gz{P:Prop}(h: ∀R:Prop,(P->R)->R):P:=h P fun x=>x
universe u
noncomputable def nf{β:Type}(i:Nat)(d:β)(n:Nat)(f:n=i->β):β:=if h:n=i then f h else d
section
variable {α:Type u}{x:Option α}{a:α}{b:α}{C:Prop}{t:Bool}
theorem Lb(h:x=none)(k:x=some a):C:=by rw[h] at k;cases k
theorem sO(h:x=some a)(k:x=none):C:=by rw[h] at k;cases k
theorem K8(h:t=false)(k:t=true):C:=by rw[h] at k;cases k
theorem fM(h:none=some a):C:=by cases h
theorem dh(h:false=true):C:=by cases h
theorem vw(h:a∈([]:List α)):C:=by cases h
theorem gS(h:x=some a)(k:x=some b):a=b:=abM (h.symm.trans k)
theorem gR(h:some a=some b):a=b:=abM h
end
theorem Jx{P:Nat->Prop}{k:Nat}(h:k<4)(p0:P 0)(p1:P 1)(p2:P 2)(p3:P 3):P k:=by
 cases k with|zero=>exact p0|succ k=>cases k with|zero=>exact p1|succ k=>cases k with|zero=>exact p2|succ k=>cases k with|zero=>exact p3|succ k=>exact absurd h (adV.mpr (abf 4 k))
theorem uF{P:Nat->Prop}{k:Nat}(h:k<6)(p0:P 0)(p1:P 1)(p2:P 2)(p3:P 3)(p4:P 4)(p5:P 5):P k:=by
 cases k with|zero=>exact p0|succ k=>cases k with|zero=>exact p1|succ k=>exact Jx (P:=fun k=>P (k+2)) (Nat.lt_of_succ_lt_succ (Nat.lt_of_succ_lt_succ h)) p2 p3 p4 p5
variable{w:Z2}
def au : Lean.Syntax := .node .none ``Lean.Parser.Tactic.tacticSeq #[.node .none ``Lean.Parser.Tactic.tacticSeq1Indented #[.node .none `null #[.node .none ``PyProof.Rows.«tacticWalk_at_» #[Lean.mkAtom "walk_at ", Lean.Syntax.mkStrLit "au"]]]]
noncomputable def sk(c:Code):Bool:=match c with
 | .builtin id _=>(match S.toListS id with
  |b::c::d::_=> !(aak b.toNat 108&&(aak c.toNat 105&&aak d.toNat 102))
  |_=>false)
 | .call ..=>true
 | .func ..=>true
 | .body ..=>true
 | .block ..=>true
 | .forLoop ..=>true
 | .compStart ..=>true
 | .compLoop ..=>true
 | .whileLoop ..=>true
 |_=>false
theorem W4{c:Code}(h:sk c=true):c.quiet=true:=by
 cases c with
 |builtin id args=>
  apply Code.quiet_builtin;rw[String.startsWith_string_eq_false_iff];unfold sk at h;rw[<-S.toListS_eq] at h;intro hp;have e:("lifetime." :String).toList='l'::'i'::'f'::("etime." :String).toList:=by decide
  rw[e] at hp;obtain⟨t,ht⟩:=hp
  replace h:(match id.toList with|b::c::d::_=> !(aak b.toNat 108&&(aak c.toNat 105&&aak d.toNat 102))|_=>false)=true:=h;rw[<-ht] at h;revert h;exact(by decide: ¬((!(aak ('l':Char).toNat 108&&(aak ('i':Char).toNat 105&&aak ('f':Char).toNat 102)))=true))
 |_=>first|rfl|(simp[sk] at h)
section
variable (den:Code->Sem Fin)(P:Program)(w:Z2)
noncomputable def dQ{α:Type}(cf:Ctx->Pos->aaH->Option (adE×aaH))(t:Sem α):Ctx->Pos->aaH->Option (Except ZN α×Pos×aaH):=
 @Sem.rec α (fun z=>Ctx->Pos->aaH->Option (Except ZN α×Pos×aaH))
  (fun a z p s=>some (.ok a,p,s))
  (fun e z p s=>some (.error e,p,s))
  (fun z z z z=>none)
  (fun z z z z=>none)
  (fun z z ih Γ p s=>ih () Γ p s)
  (fun p' z ih Γ z s=>ih () Γ p' s)
  (fun a z z ih Γ p s=>match Nat.blt a s.n with
   |true=>match s.tree.get a with
    |some o=>match alive o with
     |some o'=>ih o' Γ p s
     |none=>none
    |none=>none
   |false=>none)
  (fun a z f z ih Γ p s=>match Nat.blt a s.n with
   |true=>match s.tree.get a with
    |some o=>match alive o with
     |some _=>match(f o).isFreed with
      |false=>ih () Γ p {s with tree:=s.tree.set a f}
      |true=>none
     |none=>none
    |none=>none
   |false=>none)
  (fun o z ih Γ p s=>match((s.tree.ins s.n o).get s.n).isSome with
   |true=>(match o.isFreed with
    |false=>ih s.n Γ p {s with tree:=s.tree.ins s.n o,n:=s.n+1}
    |true=>none)
   |false=>none)
  (fun a z ih Γ p s=>match Nat.blt a s.n with
   |true=>match s.tree.get a with
    |some o=>ih (alive o) Γ p s
    |none=>none
   |false=>none)
  (fun z z ih Γ p s=>ih () Γ p s)
  (fun z z z z z z=>none)
  (fun z ih Γ p s=>ih s.toks Γ p {s with toks:=s.toks+1})
  (fun z ih Γ p s=>ih ⟨P,w.params⟩ Γ p s)
  (fun z z z z z z z=>none)
  (fun z z z z z z z=>none)
  (fun c h z z z ih Γ p s=>match cf (Γ.enter c h p) p s with
   |some (r,s')=>ih r Γ p s'
   |none=>none)
  (fun own z ih Γ p s=>ih (match own with|true=>Γ.own|false=>Γ.handled) Γ p s)
  (fun z z z z z z=>none)
  (fun z z z z z z=>none)
  (fun z z z z z z z z=>none)
  (fun z z z z z z z z=>none)
  (fun z ih Γ p s=>ih ((Γ.code,p)::Γ.below) Γ p s)
  (fun z z z z z z=>none)
  (fun z z z z z=>none)
  (fun z z z z z z z z z=>none) t
noncomputable def FZ(f:Ctx->Pos->aaH->Option (adE×aaH))(Γ:Ctx)(x:Option (Except ZN Fin×Pos×aaH)):Option (adE×aaH):=
 x.rec none fun y=>y.1.rec (fun e=>some (.error e,y.2.2)) fun a=>a.rec (fun f=>some (.ok f,y.2.2)) fun c=>bif sk c then f (Γ.goto c) y.2.1 y.2.2 else none
noncomputable def iI(n:Nat):Ctx->Pos->aaH->Option (adE×aaH):=
 n.rec (fun z z z=>none) fun z f Γ p s=>FZ f Γ (dQ P w f (den Γ.code) Γ p s)
end
section
variable {P:Program}{α:Type}{cf:Ctx->Pos->aaH->Option (adE×aaH)}{Γ:Ctx}{p:Pos}{s:aaH}
theorem OL{a:Addr}{q:Option ZN}{k:Obj->Sem α}:dQ P w cf (.load a q k) Γ p s=(match Nat.blt a s.n with
 |true=>match s.tree.get a with
  |some o=>match alive o with
   |some o'=>dQ P w cf (k o') Γ p s
   |none=>none
  |none=>none
 |false=>none):=rfl
theorem ON{a:Addr}{q:Option ZN}{f:Obj->Obj}{k:Unit->Sem α}:dQ P w cf (.update a q f k) Γ p s=(match Nat.blt a s.n with
 |true=>match s.tree.get a with
  |some o=>match alive o with
   |some _=>match(f o).isFreed with
    |false=>dQ P w cf (k ()) Γ p {s with tree:=s.tree.set a f}
    |true=>none
   |none=>none
  |none=>none
 |false=>none):=rfl
theorem OJ{o:Obj}{k:Addr->Sem α}:dQ P w cf (.alloc o k) Γ p s=(match((s.tree.ins s.n o).get s.n).isSome with
 |true=>(match o.isFreed with
  |false=>dQ P w cf (k s.n) Γ p {s with tree:=s.tree.ins s.n o,n:=s.n+1}
  |true=>none)
 |false=>none):=rfl
theorem OM{a:Addr}{k:Option Obj->Sem α}:dQ P w cf (.loadIfAlive a k) Γ p s=(match Nat.blt a s.n with
 |true=>match s.tree.get a with
  |some o=>dQ P w cf (k (alive o)) Γ p s
  |none=>none
 |false=>none):=rfl
theorem OK{c:Code}{h:Option ZN}{g:Bool}{l:List ZN}{k:adE->Sem α}:dQ P w cf (.call c h g l k) Γ p s=(match cf (Γ.enter c h p) p s with
 |some (r,s')=>dQ P w cf (k r) Γ p s'
 |none=>none):=rfl
end
section
variable {P:Program}
structure dP(t:aaH)(s:ZL):Prop where
 size:s.heap.objs.size=t.n
 get: ∀a o,a<t.n->t.tree.get a=some o->s.heap.get? a=alive o
 gens:s.gens=t.gens
 drawn:s.drawn=t.drawn
 toks:s.toks=t.toks
 os:s.os=t.os
theorem dP.abs(t:aaH):dP t t.abs:=⟨absHeap_size ..,fun z z h g=>abs_get h g,rfl,rfl,rfl,rfl⟩
theorem s7{o:Obj}(h:o.isFreed=false):alive o=some o:=by
 obtain⟨c,d,dt,sl⟩:=o;cases dt<;>first|rfl|(simp[Obj.isFreed] at h)
theorem dP.update{t:aaH}{s:ZL}(R:dP t s){a:Addr}{o o':Obj}{f:Obj->Obj}(ha:a<t.n)(g:t.tree.get a=some o)(ho:alive o=some o')(hf:(f o).isFreed=false):
 (s.heap.get? a).isSome/\dP {t with tree:=t.tree.set a f} {s with heap:=s.heap.update a f}:=by
 have hg:=R.get a o ha g;rw[ho] at hg;have e:o'=o:=by
  obtain⟨c,d,dt,sl⟩:=o;cases dt<;>first|exact(abM ho).symm|cases ho
 subst e;have hs:abp a s.heap (s.heap.update a f):=acP ..;refine⟨by rw[hg];rfl,hs.1.trans R.size,fun b x hb gb=> ?_,R.gens,R.drawn,R.toks,R.os⟩
 ·replace gb:(t.tree.set a f).get b=some x:=gb
  show(s.heap.update a f).get? b=alive x
  rw[BT.get_set] at gb
  by_cases mD:b=a
  ·subst mD
   rw[if_pos rfl,g] at gb;cases gb;rw[s7 hf];exact acY _ hg hf
  ·rw[if_neg mD] at gb
   exact(hs.2 b mD).trans (R.get b x hb gb)
theorem dP.alloc{t:aaH}{s:ZL}(R:dP t s){o:Obj}(h:((t.tree.ins t.n o).get t.n).isSome=true)(hf:o.isFreed=false):
 dP {t with tree:=t.tree.ins t.n o,n:=t.n+1} {s with heap:=s.heap.push o}:=by
 refine⟨by rw[abS,R.size],fun b x hb gb=> ?_,R.gens,R.drawn,R.toks,R.os⟩
 replace gb:(t.tree.ins t.n o).get b=some x:=gb
 replace hb:b<t.n+1:=hb;show(s.heap.push o).get? b=alive x
 rw[BT.get_ins o _ _ h] at gb
 by_cases cL:b=t.n
 ·subst cL
  rw[if_pos rfl] at gb;cases gb;rw[s7 hf,<-R.size];exact aai _ hf
 ·rw[if_neg cL] at gb
  have:=R.get b x (by exact(aa8 cL).elim (fun x2=>x2) (fun x2=> "<A+B1<BA:0<AB" hb x2)) gb;rw[<-this];exact Heap.get?_push_ne _ _ _ (by rw[R.size];exact cL)
noncomputable def Ea(M:Model)(cf:Ctx->Pos->aaH->Option (adE×aaH)):Prop:=
 ∀Γ p t r t',cf Γ p t=some (r,t')-> ∀s,dP t s-> ∀R:adE->ZL->Prop,(∀s',dP t' s'->R r s')->wpCode M Γ R p s
noncomputable def FT{α:Type}(r:Except ZN α)(Q:α->Pos->ZL->Prop)(E:ZN->Pos->ZL->Prop)(p:Pos)(t:aaH):Prop:=
 match r with
 | .ok a=> ∀s',dP t s'->Q a p s'
 | .error e=> ∀s',dP t s'->E e p s'
set_option tactic.hygienic true in
theorem Ai{M:Model}{α:Type}{cf:Ctx->Pos->aaH->Option (adE×aaH)}(hc:Ea M cf): ∀(tr:Sem α) (Γ:Ctx) (p:Pos) (t:aaH) (r:Except ZN α) (p':Pos) (t':aaH),
 dQ M.prog M.w cf tr Γ p t=some (r,p',t')-> ∀s,dP t s-> ∀(Q:α->Pos->ZL->Prop) (E:ZN->Pos->ZL->Prop),FT r Q E p' t'->aby M Γ tr Q E p s:=by
 intro tr
 induction tr with
 |pure a=>intro Γ p t r p' t' h s R Q E q;(replace h:some _=some _:=h);simp only[adF,Prod.mk.injEq] at h;obtain⟨rfl,rfl,rfl⟩:=h;simpa [aby] using q s R
 |raise e=>intro Γ p t r p' t' h s R Q E q;(replace h:some _=some _:=h);simp only[adF,Prod.mk.injEq] at h;obtain⟨rfl,rfl,rfl⟩:=h;simpa [aby] using q s R
 |rule tag k ih=>intro Γ p t r p' t' h s R Q E q;simp only[aby];exact ih () Γ p t r p' t' h s R Q E q
 |«at» W3 k ih=>intro Γ p t r p' t' h s R Q E q;simp only[aby];exact ih () Γ W3 t r p' t' h s R Q E q
 |point l k ih=>intro Γ p t r p' t' h s R Q E q;simp only[aby];exact ih () Γ p t r p' t' h s R Q E q
 |load a part k ih=>
  intro Γ p t r p' t' h s R Q E q;rw[OL] at h;split at h
  ·rename_i aV
   split at h
   ·rename_i o ho
    split at h
    ·rename_i o' eu
     simp only[aby];exact⟨o',(R.get a o (aca aV) ho).trans eu,ih o' Γ p t r p' t' h s R Q E q⟩
    ·cases h
   ·cases h
  ·cases h
 |update a part f k ih=>
  intro Γ p t r p' t' h s R Q E q;rw[ON] at h;split at h
  ·rename_i aV
   split at h
   ·rename_i o ho
    split at h
    ·rename_i o' eu
     split at h
     ·rename_i hf
      simp only[aby];have U:=R.update (aca aV) ho eu hf;exact⟨U.1,ih () Γ p _ r p' t' h _ U.2 Q E q⟩
     ·cases h
    ·cases h
   ·cases h
  ·cases h
 |alloc o k ih=>
  intro Γ p t r p' t' h s R Q E q;rw[OJ] at h;split at h
  ·rename_i hs
   split at h
   ·rename_i hf
    simp only[aby];rw[R.size];exact ih _ Γ p _ r p' t' h _ (R.alloc hs hf) Q E q
   ·cases h
  ·cases h
 |loadIfAlive a k ih=>
  intro Γ p t r p' t' h s R Q E q;rw[OM] at h;simp only[aby];split at h
  ·rename_i aV
   split at h
   ·rename_i o ho
    rw[R.get a o (aca aV) ho];exact ih _ Γ p t r p' t' h s R Q E q
   ·cases h
  ·cases h
 |fresh k ih=>intro Γ p t r p' t' h s R Q E q;simp only[aby];rw[R.toks];exact ih _ Γ p {t with toks:=t.toks+1} r p' t' h {s with toks:=t.toks+1} ⟨R.size,R.get,R.gens,R.drawn,rfl,R.os⟩ Q E q
 |ask k ih=>intro Γ p t r p' t' h s R Q E q;simp only[aby];exact ih _ Γ p t r p' t' h s R Q E q
 |call c hd g l k ih=>
  intro Γ p t r p' t' h s R Q E q;rw[OK] at h;simp only[aby];split at h
  ·rename_i aA lY Bt
   exact hc _ _ _ _ _ Bt s R _ fun s₁ nj=>ih aA Γ p lY r p' t' h s₁ nj Q E q
  ·cases h
 |handled own k ih=>
  intro Γ p t r p' t' h s R Q E q;simp only[aby];cases own<;>exact ih _ Γ p t r p' t' h s R Q E q
 |stack k ih=>intro Γ p t r p' t' h s R Q E q;simp only[aby];exact ih _ Γ p t r p' t' h s R Q E q
 |_=>intro Γ p t r p' t' h;replace h:(none:Option (Except ZN _×Pos×aaH))=some _:=h;cases h
theorem FY{M:Model}: ∀n,Ea M (iI M.den M.prog M.w n):=by
 intro n
 induction n with
 |zero=>exact fun Γ p t r t' h=>fM h
 |succ n ih=>
  intro Γ p t r t' h s R₀ R hR;rw[wpCode_iff_wp];have h:FZ (iI M.den M.prog M.w n) Γ (dQ M.prog M.w (iI M.den M.prog M.w n) (M.den Γ.code) Γ p t)=some (r,t'):=h;cases e:dQ M.prog M.w (iI M.den M.prog M.w n) (M.den Γ.code) Γ p t with
  |none=>rw[e] at h;exact fM h
  |some y=>
   obtain⟨a,Dp,lY⟩:=y;rw[e] at h;refine Ai ih _ _ _ _ _ _ _ e s R₀ _ _ ?_;cases a with
   |error x=>cases gR h;exact hR
   |ok a=>cases a with
    |done f=>cases gR h;exact hR
    |again c=>
     have h:(bif sk c then iI M.den M.prog M.w n (Γ.goto c) Dp lY else none)=some (r,t'):=h;cases hq:sk c with
     |false=>rw[hq] at h;exact fM h
     |true=>rw[hq] at h;exact fun s₁ nj=>⟨W4 hq,ih _ _ _ _ _ h s₁ nj R hR⟩
end
variable{prog:Program}
variable{A:aaj}
variable{s:ZL}
section
variable {E:ZN->ZL->Prop}
noncomputable abbrev IK(prog:Program)(w:Z2):=intKind prog w
theorem Ou{d:Addr}{kvs:List (Int×ZN)}{k:Int}{t:Tok}{v:ZN}{Q:Unit->ZL->Prop}(hm:s.heap.DictOf (IK prog w) d kvs)(hf:k∉kvs.map (·.1))
 (hQ: ∀h',h'.DictOf (IK prog w) d (kvs++[(k,v)])->abp d s.heap h'->Q () {s with heap:=h'})
 (hsz:kvs.length<=Z7):
 Z6 (Z8 prog w) A (dictPut d (hashInt k) (.int k t) v) Q E s:=by
 refine gz fun zq zk=> ?_
 obtain⟨o,es,ep,ho,hc,hd,hk,hp,hn⟩:=hm;refine zk ?_;have RI:es.size<=sizeLine:=by
  have e1:=hp.length;have e2:es.toList.length=es.size:=by simp
  exact "[AB=CA;1=CD[DB" hsz e1 e2
 have pJ:(IK prog w).is k (.int k t)=true:=adW prog w k t;unfold dictPut;refine ZO (wpAny_dictFind_of (knd:=IK prog w) pJ ho hd hk ?_);have BI:(es.findIdx? fun e=>(IK prog w).is k e.key)=kvs.findIdx? fun kv=>decide (kv.1=k):=by
  rw[<-hp.findIdx k];obtain⟨l⟩:=es;simp
 cases hi:es.findIdx? fun e=>(IK prog w).is k e.key with
 |some i=>
  exfalso;have:=any_of_findIdx_some (BI▸hi);rw[List.any_eq_true] at this;obtain⟨kv,mK,he⟩:=this;exact hf (Z1.mpr ⟨kv,mK,of_decide_eq_true he⟩)
 |none=>
  refine wpAny_updateDictKeys (hz:=RI) ho hd (hQ _ ⟨_,_,ep+1,acY _ ho (Obj.isFreed_of_dict (Obj.data_mapDictKeys hd _)),
   hc.mapDictKeys _,Obj.data_mapDictKeys hd _,hk.push pJ _,?_,?_⟩ (acP ..))
  ·have:=hp.append pJ (hashInt k) v
   obtain⟨l⟩:=es
   simpa using this
  ·rw[aaA,aec]
   refine⟨hn,by simp,?_⟩;intro a ha b hb;simp only[aah,List.map_nil,Z4] at hb;subst hb;exact fun e=>hf (e▸ha)
theorem T8{a:Addr}{kvs:List (Int×ZN)}{Q:Bool->ZL->Prop}(hm:s.heap.DictOf (IK prog w) a kvs)(h:Q true s):Z6 (Z8 prog w) A (isInstance (.ref a) (.type "dict")) Q E s:=by
 refine gz fun zq zk=> ?_
 obtain⟨o,es,ep,ho,hc,_⟩:=hm;refine zk ?_;unfold isInstance typeOf;refine ZO (ZO (wpAny_loadPart ho (ZS ?_)));rw[hc.1];have e:isSubtype (.type "dict") (.type "dict")=pure true:=by rfl
 rw[e];exact ZS h
theorem XH{a:Addr}{kvs:List (Int×ZN)}{Q:Option ZN->ZL->Prop}(hm:s.heap.DictOf (IK prog w) a kvs)(h:Q (some (.builtin "dict.__iter__")) s):Z6 (Z8 prog w) A (specialOf (.ref a) "__iter__") Q E s:=by
 refine gz fun zq zk=> ?_
 obtain⟨o,es,ep,ho,hc,_⟩:=hm;refine zk ?_;unfold specialOf typeOf;refine ZO (ZO (wpAny_loadPart ho (ZS ?_)));rw[hc.1,adX,acZ];rw[show fastLookup "dict" "__iter__" =some (some (.builtin "dict.__iter__")) by decide+kernel];exact ZS h
theorem WC{K:KeyKind prog w Int}{es:List abG}{kvs:List (Int×ZN)}(hp:Pairs K es kvs): ∀(j:Nat) (e:abG),es[j]?=some e-> ∃kv:Int×ZN,kvs[j]?=some kv/\K.is kv.1 e.key=true/\e.val=kv.2:=by
 induction hp with
 |nil=>intro j e h;cases h
 |cons h1 h2 _ ih=>
  intro j e h;cases j with
  |zero=>obtain rfl:=abM h;exact⟨_,rfl,h1,h2⟩
  |succ j=>exact ih j e h
theorem Vz{d a:Addr}{kvs more:List (Int×ZN)}{Q:Unit->ZL->Prop}(Rr:d≠a)(Rc:(a==acI)=false)
 (hd:s.heap.DictOf (IK prog w) d kvs) (ha:s.heap.DictOf (IK prog w) a more) (bC:kvs≠[]) (eR:((kvs++more).map (·.1)).Nodup)
 (hQ: ∀h',h'.DictOf (IK prog w) d (kvs++more)->abp d s.heap h'->Q () {s with heap:=h'})
 (hsz:kvs.length+more.length<=Z7):
 Z6 (Z8 prog w) A (mergeMapping d (.ref a) false) Q E s:=by
 refine gz fun zq zk=> ?_
 obtain⟨od,Ah,Zj,B7,mF,Rt,BM,SJ,Zx⟩:=id hd;obtain⟨oo,iH,Zk,Cb,Zq,xm,R9,rL,jk⟩:=id ha;refine zk ?_;have hlen:more.length=iH.size:=by rw[<-rL.length];simp
 have Sf:kvs.length=Ah.size:=by rw[<-SJ.length];simp
 have xB:Ah.isEmpty=false:=by
  cases q:Ah.isEmpty with
  |false=>rfl
  |true=>
   exfalso;rw[Array.isEmpty_iff_size_eq_zero] at q;exact bC (aeX.mp (Sf.trans q))
 unfold mergeMapping;refine ZO (m:=isInstance (.ref a) (.type "dict")) (T8 ha ?_);refine wpAny_ite_true rfl ?_;refine ZO (m:=specialOf (.ref a) "__iter__") (XH ha ?_);refine ZO (ZS ?_);refine ady (by rw[Rc];rfl) ?_;refine ZO (aed B7 Rt ?_);refine ady (by rw[xB];rfl) ?_;refine ZO (aed Cb xm ?_);refine ZO (wpAny_dictEpoch Cb xm ?_);refine ZO ?_;refine wpAny_forIn_list _
  (fun rest z s'=> ∃h' i,s'={s with heap:=h'}/\rest=List.range' i (iH.size -i)/\i<=iH.size/\h'.DictOf (IK prog w) d (kvs++more.take i)/\h'.get? a=some oo/\abp d s.heap h')
  _ ?_ ?_ _ _ ⟨s.heap,0,rfl,by simp[List.range_eq_range'],aav _,by simpa using hd,Cb,aee _ _⟩
 ·rintro j rest _ s' ⟨h',i,rfl,hr,hi,cG,eu,fG⟩
  have aV:i<iH.size:=by
   rcases Nat.lt_or_ge i iH.size with h|h
   ·exact h
   ·rw[Nat.sub_eq_zero_of_le h] at hr;cases hr
  rw[show iH.size -i=(iH.size -i -1)+1 by exact Z5 (";1=+A1B[B+A1" (ZM ("<AB;1=+CAB[1C" aV (ZM (hi))))) ("=+A1B[+A1B" (ZM ("<AB;1=+CAB[1C" aV (ZM (hi))))),List.range'_succ] at hr;injection hr with hj uh
  subst hj uh;refine ZO (aed (s:={s with heap:=h'}) eu xm ?_);have xt:iH[j]?=some iH[j]:=acw aV;rw[xt];dsimp only;have nR:j<more.length:=hlen▸aV;refine gz fun zq zk=> ?_
  obtain⟨k,iN,gC⟩:=R9 iH[j] (Array.getElem_mem aV);have hm:more[j]?=some more[j]:=aaT nR;obtain⟨kv,mK,Ik,uo⟩:=WC rL j _ (show iH.toList[j]?=some iH[j] by simpa using xt);have R6:k=kv.1:=(IK prog w).inj _ _ _ iN Ik;subst R6;obtain⟨t,ht⟩:=Value.isInt_shape Ik;refine zk ?_;have RP:kv.1∉(kvs++more.take j).map (·.1):=by
   intro fT;have e:kvs++more=(kvs++more.take j)++(kv::more.drop (j+1)):=by
    rw[List.append_assoc]
    congr 1
    have:more.drop j=kv::more.drop (j+1):=by
     have hx:=aeJ nR;rw[hx];rw[aaT nR] at mK;rw[abM mK]
    rw[<-this,adz]
   rw[e,aaA,aec] at eR;exact eR.2.2 _ fT kv.1 (by simp) rfl
  refine ZO (aaV ?_);rw[gC,ht];refine Ou (s:={s with heap:=h'}) cG RP (fun dJ Rq IX=> ?_) (by rw[aap,aaU];exact "[+ABC;1=BD[ED=FE[+AFC" hsz hlen hi (abB (";1=AB[CB[CA" hlen hi)));have II:dJ.get? a=some oo:=(IX.2 a (Ne.symm Rr)).trans eu;refine ZO (wpAny_dictEpoch (s:={s with heap:=dJ}) II xm ?_);simp only[bne_self_eq_false,abU,if_false];refine ZS ⟨dJ,j+1,rfl,by congr 1,aV,?_,II,fG.trans IX⟩
  have:more.take (j+1)=more.take j++[(kv.1,iH[j].val)]:=by
   rw[List.take_succ,mK,uo];rfl
  rw[this,<-List.append_assoc];exact Rq
 ·rintro _ s' ⟨h',i,rfl,hr,hi,cG,eu,fG⟩
  have:i=iH.size:=by
   have:=congrArg List.length hr;simp at this;exact Z5 (hi) (";1=0A;1=+ABC[CB" this (ZM (hi)))
  subst this;rw[<-hlen,adj] at cG;exact ZS (hQ h' cG fG)
end
noncomputable def sv(v:ZN):Option Str:=match v with| .str x _=>some x|_=>none
noncomputable def cC(ps:List (Int×Str))(kvs:List (Int×ZN)):Prop:=kvs.map (fun kv=>(kv.1,sv kv.2))=ps.map (fun p=>(p.1,some p.2))
theorem cC.keys{ps:List (Int×Str)}{kvs:List (Int×ZN)}(h:cC ps kvs):kvs.map (·.1)=ps.map (·.1):=by
 have:=congrArg (List.map (·.1)) h
 simpa [aaf,aaF] using this
theorem cC.append{ps qs:List (Int×Str)}{kvs uG:List (Int×ZN)}(h:cC ps kvs)(h':cC qs uG):cC (ps++qs) (kvs++uG):=by
 unfold cC at*;rw[aaA,aaA,h,h']
theorem cC.length{ps:List (Int×Str)}{kvs:List (Int×ZN)}(h:cC ps kvs):kvs.length=ps.length:=by
 have:=congrArg List.length h.keys;simpa using this
noncomputable def tr(pos:Pos)(p:Int×Str):Sem ZN×Sem Value:=(mkInt p.1,do let x<-mkText p.2;ac9 pos;pure x)
section
variable {E:ZN->ZL->Prop}
theorem XO{kvs:List (Int×ZN)}{k:Int}{v:ZN}(h:k∉kvs.map (·.1)):stored kvs k v=kvs++[(k,v)]:=by
 unfold stored;rw[if_neg];rw[List.any_eq_true]
 rintro⟨kv,mK,he⟩;exact h (Z1.mpr ⟨kv,mK,of_decide_eq_true he⟩)
theorem DP{pos:Pos}{p:Int×Str}{Q:ZN->ZL->Prop}(h:Q (.int p.1 s.toks) {s with toks:=s.toks+1}):Z6 (Z8 prog w) A (tr pos p).1 Q E s:=wpAny_mkInt h
theorem DQ{pos:Pos}{p:Int×Str}{Q:ZN->ZL->Prop}(h:Q (.str p.2 s.toks) {s with toks:=s.toks+1}):Z6 (Z8 prog w) A (tr pos p).2 Q E s:=
 ZO (wpAny_mkText (ZO (aaM (ZS h))))
theorem XS{v:ZN}{x:Str}(h:sv v=some x): ∃t,v= .str x t:=by
 unfold sv at h;cases v with
 |str y t=>cases h;exact⟨t,rfl⟩
 |_=>cases h
noncomputable def iv(v:ZN):Option Int:=match v with| .int k _=>some k|_=>none
theorem Ur{v:ZN}{k:Int}(h:iv v=some k): ∃t,v= .int k t:=by
 unfold iv at h;cases v with
 |int y t=>cases h;exact⟨t,rfl⟩
 |_=>cases h
noncomputable def Jp(v:ZN×ZN):Option Int×Option Str:=(iv v.1,sv v.2)
theorem O5{pos:Pos}: ∀(qs:List (Int×Str)) (s:ZL) (Q:List (ZN×ZN)->ZL->Prop),
 (∀vs t',vs.map Jp=qs.map (fun p=>(some p.1,some p.2))->Q vs {s with toks:=t'})->
 Z6 (Z8 prog w) A (evalPairs (qs.map (tr pos))) Q E s:=by
 intro rr
 induction rr with
 |nil=>
  exact fun s Q h=>evalPairs_nil (h [] s.toks rfl)
 |cons p r ih=>
  exact fun s Q h=>by
   rw[aah];refine evalPairs_cons (DP (pos:=pos) (DQ (pos:=pos) ?_));refine ih _ _ fun vs t' hv=> ?_
   exact h _ t' (by rw[aah,hv];rfl)
theorem DD{d:Addr}{kvs:List (Int×ZN)}{k:Int}{t:Tok}{v:ZN}{Q:Unit->ZL->Prop}(hm:s.heap.DictOf (IK prog w) d kvs)(hf:k∉kvs.map (·.1))(hsz:kvs.length<=Z7)
 (hQ: ∀h',h'.DictOf (IK prog w) d (kvs++[(k,v)])->abp d s.heap h'->Q () {s with heap:=h',toks:=s.toks+1}):Z6 (Z8 prog w) A (dictSet d (.int k t) v) Q E s:=
 wpAny_dictSet_pairs (adW prog w k t) hm (fun h' a b=>hQ h' (XO hf▸a) b) hsz
theorem AL{P:List (Int×Str)}{p:Int×Str}{r:List (Int×Str)}{kvs:List (Int×ZN)}(h:cC P kvs)(hn:((P++p::r).map (·.1)).Nodup):p.1∉kvs.map (·.1):=by
 rw[h.keys];intro hm;rw[aaA,aec] at hn;exact hn.2.2 _ hm p.1 (by simp) rfl
theorem XK{d:Addr}{Q:PUnit->ZL->Prop}(vs:List (ZN×ZN)): ∀(qs P:List (Int×Str)) (kvs:List (Int×ZN)) (s:ZL),
 vs.map Jp=qs.map (fun p=>(some p.1,some p.2))->((P++qs).map (·.1)).Nodup->cC P kvs->s.heap.DictOf (IK prog w) d kvs->(P++qs).length<=Z7->
 (∀h' t' kQ,cC (P++qs) kQ->h'.DictOf (IK prog w) d kQ->abp d s.heap h'->Q adY {s with heap:=h',toks:=t'})->
 Z6 (Z8 prog w) A (forIn vs adY fun(x:ZN×ZN) (_:PUnit)=>(do dictSet d x.1 x.2;pure (abN adY):Sem (ForInStep PUnit))) Q E s:=by
 induction vs with
 |nil=>
  intro qs P kvs s h _ hc hd _ hQ;cases qs with
  |nil=>
   rw[adK];rw[adZ] at hQ;exact ZS (hQ s.heap s.toks kvs hc hd (aee ..))
  |cons=>exact absurd h.symm (ael _ _)
 |cons v vs ih=>
  intro qs P kvs s h hn hc hd hl hQ;cases qs with
  |nil=>exact absurd h (ael _ _)
  |cons p qs=>
   obtain⟨a,b⟩:=v;have h:=List.cons.inj h;obtain⟨t,rfl⟩:=Ur (congrArg Prod.fst h.1:iv a=some p.1);obtain⟨u,rfl⟩:=XS (congrArg Prod.snd h.1:sv b=some p.2);rw[ad0];refine ZO (ZO (DD hd (AL hc hn) (by rw[aap] at hl;exact "[+ABC=DA[DC" hl hc.length) fun h' cG hs=>ZS ?_));rw[List.append_cons] at hn hl hQ
   exact ih qs (P++[p]) (kvs++[(p.1, .str p.2 u)]) {s with heap:=h',toks:=s.toks+1} h.2 hn (hc.append (show cC [p] [(p.1, .str p.2 u)] from rfl)) cG hl
    fun dJ lj uA c d' sb=>hQ dJ lj uA c d' (hs.trans sb)
theorem XM{pos:Pos}{d:Addr}: ∀(qs P:List (Int×Str)) (kvs:List (Int×ZN)) (s:ZL) (Q:PUnit->ZL->Prop),
 ((P++qs).map (·.1)).Nodup->cC P kvs->s.heap.DictOf (IK prog w) d kvs->(P++qs).length<=Z7->
 (∀h' t' kQ,cC (P++qs) kQ->h'.DictOf (IK prog w) d kQ->abp d s.heap h'->Q adY {s with heap:=h',toks:=t'})->
 Z6 (Z8 prog w) A (forIn (qs.map (tr pos)) adY fun(x:Sem ZN×Sem ZN) (_:PUnit)=>(do
  let kv<-x.1
  let vv<-acA [kv] x.2
  acA [kv,vv] (dictSet d kv vv)
  pure (abN adY):Sem (ForInStep PUnit))) Q E s:=by
 intro rr
 induction rr with
 |nil=>
  exact fun P kvs s Q z hc hd z hQ=>by
   rw[List.map_nil,adK];exact ZS (hQ s.heap s.toks kvs (by simpa using hc) hd (aee ..))
 |cons p qs ih=>
  exact fun P kvs s Q hn hc hd hl hQ=>by
   have gE:kvs.length=P.length:=hc.length;have hsz:kvs.length<=sizeLine:=by rw[aap] at hl;exact "[+ABC=DA[DC" hl gE
   rw[aah,ad0];refine ZO (ZO (DP (ZO (aaV (DQ (ZO (aaV (DD hd (AL hc hn) hsz fun h' cG hs=>ZS ?_))))))));rw[List.append_cons] at hn hl hQ;exact ih (P++[p]) (kvs++[(p.1, .str p.2 _)]) {s with heap:=h',toks:=s.toks+1+1+1} Q hn (hc.append (show cC [p] [(p.1, .str p.2 _)] from rfl)) cG hl
    fun dJ lj uA c d' sb=>hQ dJ lj uA c d' (hs.trans sb)
theorem KC{pos:Pos}{qs:List (Int×Str)}{Q:Addr->ZL->Prop}(hn:(qs.map (·.1)).Nodup)(hl:qs.length<=Z7)
 (hQ: ∀h' t' kvs,cC qs kvs->h'.DictOf (IK prog w) s.heap.objs.size kvs->h'.objs.size=s.heap.objs.size+1->(∀b o,s.heap.get? b=some o->h'.get? b=some o)->Q s.heap.objs.size {s with heap:=h',toks:=t'}):
 Z6 (Z8 prog w) A (subDict (qs.map (tr pos))) Q E s:=by
 unfold subDict;refine ZO (wpAny_alloc ?_);have cw:(s.heap.push {cls:= .type "dict",data:= .dict #[]}).DictOf (IK prog w) s.heap.objs.size []:=Heap.DictOf.new ..;have keep: ∀h',abp s.heap.objs.size (s.heap.push {cls:= .type "dict",data:= .dict #[]}) h'->h'.objs.size=s.heap.objs.size+1/\(∀b o,s.heap.get? b=some o->h'.get? b=some o):=
  fun h' hs=>⟨by rw[hs.1,abS],fun b o e=>(hs.2 b (abV (aa1 e))).trans (Z9 _ e)⟩
 refine ZO (aaV ?_);split
 ·refine ZO (O5 qs _ _ fun vs t' hv=>aaV ?_)
  refine ZO (XK vs qs [] [] _ hv (by simpa using hn) rfl cw (by simpa using hl) fun h' lj kvs hc hd hs=>ZS (ZS ?_));exact hQ h' lj kvs (by simpa using hc) hd (keep h' hs).1 (keep h' hs).2
 ·refine ZO (wpAny_rule ?_)
  refine ZO (XM qs [] [] _ _ (by simpa using hn) rfl cw (by simpa using hl) fun h' lj kvs hc hd hs=>ZS (ZS ?_));exact hQ h' lj kvs (by simpa using hc) hd (keep h' hs).1 (keep h' hs).2
end
section
variable {E:ZN->ZL->Prop}
noncomputable def jD(pos:Pos)(p:Int×Str):Option (Sem ZN)×Sem Value:=(some (tr pos p).1,(tr pos p).2)
noncomputable def pk(main:Option Addr)(run:List (Sem ZN×Sem ZN)):Sem (Option Addr):=
 if run.isEmpty=true then pure main
 else match main with
  |none=>do
   let d<-subDict run
   pure (some d)
  |some d=>do
   let sub<-acA [adf d] (subDict run)
   (acA [adf d,adf sub] (mergeMapping d (adf sub) false)).onRaise fun x=>do
    let _<-acA [adf d,x] (runValue (Code.builtin "proto.let_go" {}))
    pure ()
   pure (some d)
noncomputable def oG(h:Heap)(a:Addr):Prop:= ∃es n,h.get? a=some {cls:= .type "dict",dict:=none,data:= .dict es n,slots:= #[]}
theorem Cx{h:Heap}{a:Addr}{kvs:List (Int×ZN)}(x:h.DictOf (IK prog w) a kvs):oG h a:=by
 obtain⟨⟨c,d,dt,sl⟩,es,n,ho,⟨h1,h2,h3⟩,hd,_⟩:=x;dsimp only at h1 h2 h3 hd;subst h1 h2 h3 hd;exact⟨es,n,ho⟩
structure vy(prog:Program)(w:Z2)(s:ZL)(done:List (Int×Str))(main:Option Addr)(s':ZL):Prop where
 same: ∃h' t',s'={s with heap:=h',toks:=t'}
 keep: ∀b o,s.heap.get? b=some o->s'.heap.get? b=some o
 dicts: ∀a,s.heap.objs.size<=a->a<s'.heap.objs.size->oG s'.heap a
 is:(done=[]/\main=none/\s'.heap.objs.size=s.heap.objs.size)\/
  (done≠[]/\main=some s.heap.objs.size/\s'.heap.objs.size=s.heap.objs.size+(done.length+16)/17/\ ∃kvs,cC done kvs/\s'.heap.DictOf (IK prog w) s.heap.objs.size kvs)
theorem GS{s₀:ZL}{pos:Pos}{done pend:List (Int×Str)}{main:Option Addr}{Q:Option Addr->ZL->Prop}(hI:vy prog w s₀ done main s)(hp:pend≠[])(hd:done.length % 17=0)(dM:pend.length<=17)
 (hn:((done++pend).map (·.1)).Nodup) (hl:(done++pend).length<=Z7) (hS:acI<s₀.heap.objs.size)
 (hQ: ∀m s',vy prog w s₀ (done++pend) m s'->Q m s'):Z6 (Z8 prog w) A (pk main (pend.map (tr pos))) Q E s:=by
 have jn:0<pend.length:=acu.mpr hp;have RH:(pend.map (tr pos)).isEmpty=false:=by cases pend with
  |nil=>exact absurd rfl hp
  |cons _ _=>rfl
 have IG:(pend.map (·.1)).Nodup:=by rw[aaA,aec] at hn;exact hn.2.1
 have rH:pend.length<=sizeLine:=by rw[aap] at hl;exact ZW ‹_› (by decide)
 unfold pk;rw[RH];simp only[abU,if_false];obtain⟨⟨eU,lY,rfl⟩,keep,dicts,is⟩:=hI;dsimp only at keep dicts is;rcases is with⟨rfl,rfl,hsz⟩|⟨bC,rfl,hsz,kvs,hc,hD⟩
 ·dsimp only
  refine ZO (KC IG rH fun h' t' kvs hc hD hz hk=>ZS (hQ _ _ ⟨⟨h',t',rfl⟩,fun b o e=>hk b o (keep b o e),?_, .inr ⟨by simpa using hp,?_,?_,kvs,by simpa using hc,?_⟩⟩))
  ·intro a h1 h2
   have eT:h'.objs.size=eU.objs.size+1:=hz;have tN:a<h'.objs.size:=h2;have:a=eU.objs.size:=by rw[hsz] at eT⊢;exact Z5 ("=AB=C+A1<DC[DB" hsz hz h2) (h1)
   subst this;exact Cx hD
  ·show some eU.objs.size=_;rw[hsz]
  ·show h'.objs.size=_
   rw[hz];show eU.objs.size+1=_;rw[hsz];simp only[List.nil_append];exact Z5 ("<0A;1=+*17BC+A16<C17:17[+D1+DB" jn (aan _ _) (aaR _ (by decide))) ("[A17=+*17BC+A16:17[+DB+D1" dM (aan _ _))
  ·show h'.DictOf _ _ _
   have:h'.DictOf (IK prog w) eU.objs.size kvs:=hD
   rwa [hsz] at this
 ·dsimp only
  refine ZO (aaV (KC IG rH fun h' t' kQ rD xc hz hk=> ?_));have Sv:s₀.heap.objs.size≠eU.objs.size:=by rw[hsz];have:0<done.length:=acu.mpr bC;exact "<0A;1=+*17BC+A16<C17;17!=D+DB" this (aan _ _) (aaR _ (by decide))
  have Q7:(eU.objs.size==acI)=false:=beq_eq_false_iff_ne.mpr (acj (aaa hS (ZW (adM _ _) (Nat.le_of_eq hsz.symm))));have R5:((kvs++kQ).map (·.1)).Nodup:=by
   rw[aaA,hc.keys,rD.keys,<-aaA];exact hn
  refine ZO (wpAny_onRaise (aaV (Vz (s:={s₀ with heap:=h',toks:=t'}) Sv Q7 (hD.keep hk) xc (fun e=>bC ?_) R5 (fun dJ HC xI=>ZS (hQ _ _ ⟨⟨dJ,t',rfl⟩,?_,?_, .inr ⟨?_,rfl,?_,_,hc.append rD,HC⟩⟩)) ?_)))
  ·have:=hc.length;rw[e] at this;exact aeX.mp this.symm
  ·intro b o e
   have e1:=keep b o e;have e2:=hk b o e1;show dJ.get? b=some o
   rw[xI.2 b (abV (aa1 e))];exact e2
  ·intro a h1 h2
   show oG dJ a
   have tN:a<dJ.objs.size:=h2;rw[xI.1] at tN;have eT:h'.objs.size=eU.objs.size+1:=hz
   by_cases e:a=s₀.heap.objs.size
   ·subst e;exact Cx HC
   ·obtain⟨es,n,g⟩:oG h' a:=by
     by_cases e2:a=eU.objs.size
     ·subst e2;exact Cx xc
     ·obtain⟨es,n,g⟩:=dicts a h1 (by show a<eU.objs.size;replace tN:a<h'.objs.size:=tN;exact(aa8 e2).elim (fun x5=>x5) (fun x5=> "=A+B1<CA<BC:0<CB" hz tN x5))
      exact⟨es,n,hk a _ g⟩
    exact⟨es,n,(xI.2 a e).trans g⟩
  ·simpa using fun q=>absurd q bC
  ·show dJ.objs.size=_
   rw[xI.1];show h'.objs.size=_;rw[hz];show eU.objs.size+1=_;rw[hsz,aap];lia
  ·rw[hc.length,rD.length,<-aap];exact hl
set_option tactic.hygienic true in
theorem Ov{pos:Pos}{qs:List (Int×Str)}{Q:ZN->ZL->Prop}(hn:(qs.map (·.1)).Nodup)(hl:qs.length<=Z7)(h0:qs≠[])(hS:acI<s.heap.objs.size)
 (hQ: ∀h' t' kvs,cC qs kvs->h'.DictOf (IK prog w) s.heap.objs.size kvs->h'.objs.size=s.heap.objs.size+(qs.length+16)/17->(∀b o,s.heap.get? b=some o->h'.get? b=some o)->(∀a,s.heap.objs.size<=a->a<h'.objs.size->oG h' a)->Q (.ref s.heap.objs.size) {s with heap:=h',toks:=t'}):
 Z6 (Z8 prog w) A (dictDisplay (qs.map (jD pos))) Q E s:=by
 unfold dictDisplay;dsimp only;refine ZO ?_;refine wpAny_forIn_list _ (fun rest b s'=> ∃done pend d7,qs=done++pend++d7/\rest=d7.map (jD pos)/\b.2=pend.map (tr pos)/\pend.length<17/\done.length % 17=0/\vy prog w s done b.1 s') _ ?_ ?_ _ _
  ⟨[],[],qs,rfl,rfl,rfl,by decide,rfl,⟨⟨s.heap,s.toks,rfl⟩,fun z z e=>e,fun a h1 h2=>absurd h2 (adV.mpr h1), .inl ⟨rfl,rfl,rfl⟩⟩⟩
 ·rintro x rest ⟨main,run⟩ s' ⟨done,pend,d7,ik,hr,hb,dM,nM,hI⟩
  cases d7 with
  |nil=>simp at hr
  |cons p d7=>
   rw[aah] at hr;injection hr with hx uh
   subst hx uh;dsimp only at hb hI⊢;subst hb;have ui:(pend.map (tr pos))++[((tr pos p).1,(jD pos p).2)]=(pend++[p]).map (tr pos):=by rw[aaA];rfl
   show Z6 _ _ (if((pend.map (tr pos)++[((tr pos p).1,(jD pos p).2)]).length==17)=true then(do
    let main<-pk main (pend.map (tr pos)++[((tr pos p).1,(jD pos p).2)])
    pure (abN (main,[]))) else pure (abN (main,pend.map (tr pos)++[((tr pos p).1,(jD pos p).2)]))) _ _ _
   rw[ui];have e:qs=done++(pend++[p])++d7:=by rw[ik];simp
   have mN:((done++(pend++[p])).map (·.1)).Nodup:=by rw[e,aaA,aec] at hn;exact hn.1
   have iO:(done++(pend++[p])).length<=sizeLine:=by rw[e,aap] at hl;exact ZW (adM _ _) ‹_›
   split
   ·rename_i AX
    have tM:(pend++[p]).length=17:=by simpa using AX
    refine ZO (GS hI (by simp) nM (by simp[*]) mN iO hS fun m s'' Bg=>ZS ?_);exact⟨done++(pend++[p]),[],d7,by rw[e];simp,rfl,rfl,by decide,by rw[aap,tM];(simp at*;omega),Bg⟩
   ·rename_i AX
    have tM:(pend++[p]).length≠17:=by simpa using AX
    rw[aap] at tM;simp only[aaY,List.length_nil] at tM;exact ZS ⟨done,pend++[p],d7,e,rfl,rfl,by simp;exact(aa8 tM).elim (fun x2=>x2) (fun x2=> "<A17<17+A1:0<+A1_17" dM x2),nM,hI⟩
 ·rintro⟨main,run⟩ s' ⟨done,pend,d7,ik,hr,hb,dM,nM,hI⟩
  have:d7=[]:=by
   cases d7 with
   |nil=>rfl
   |cons _ _=>simp at hr
  subst this;rw[adZ] at ik;dsimp only at hb hI⊢;subst hb;have fin: ∀m s'',vy prog w s qs m s''->Z6 (Z8 prog w) A (match m with
   |some d=>pure (adf d)
   |none=>newDict) Q E s'':=by
   rintro m s'' ⟨⟨h',t',rfl⟩,keep,dicts,is⟩;rcases is with⟨q,_⟩|⟨_,rfl,hz,kvs,hc,hD⟩
   ·exact absurd q h0
   ·exact ZS (hQ h' t' kvs hc hD hz keep dicts)
  show Z6 _ _ (do
   let m<-pk main (pend.map (tr pos))
   match m with
    |some d=>pure (adf d)
    |none=>newDict) _ _ _
  cases pend with
  |nil=>
   refine ZO ?_;show Z6 _ _ (pure main) _ _ _
   rw[adZ] at ik;subst ik;exact ZS (fin _ _ hI)
  |cons p pend=>
   refine ZO (GS hI (by simp) nM (by exact Nat.lt_of_succ_lt ‹_›) (ik▸hn) (ik▸hl) hS fun m s'' Bg=>fin _ _ (ik▸Bg))
end
noncomputable abbrev lE:Code->Sem Fin:=aeU aeV
noncomputable abbrev EO:Program->Sem Fin:=PySem.W.Fast.tw2477092760451715423
noncomputable abbrev GI:Program->ZL->Option Shared:=PySem.W.Fast.tw14289696077712309145
noncomputable abbrev Ar:List Stmt->Env->Sem Flow:=PySem.W.Fast.tw12563942051412417395
noncomputable abbrev z6:= @PySem.W.Fast.tw17154629097778926822
noncomputable abbrev AK:= @PySem.W.Fast.tw12822647523644345616
theorem FF:lE=denote table:=by
 show aeU aeV=_
 rw[<-PySem.W.Fast.te11892475500146522536,<-PySem.W.Fast.te14364793385576792824,table_eq_tree]
theorem MS:EO=boot:=PySem.W.Fast.te2477092760451715423.symm
theorem PF:GI=fenceModules?:=PySem.W.Fast.te14289696077712309145.symm
theorem Gg:Ar=execs:=PySem.W.Fast.te12563942051412417395.symm
theorem Oa: @z6= @moduleCode:=PySem.W.Fast.te17154629097778926822.symm
theorem Qb: @AK= @newBodyFrame:=PySem.W.Fast.te12822647523644345616.symm
noncomputable abbrev PW:=PySem.Challenge.pw_ta0133_01
noncomputable def Xw(p:Program):SharedT:=⟨.nil,0,{},#[],{},1,{stdin:=p.given.stdin.toArray}⟩
noncomputable def uu(l:List Obj):BT->Nat->Option BT:= @List.rec Obj (fun z=>BT->Nat->Option BT) (fun T z=>some T)
 (fun o z ih T m=>match((T.ins m o).get m).isSome with
  |true=>ih (T.ins m o) (m+1)
  |false=>none) l
noncomputable def r5(s:ZL):Option SharedT:=match uu s.heap.objs.toList .nil 0 with
 |some T=>some ⟨T,s.heap.objs.size,s.heap.life,s.gens,s.drawn,s.toks,s.os⟩
 |none=>none
noncomputable abbrev kF:Nat:=3000
noncomputable def r6{α:Type}(x:Option (Except ZN α×Pos×aaH)):Option (α×Pos×aaH):=x.bind fun y=>match y.1 with
 | .ok a=>some (a,y.2)
 |_=>none
theorem uX{α:Type}{x:Option (Except ZN α×Pos×aaH)}{a:α×Pos×aaH}(h:r6 x=some a):x=some (.ok a.1,a.2):=by
 cases x with
 |none=>exact fM h
 |some y=>
  obtain⟨e,q⟩:=y;cases e with
  |ok b=>obtain rfl:=gR h;rfl
  |error _=>exact fM h
noncomputable def Jf(f:PySem.Fin):Bool:=match f with
 | .again (.builtin id ⟨[.int i t],[]⟩)=>decide (id= "proto.exit.begin")&&decide (i=3)&&decide (t=0)
 |_=>false
theorem T7{f:PySem.Fin}(h:Jf f=true):f= .again (.builtin "proto.exit.begin" ⟨[.int 3 0],[]⟩):=by
 cases f with
 |again c=>
  cases c with
  |builtin id a=>
   obtain⟨p,kw⟩:=a;cases p with
   |nil=>exact dh h
   |cons v r=>
    cases r with
    |cons _ _=>cases v<;>exact dh h
    |nil=>
     cases kw with
     |cons _ _=>cases v<;>exact dh h
     |nil=>
      cases v with
      |int i t=>
       have h:(decide (id= "proto.exit.begin")&&decide (i=3)&&decide (t=0))=true:=h;obtain⟨h,h3⟩:=ZT.mp h;obtain⟨h1,h2⟩:=ZT.mp h;rw[of_decide_eq_true h1,of_decide_eq_true h2,of_decide_eq_true h3]
      |_=>exact dh h
  |_=>exact dh h
 |_=>exact dh h
noncomputable def Cy(f:Flow):Bool:=match f with
 | .next=>true
 |_=>false
theorem Jg{f:Flow}(h:Cy f=true):f= .next:=by
 cases f<;>first|rfl|exact dh h
noncomputable def JY(w:Z2):Option SharedT:=
 (r6 (dQ (adT PW) w (iI lE (adT PW) w kF) (EO (adT PW)) (Ctx.of (.builtin "boot" {}) []) default (Xw (adT PW)))).bind fun x=>cond (Jf x.1) (some x.2.2) none
theorem wi{α:Type}{b:Bool}{x:Option α}{a:α}(h:cond b x none=some a):b=true/\x=some a:=by
 cases b
 ·exact fM h
 ·exact⟨rfl,h⟩
noncomputable def qQ:Ctx:=Ctx.of (.builtin "claim.caller" {}) []
noncomputable def jC(c:ZN)(f:Addr):Env:={scope:=PW.main.scope,locals:=mainNs,globals:=mainNs,cells:=[],code:=c,frame:=some f}
noncomputable def vY(c:ZN)(f:Addr)(p:Pos):Ctx:=qQ.enter (.body (abF PW) (jC c f)) none p
@[irreducible] noncomputable def Kx:List Stmt:=(abF PW).take 21
@[irreducible] noncomputable def Ky:Stmt:=((abF PW)[21]?).getD default
@[irreducible] noncomputable def DH:List Stmt:=(abF PW).drop 22
noncomputable def wA(w:Z2)(c:ZN)(f:Addr)(p:Pos)(t:aaH):=dQ PW w (iI lE PW w kF) (Ar Kx (jC c f)) (vY c f p) p t
noncomputable def qV(e:Nat->Array abG)(n:Nat->Nat)(i:Nat):Obj:={cls:= .type "dict",dict:=none,data:= .dict (e i) (n i),slots:= #[]}
noncomputable def tB(e:Nat->Array abG)(n:Nat->Nat)(tk:Nat)(t:aaH):Option SharedT:=match uu ((aac 39).map (qV e n)) t.tree t.n with
 |some T=>some {t with tree:=T,n:=t.n+39,toks:=tk}
 |none=>none
structure B3 where
 x:Str
 px:Pos
 ks:List (Option Expr)
 vs:List Expr
 pd:Pos
 ps:Pos
@[irreducible] noncomputable def b3:B3:=nf 5 ⟨"",default,[],[],default,default⟩ Ky.ctorIdx fun h=>Stmt.Assign.elim (motive_2:=fun z=>B3) Ky h fun ts v ps=>
 nf 23 ⟨"",default,[],[],default,default⟩ (ts.headD default).ctorIdx fun h=>Expr.Name.elim (motive_1:=fun z=>B3) _ h fun x px=>
 nf 6 ⟨"",default,[],[],default,default⟩ v.ctorIdx fun h=>Expr.Dict.elim (motive_1:=fun z=>B3) _ h fun ks vs pd=>⟨x,px,ks,vs,pd,ps⟩
noncomputable abbrev EI:=PySem.W.Fast.tw7536695828754713326
theorem Mi:EI=bindName:=PySem.W.Fast.te7536695828754713326.symm
noncomputable def KH(env:Env)(v:ZN):Sem Flow:=(ac9 b3.px).bind fun z=>(EI env b3.x v).bind fun z=>Ar DH env
noncomputable def Aj(w:Z2)(c:ZN)(f:Addr)(p:Pos)(v:ZN)(t:aaH):=dQ PW w (iI lE PW w kF) (KH (jC c f) v) (vY c f p) default t
structure Run where
 c:ZN
 f:Addr
 p:Pos
 t0:aaH
 tp:aaH
 tA:aaH
 tB:aaH
 tC:aaH
noncomputable def kG(t:aaH):Bool:=(aac t.n).all fun a=>match t.tree.get a with
 |some o=> !o.isFreed
 |none=>false
noncomputable def vi(w:Z2):Option SharedT:=match JY w with
 |some s=>(match kG s&&aak s.gens.size 0 with
  |true=>(match GI PW (SharedT.abs {s with life:={} }) with
   |some s'=>r5 s'
   |none=>none)
  |false=>none)
 |none=>none
noncomputable def fL(w:Z2)(e:Nat->Array abG)(n:Nat->Nat)(tk:Nat):Option Run:=(vi w).bind fun t0=>
 (r6 (dQ PW w (iI lE PW w kF) (z6 PW.main PW.main.file none) qQ default t0)).bind fun x=>
 (r6 (dQ PW w (iI lE PW w kF) (AK x.1 mainNs mainNs acx) qQ x.2.1 x.2.2)).bind fun y=>
 (r6 (wA w x.1 y.1 y.2.1 y.2.2)).bind fun z=>cond (Cy z.1) ((tB e n tk z.2.2).bind fun tb=>
 (r6 (Aj w x.1 y.1 y.2.1 (.ref z.2.2.n) tb)).bind fun u=>cond (Cy u.1) (some ⟨x.1,y.1,y.2.1,t0,y.2.2,z.2.2,tb,u.2.2⟩) none) none
noncomputable abbrev w4(w:Z2)(a b:Bool):World:=(w.withFollow "set-order" a).withFollow "special-get-raises" b
noncomputable def ay(i:Nat):Stmt:=((abF PW)[i]?).getD default
noncomputable def bg(i:Nat):Stmt:=nf 2 default (ay 28).ctorIdx fun h=>Stmt.ClassDef.elim (motive_2:=fun z=>Stmt) _ h fun z z z b z z z z z z z=>(b[i]?).getD default
noncomputable def wU{β:Type}(d:β)(st:Stmt)(f:Str->Arguments->List Stmt->ZZ->β):β:=nf 0 d st.ctorIdx fun h=>Stmt.FunctionDef.elim (motive_2:=fun z=>β) st h fun n a b z z z s z z z=>f n a b s
noncomputable def aT(st:Stmt):List Stmt:=wU [] st fun z z b z=>b
noncomputable def aJ(st:Stmt):Scope:=wU default st fun z z z s=>s
noncomputable def J6(st:Stmt):Arguments:=wU default st fun z a z z=>a
noncomputable def bG(st:Stmt)(q:Str)(dV kV pm cd:ZN):FuncData:={name:=wU "" st fun n z z z=>n,qualname:=q,params:=J6 st,body:= .stmts (aT st),scope:=aJ st,globals:=mainNs,closure:=[],defaults:=dV,kwdefaults:=kV,doc:= .none,pyModule:=pm,annotations:=none,code:=cd,closureTuple:= .none,builtins:=acx}
noncomputable def KK(P:abm)(tk:Nat):Frag:=
 [(3,⟨.type "dict",none, .dict [⟨ZX P "__name__", .str "__name__" 165, .str "law_ta0133_01" (tk+272)⟩,⟨ZX P "__doc__", .str "__doc__" 166, .none⟩,⟨ZX P "__package__", .str "__package__" 167, .none⟩,⟨ZX P "__loader__", .str "__loader__" 168, .builtin "__main__.__loader__#opaque"⟩,⟨ZX P "__spec__", .str "__spec__" 169, .none⟩,⟨ZX P "__annotations__", .str "__annotations__" 170, .ref 6⟩,⟨ZX P "__builtins__", .str "__builtins__" 171, .ref 4⟩,⟨ZX P "__file__", .str "__file__" 173, .str "/claim/cut.py" 172⟩,⟨ZX P "__cached__", .str "__cached__" 174, .none⟩,⟨ZX P "_sre", .str "_sre" 275, .ref 12⟩,⟨ZX P "_wall", .str "_wall" 288, .ref 38⟩,⟨ZX P "_DIV_LIMIT", .str "_DIV_LIMIT" 292, .int 4000 291⟩,⟨ZX P "_div2n1n", .str "_div2n1n" 309, .ref 45⟩,⟨ZX P "_div3n2n", .str "_div3n2n" 323, .ref 52⟩,⟨ZX P "_int2digits", .str "_int2digits" 334, .ref 59⟩,⟨ZX P "_digits2int", .str "_digits2int" 345, .ref 66⟩,⟨ZX P "_divmod_pos", .str "_divmod_pos" 360, .ref 73⟩,⟨ZX P "int_divmod", .str "int_divmod" 370, .ref 80⟩,⟨ZX P "ONE_THIRD", .str "ONE_THIRD" 376, .float 4599676419421066581 375⟩,⟨ZX P "ONE_SIXTH", .str "ONE_SIXTH" 380, .float 4595172819793696085 379⟩,⟨ZX P "TWO_THIRD", .str "TWO_THIRD" 384, .float 4604180019048437077 383⟩,⟨ZX P "rgb_to_hls", .str "rgb_to_hls" 403, .ref 87⟩,⟨ZX P "hls_to_rgb", .str "hls_to_rgb" 414, .ref 94⟩,⟨ZX P "_v", .str "_v" 423, .ref 101⟩,⟨ZX P "rgb_to_hsv", .str "rgb_to_hsv" 441, .ref 108⟩,⟨ZX P "hsv_to_rgb", .str "hsv_to_rgb" 455, .ref 115⟩,⟨ZX P "b1_set", .str "b1_set" 517, .ref 123⟩,⟨ZX P "in_table_b1", .str "in_table_b1" 524, .ref 133⟩,⟨ZX P "b3_exceptions", .str "b3_exceptions" tk, .ref 134⟩,⟨ZX P "map_table_b3", .str "map_table_b3" (tk+8), .ref 179⟩,⟨ZX P "tspecials", .str "tspecials" (tk+44), .ref 184⟩,⟨ZX P "_name_disallowed_re", .str "_name_disallowed_re" (tk+70), .ref 189⟩,⟨ZX P "_value_disallowed_re", .str "_value_disallowed_re" (tk+104), .ref 194⟩,⟨ZX P "_formatparam", .str "_formatparam" (tk+114), .ref 202⟩,⟨ZX P "Headers", .str "Headers" (tk+271), .ref 323⟩,⟨ZX P "_law_figures", .str "_law_figures" (tk+281), .ref 334⟩,⟨ZX P "_law_palette", .str "_law_palette" (tk+287), .ref 339⟩,⟨ZX P "_law_typed", .str "_law_typed" (tk+293), .ref 344⟩,⟨ZX P "_law_read", .str "_law_read" (tk+299), .ref 349⟩,⟨ZX P "_law_cover", .str "_law_cover" (tk+305), .ref 354⟩,⟨ZX P "_law_values", .str "_law_values" (tk+311), .ref 359⟩,⟨ZX P "_law_light", .str "_law_light" (tk+317), .ref 364⟩,⟨ZX P "law", .str "law" (tk+323), .ref 369⟩].toArray 43,#[]⟩),
  (45,⟨.type "function",none, .func (bG (ay 3) "_div2n1n" (.none) (.none) (.str "cpy313._pylong" 289) (.ref 44)),#[]⟩),
  (44,⟨.type "code",none, .fields [.str "_div2n1n" 293, .str "_div2n1n" 294, .str "/claim/cut.py" 295, .int 7 0, .int 3 0, .int 0 0, .int 0 0, .int 3 0, .ref 39, .bool true, .int 276 0, .ref 40, .none, .ref 41, .ref 42, .ref 43, .int 307 0, .int 7 0, .str "/claim/cut.py" 308].toArray,#[]⟩),
  (59,⟨.type "function",none, .func (bG (ay 5) "_int2digits" (.none) (.none) (.str "cpy313._pylong" 289) (.ref 58)),#[]⟩),
  (58,⟨.type "code",none, .fields [.str "_int2digits" 324, .str "_int2digits" 325, .str "/claim/cut.py" 326, .int 33 0, .int 2 0, .int 0 0, .int 0 0, .int 3 0, .ref 53, .bool true, .int 276 0, .ref 54, .none, .ref 55, .ref 56, .ref 57, .int 332 0, .int 33 0, .str "/claim/cut.py" 333].toArray,#[]⟩),
  (66,⟨.type "function",none, .func (bG (ay 6) "_digits2int" (.none) (.none) (.str "cpy313._pylong" 289) (.ref 65)),#[]⟩),
  (65,⟨.type "code",none, .fields [.str "_digits2int" 335, .str "_digits2int" 336, .str "/claim/cut.py" 337, .int 49 0, .int 2 0, .int 0 0, .int 0 0, .int 3 0, .ref 60, .bool true, .int 276 0, .ref 61, .none, .ref 62, .ref 63, .ref 64, .int 343 0, .int 49 0, .str "/claim/cut.py" 344].toArray,#[]⟩),
  (73,⟨.type "function",none, .func (bG (ay 7) "_divmod_pos" (.none) (.none) (.str "cpy313._pylong" 289) (.ref 72)),#[]⟩),
  (72,⟨.type "code",none, .fields [.str "_divmod_pos" 346, .str "_divmod_pos" 347, .str "/claim/cut.py" 348, .int 58 0, .int 2 0, .int 0 0, .int 0 0, .int 3 0, .ref 67, .bool true, .int 276 0, .ref 68, .none, .ref 69, .ref 70, .ref 71, .int 358 0, .int 58 0, .str "/claim/cut.py" 359].toArray,#[]⟩),
  (80,⟨.type "function",none, .func (bG (ay 8) "int_divmod" (.none) (.none) (.str "cpy313._pylong" 289) (.ref 79)),#[]⟩),
  (79,⟨.type "code",none, .fields [.str "int_divmod" 361, .str "int_divmod" 362, .str "/claim/cut.py" 363, .int 69 0, .int 2 0, .int 0 0, .int 0 0, .int 3 0, .ref 74, .bool true, .int 276 0, .ref 75, .none, .ref 76, .ref 77, .ref 78, .int 368 0, .int 69 0, .str "/claim/cut.py" 369].toArray,#[]⟩),
  (87,⟨.type "function",none, .func (bG (ay 13) "rgb_to_hls" (.none) (.none) (.str "cpy313.colorsys" 371) (.ref 86)),#[]⟩),
  (86,⟨.type "code",none, .fields [.str "rgb_to_hls" 385, .str "rgb_to_hls" 386, .str "/claim/cut.py" 387, .int 84 0, .int 3 0, .int 0 0, .int 0 0, .int 3 0, .ref 81, .bool true, .int 276 0, .ref 82, .none, .ref 83, .ref 84, .ref 85, .int 401 0, .int 84 0, .str "/claim/cut.py" 402].toArray,#[]⟩),
  (94,⟨.type "function",none, .func (bG (ay 14) "hls_to_rgb" (.none) (.none) (.str "cpy313.colorsys" 371) (.ref 93)),#[]⟩),
  (93,⟨.type "code",none, .fields [.str "hls_to_rgb" 404, .str "hls_to_rgb" 405, .str "/claim/cut.py" 406, .int 107 0, .int 3 0, .int 0 0, .int 0 0, .int 3 0, .ref 88, .bool true, .int 276 0, .ref 89, .none, .ref 90, .ref 91, .ref 92, .int 412 0, .int 107 0, .str "/claim/cut.py" 413].toArray,#[]⟩),
  (101,⟨.type "function",none, .func (bG (ay 15) "_v" (.none) (.none) (.str "cpy313.colorsys" 371) (.ref 100)),#[]⟩),
  (100,⟨.type "code",none, .fields [.str "_v" 415, .str "_v" 416, .str "/claim/cut.py" 417, .int 116 0, .int 3 0, .int 0 0, .int 0 0, .int 3 0, .ref 95, .bool true, .int 276 0, .ref 96, .none, .ref 97, .ref 98, .ref 99, .int 421 0, .int 116 0, .str "/claim/cut.py" 422].toArray,#[]⟩),
  (108,⟨.type "function",none, .func (bG (ay 16) "rgb_to_hsv" (.none) (.none) (.str "cpy313.colorsys" 371) (.ref 107)),#[]⟩),
  (107,⟨.type "code",none, .fields [.str "rgb_to_hsv" 424, .str "rgb_to_hsv" 425, .str "/claim/cut.py" 426, .int 125 0, .int 3 0, .int 0 0, .int 0 0, .int 3 0, .ref 102, .bool true, .int 276 0, .ref 103, .none, .ref 104, .ref 105, .ref 106, .int 439 0, .int 125 0, .str "/claim/cut.py" 440].toArray,#[]⟩),
  (115,⟨.type "function",none, .func (bG (ay 17) "hsv_to_rgb" (.none) (.none) (.str "cpy313.colorsys" 371) (.ref 114)),#[]⟩),
  (114,⟨.type "code",none, .fields [.str "hsv_to_rgb" 442, .str "hsv_to_rgb" 443, .str "/claim/cut.py" 444, .int 144 0, .int 3 0, .int 0 0, .int 0 0, .int 3 0, .ref 109, .bool true, .int 276 0, .ref 110, .none, .ref 111, .ref 112, .ref 113, .int 453 0, .int 144 0, .str "/claim/cut.py" 454].toArray,#[]⟩),
  (133,⟨.type "function",none, .func (bG (ay 20) "in_table_b1" (.none) (.none) (.str "cpy313.stringprep" 456) (.ref 132)),#[]⟩),
  (132,⟨.type "code",none, .fields [.str "in_table_b1" 518, .str "in_table_b1" 519, .str "/claim/cut.py" 520, .int 167 0, .int 1 0, .int 0 0, .int 0 0, .int 3 0, .ref 127, .bool true, .int 276 0, .ref 128, .none, .ref 129, .ref 130, .ref 131, .int 522 0, .int 167 0, .str "/claim/cut.py" 523].toArray,#[]⟩),
  (179,⟨.type "function",none, .func (bG (ay 22) "map_table_b3" (.none) (.none) (.str "cpy313.stringprep" 456) (.ref 178)),#[]⟩),
  (178,⟨.type "code",none, .fields [.str "map_table_b3" (tk+1), .str "map_table_b3" (tk+2), .str "/claim/cut.py" (tk+3), .int 170 0, .int 1 0, .int 0 0, .int 0 0, .int 3 0, .ref 173, .bool true, .int 276 0, .ref 174, .none, .ref 175, .ref 176, .ref 177, .int (acs (tk+6)) 0, .int 170 0, .str "/claim/cut.py" (tk+7)].toArray,#[]⟩),
  (334,⟨.type "function",none, .func (bG (ay 30) "_law_figures" (.none) (.none) (.str "law_ta0133_01" (tk+272)) (.ref 333)),#[]⟩),
  (333,⟨.type "code",none, .fields [.str "_law_figures" (tk+274), .str "_law_figures" (tk+275), .str "/claim/cut.py" (tk+276), .int 271 0, .int 2 0, .int 0 0, .int 0 0, .int 3 0, .ref 328, .bool true, .int 276 0, .ref 329, .none, .ref 330, .ref 331, .ref 332, .int (acs (tk+279)) 0, .int 271 0, .str "/claim/cut.py" (tk+280)].toArray,#[]⟩),
  (339,⟨.type "function",none, .func (bG (ay 31) "_law_palette" (.none) (.none) (.str "law_ta0133_01" (tk+272)) (.ref 338)),#[]⟩),
  (338,⟨.type "code",none, .fields [.str "_law_palette" (tk+282), .str "_law_palette" (tk+283), .str "/claim/cut.py" (tk+284), .int 273 0, .int 2 0, .int 0 0, .int 0 0, .int 3 0, .ref 335, .bool true, .int 276 0, .ref 336, .none, .none, .none, .ref 337, .int (acs (tk+285)) 0, .int 273 0, .str "/claim/cut.py" (tk+286)].toArray,#[]⟩),
  (344,⟨.type "function",none, .func (bG (ay 32) "_law_typed" (.none) (.none) (.str "law_ta0133_01" (tk+272)) (.ref 343)),#[]⟩),
  (343,⟨.type "code",none, .fields [.str "_law_typed" (tk+288), .str "_law_typed" (tk+289), .str "/claim/cut.py" (tk+290), .int 281 0, .int 3 0, .int 0 0, .int 0 0, .int 3 0, .ref 340, .bool true, .int 276 0, .ref 341, .none, .none, .none, .ref 342, .int (acs (tk+291)) 0, .int 281 0, .str "/claim/cut.py" (tk+292)].toArray,#[]⟩),
  (349,⟨.type "function",none, .func (bG (ay 33) "_law_read" (.none) (.none) (.str "law_ta0133_01" (tk+272)) (.ref 348)),#[]⟩),
  (348,⟨.type "code",none, .fields [.str "_law_read" (tk+294), .str "_law_read" (tk+295), .str "/claim/cut.py" (tk+296), .int 298 0, .int 3 0, .int 0 0, .int 0 0, .int 3 0, .ref 345, .bool true, .int 276 0, .ref 346, .none, .none, .none, .ref 347, .int (acs (tk+297)) 0, .int 298 0, .str "/claim/cut.py" (tk+298)].toArray,#[]⟩),
  (354,⟨.type "function",none, .func (bG (ay 34) "_law_cover" (.none) (.none) (.str "law_ta0133_01" (tk+272)) (.ref 353)),#[]⟩),
  (353,⟨.type "code",none, .fields [.str "_law_cover" (tk+300), .str "_law_cover" (tk+301), .str "/claim/cut.py" (tk+302), .int 310 0, .int 3 0, .int 0 0, .int 0 0, .int 3 0, .ref 350, .bool true, .int 276 0, .ref 351, .none, .none, .none, .ref 352, .int (acs (tk+303)) 0, .int 310 0, .str "/claim/cut.py" (tk+304)].toArray,#[]⟩),
  (359,⟨.type "function",none, .func (bG (ay 35) "_law_values" (.none) (.none) (.str "law_ta0133_01" (tk+272)) (.ref 358)),#[]⟩),
  (358,⟨.type "code",none, .fields [.str "_law_values" (tk+306), .str "_law_values" (tk+307), .str "/claim/cut.py" (tk+308), .int 320 0, .int 2 0, .int 0 0, .int 0 0, .int 3 0, .ref 355, .bool true, .int 276 0, .ref 356, .none, .none, .none, .ref 357, .int (acs (tk+309)) 0, .int 320 0, .str "/claim/cut.py" (tk+310)].toArray,#[]⟩),
  (364,⟨.type "function",none, .func (bG (ay 36) "_law_light" (.none) (.none) (.str "law_ta0133_01" (tk+272)) (.ref 363)),#[]⟩),
  (363,⟨.type "code",none, .fields [.str "_law_light" (tk+312), .str "_law_light" (tk+313), .str "/claim/cut.py" (tk+314), .int 328 0, .int 5 0, .int 0 0, .int 0 0, .int 3 0, .ref 360, .bool true, .int 276 0, .ref 361, .none, .none, .none, .ref 362, .int (acs (tk+315)) 0, .int 328 0, .str "/claim/cut.py" (tk+316)].toArray,#[]⟩),
  (369,⟨.type "function",none, .func (bG (ay 37) "law" (.none) (.none) (.str "law_ta0133_01" (tk+272)) (.ref 368)),#[]⟩),
  (368,⟨.type "code",none, .fields [.str "law" (tk+318), .str "law" (tk+319), .str "/claim/cut.py" (tk+320), .int 339 0, .int 1 0, .int 0 0, .int 0 0, .int 3 0, .ref 365, .bool true, .int 276 0, .ref 366, .none, .none, .none, .ref 367, .int (acs (tk+321)) 0, .int 339 0, .str "/claim/cut.py" (tk+322)].toArray,#[]⟩),
  (217,⟨.type "function",none, .func (bG (bg 0) "Headers.__init__" (.ref 210) (.none) (.str "cpy313.wsgiref.headers" (tk+9)) (.ref 216)),#[]⟩),
  (216,⟨.type "code",none, .fields [.str "__init__" (tk+127), .str "Headers.__init__" (tk+128), .str "/claim/cut.py" (tk+129), .int 190 0, .int 2 0, .int 0 0, .int 0 0, .int 3 0, .ref 211, .bool true, .int 276 0, .ref 212, .none, .ref 213, .ref 214, .ref 215, .int (acs (tk+134)) 0, .int 190 0, .str "/claim/cut.py" (tk+135)].toArray,#[]⟩),
  (210,⟨.type "tuple",none, .seq [.none].toArray 0,#[]⟩),
  (224,⟨.type "function",none, .func (bG (bg 1) "Headers._convert_string_type" (.none) (.none) (.str "cpy313.wsgiref.headers" (tk+9)) (.ref 223)),#[]⟩),
  (223,⟨.type "code",none, .fields [.str "_convert_string_type" (tk+137), .str "Headers._convert_string_type" (tk+138), .str "/claim/cut.py" (tk+139), .int 200 0, .int 2 0, .int 0 0, .int 1 0, .int 3 0, .ref 218, .bool true, .int 276 0, .ref 219, .none, .ref 220, .ref 221, .ref 222, .int (acs (tk+144)) 0, .int 200 0, .str "/claim/cut.py" (tk+145)].toArray,#[]⟩),
  (231,⟨.type "function",none, .func (bG (bg 2) "Headers.__len__" (.none) (.none) (.str "cpy313.wsgiref.headers" (tk+9)) (.ref 230)),#[]⟩),
  (230,⟨.type "code",none, .fields [.str "__len__" (tk+147), .str "Headers.__len__" (tk+148), .str "/claim/cut.py" (tk+149), .int 208 0, .int 1 0, .int 0 0, .int 0 0, .int 3 0, .ref 225, .bool true, .int 276 0, .ref 226, .none, .ref 227, .ref 228, .ref 229, .int (acs (tk+151)) 0, .int 208 0, .str "/claim/cut.py" (tk+152)].toArray,#[]⟩),
  (262,⟨.type "function",none, .func (bG (bg 7) "Headers.get_all" (.none) (.none) (.str "cpy313.wsgiref.headers" (tk+9)) (.ref 261)),#[]⟩),
  (261,⟨.type "code",none, .fields [.str "get_all" (tk+185), .str "Headers.get_all" (tk+186), .str "/claim/cut.py" (tk+187), .int 225 0, .int 2 0, .int 0 0, .int 0 0, .int 3 0, .ref 258, .bool true, .int 276 0, .ref 259, .none, .none, .none, .ref 260, .int (acs (tk+188)) 0, .int 225 0, .str "/claim/cut.py" (tk+189)].toArray,#[]⟩),
  (270,⟨.type "function",none, .func (bG (bg 8) "Headers.get" (.ref 263) (.none) (.str "cpy313.wsgiref.headers" (tk+9)) (.ref 269)),#[]⟩),
  (269,⟨.type "code",none, .fields [.str "get" (tk+191), .str "Headers.get" (tk+192), .str "/claim/cut.py" (tk+193), .int 229 0, .int 3 0, .int 0 0, .int 0 0, .int 3 0, .ref 264, .bool true, .int 276 0, .ref 265, .none, .ref 266, .ref 267, .ref 268, .int (acs (tk+199)) 0, .int 229 0, .str "/claim/cut.py" (tk+200)].toArray,#[]⟩),
  (263,⟨.type "tuple",none, .seq [.none].toArray 0,#[]⟩),
  (287,⟨.type "function",none, .func (bG (bg 11) "Headers.items" (.none) (.none) (.str "cpy313.wsgiref.headers" (tk+9)) (.ref 286)),#[]⟩),
  (286,⟨.type "code",none, .fields [.str "items" (tk+214), .str "Headers.items" (tk+215), .str "/claim/cut.py" (tk+216), .int 242 0, .int 1 0, .int 0 0, .int 0 0, .int 3 0, .ref 281, .bool true, .int 276 0, .ref 282, .none, .ref 283, .ref 284, .ref 285, .int (acs (tk+218)) 0, .int 242 0, .str "/claim/cut.py" (tk+219)].toArray,#[]⟩),
  (320,⟨.type "function",none, .func (bG (bg 16) "Headers.add_header" (.none) (.none) (.str "cpy313.wsgiref.headers" (tk+9)) (.ref 319)),#[]⟩),
  (319,⟨.type "code",none, .fields [.str "add_header" (tk+250), .str "Headers.add_header" (tk+251), .str "/claim/cut.py" (tk+252), .int 257 0, .int 3 0, .int 0 0, .int 0 0, .int 11 0, .ref 314, .bool true, .int 276 0, .ref 315, .none, .ref 316, .ref 317, .ref 318, .int (acs (tk+260)) 0, .int 257 0, .str "/claim/cut.py" (tk+261)].toArray,#[]⟩),
  (322,⟨.type "dict",none, .dict [⟨ZX P "__module__", .str "__module__" (tk+122), .str "cpy313.wsgiref.headers" (tk+9)⟩,⟨ZX P "__firstlineno__", .str "__firstlineno__" (tk+126), .int 188 (tk+125)⟩,⟨ZX P "__init__", .str "__init__" (tk+136), .ref 217⟩,⟨ZX P "_convert_string_type", .str "_convert_string_type" (tk+146), .ref 224⟩,⟨ZX P "__len__", .str "__len__" (tk+153), .ref 231⟩,⟨ZX P "__setitem__", .str "__setitem__" (tk+162), .ref 238⟩,⟨ZX P "__delitem__", .str "__delitem__" (tk+168), .ref 243⟩,⟨ZX P "__getitem__", .str "__getitem__" (tk+176), .ref 250⟩,⟨ZX P "__contains__", .str "__contains__" (tk+184), .ref 257⟩,⟨ZX P "get_all", .str "get_all" (tk+190), .ref 262⟩,⟨ZX P "get", .str "get" (tk+201), .ref 270⟩,⟨ZX P "keys", .str "keys" (tk+207), .ref 275⟩,⟨ZX P "values", .str "values" (tk+213), .ref 280⟩,⟨ZX P "items", .str "items" (tk+220), .ref 287⟩,⟨ZX P "__repr__", .str "__repr__" (tk+227), .ref 294⟩,⟨ZX P "__str__", .str "__str__" (tk+233), .ref 299⟩,⟨ZX P "__bytes__", .str "__bytes__" (tk+240), .ref 306⟩,⟨ZX P "setdefault", .str "setdefault" (tk+249), .ref 313⟩,⟨ZX P "add_header", .str "add_header" (tk+262), .ref 320⟩,⟨ZX P "__static_attributes__", .str "__static_attributes__" (tk+264), .ref 321⟩,⟨ZX P "__dict__", .str "__dict__" (tk+266), .ref 324⟩,⟨ZX P "__weakref__", .str "__weakref__" (tk+268), .ref 325⟩,⟨ZX P "__doc__", .str "__doc__" (tk+269), .none⟩].toArray 4,#[]⟩),
  (323,⟨.type "type",none, .cls {name:= "Headers",bases:=[.type "object"],mro:=[.ref 323, .type "object"],ns:=322,qualname:= "Headers",hasDict:=true,slotNames:=[],subclasses:=[],abstract:=false,collection:=none,hasDel:=false},[none,none,some (.str "Headers" (tk+115)),some (.str "Headers" (tk+123)),some (.builtin "object.__new__"),some (.bool true)].toArray⟩),
  (188,⟨.type "tuple",none, .seq [.int 14 0, .int 10 0, .int 4 0, .int 1 0, .int 1 0, .int 22 0, .int 0 0, .int 31 0, .int 16 0, .int 127 0, .int 0 0, .int 13 0, .int 7 0, .int 22 0, .int 0 0, .int 31 0, .int 16 0, .int 127 0, .int 0 0, .int 1 0].toArray 0,#[]⟩),
  (189,⟨.type "re.Pattern",none, .fields [.str "[\\x00-\\x1F\\x7F]" (tk+46), .int 32 (tk+69), .int 0 0, .none, .none, .ref 188, .int 0 0].toArray,#[]⟩),
  (193,⟨.type "tuple",none, .seq [.int 14 0, .int 14 0, .int 4 0, .int 1 0, .int 1 0, .int 9 0, .int 4294966783 0, .int 0 0, .int 0 0, .int 2147483648 0, .int 0 0, .int 0 0, .int 0 0, .int 0 0, .int 0 0, .int 13 0, .int 11 0, .int 9 0, .int 4294966783 0, .int 0 0, .int 0 0, .int 2147483648 0, .int 0 0, .int 0 0, .int 0 0, .int 0 0, .int 0 0, .int 1 0].toArray 0,#[]⟩),
  (194,⟨.type "re.Pattern",none, .fields [.str "[\\x00-\\x08\\x0A-\\x1F\\x7F]" (tk+72), .int 32 (tk+103), .int 0 0, .none, .none, .ref 193, .int 0 0].toArray,#[]⟩),
  (123,⟨.type "set",none, .set [(65024, .int 65024 474),(65025, .int 65025 475),(65026, .int 65026 476),(65027, .int 65027 477),(65028, .int 65028 478),(65029, .int 65029 479),(6150, .int 6150 460),(65030, .int 65030 480),(65031, .int 65031 481),(65032, .int 65032 482),(65033, .int 65033 483),(6155, .int 6155 461),(6156, .int 6156 462),(6157, .int 6157 463),(8203, .int 8203 464),(8204, .int 8204 465),(8205, .int 8205 466),(65034, .int 65034 484),(65035, .int 65035 485),(65036, .int 65036 486),(65037, .int 65037 487),(65038, .int 65038 488),(65039, .int 65039 489),(173, .int 173 458),(847, .int 847 459),(8288, .int 8288 467),(65279, .int 65279 468)].toArray 29 {mask:=127,place:=[0,1,2,3,4,5,6,7,8,9,10,11,12,13,14,15,16,17,18,19,20,21,22,45,79,96,127].toArray,dummies:=[].toArray,finger:=0,led:= !(P.followText "set-order"),moves:=2,plain:=true},#[]⟩),
  (4,⟨.type "module",some 0, .plain,#[]⟩)]
noncomputable def KT:Frag:=[(54,⟨.none,none, .fields #[],#[]⟩),(61,⟨.none,none, .fields #[],#[]⟩)]
noncomputable def KL(P:abm)(tk:Nat):Frag:=KK P tk++KT
noncomputable def yd:List Str:=importedModules PW.main.body
noncomputable def hp(t:aaH):Heap:=absHeap t.tree t.n t.life
noncomputable def zV(r:Run):Bool:=
 kG r.t0&&kG r.tC&&(hp r.t0).isNs aaI&&staticsOk yd (hp r.t0) (hp r.tC)&&namesBound PW (hp r.tC)&&laidKept (hp r.t0) (hp r.tC)&&(hp r.tC).accountedOkI yd&&
 (hp r.tC).isNs aaI&&(hp r.tC).isNs acx&&(hp r.tC).bmainOk&&(hp r.tC).isNs cStatics&&((hp r.tC).nsMap cStatics "sys.recursionlimit").isNone&&kG r.tA
noncomputable def rp:List Nat:=[0,1,4,5]++(aac 21).map (· +7)
structure gj where
 ok:Bool
 chk:Bool
 ks:List (Option Obj)
 old:List (Option Obj)
 n0:Nat
 life:Life
 gens:Array GenState
 drawn:Drawn
 os:OsState
 blt:Option Str×List (Str×ZN)
 nA:Nat
 gens0:Array GenState
 d3:Option Obj
 nC:Nat
 ann:Option ZN
noncomputable def ox(P:abm)(tk:Nat)(x:Option Run):gj:=match x with
 |some r=>⟨true,zV r,(KL P tk).map fun p=>r.tC.tree.get p.1,rp.map r.tC.tree.get,r.t0.n,r.tC.life,r.tC.gens,r.tC.drawn,r.tC.os,(hp r.tC).bltView,r.tA.n,r.t0.gens,r.tC.tree.get 134,r.tC.n,(hp r.t0).nsMap aaI "__annotations__"⟩
 |none=>⟨false,false,[],[],0,{},#[],{},{},(none,[]),0,#[],none,0,none⟩
noncomputable def oy(P:abm)(tk:Nat)(x:Option Run):gj:=match x with
 |some r=>⟨true,true,(KL P tk).map fun p=>some p.2,rp.map r.t0.tree.get,28,r.t0.life,#[],r.t0.drawn,r.t0.os,bltViewBooted,134,#[],r.tB.tree.get 134,370,some (.ref 6)⟩
 |none=>⟨true,false,[],[],0,{},#[],{},{},(none,[]),0,#[],none,0,none⟩
inductive El(P:abm)(tk:Nat)(x:Option Run)(r:Run):Prop
 |mk (a:x=some r) (b:zV r=true) (c:((KL P tk).map fun p=>r.tC.tree.get p.1)=((KL P tk).map fun p=>some p.2)) (d:rp.map r.tC.tree.get=rp.map r.t0.tree.get) (e:r.t0.n=28) (f:r.tC.life=r.t0.life) (g:r.tC.gens= #[]) (h:r.tC.os=r.t0.os)
  (i:(hp r.tC).bltView=bltViewBooted) (j:r.tA.n=134) (k:r.t0.gens= #[]) (l:r.tC.tree.get 134=r.tB.tree.get 134) (m:r.tC.n=370) (n:(hp r.t0).nsMap aaI "__annotations__" =some (.ref 6)):El P tk x r
theorem sH{P:abm}{tk:Nat}{x:Option Run}(h:ox P tk x=oy P tk x): ∃r,El P tk x r:=by
 cases x with
 |none=>have:=congrArg gj.ok h;cases this
 |some r=>
  exact⟨r,rfl,congrArg gj.chk h,congrArg gj.ks h,congrArg gj.old h,congrArg gj.n0 h,congrArg gj.life h,congrArg gj.gens h,congrArg gj.os h,congrArg gj.blt h,congrArg gj.nA h,congrArg gj.gens0 h,congrArg gj.d3 h,congrArg gj.nC h,congrArg gj.ann h⟩
inductive vJ(w:Z2)(e:Nat->Array abG)(n:Nat->Nat)(tk:Nat)(r:Run):Prop
 |mk (a:vi w=some r.t0) (p1:Pos) (t1:aaH) (b:dQ PW w (iI lE PW w kF) (z6 PW.main PW.main.file none) qQ default r.t0=some (.ok r.c,p1,t1))
  (c:dQ PW w (iI lE PW w kF) (AK r.c mainNs mainNs acx) qQ p1 t1=some (.ok r.f,r.p,r.tp)) (pA:Pos) (d:wA w r.c r.f r.p r.tp=some (.ok .next,pA,r.tA)) (f:tB e n tk r.tA=some r.tB) (pC:Pos) (g:Aj w r.c r.f r.p (.ref r.tA.n) r.tB=some (.ok .next,pC,r.tC)):vJ w e n tk r
theorem sD{w:Z2}{e:Nat->Array abG}{n:Nat->Nat}{tk:Nat}{r:Run}(h:fL w e n tk=some r):vJ w e n tk r:=by
 unfold fL at h;refine gz fun zq zk=> ?_
 obtain⟨t0,h0,h⟩:=aaP.mp h;obtain⟨x,h1,h⟩:=aaP.mp h;obtain⟨y,h2,h⟩:=aaP.mp h;obtain⟨z,h3,h⟩:=aaP.mp h;obtain⟨q1,h⟩:=wi h;obtain⟨tb,h4,h⟩:=aaP.mp h;obtain⟨u,h5,h⟩:=aaP.mp h;obtain⟨q2,h⟩:=wi h;obtain rfl:=gR h;refine zk ?_;have h3:=uX h3;have h5:=uX h5;rw[Jg q1] at h3;rw[Jg q2] at h5;exact⟨h0,_,_,uX h1,uX h2,_,h3,h4,_,h5⟩
theorem DO{w:Z2}{e e':Nat->Array abG}{n n':Nat->Nat}{tk tk':Nat}{r r':Run}(Z:vJ w e n tk r)(Y:vJ w e' n' tk' r'):r.t0=r'.t0/\r.c=r'.c/\r.f=r'.f/\r.p=r'.p/\r.tA=r'.tA:=by
 obtain⟨z0,p1,t1,z1,z2,_,zA,_⟩:=Z;obtain⟨y0,q1,u1,y1,y2,_,yA,_⟩:=Y;have e0:=gS z0 y0;rw[e0] at z1;have h:=gS z1 y1;have ec:r.c=r'.c:=Except.ok.inj (congrArg Prod.fst h);have ep:=congrArg (fun x=>x.2.1) h;have et:=congrArg (fun x=>x.2.2) h;rw[ec,show p1=q1 from ep,show t1=u1 from et] at z2;have h:=gS z2 y2;have ef:r.f=r'.f:=Except.ok.inj (congrArg Prod.fst h)
 have ep:r.p=r'.p:=congrArg (fun x=>x.2.1) h;rw[ec,ef,ep,show r.tp=r'.tp from congrArg (fun x=>x.2.2) h] at zA;exact⟨e0,ec,ef,ep,congrArg (fun x=>x.2.2) (gS zA yA)⟩
theorem TY{o:Obj}{l:List Obj}{T:BT}{m:Nat}:uu (o::l) T m=(match((T.ins m o).get m).isSome with
 |true=>uu l (T.ins m o) (m+1)
 |false=>none):=rfl
set_option tactic.hygienic true in
theorem Cw: ∀(l:List Obj) (T:BT) (m:Nat) (T':BT),uu l T m=some T'->(∀a,a<m->T'.get a=T.get a)/\ ∀i,i<l.length->T'.get (m+i)=l[i]?:=by
 intro rr
 induction rr with
 |nil=>
  exact fun T m T' h=>by cases h;exact⟨fun z z=>rfl,fun i hi=>absurd hi (Nat.not_lt_zero _)⟩
 |cons o l ih=>
  exact fun T m T' h=>by
   rw[TY] at h;split at h
   ·rename_i hs
    obtain⟨h1,h2⟩:=ih _ _ _ h;refine⟨fun a ha=> ?_,fun i hi=> ?_⟩
    ·rw[h1 a (by exact Nat.le_succ_of_le ‹_›),BT.get_ins o T m hs,if_neg (by exact abV ‹_›)]
    ·cases i with
     |zero=>rw[adw,h1 m (by exact acB _),BT.get_ins o T m hs,if_pos rfl];rfl
     |succ i=>rw[show m+(i+1)=m+1+i by exact "@=+A+B1++A1B" (),h2 i (by simpa using hi)];simp
   ·cases h
set_option tactic.hygienic true in
theorem Wi{s:ZL}{t:aaH}(h:r5 s=some t):dP t s:=by
 unfold r5 at h;split at h
 ·rename_i T hT
  cases h;obtain⟨_,h2⟩:=Cw _ _ _ _ hT;refine⟨rfl,fun a o ha g=> ?_,rfl,rfl,rfl,rfl⟩;have:=h2 a (by simpa using ha);rw[acS] at this;rw[this] at g;unfold Heap.get?;have e:s.heap.objs[a]?=some o:=by rw[<-g];simp
  rw[e];obtain⟨c,d,dt,sl⟩:=o;cases dt<;>rfl
 ·cases h
theorem K7{M:Model}{Γ:Ctx}{env:Env}{B:List Stmt}{E:ZN->Pos->ZL->Prop}{Q:Flow->Pos->ZL->Prop}: ∀(A:List Stmt) (p:Pos) (s:ZL),
 aby M Γ (ac3 A env) (fun f p' s'=>f= .next/\aby M Γ (ac3 B env) Q E p' s') E p s->aby M Γ (ac3 (A++B) env) Q E p s:=by
 intro rr
 induction rr with
 |nil=>
  exact fun p s h=>by
   replace h:Flow.next= .next/\aby M Γ (ac3 B env) Q E p s:=by simpa [execs_nil] using h
   exact h.2
 |cons st A ih=>
  exact fun p s h=>by
   rw[List.cons_append,execs_cons,ack];rw[execs_cons,ack] at h;refine aeE M Γ _ (fun f p' s' hf=> ?_) (fun z z z x=>x) p s h;cases f with
   |next=>exact ih p' s' hf
   |_=>simp at hf
noncomputable def wh(e:Expr):Option Const:=nf 19 none e.ctorIdx fun h=>Expr.Constant.elim (motive_1:=fun z=>Option Const) e h fun c z z=>some c
theorem Ft{e:Expr}{c:Const}(h:wh e=some c): ∃a b,e= .Constant c a b:=by
 by_cases hi:e.ctorIdx=19
 ·exact Expr.Constant.elim (motive_1:=fun e=>wh e=some c-> ∃a b,e= .Constant c a b) e hi (fun c' a b h=>⟨a,b,congrArg (fun c=>Expr.Constant c a b) (gR (show some c'=some c from h))⟩) h
 ·exact fM ((dif_neg hi).symm.trans h)
noncomputable def CQ(e:Option Expr):Option Int:=e.bind fun e=>(wh e).bind fun c=>match c with| .int k=>some k|_=>none
noncomputable def DW(e:Expr):Option Str:=(wh e).bind fun c=>match c with| .str x=>some x|_=>none
theorem YU{e:Expr}{x:Str}(h:DW e=some x): ∃a b,e= .Constant (.str x) a b:=by
 obtain⟨c,h1,h⟩:=aaP.mp h;obtain⟨a,b,rfl⟩:=Ft h1;cases c with
 |str i=>obtain rfl:=gR h;exact⟨a,b,rfl⟩
 |_=>exact fM h
theorem Uu{e:Option Expr}{k:Int}(h:CQ e=some k): ∃a b,e=some (.Constant (.int k) a b):=by
 obtain⟨e,rfl,h2⟩:=aaP.mp h;obtain⟨c,h1,h⟩:=aaP.mp h2;obtain⟨a,b,rfl⟩:=Ft h1;cases c with
 |int i=>obtain rfl:=gR h;exact⟨a,b,rfl⟩
 |_=>exact fM h
noncomputable def oZ:List (Option Expr)->List Expr->Option (List (Int×Str))
 |[],vs=>cond vs.isEmpty (some []) none
 |k::ks,vs=>vs.head?.bind fun v=>(CQ k).bind fun i=>(DW v).bind fun x=>(oZ ks vs.tail).map ((i,x):: ·)
theorem Fu{env:Env}{pos:Pos}: ∀(ks:List (Option Expr)) (vs:List Expr) (ps:List (Int×Str)),oZ ks vs=some ps->
 (evalEachOpt ks env).zip ((evalEach vs env).map fun v=>do let x<-v;ac9 pos;pure x)=ps.map (jD pos):=by
 intro ks
 induction ks with
 |nil=>intro vs ps h;obtain⟨_,h⟩:=wi h;obtain rfl:=gR h;rfl
 |cons k ks ih=>
  intro vs ps h;cases vs with
  |nil=>exact fM h
  |cons v vs=>
   obtain⟨i,h1,h⟩:=aaP.mp (show((CQ k).bind fun i=>(DW v).bind fun x=>(oZ ks vs).map ((i,x):: ·))=some ps from h);obtain⟨x,h2,h⟩:=aaP.mp h;obtain⟨a,b,rfl⟩:=Uu h1;obtain⟨c,d,rfl⟩:=YU h2;obtain⟨qs,hq,rfl⟩:=ad8.mp h;rw[aah,<-ih vs qs hq];rfl
theorem XJ:abF PW=Kx++(.Assign [.Name b3.x b3.px] (.Dict b3.ks b3.vs b3.pd) b3.ps)::DH:=by kernel_rfl
@[irreducible] noncomputable def lz:List (Int×Str):=(oZ b3.ks b3.vs).getD []
theorem LO:oZ b3.ks b3.vs=some lz:=by kernel_rfl
noncomputable def oO:List Int->Bool
 |[]=>true
 |a::l=>(match l with|[]=>true|b::_=>decide (a<b))&&oO l
theorem LH: ∀(l:List Int) (a:Int),oO (a::l)=true-> ∀x∈l,a<x:=by
 intro rr
 induction rr with
 |nil=>
  exact fun z z x hx=>(nomatch hx)
 |cons b l ih=>
  exact fun a h x hx=>by
   have h':(decide (a<b)&&oO (b::l))=true:=h;simp only[aax,decide_eq_true_eq] at h';rcases ZU.mp hx with rfl|hx
   ·exact h'.1
   ·exact Int.lt_trans h'.1 (ih b h'.2 x hx)
theorem LI: ∀l:List Int,oO l=true->l.Nodup:=by
 intro rr
 induction rr with
 |nil=>exact fun z=>acJ
 |cons a l ih=>exact fun h=>abC.mpr ⟨fun hm=>absurd (LH l a h a hm) (Int.lt_irrefl a),ih (by
  have h':(_&&oO l)=true:=h;exact(ZT.mp h').2)⟩
theorem LM:oO (lz.map (·.1))=true:=by kernel_rfl
theorem LN:lz.length=650:=by kernel_rfl
noncomputable def vL(w:Z2)(s₁:ZL):Prop:= ∃e n tk r,fL w e n tk=some r/\dP r.tC s₁/\ ∃kvs,cC lz kvs/\s₁.heap.DictOf (IK PW w) 134 kvs
theorem wB{w:Z2}{α:Type}{tr:Sem α}{Γ:Ctx}{p:Pos}{t t':aaH}{r:Except ZN α}{p':Pos}(h:dQ PW w (iI lE PW w kF) tr Γ p t=some (r,p',t')){s:ZL}(R:dP t s)
 {Q:α->Pos->ZL->Prop} {E:ZN->Pos->ZL->Prop} (q:FT r Q E p' t'):aby (Z8 PW w) Γ tr Q E p s:=by
 rw[FF] at h;exact Ai (M:=Z8 PW w) (FY kF) tr Γ p t r p' t' h s R Q E q
noncomputable def EE(Γ:Ctx):Around:={handled:=Γ.handled,depth:=frameCount Γ.below+Γ.code.weight,units:=Γ.units}
theorem Mf(Γ:Ctx):Γ.In (EE Γ):=⟨rfl,aab _,fun z h=>(nomatch h),fun z h=>(nomatch h),aab _⟩
theorem Y7{w:Z2}{Γ:Ctx}{env:Env}{ks:List (Option Expr)}{vs:List Expr}{pd:Pos}{ps:List (Int×Str)}{n:Nat}{Q:ZN->Pos->ZL->Prop}{E:ZN->Pos->ZL->Prop}{p:Pos}{s:ZL}
 (fw:oZ ks vs=some ps) (Ri:oO (ps.map (·.1))=true) (hlen:ps.length=650) (hS:s.heap.objs.size=n) (hn:acI<n)
 (h: ∀p' h' t' kvs,cC ps kvs->h'.DictOf (IK PW w) n kvs->h'.objs.size=n+39->(∀b o,s.heap.get? b=some o->h'.get? b=some o)->(∀a,n<=a->a<n+39->oG h' a)->Q (.ref n) p' {s with heap:=h',toks:=t'}):
 aby (Z8 PW w) Γ (eval (.Dict ks vs pd) env) Q E p s:=by
 rw[arm_eval_Dict,Fu _ _ _ fw,ack];show aby _ _ (Sem.at _ _) _ _ _ _
 rw[Sem.wp_at,Sem.wp_pure];subst hS;have:=Ov (prog:=PW) (w:=w) (A:=EE Γ) (E:=fun e s'=> ∀p',E e p' s') (s:=s) (pos:=pd) (qs:=ps) (Q:=fun v s'=> ∀p',Q v p' s') (LI _ Ri) (by rw[hlen];decide) (by intro e;rw[e] at hlen;cases hlen) hn
  (fun h' t' kvs hc hD hz hk hd p'=>by
   rw[hlen] at hz;exact h p' h' t' kvs hc hD hz hk (fun a h1 h2=>hd a h1 (by rw[hz];exact h2)))
 exact aeE _ _ _ (fun v p' s' q=>q p') (fun e p' s' q=>q p') _ _ (this Γ _ (Mf Γ))
theorem Y6{w:Z2}{Γ:Ctx}{env:Env}{Q:ZN->Pos->ZL->Prop}{E:ZN->Pos->ZL->Prop}{p:Pos}{s:ZL}(hS:s.heap.objs.size=134)
 (h: ∀p' h' t' kvs,cC lz kvs->h'.DictOf (IK PW w) 134 kvs->h'.objs.size=134+39->(∀b o,s.heap.get? b=some o->h'.get? b=some o)->(∀a,134<=a->a<134+39->oG h' a)->Q (.ref 134) p' {s with heap:=h',toks:=t'}):
 aby (Z8 PW w) Γ (eval (.Dict b3.ks b3.vs b3.pd) env) Q E p s:=Y7 LO LM LN hS (by decide) h
set_option tactic.hygienic true in
theorem Ym{e:Nat->Array abG}{n:Nat->Nat}{tk:Nat}{t tb:aaH}(h:tB e n tk t=some tb){s s':ZL}(R:dP t s)(hz:s'.heap.objs.size=t.n+39)
 (hk: ∀b o,s.heap.get? b=some o->s'.heap.get? b=some o) (hd: ∀i,i<39->s'.heap.get? (t.n+i)=some (qV e n i)) (hg:s'.gens=s.gens) (hdr:s'.drawn=s.drawn) (ht:s'.toks=tk) (ho:s'.os=s.os)
 (ub: ∀a o,a<t.n->t.tree.get a=some o->o.isFreed=false):dP tb s':=by
 unfold tB at h;split at h
 ·rename_i T hT
  cases h;obtain⟨h1,h2⟩:=Cw _ _ _ _ hT;refine⟨hz,fun a o ha g=> ?_,hg.trans R.gens,hdr.trans R.drawn,ht,ho.trans R.os⟩
  replace ha:a<t.n+39:=ha
  replace g:T.get a=some o:=g
  by_cases aV:a<t.n
  ·rw[h1 a aV] at g
   have hf:=ub a o aV g;have:=R.get a o aV g;rw[s7 hf] at this⊢;exact hk _ _ this
  ·obtain⟨i,rfl⟩: ∃i,a=t.n+i:=⟨a -t.n,by exact Z5 (";1=+ABC[C+BA" (ZM ("!<AB[BA" aV))) ("=+ABC[+BAC" (ZM ("!<AB[BA" aV)))⟩
   have hi:i<39:=by(simp at*;omega)
   rw[h2 i (by simpa using hi)] at g;have e':o=qV e n i:=by
    simp[hi] at g;exact g.symm
   subst e';rw[hd i hi];rfl
 ·cases h
set_option tactic.hygienic true in
theorem Yl{e:Nat->Array abG}{n:Nat->Nat}{tk:Nat}{t tb:aaH}(h:tB e n tk t=some tb):tb.tree.get t.n=some (qV e n 0):=by
 unfold tB at h;split at h
 ·rename_i T hT
  cases h;obtain⟨h1,h2⟩:=Cw _ _ _ _ hT;have:=h2 0 (by simp);rw[adw] at this;exact this
 ·cases h
set_option tactic.hygienic true in
theorem AM{t:aaH}(h:kG t=true){a:Nat}(ha:a<t.n): ∃o,t.tree.get a=some o/\o.isFreed=false:=by
 unfold kG at h;have:=Z3.mp h a (aaq.mpr ha);split at this
 ·rename_i o e;exact⟨o,e,by simpa using this⟩
 ·cases this
inductive Eb(r:Run):Prop
 |mk (a:kG r.t0=true) (b:kG r.tC=true) (c:(hp r.t0).isNs aaI=true) (d:staticsOk yd (hp r.t0) (hp r.tC)=true) (e:namesBound PW (hp r.tC)=true) (f:laidKept (hp r.t0) (hp r.tC)=true)
  (g:(hp r.tC).accountedOkI yd=true) (h:(hp r.tC).isNs aaI=true) (i:(hp r.tC).isNs acx=true) (j:(hp r.tC).bmainOk=true) (k:(hp r.tC).isNs cStatics=true) (l:((hp r.tC).nsMap cStatics "sys.recursionlimit").isNone=true) (m:kG r.tA=true):Eb r
theorem bq{a b:Bool}{C:Prop}(h:(a&&b)=true)(k:a=true->b=true->C):C:=have h:=ZT.mp h;k h.1 h.2
theorem Fb{r:Run}(h:zV r=true):Eb r:=
 bq h fun h m=>bq h fun h l=>bq h fun h k=>bq h fun h j=>bq h fun h i=>bq h fun h H=>bq h fun h g=>bq h fun h f=>bq h fun h e=>bq h fun h d=>bq h fun h c=>bq h fun a b=>⟨a,b,c,d,e,f,g,H,i,j,k,l,m⟩
theorem Pu{M:Model}{Γ:Ctx}{env:Env}{st:Stmt}{rest:List Stmt}{Q:Flow->Pos->ZL->Prop}{E:ZN->Pos->ZL->Prop}{p:Pos}{s:ZL}
 (h:aby M Γ (exec st env) (fun f p' s'=>f= .next/\aby M Γ (ac3 rest env) Q E p' s') E p s):aby M Γ (ac3 (st::rest) env) Q E p s:=by
 rw[execs_cons,ack];refine aeE M Γ _ (fun f p' s' hf=> ?_) (fun z z z x=>x) p s h;obtain⟨rfl,h'⟩:=hf;exact h'
theorem MR{w:Z2}(hv: ∀e n tk,ox w.params tk (fL w e n tk)=oy w.params tk (fL w e n tk)){cz:Run}{my JQ KJ}(h₀:fL w my JQ KJ=some cz){pA:Pos}(hA:wA w cz.c cz.f cz.p cz.tp=some (.ok .next,pA,cz.tA)){s:ZL}(R:dP cz.tp s):
 aby (Z8 PW w) (vY cz.c cz.f cz.p) (ac3 (abF PW) (jC cz.c cz.f)) (fun f z s'=>f= .next/\vL w s') (fun z z z=>False) cz.p s:=by
 obtain⟨aA,zd⟩:=sH (hv my JQ KJ);obtain rfl:=gS h₀ zd.1;have hn:=zd.10;have RL:kG cz.tA=true:=(Fb zd.2).13;rw[XJ];refine K7 _ _ _ ?_;unfold wA at hA;rw[Gg] at hA;refine wB hA R ?_;intro s₁ nj;refine⟨rfl,Pu ?_⟩;rw[ab3 _ _ _ _ _ rfl,ack];show aby _ _ (Sem.at _ _) _ _ _ _
 rw[Sem.wp_at,Sem.wp_pure,ack];refine Y6 (nj.size.trans hn) fun p' h' t' kvs hc hD hz hk hd=> ?_
 have cG: ∀i:Nat,∃x:Array abG×Nat,i<39->h'.get? (134+i)=some {cls:= .type "dict",dict:=none,data:= .dict x.1 x.2,slots:= #[]}:=fun i=>by
  by_cases hi:i<39
  ·obtain⟨es,n,g⟩:=hd (134+i) (adM _ _) (Nat.add_lt_add_left hi _)
   exact⟨(es,n),fun z=>g⟩
  ·exact⟨(#[],0),fun h=>absurd h hi⟩
 refine gz fun zq zk=> ?_
 obtain⟨g,hg⟩:=Classical.axiomOfChoice cG;obtain⟨r,V⟩:=sH (hv (fun i=>(g i).1) (fun i=>(g i).2) t');have er:=V.1;have Z:=sD er;obtain⟨e0,ec,ef,ep,FW⟩:=DO Z (sD h₀);obtain⟨_,_,_,_,_,_,_,zB,pC,zC⟩:=Z;refine zk ?_;rw[FW] at zB;rw[ec,ef,ep,FW,hn] at zC;have RB:dP r.tB {s₁ with heap:=h',toks:=t'}:=by
  refine Ym zB nj (by rw[hn];exact hz) hk (fun i hi=>by rw[hn];exact hg i hi) rfl rfl rfl rfl (fun a o ha go=> ?_)
  ·obtain⟨o',g1,g2⟩:=AM RL ha
   rw[g1] at go;cases go;exact g2
 have hC:dQ PW w (iI lE PW w kF) (do bindName (jC cz.c cz.f) b3.x (.ref 134);ac3 DH (jC cz.c cz.f)) (vY cz.c cz.f cz.p) b3.px r.tB=some (.ok .next,pC,r.tC):=by
  unfold Aj KH at zC;rw[Gg,Mi] at zC;exact zC
 show aby _ _ (Sem.at _ _) _ _ _ _
 rw[Sem.wp_at];show aby _ _ (bindName (jC cz.c cz.f) b3.x (.ref 134)>>=fun z=>(pure Flow.next:Sem Flow)) _ _ _ _
 rw[ack];have:=wB hC RB (Q:=fun f z s'=>f= .next/\vL w s') (E:=fun z z z=>False) (fun ar vH=>⟨rfl,_,_,_,r,er,vH,kvs,hc,?_⟩)
 ·rw[ack] at this
  refine aeE _ _ _ (fun z ZI ar q=> ?_) (fun z z z x=>x) _ _ this;rw[Sem.wp_pure'];exact⟨rfl,q⟩
 ·have Qf:h'.get? 134=some (qV (fun i=>(g i).1) (fun i=>(g i).2) 0):=hg 0 (by decide)
  have gB:=Yl zB;rw[hn] at gB;have e1:ar.heap.get? 134=some (qV (fun i=>(g i).1) (fun i=>(g i).2) 0):=vH.get 134 _ (by rw[V.13];decide) (V.12.trans gB);obtain⟨o,es,ep,ho,hr⟩:=hD;exact⟨o,es,ep,e1.trans (Qf.symm.trans ho),hr⟩
theorem Uy{den:Code->Sem Fin}{prog:Program}{w:Z2}{o:Outcome}{s'':ZL}: ∀(n:Nat) (s:ZL) (t:Thread),runN den prog w n s t= .halted o s''->
 ∃m s' t',runN den prog w m s t= .running s' t'/\step den prog w s' t'= .halt o s'':=by
 intro rr
 induction rr with
 |zero=>
  exact fun s t h=>by cases h
 |succ n ih=>
  exact fun s t h=>by
   rw[runN] at h;cases hs:step den prog w s t with
   |go s₁ lY=>
    rw[hs] at h;obtain⟨m,s',t',a,b⟩:=ih s₁ lY h;exact⟨m+1,s',t',by rw[runN,hs];exact a,b⟩
   |halt o' s₁=>
    rw[hs] at h;cases h;exact⟨0,s,t,rfl,hs⟩
noncomputable def xO:Step->Bool
 | .halt (.done _) _=>true
 |_=>false
theorem JI{c:Prop}[Decidable c]{a b:Step}{C:Prop}(ha:xO a=false)(hb:xO b=false)(h:xO (if c then a else b)=true):C:=by
 by_cases q:c
 ·rw[if_pos q] at h;exact K8 ha h
 ·rw[if_neg q] at h;exact K8 hb h
set_option tactic.hygienic true in
theorem Yx{den:Code->Sem Fin}{prog:Program}{w:Z2}{f:Flow}{s s':ZL}{t:Thread}(h:step den prog w s t= .halt (.done f) s'):through t=true:=by
 replace h:xO (step den prog w s t)=true:=by rw[h];rfl
 obtain⟨heap,gens,drawn,toks,os⟩:=s;obtain⟨cur,code,pos,stack⟩:=t;cases cur with
 |pure x=>
  cases x with
  |done g=>cases stack with
   |nil=>rfl
   |cons F st=>cases F<;>exact dh h
  |again c=>exact dh h
 |raise e=>cases stack with
  |nil=>exact JI rfl rfl h
  |cons F st=>cases F<;>exact dh h
 |resume g r l k=>
  delta step at h
  dsimp only at h;generalize gens[g]?=x at h;rcases x with _|st
  ·exact dh h
  ·cases st<;>first|exact dh h|(cases r<;>first|exact dh h|(rename_i v;cases v<;>exact dh h))
 |load a _ k=>
  delta step at h
  dsimp only at h;generalize heap.get? a=x at h;cases x<;>exact dh h
 |genState g k=>
  delta step at h
  dsimp only at h;generalize gens[g]?=x at h;cases x<;>exact dh h
 |yield v g l k=>
  delta step at h
  dsimp only at h;generalize splitAtGen stack=x at h;rcases x with _|⟨a,⟨b,c,d,e⟩,r⟩<;>exact dh h
 |_=>first|exact dh h|exact JI rfl rfl h
theorem YA{prog:Program}{w:Z2}{c:Code}{t:Sem Fin}{R:ZL->Prop}{s:ZL}(hz:s.asleep)
 (h:aby (Z8 prog w) (Ctx.of c []) t (fun fin z s'=>(∃f,fin= .done f)/\R s'/\s'.gens= #[]) (fun z z z=>False) default s):
 ∃n t' s₁,schedN (denote table) prog w n (.single s ⟨t,c,default,[]⟩)= .running (.single s₁ t')/\through t'=true/\R s₁/\s₁.gens= #[]/\s₁.heap.life=s.heap.life:=by
 have h':aby (Z8 prog w) ⟨c,none,none,[],none⟩ t (Sem.finPost (Z8 prog w) ⟨c,none,none,[],none⟩ fun r s'=>(((∃f,r= .ok f)/\R s')/\s'.gens= #[])/\leftWithCleanup s'.gens=false)
  (fun e z s'=>(((∃f,(.error e:adE)= .ok f)/\R s')/\s'.gens= #[])/\leftWithCleanup s'.gens=false) default s:=
  aeE _ _ _ (fun fin p' s' ⟨⟨f,e⟩,a,b⟩=>by subst e;exact⟨⟨⟨⟨f,rfl⟩,a⟩,b⟩,by rw[b];simp[leftWithCleanup]⟩) (fun z z z x=>x.elim) _ _ h
 refine gz fun zq zk=> ?_
 obtain⟨n,r,s₁,hn,⟨⟨f,rfl⟩,hR⟩,hg⟩:=(wp_iff_halts (M:=Z8 prog w) (R:=fun r s'=>((∃f,r= .ok f)/\R s')/\s'.gens= #[]) ..).mp h';obtain⟨ar,hr,hf,hc⟩:=runNI_real _ _ _ hn (outcomeOf_ends (.ok f));obtain rfl:ar=s₁:=Shared.eq_of_forget_eq hf hg;have bC: ∀k s',runN (denote table) prog w k s ⟨t,c,default,[]⟩≠ .halted (.unsupported "lifetime:generator-with-cleanup-left-suspended") s':=by
  intro k s' hk;have a:=runN_mono (denote table) prog w n k s ⟨t,c,default,[]⟩ _ ar hr;have b:=runN_mono (denote table) prog w k n s ⟨t,c,default,[]⟩ _ s' hk;rw[acT,b] at a;injection a with a1 _
  cases a1
 obtain⟨m,s',t',e1,e2⟩:=Uy n _ _ hr;have e3:ar=s':=step_halt_same _ _ _ _ _ _ _ e2;subst e3;refine zk ?_;refine⟨m,t',ar,?_,Yx e2,hR,hg,?_⟩
 ·exact(schedN_eq_runN _ _ _ _ _ hz ⟨hc,bC⟩ m).trans (congrArg Run.lift e1)
 ·exact runN_life _ _ _ hr
theorem Bz{t:aaH}{h:Heap}(hz:h.objs.size=t.n)(hg: ∀a o,a<t.n->t.tree.get a=some o->h.get? a=alive o)(hf:kG t=true)(hl:h.life=t.life):h=hp t:=by
 have e:h.objs=(hp t).objs:=by
  apply Array.ext_getElem?;intro i;show h.objs[i]?=(absHeap t.tree t.n t.life).objs[i]?
  rw[absHeap_at]
  by_cases hi:i<t.n
  ·obtain⟨o,g,f⟩:=AM hf hi
   have:=hg i o hi g;rw[s7 f] at this;rw[if_pos hi,g];show h.objs[i]?=some o
   unfold Heap.get? at this;revert this;cases h.objs[i]? with
   |none=>intro q;cases q
   |some x=>
    obtain⟨c,d,dt,sl⟩:=x;cases dt<;>intro q<;>first|exact q|cases q
  ·rw[if_neg hi,Array.getElem?_eq_none (by rw[hz];exact adV.mp ‹_›)]
 have e2:h.life=(hp t).life:=hl;cases h;dsimp only at e e2;rw[e,e2]
set_option tactic.hygienic true in
theorem Wt{w:Z2}{t0:aaH}(h:vi w=some t0):(∃s,AfterRun (adT PW) w s)/\ ∀s,AfterRun (adT PW) w s->s.asleep/\ ∃s₀,fenceModules? PW s=some s₀/\r5 s₀=some t0:=by
 unfold vi at h;split at h
 ·rename_i tO hO
  split at h
  ·rename_i ub
   split at h
   ·rename_i s₀ hF
    unfold JY at hO;obtain⟨⟨xf,pO,tO⟩,t4,hO⟩:=aaP.mp hO;obtain⟨q1,hO⟩:=wi hO;obtain rfl:=gR hO;have t4:=uX t4;rw[T7 q1] at t4
    ·rw[FF,MS] at t4
     rw[PF] at hF;obtain⟨ub,pI⟩:=ZT.mp ub;have hg:tO.gens= #[]:=Array.eq_empty_of_size_eq_zero (aa7 pI)
     ·have W:=AfterImport.of_wp (prog:=adT PW) (w:=w) (P:=fun s=>dP tO s)
       (Ai (M:=Z8 (adT PW) w) (FY kF) _ _ _ _ _ _ _ t4 (start (adT PW)).1 (dP.abs _) _ _ (fun s' R'=>⟨rfl,R',R'.gens.trans hg⟩))
      refine⟨W.1,fun s hs=>⟨AfterImport.life hs,s₀,?_,h⟩⟩;have R:=W.2 s hs;obtain⟨n,t,hn,_⟩:=hs;have hl:s.heap.life={}:=runN_life_running hn;have e:s=SharedT.abs {tO with life:={} }:=by
       have e1:s.heap=hp {tO with life:={} }:=Bz (t:={tO with life:={} }) R.size R.get ub hl;obtain⟨hh,gg,dd,tt,oo⟩:=s;have e2:=R.gens;have e3:=R.drawn;have e4:=R.toks;have e5:=R.os;dsimp only at e1 e2 e3 e4 e5;subst e1 e2 e3 e4 e5;rfl
      rw[e];exact hF
   ·cases h
  ·cases h
 ·cases h
structure sT(w:Z2)(s₁:ZL):Prop where
 asleep:s₁.asleep
 gens:s₁.gens= #[]
 ns:s₁.heap.isNs aaI=true
 blt:s₁.heap.Ns acx (s₁.heap.nsMap acx)
 blts: ∀x:Str,x≠ "__name__" ->s₁.heap.nsMap acx x=bootBuiltins x
 nolimit:s₁.heap.NoLimit
 frag: ∃tk,(KL w.params tk).In s₁.heap
 b3: ∃kvs,cC lz kvs/\s₁.heap.DictOf (IK PW w) 134 kvs
set_option tactic.hygienic true in
theorem Ve{l:List (Addr×Obj)}{T:Addr->Option Obj}(h:l.map (fun p=>T p.1)=l.map fun p=>some p.2): ∀a o,l.lookup a=some o->T a=some o:=by
 induction l with
 |nil=>intro a o e;cases e
 |cons p r ih=>
  obtain⟨b,x⟩:=p;simp only[aah,List.cons.injEq] at h;intro a o e;simp only[List.lookup] at e;split at e
  ·rename_i q;cases e;rw[beq_iff_eq.mp q];exact h.1
  ·exact ih h.2 a o e
theorem Lk(P:abm)(tk:Nat): ∀p∈KL P tk,p.1<370:=by
 have:(KL P tk).map (·.1)=(KL P tk).map (·.1):=rfl;have h:((KL P tk).map (·.1)).all (fun a=>decide (a<370))=true:=by kernel_rfl
 intro p hp;exact of_decide_eq_true (Z3.mp h p.1 (List.mem_map_of_mem hp))
theorem Lj(P:abm)(tk:Nat): ∀p∈KL P tk,p.2.isFreed=false:=by
 have h:(KL P tk).all (fun p=> !p.2.isFreed)=true:=by kernel_rfl
 intro p hp
 simpa using Z3.mp h p hp
theorem Vy{l:List (Addr×Obj)}{a:Addr}{o:Obj}(h:l.lookup a=some o):(a,o)∈l:=by
 induction l with
 |nil=>cases h
 |cons p r ih=>
  obtain⟨k,v⟩:=p;rw[acC] at h;cases hb:a==k with
  |true=>rw[hb] at h;cases h;rw[beq_iff_eq.mp hb];exact ZR
  |false=>rw[hb] at h;exact ZP _ (ih h)
theorem Yz{w:Z2}(hv: ∀e n tk,ox w.params tk (fL w e n tk)=oy w.params tk (fL w e n tk)){s₀:ZL}{t0:aaH}(h0:vi w=some t0)(R0:dP t0 s₀)(hz:s₀.asleep)(kM:r5 s₀=some t0):
 s₀.gens= #[]/\ ∃s₁,TopRan PW w s₀ s₁/\sT w s₁:=by
 refine gz fun zq zk=> ?_
 obtain⟨cz,Lr⟩:=sH (hv (fun z=> #[]) (fun z=>0) 0);have h₀:=Lr.1;have Y:=sD h₀;obtain⟨y0,q1,u1,y1,y2,qA,yA,_⟩:=id Y;have e0:t0=cz.t0:=abM (h0.symm.trans y0);subst e0;have Iw:s₀.heap.life=cz.t0.life:=by
  unfold r5 at kM;split at kM
  ·rw[<-abM kM]
  ·cases kM
 rw[Oa] at y1;rw[Qb] at y2;have WP:aby (Z8 PW w) qQ (topStub PW).cur (fun fin z s'=>(∃f,fin= .done f)/\(vL w s'/\s'.os=s₀.os)/\s'.gens= #[]) (fun z z z=>False) default s₀:=by
  show aby _ _ (moduleCode PW.main>>=fun code=>newBodyFrame code mainNs mainNs>>=fun frame=>run (.body (abF PW) (jC code frame))>>=fun z=>ret .none) _ _ _ _
  rw[ack];refine wB y1 R0 fun s₁ nj=> ?_
  rw[ack];refine wB y2 nj fun ar vH=> ?_
  rw[ack];show aby _ _ (Sem.call _ _ _ _ _) _ _ _ _
  rw[Sem.wp_call,wpCode_iff_wp];show aby _ _ (blockStart (abF PW) (jC cz.c cz.f)>>=fun z=>((ac3 (abF PW) (jC cz.c cz.f)).onRaise (leaving (jC cz.c cz.f))>>=fun f=>(pure (Fin.done f):Sem Fin))) _ _ _ _
  have hb:blockStart (abF PW) (jC cz.c cz.f)=pure ():=by
   unfold blockStart;rw[show hasAnns (abF PW)=false by kernel_rfl,show docOf (abF PW)=none by kernel_rfl];cases adt (jC cz.c cz.f)<;>rfl
  rw[hb,ack,Sem.wp_pure',ack,Sem.wp_onRaise];refine aeE _ _ _ (fun f p' bj q=> ?_) (fun z z z x=>x.elim) _ _ (MR hv h₀ yA vH);obtain⟨rfl,xF⟩:=q;rw[Sem.wp_pure'];show(∃f,Fin.done (.ret .none)= .done f)/\(vL w bj/\bj.os=s₀.os)/\bj.gens= #[]
  refine gz fun zq zk=> ?_
  obtain⟨e,n,tk,r,er,oI,xh⟩:=id xF;obtain⟨r',V⟩:=sH (hv e n tk);refine zk ?_;obtain rfl:=gS er V.1;have nG:=(DO (sD er) Y).1;exact⟨⟨_,rfl⟩,⟨xF,(oI.os.trans V.8).trans (nG▸R0.os.symm)⟩,oI.gens.trans V.7⟩
 obtain⟨n,t',s₁,ui,Te,⟨xF,SF⟩,Ig,BU⟩:=YA hz WP;obtain⟨e,nn,tk,r,er,oI,xh⟩:=xF;obtain⟨r',V⟩:=sH (hv e nn tk);refine zk ?_;obtain rfl:=gS er V.1;have nG:=(DO (sD er) Y).1;have C:=Fb V.2;have E0:s₀.heap=hp r.t0:=Bz (t:=r.t0) (nG▸R0.size) (nG▸R0.get) C.1 (nG▸Iw);have E1:s₁.heap=hp r.tC:=Bz oI.size oI.get C.2 (by rw[BU,Iw,V.6,nG]);have hb:s₁.heap.isNs acx=true:=by rw[E1];exact C.9
 refine⟨R0.gens.trans (nG▸V.11),s₁,⟨⟨n,t',ui,Te⟩,BU,Shared.rest_eq SF,fun b o rC B4=> ?_,?_,?_,?_,fun x hx=> ?_,?_,?_,?_,?_⟩,⟨?_,Ig,?_, .of_isNs hb,fun x hx=> ?_,?_,⟨tk,?_⟩,xh⟩⟩
 . --ZK stood before
  have cL:=rC;rw[E0] at cL;have aV:b<28:=by
   have:=aa1 cL;rw[show(hp r.t0).objs.size=r.t0.n from absHeap_size ..,V.5] at this;exact this
  have bC:b≠2/\b≠3/\b≠6:=by
   refine⟨fun q=>B4 (.inr (.inl q)),fun q=>B4 (.inl q),fun q=>B4 (.inr (.inr ?_))⟩;rw[E0,Pin.globalOf_eq C.3,q];exact V.14
  have fT:b∈rp:=by
   have h: ∀b:Nat,b<28->b≠2/\b≠3/\b≠6->b∈rp:=by decide
   exact h b aV bC
  have hT:r.tC.tree.get b=r.t0.tree.get b:=by
   have: ∀(l:List Nat) (f g:Nat->Option Obj),l.map f=l.map g-> ∀b∈l,f b=g b:=by
    intro l f g h
    induction l with
    |nil=>intro b hb;cases hb
    |cons a l ih=>
     simp only[aah,List.cons.injEq] at h;intro b hb;rcases ZU.mp hb with rfl|hb
     ·exact h.1
     ·exact ih h.2 b hb
   exact this _ _ _ V.4 b fT
  obtain⟨x,g1,g2⟩:=AM C.1 (show b<r.t0.n by rw[V.5];exact aV);have e1:s₀.heap.get? b=alive x:=(nG▸R0).get b x (by rw[V.5];exact aV) g1;have e2:s₁.heap.get? b=alive x:=oI.get b x (by rw[V.13];exact abh aV (by decide)) (hT.trans g1);rw[e2,<-e1];exact rC
 ·rw[E1];exact Heap.accountedI_of_ok C.7
 ·rw[E0,E1];exact statics_of_ok C.4
 ·rw[E1];exact Pin.keysAreStrs_of C.8
 ·rw[E1];exact(Pin.builtinOf_eq C.9 x).trans (Heap.of_bltView C.9 V.9 x hx)
 ·obtain⟨bm,ob,a1,_,a3,a4,a5,_⟩:=Heap.bmainOk_spec C.10
  rw[E1];exact⟨bm,ob,(Pin.globalOf_eq C.8 _).trans a1,a3,a4,a5⟩
 ·rw[Ig];intro g hg;simp at hg
 ·rw[E1];exact names_of_bound C.5
 ·rw[E0,E1];exact laid_of_kept C.6
 ·exact Shared.asleep_of_life BU hz
 ·rw[E1];exact C.8
 ·rw[E1];exact Heap.of_bltView C.9 V.9 x hx
 ·rw[E1];exact⟨_, .of_isNs C.11,by simpa using C.12⟩
 ·intro a o e
  have dk:(a,o)∈KL w.params tk:=Vy e;have:=Ve (T:=r.tC.tree.get) V.3 a o e;rw[oI.get a o (by rw[V.13];exact Lk _ _ _ dk) this];exact s7 (Lj _ _ _ dk)
theorem YM(w:Z2)(e n tk):ox (w4 w false false).params tk (fL (w4 w false false) e n tk)=oy (w4 w false false).params tk (fL (w4 w false false) e n tk):=by kernel_rfl
theorem YN(w:Z2)(e n tk):ox (w4 w false true).params tk (fL (w4 w false true) e n tk)=oy (w4 w false true).params tk (fL (w4 w false true) e n tk):=by kernel_rfl
theorem YO(w:Z2)(e n tk):ox (w4 w true false).params tk (fL (w4 w true false) e n tk)=oy (w4 w true false).params tk (fL (w4 w true false) e n tk):=by kernel_rfl
theorem YP(w:Z2)(e n tk):ox (w4 w true true).params tk (fL (w4 w true true) e n tk)=oy (w4 w true true).params tk (fL (w4 w true true) e n tk):=by kernel_rfl
theorem KX(w:Z2)(e n tk):ox w.params tk (fL w e n tk)=oy w.params tk (fL w e n tk):=by
 have h1:=World.withFollow_self w "set-order";have h2:=World.withFollow_self w "special-get-raises";have h:w4 w (w.params.followText "set-order") (w.params.followText "special-get-raises")=w:=by
  unfold w4;rw[h1,h2]
 generalize w.params.followText "set-order" =a at h;generalize w.params.followText "special-get-raises" =b at h;rw[<-h];cases a<;>cases b
 ·exact YM w e n tk
 ·exact YN w e n tk
 ·exact YO w e n tk
 ·exact YP w e n tk
theorem RD(w:Z2):(∃s,AfterRun (adT PW) w s)/\ ∀s,AfterRun (adT PW) w s-> ∃s₀,fenceModules? PW s=some s₀/\s₀.gens= #[]/\ ∃s₁,TopRan PW w s₀ s₁/\sT w s₁:=by
 obtain⟨cz,h₀⟩:=sH (KX w (fun z=> #[]) (fun z=>0) 0);have h0:=(sD h₀.1).1;obtain⟨a,b⟩:=Wt h0;refine⟨a,fun s hs=> ?_⟩;obtain⟨hz,s₀,hF,kM⟩:=b s hs;have Tx:s₀.asleep:=Shared.asleep_of_life (fence_lifeW hF) hz;obtain⟨hg,s₁,hT,QW⟩:=Yz (KX w) h0 (Wi kM) Tx kM;exact⟨s₀,hF,hg,s₁,hT,QW⟩
variable{H:Heap}
variable{l:Nat}
variable{n:Nat}
variable{sc:ZZ}
variable{ρ:aw}
variable{tk:Nat}
inductive V where
 |none
 |bool (b:Bool)
 |int (i:Int)
 |flt (x:UInt64)
 |str (s:Str)
 |list (l:List V)
 |tup (l:List V)
 |obj (o:Obj)
 |ty (n:String)
 |bi (n:String)
 |at(a:Addr)
 |hdr (l:V)
 deriving Inhabited
noncomputable abbrev GM:=Addr->Option Obj
noncomputable def eQ(d:Addr):Obj:={cls:= .ref 323,dict:=some d,data:= .plain,slots:= #[]}
noncomputable def gA(h:Int)(t:Tok)(b:ZN)(ep:Nat):Obj:={cls:= .type "dict",dict:=none,data:= .dict #[⟨h, .str "_headers" t,b⟩] ep,slots:= #[]}
noncomputable def aI(vs:List ZN)(n:Nat):Obj:={cls:= .type "list",dict:=none,data:= .seq vs.toArray n,slots:= #[]}
noncomputable def iD(vs:List ZN)(n:Nat):Obj:={cls:= .type "tuple",dict:=none,data:= .seq vs.toArray n,slots:= #[]}
mutual
inductive Rd (G : GM) : V → Value → Prop
  | none : Rd G .none .none
  | bool (b:_) : Rd G (.bool b) (.bool b)
  | int (i t:_) : Rd G (.int i) (.int i t)
  | flt (x t:_) : Rd G (.flt x) (.float x t)
  | str (x t:_) : Rd G (.str x) (.str x t)
  | list {a vs n l:_} : G a = some (aI vs n) → aP G l vs → Rd G (.list l) (.ref a)
  | tup {a vs n l:_} : G a = some (iD vs n) → aP G l vs → Rd G (.tup l) (.ref a)
  | ty (n:_) : Rd G (.ty n) (.type n)
  | bi (n:_) : Rd G (.bi n) (.builtin n)
  | at (a:_) : Rd G (.at a) (.ref a)
  | obj {a o:_} : G a = some o → (a == sysModules) = false → Rd G (.obj o) (.ref a)
  | hdr {a d h t b ep l:_} : G a = some (eQ d) → G d = some (gA h t b ep) → Rd G l b → Rd G (.hdr l) (.ref a)
inductive aP (G : GM) : List V → List Value → Prop
  | nil : aP G [] []
  | cons {v cv l vs:_} : Rd G v cv → aP G l vs → aP G (v :: l) (cv :: vs)
end
theorem aP.inv0{G:GM}{vs:List ZN}(h:aP G [] vs):vs=[]:=by cases h;rfl
theorem aP.inv{G:GM}{v:V}{l:List V}{vs:List ZN}(h:aP G (v::l) vs): ∃c r,vs=c::r/\Rd G v c/\aP G l r:=by
 cases h with|cons a b=>exact⟨_,_,rfl,a,b⟩
theorem aP.length{G:GM}{l:List V}{vs:List ZN}(h:aP G l vs):l.length=vs.length:=by
 induction l generalizing vs with
 |nil=>rw[h.inv0];rfl
 |cons a l ih=>obtain⟨c,r,rfl,_,hr⟩:=h.inv;exact congrArg adN (ih hr)
theorem aP.get{G:GM}{l:List V}{vs:List ZN}(h:aP G l vs){i:Nat}{v:V}(e:l[i]?=some v): ∃cv,vs[i]?=some cv/\Rd G v cv:=by
 induction l generalizing vs i with
 |nil=>cases e
 |cons a l ih=>
  obtain⟨c,r,rfl,h1,hr⟩:=h.inv;cases i with
  |zero=>exact⟨c,rfl,abM e▸h1⟩
  |succ i=>exact ih hr e
theorem aP.append{G:GM}{l m:List V}{vs us:List ZN}(h:aP G l vs)(k:aP G m us):aP G (l++m) (vs++us):=by
 induction l generalizing vs with
 |nil=>cases h;exact k
 |cons a l ih=>cases h with|cons h1 h2=>exact .cons h1 (ih h2)
noncomputable def Lp(G:GM)(v:V)(c:ZN):Prop:=
 V.casesOn (motive_1:=fun z=>Prop) v (c= .none) (fun b=>c= .bool b) (fun i=> ∃t,c= .int i t) (fun x=> ∃t,c= .float x t) (fun x=> ∃t,c= .str x t)
  (fun l=> ∃a vs k,c= .ref a/\G a=some (aI vs k)/\aP G l vs) (fun l=> ∃a vs k,c= .ref a/\G a=some (iD vs k)/\aP G l vs)
  (fun x=> ∃a,c= .ref a/\G a=some x/\(a==acI)=false) (fun n=>c= .type n) (fun n=>c= .builtin n) (fun a=>c= .ref a)
  (fun l=> ∃a d h t b ep,c= .ref a/\G a=some (eQ d)/\G d=some (gA h t b ep)/\Rd G l b)
theorem k7{G:GM}{v:V}{c:ZN}(r:Rd G v c):Lp G v c:=by
 cases r with
 |none=>exact rfl
 |bool b=>exact rfl
 |int i t=>exact⟨t,rfl⟩
 |flt x t=>exact⟨t,rfl⟩
 |str x t=>exact⟨t,rfl⟩
 |list g h=>exact⟨_,_,_,rfl,g,h⟩
 |tup g h=>exact⟨_,_,_,rfl,g,h⟩
 |ty n=>exact rfl
 |bi n=>exact rfl
 |«at» a=>exact rfl
 |obj g h=>exact⟨_,rfl,g,h⟩
 |hdr g h r=>exact⟨_,_,_,_,_,_,rfl,g,h,r⟩
theorem dC{G:GM}{x:Str}{ca:ZN}(r:Rd G (.str x) ca): ∃t,ca= .str x t:=k7 r
theorem aZ{G:GM}{x:Int}{ca:ZN}(r:Rd G (.int x) ca): ∃t,ca= .int x t:=k7 r
theorem du{G:GM}{x:UInt64}{ca:ZN}(r:Rd G (.flt x) ca): ∃t,ca= .float x t:=k7 r
theorem fe{G:GM}{a:Addr}{v:ZN}(r:Rd G (.at a) v):v= .ref a:=k7 r
theorem Dt{G:GM}{a:Bool}{v:ZN}(r:Rd G (.bool a) v):v= .bool a:=k7 r
theorem Kg{G:GM}{v:ZN}(r:Rd G .none v):v= .none:=k7 r
theorem yv{G:GM}{a:String}{v:ZN}(r:Rd G (.ty a) v):v= .type a:=k7 r
theorem cN{G G':GM}(hs: ∀a o,G a=some o->G' a=some o): ∀{v:V} {cv:ZN},Rd G v cv->Rd G' v cv:=by
 intro v cv h;refine Rd.rec (motive_1:=fun v cv z=>Rd G' v cv) (motive_2:=fun l vs z=>aP G' l vs) ?_ ?_ ?_ ?_ ?_ ?_ ?_ ?_ ?_ ?_ ?_ ?_ ?_ ?_ h
 ·exact .none
 ·exact fun b=> .bool b
 ·exact fun i t=> .int i t
 ·exact fun x t=> .flt x t
 ·exact fun x t=> .str x t
 ·exact fun g z ih=> .list (hs _ _ g) ih
 ·exact fun g z ih=> .tup (hs _ _ g) ih
 ·exact fun n=> .ty n
 ·exact fun n=> .bi n
 ·exact fun a=> .at a
 ·exact fun g h=> .obj (hs _ _ g) h
 ·exact fun g1 g2 z ih=> .hdr (hs _ _ g1) (hs _ _ g2) ih
 ·exact .nil
 ·exact fun z z h1 h2=> .cons h1 h2
theorem mX{G G':GM}(hs: ∀a o,G a=some o->G' a=some o){l:List V}{vs:List ZN}(h:aP G l vs):aP G' l vs:=by
 induction l generalizing vs with
 |nil=>rw[h.inv0];exact .nil
 |cons a l ih=>obtain⟨c,r,rfl,h1,hr⟩:=h.inv;exact .cons (cN hs h1) (ih hr)
noncomputable def aq:List Addr:=[54,61]
noncomputable def fZ(p:Addr):Pos×Str:=if p=54 then(⟨36,4,46,25⟩,"_int2digits.<locals>.inner") else(⟨51,4,56,58⟩,"_digits2int.<locals>.inner")
noncomputable def bY(h:Heap):Prop:= ∀p∈aq,∃vs,h.get? p=some {cls:= .none,dict:=none,data:= .fields vs,slots:= #[]}/\
 (vs= #[]\/ ∃c o b8 t,vs= #[adO (fZ p).1.line,adO (fZ p).1.col, .ref c]/\c∉aq/\h.get? c=some o/\o.cls= .type "code" /\o.data= .fields b8/\b8[1]?=some (.str (fZ p).2 t))
theorem bY.keepT{h h':Heap}(x:bY h)(k: ∀b o vs,h.get? b=some o->o.data= .fields vs->(b∈aq\/o.cls= .type "code")->h'.get? b=some o):bY h':=fun p hp=>by
 obtain⟨vs,h1,h2⟩:=x p hp;refine⟨vs,k _ _ vs h1 rfl (.inl hp),h2.imp id ?_⟩;exact ac5 fun c=>ac5 fun o=>ac5 fun b8=>ac5 fun t z=>⟨z.1,z.2.1,k _ _ _ z.2.2.1 z.2.2.2.2.1 (.inr z.2.2.2.1),z.2.2.2⟩
theorem bY.keep{h h':Heap}(x:bY h)(k: ∀b o,h.get? b=some o->h'.get? b=some o):bY h':=x.keepT fun b o z e z z=>k b o e
theorem bY.fld{h:Heap}(t:bY h){p:Addr}(hp:p∈aq){o:Obj}(ho:h.get? p=some o):o.cls= .none/\ ∃vs,o.data= .fields vs:=by
 obtain⟨vs,h1,_⟩:=t p hp;cases gS h1 ho;exact⟨rfl,vs,rfl⟩
structure ak(X:List Addr)(G:GM)(s:ZL)(G':GM)(s':ZL):Prop where
 sub: ∀a o,G a=some o->G' a=some o
 new: ∀a o,G' a=some o->G a=some o\/s.heap.get? a=none\/a∈X
 inn: ∀a o,G' a=some o->s'.heap.get? a=some o
 keep: ∀b o,s.heap.get? b=some o->b∉X->s'.heap.get? b=some o
 gens:s'.gens=s.gens
 os:s'.os=s.os
 tab:bY s.heap->bY s'.heap
 gt:bY s.heap->(∀p∈aq,G p=none)-> ∀p∈aq,G' p=none
noncomputable abbrev bS(G:GM)(s:ZL):Prop:= ∀a o,G a=some o->s.heap.get? a=some o
theorem ak.refl{X:List Addr}{G:GM}{s:ZL}(h:bS G s):ak X G s G s:=
 ⟨fun y y e=>e,fun y y e=> .inl e,h,fun y y e y=>e,rfl,rfl,id,fun y z=>z⟩
theorem jT{h:Heap}{a:Addr}(k: ∀o,h.get? a≠some o):h.get? a=none:=by
 cases e:h.get? a with
 |none=>rfl
 |some o=>exact absurd e (k o)
theorem ct{h:Heap}{a:Addr}(k:h.objs.size<=a):h.get? a=none:=jT fun o e=>absurd (aa1 e) (adV.mpr k)
theorem ak.trans{X:List Addr}{G G' jJ:GM}{s s' s'':ZL}(x:ak X G s G' s')(y:ak X G' s' jJ s''):ak X G s jJ s'':=
 ⟨fun a o e=>y.sub a o (x.sub a o e),fun a o e=>(y.new a o e).elim (fun e=>x.new a o e) fun h=>h.elim (fun h=>by
  by_cases hX:a∈X
  ·exact .inr (.inr hX)
  ·refine .inr (.inl (jT fun q eq=> ?_))
   rw[x.keep a q eq hX] at h;cases h) fun h=> .inr (.inr h),y.inn,fun b o e n=>y.keep b o (x.keep b o e n) n,y.gens.trans x.gens,y.os.trans x.os,fun z=>y.tab (x.tab z),fun z g=>y.gt (x.tab z) (x.gt z g)⟩
theorem ak.wide{X Y:List Addr}{G G':GM}{s s':ZL}(x:ak X G s G' s')(h: ∀a∈X,a∈Y):ak Y G s G' s':=
 ⟨x.sub,fun a o e=>(x.new a o e).elim .inl fun k=>k.elim (fun k=> .inr (.inl k)) fun k=> .inr (.inr (h a k)),x.inn,fun b o e n=>x.keep b o e fun k=>n (h b k),x.gens,x.os,x.tab,x.gt⟩
theorem ak.toks{X:List Addr}{G:GM}{s:ZL}(h:bS G s)(t:Nat):ak X G s G {s with toks:=t}:=
 ⟨fun y y e=>e,fun y y e=> .inl e,h,fun y y e y=>e,rfl,rfl,id,fun y z=>z⟩
theorem ak.grown{X:List Addr}{G:GM}{s:ZL}(h:bS G s){h':Heap}(t:Nat)(hk: ∀b o,s.heap.get? b=some o->h'.get? b=some o):ak X G s G {s with heap:=h',toks:=t}:=
 ⟨fun y y e=>e,fun y y e=> .inl e,fun a o e=>hk a o (h a o e),fun b o e y=>hk b o e,rfl,rfl,fun z=>z.keep hk,fun y z=>z⟩
noncomputable def bN(G:GM)(a:Addr)(o:Obj):GM:=fun b=>if b=a then some o else G b
theorem iK{G:GM}{a:Addr}{o:Obj}:bN G a o a=some o:=by unfold bN;rw[if_pos rfl]
theorem bS.fresh{G:GM}{s:ZL}(h:bS G s): ∀a x,G a=some x->a<s.heap.objs.size:=fun a x e=>aa1 (h a x e)
set_option tactic.hygienic true in
theorem ak.freeze{X:List Addr}{G G₁:GM}{s s₁:ZL}(x:ak X G s G₁ s₁){a:Addr}{o:Obj}(ho:s₁.heap.get? a=some o)(hn:s.heap.get? a=none\/a∈X)(hg:G₁ a=none)(hc:s.heap.get? a=none\/o.cls≠ .none):ak X G s (bN G₁ a o) s₁:=by
 refine⟨fun b y e=> ?_,fun b y e=> ?_,fun b y e=> ?_,x.keep,x.gens,x.os,x.tab,fun z g p hp=> ?_⟩
 ·unfold bN
  by_cases hb:b=a
  ·subst hb;rw[x.sub _ _ e] at hg;cases hg
  ·rw[if_neg hb];exact x.sub _ _ e
 ·unfold bN at e
  split at e
  ·rename_i q;exact .inr (q▸hn)
  ·exact x.new b y e
 ·unfold bN at e
  split at e
  ·rename_i q;cases e;exact q▸ho
  ·exact x.inn b y e
 ·unfold bN
  split
  ·rename_i q
   rcases hc with h|h
   ·obtain⟨vs,h1,_⟩:=z p hp
    rw[q,h] at h1;cases h1
   ·obtain⟨vs,h1,_⟩:=x.tab z p hp
    rw[q,ho] at h1;cases h1;exact absurd rfl h
  ·exact x.gt z g p hp
theorem ak.alloc{X:List Addr}{G:GM}{s:ZL}{o:Obj}(h:bS G s)(hf:o.isFreed=false)(t:Nat):ak X G s (bN G s.heap.objs.size o) {s with heap:=s.heap.push o,toks:=t}:=
 ak.freeze (ak.grown h t (fun b x e=>Z9 _ e)) (aai _ hf) (.inl (ct (aab _))) (by
  cases e:G s.heap.objs.size with
  |none=>rfl
  |some o=>exact absurd (h.fresh _ _ e) (aew _)) (.inl (ct (aab _)))
structure ai(w:Z2)(tk:Nat)(H:Heap):Prop where
 ns:H.isNs aaI=true
 blt:H.isNs acx=true
 blts: ∀x:Str,x≠ "__name__" ->H.nsMap acx x=bootBuiltins x
 nolimit:H.NoLimit
 frag:(KK w.params tk).In H
 tab:bY H
structure bW(A:aaj)(l n:Nat):Prop where
 hd:A.handled=none
 depth:A.depth+l<=600
 units:A.units+100*l+2*n<=9000
theorem bW.in1{A:aaj}{l n:Nat}(r:bW A l (n+1)):bW A.in1 l n:=⟨r.hd,r.depth,by have:=r.units;show A.units+1+100*l+2*n<=9000;exact "[++A*100B*2+C1_9000[+++A1*100B*2C9000" this⟩
noncomputable abbrev aw:=List (Nat×V)
structure qG(env:Env)(sc:ZZ):Prop where
 kind:env.scope.kind= .function
 loc: ∀x,sc.names.lookup x=some .local->env.kindOf x=some .local
 glb: ∀x,sc.names.lookup x=some .globalImplicit->env.kindOf x=some .globalImplicit
 cel: ∀x,sc.names.lookup x=some .cell->env.kindOf x=some .cell
 fre: ∀x,sc.names.lookup x=some .free->env.kindOf x=some .cell\/env.kindOf x=some .free
 glob:env.globals=aaI
 blt:env.builtins=acx
 nd:(sc.names.map (·.1)).Nodup
 has: ∀x,(sc.names.lookup x=some .cell\/sc.names.lookup x=some .free)->(env.cells.lookup x).isSome=true
 apart:env.cells.Pairwise fun x y=>x.2≠y.2
 ckeys: ∀x c,(x,c)∈env.cells->env.cells.lookup x=some c
inductive y4(env:Env)(m:Str->Option ZN)(G:GM)(h:Heap)(p:Str×V):Prop
 |loc (a:env.kindOf p.1=some .local) (cv:ZN) (b:m p.1=some cv) (r:Rd G p.2 cv):y4 env m G h p
 |cel (a:env.kindOf p.1=some .cell\/env.kindOf p.1=some .free) (c:Addr) (cv:ZN) (b:env.cells.lookup p.1=some c) (d:h.IsCell c (some cv)) (r:Rd G p.2 cv):y4 env m G h p
inductive sV(env:Env)(sc:ZZ)(m:Str->Option ZN)(G:GM)(h:Heap)(p:Nat×V):Prop
 |mk (x:Str) (k:aam) (a:sc.names[p.1]?=some (x,k)) (b:y4 env m G h (x,p.2)):sV env sc m G h p
inductive ni(env:Env)(sc:ZZ)(ρ:List (Nat×V))(G:GM)(h:Heap):Prop
 |mk (m:Str->Option ZN) (a:h.Ns env.locals m) (b: ∀p∈ρ,sV env sc m G h p):ni env sc ρ G h
theorem v7{h h':Heap}{c:Addr}{v}(k: ∀o,h.get? c=some o->h'.get? c=some o)(y:h.IsCell c v):h'.IsCell c v:=y.imp fun o z=>⟨k o z.1,z.2⟩
theorem yj{h h':Heap}{c:Addr}{m}(k: ∀o,h.get? c=some o->h'.get? c=some o)(y:h.Ns c m):h'.Ns c m:=y.imp fun o=>ac5 fun x=>ac5 fun x z=>⟨k o z.1,z.2⟩
theorem nD{h:Heap}(t:bY h){c:Addr}{v}(x:h.IsCell c v):c∉aq:=fun hc=>by
 obtain⟨o,ho,hd⟩:=x;obtain⟨_,vs,e⟩:=t.fld hc ho;cases hd.symm.trans e
theorem jz{h:Heap}(t:bY h){c:Addr}{m}(x:h.Ns c m):c∉aq:=fun hc=>by
 obtain⟨o,es,ep,ho,hd,_⟩:=x;obtain⟨_,vs,e⟩:=t.fld hc ho;cases hd.symm.trans e
theorem mU{h:Heap}{c:Addr}{m v}(x:h.Ns c m)(y:h.IsCell c v):False:=by
 obtain⟨o,es,ep,ho,hd,_⟩:=x;obtain⟨o',eu,cG⟩:=y;cases gS ho eu;cases hd.symm.trans cG
noncomputable def Hl(H:Heap)(G:GM):Prop:= ∀a vs k,H.get? a=some (aI vs k)->G a=some (aI vs k)
structure St(H:Heap)(sc:ZZ)(env:Env)(ρ:aw)(G:GM)(s:ZL):Prop where
 base: ∀b o,H.get? b=some o->b∉aq->s.heap.get? b=some o
 inn:bS G s
 envIs:qG env sc
 loc:ni env sc ρ G s.heap
 cis: ∀x c,env.cells.lookup x=some c-> ∃v,s.heap.IsCell c v
 tab:bY s.heap
 gt: ∀p∈aq,G p=none
 hl:Hl H G
theorem sV.mono{env:Env}{sc:ZZ}{m:Str->Option ZN}{G G':GM}{h h':Heap}{p:Nat×V}(x:sV env sc m G h p)(hs: ∀a o,G a=some o->G' a=some o)(hk: ∀c v,h.IsCell c v->h'.IsCell c v):sV env sc m G' h' p:=by
 obtain⟨y,k,e,x⟩:=x;refine⟨y,k,e,?_⟩;rcases x with⟨h1,cv,h2,h3⟩|⟨h1,c,cv,h2,h4,h3⟩
 ·exact .loc h1 cv h2 (cN hs h3)
 ·exact .cel h1 c cv h2 (hk _ _ h4) (cN hs h3)
theorem ni.mono{env:Env}{sc:ZZ}{ρ:List (Nat×V)}{G G':GM}{h h':Heap}(x:ni env sc ρ G h)(hs: ∀a o,G a=some o->G' a=some o)(hk: ∀c v,h.IsCell c v->h'.IsCell c v)(hn: ∀m,h.Ns env.locals m->h'.Ns env.locals m):ni env sc ρ G' h':=by
 obtain⟨m,a,b⟩:=x;exact⟨m,hn m a,fun p hp=>(b p hp).mono hs hk⟩
theorem St.ext{H:Heap}{sc:ZZ}{env:Env}{ρ:aw}{G G':GM}{s s':ZL}(S:St H sc env ρ G s)(x:ak aq G s G' s'):St H sc env ρ G' s':=by
 have kc: ∀c v,s.heap.IsCell c v->s'.heap.IsCell c v:=fun c v y=>v7 (fun o h=>x.keep _ _ h (nD S.tab y)) y
 exact⟨fun b o e n=>x.keep b o (S.base b o e n) n,x.inn,S.envIs,S.loc.mono x.sub kc fun m y=>yj (fun o h=>x.keep _ _ h (jz S.tab y)) y,fun y c h1=>(S.cis y c h1).imp fun v=>kc c v,x.tab S.tab,x.gt S.tab S.gt,fun a vs k e=>x.sub _ _ (S.hl a vs k e)⟩
theorem St.sub{H:Heap}{sc:ZZ}{env:Env}{ρ ρ':aw}{G:GM}{s:ZL}(S:St H sc env ρ G s)(h: ∀p∈ρ',p∈ρ):St H sc env ρ' G s:=by
 obtain⟨m,hn,hv⟩:=S.loc;exact⟨S.base,S.inn,S.envIs,⟨m,hn,fun p hp=>hv p (h p hp)⟩,S.cis,S.tab,S.gt,S.hl⟩
noncomputable def qI(w:Z2)(A:aaj)(t:Sem ZN)(G:GM)(s:ZL)(v:V):Prop:=
 ∀(Q:ZN->ZL->Prop) (E:ZN->ZL->Prop),(∀cv s' G',ak aq G s G' s'->Rd G' v cv->Q cv s')->Z6 (Z8 PW w) A t Q E s
structure ah(w:Z2)(H:Heap)(l n:Nat)(sc:ZZ)(ρ:aw)(e:Expr)(v:V):Prop where
 go: ∀(env:Env) (A:aaj) (s:ZL) (G:GM),bW A l n->St H sc env ρ G s->qI w A (eval e env) G s v
theorem aj{i:Int}{k:Nat}{pos:Pos}:ah w H l n sc ρ (.Constant (.int i) k pos) (.int i):= .mk fun env A s G z S Q E h=>wpAny_Constant_int (h _ _ G (ak.toks S.inn _) (.int _ _))
theorem kC{x:Str}{k:Nat}{pos:Pos}:ah w H l n sc ρ (.Constant (.str x) k pos) (.str x):= .mk fun env A s G z S Q E h=>wpAny_Constant_str (h _ _ G (ak.toks S.inn _) (.str _ _))
theorem en{k:Nat}{pos:Pos}:ah w H l n sc ρ (.Constant .none k pos) .none:= .mk fun env A s G z S Q E h=>wpAny_Constant_none (h _ _ G (ak.refl S.inn) .none)
theorem Ak{b:Bool}{k:Nat}{pos:Pos}:ah w H l n sc ρ (.Constant (.bool b) k pos) (.bool b):= .mk fun env A s G z S Q E h=>wpAny_Constant_bool (h _ _ G (ak.refl S.inn) (.bool _))
theorem di{x:UInt64}{k:Nat}{pos:Pos}:ah w H l n sc ρ (.Constant (.float x) k pos) (.flt x):= .mk fun env A s G z S Q E h=>fun z z z=>h _ _ G (ak.toks S.inn _) (.flt _ _)
theorem n6{A:aaj}{Q:ZN->ZL->Prop}{E:ZN->ZL->Prop}{env:Env}{G:GM}{s:ZL}(S:St H sc env ρ G s){i:Nat}{x:Str}{k:aam}{v:V}{pos:Pos}(hx:sc.names[i]?=some (x,k))(hv:(i,v)∈ρ)(hd:(x==("__debug__" :Str))=false)(hc:(x==("__classdict__" :Str))=false)
 (h: ∀cv,Rd G v cv->Q cv s):Z6 (Z8 PW w) A (eval (.Name x pos) env) Q E s:=by
 obtain⟨m,hn,hr⟩:=S.loc;obtain⟨y,k',hy,hh⟩:=hr _ hv;cases gS hx hy;rcases hh with⟨h1,cv,h2,h3⟩|⟨h1,c,cv,h2,h4,h3⟩
 ·exact wpAny_Name (wpAny_loadName_local S.envIs.kind h1 hn h2 (h _ h3)) hd
 ·rcases h1 with h1|h1
  ·exact wpAny_Name (wpAny_loadName_cell S.envIs.kind h1 h2 h4 (h _ h3)) hd
  ·exact wpAny_Name (wpAny_loadName_free S.envIs.kind h1 h2 h4 (h _ h3) hc) hd
theorem jd{i:Nat}{x:Str}{k:aam}{v:V}{pos:Pos}(hx:sc.names[i]?=some (x,k))(hv:(i,v)∈ρ)(hd:(x==("__debug__" :Str))=false)(hc:(x==("__classdict__" :Str))=false):ah w H l n sc ρ (.Name x pos) v:= .mk fun env A s G z S Q E h=>
 n6 S hx hv hd hc fun z=>h _ _ G (ak.refl S.inn)
theorem xT{h:Heap}{a:Addr}(hn:H.isNs a=true)(ha:a∉aq)(hb: ∀b o,H.get? b=some o->b∉aq->h.get? b=some o):h.Ns a (H.nsMap a):=by
 obtain⟨o,es,ep,ho,r⟩:=Heap.Ns.of_isNs hn;exact⟨o,es,ep,hb _ _ ho ha,r⟩
theorem ah.cast{e:Expr}{v v':V}(h:ah w H l n sc ρ e v)(hv:v=v'):ah w H l n sc ρ e v':=hv▸h
noncomputable def bO(w:Z2)(t:ZN->ZN->Sem ZN)(a b v:V):Prop:=
 ∀(A:aaj) (s:ZL) (G:GM) (ca cb:ZN),A.handled=none->A.units<9000->bS G s->Rd G a ca->Rd G b cb->qI w A (t ca cb) G s v
noncomputable def vB(w:Z2)(t:ZN->Sem ZN)(a v:V):Prop:=
 ∀(A:aaj) (s:ZL) (G:GM) (ca:ZN),A.handled=none->A.units<9000->bS G s->Rd G a ca->qI w A (t ca) G s v
theorem bW.u{A:aaj}{l n:Nat}(r:bW A l (n+1)):A.units<9000:=by have:=r.units;exact "[++A*100B*2+C1_9000<A9000" this
theorem O0{el er:Expr}{op:Operator}{pos:Pos}{a b v:V}(ij:bO w (abI op) a b v)(ha:ah w H l (n+1) sc ρ el a)(hb:ah w H l (n+1) sc ρ er b):ah w H l (n+1) sc ρ (.BinOp el op er pos) v:=
 .mk fun env A s G r S Q E k=>wpAny_BinOp (ha.go env A s G r S _ E fun ca s₁ G₁ af aA=>hb.go env A s₁ G₁ r (S.ext af) _ E fun cb ar aB ax bx=>
  ij A ar aB ca cb r.hd r.u ax.inn (cN ax.sub aA) bx _ E fun cv bj bI bL dT=>k cv bj bI ((af.trans ax).trans bL) dT)
theorem OZ{x:Expr}{op:UnaryOp}{pos:Pos}{a v:V}(ij:vB w (unaryOp op) a v)(ha:ah w H l (n+1) sc ρ x a):ah w H l (n+1) sc ρ (.UnaryOp op x pos) v:=
 .mk fun env A s G r S Q E k=>wpAny_UnaryOp (ha.go env A s G r S _ E fun ca s₁ G₁ af aA=>
  ij A s₁ G₁ ca r.hd r.u af.inn aA _ E fun cv bj bI bL dT=>k cv bj bI (af.trans bL) dT)
theorem OQ{el er:Expr}{op:CmpOp}{pos:Pos}{a b v:V}(ij:bO w (abz op) a b v)(ha:ah w H l (n+1) sc ρ el a)(hb:ah w H l (n+1) sc ρ er b)
 (hm:autoParam (behindInMarks op er=false) au):ah w H l (n+1) sc ρ (.Compare el [op] [er] pos) v:=
 .mk fun env A s G r S Q E k=>wpAny_Compare1 (ha.go env A s G r S _ E fun ca s₁ G₁ af aA=>hb.go env A s₁ G₁ r (S.ext af) _ E fun cb ar aB ax bx=>
  ij A ar aB ca cb r.hd r.u ax.inn (cN ax.sub aA) bx _ E fun cv bj bI bL dT=>k cv bj bI ((af.trans ax).trans bL) dT) hm
theorem o2{f:ZN->ZN->Sem ZN}{a b v:V}{ca cb:Tok->ZN}(ha: ∀{G:GM} {c},Rd G a c-> ∃t,c=ca t)(hb: ∀{G:GM} {c},Rd G b c-> ∃t,c=cb t)
 (h: ∀(A:aaj) (s:ZL) (G:GM) (t u:Tok) (Q:ZN->ZL->Prop) (E:ZN->ZL->Prop),bS G s->(∀(cv:ZN) (s':ZL) (G':GM),ak aq G s G' s'->Rd G' v cv->Q cv s')->Z6 (Z8 PW w) A (f (ca t) (cb u)) Q E s):bO w f a b v:=
 (fun A s G x y z z hi ra rb Q E k=>by
  obtain⟨t,rfl⟩:=ha ra;obtain⟨u,rfl⟩:=hb rb;exact h A s G t u Q E hi k)
theorem ck{a b:Int}:bO w (abI .Add) (.int a) (.int b) (.int (a+b)):=o2 aZ aZ fun z z G z z z z hi k=>P.add_int (k _ _ G (ak.toks hi _) (.int _ _))
theorem d6{a b:Int}:bO w (abI .Sub) (.int a) (.int b) (.int (a -b)):=o2 aZ aZ fun z z G z z z z hi k=>P.sub_int (k _ _ G (ak.toks hi _) (.int _ _))
theorem d5{a b:Int}(h:IntMulOk a b):bO w (abI .Mult) (.int a) (.int b) (.int (a*b)):=o2 aZ aZ fun z z G z z z z hi k=>P.mul_int (k _ _ G (ak.toks hi _) (.int _ _)) h
theorem cH{a b:Int}(h:b≠0):bO w (abI .Mod) (.int a) (.int b) (.int (a.fmod b)):=o2 aZ aZ fun z z G z z z z hi k=>mod_int' h (k _ _ G (ak.toks hi _) (.int _ _))
theorem n7{a b:Int}(h:b≠0)(h':Builtin.divisionGoesByPylong a b=false):bO w (abI .FloorDiv) (.int a) (.int b) (.int (a.fdiv b)):=o2 aZ aZ fun z z G z z z z hi k=>floordiv_int h (k _ _ G (ak.toks hi _) (.int _ _)) (.inl h')
theorem ql{a b:Int}(h:0<=b):bO w (abI .RShift) (.int a) (.int b) (.int (a.fdiv (2^b.toNat))):=o2 aZ aZ fun z z G z z z z hi k=>rshift_int h (k _ _ G (ak.toks hi _) (.int _ _))
theorem r3{a b:Int}(h:0<=b)(h': ↑(aad a)+b<=2^27):bO w (abI .LShift) (.int a) (.int b) (.int (a*2^b.toNat)):=o2 aZ aZ fun z z G z z z z hi k=>lshift_int h h' (k _ _ G (ak.toks hi _) (.int _ _))
theorem j9{a b:Int}(h:0<=b)(h': ↑(aad a)*b<=2^27):bO w (abI .Pow) (.int a) (.int b) (.int (a^b.toNat)):=o2 aZ aZ fun z z G z z z z hi k=>pow_int h h' (k _ _ G (ak.toks hi _) (.int _ _))
theorem JS{a b:Int}:bO w (abI .BitAnd) (.int a) (.int b) (.int (acK a b)):=o2 aZ aZ fun z z G z z z z hi k=>and_int (k _ _ G (ak.toks hi _) (.int _ _))
theorem Wh{a b:Int}:bO w (abI .BitXor) (.int a) (.int b) (.int (Builtin.bitXor a b)):=o2 aZ aZ fun z z G z z z z hi k=>xor_int (k _ _ G (ak.toks hi _) (.int _ _))
theorem mV{a:Int}:vB w (unaryOp .USub) (.int a) (.int (-a)):=by
 intro A s G ca _ _ hi ra Q E k;obtain⟨_,rfl⟩:=aZ ra;exact neg_int (k _ _ G (ak.toks hi _) (.int _ _))
theorem Dd{a:Int}:vB w (unaryOp .Invert) (.int a) (.int (acb a)):=by
 intro A s G ca _ _ hi ra Q E k;obtain⟨_,rfl⟩:=aZ ra;exact invert_int (k _ _ G (ak.toks hi _) (.int _ _))
theorem lV{a b:UInt64}:bO w (abI .Add) (.flt a) (.flt b) (.flt (abE a b)):=o2 du du fun z z G z z z z hi k=>add_float (k _ _ G (ak.toks hi _) (.flt _ _))
theorem dq{a b:UInt64}:bO w (abI .Sub) (.flt a) (.flt b) (.flt (aaJ a b)):=o2 du du fun z z G z z z z hi k=>sub_float (k _ _ G (ak.toks hi _) (.flt _ _))
theorem iX{a b:UInt64}:bO w (abI .Mult) (.flt a) (.flt b) (.flt (aaC a b)):=o2 du du fun z z G z z z z hi k=>mul_float (k _ _ G (ak.toks hi _) (.flt _ _))
theorem CW{x:UInt64}{G:GM}{s:ZL}{Q:ZN->ZL->Prop}(hi:bS G s)(k: ∀cv s' G',ak aq G s G' s'->Rd G' (.flt x) cv->Q cv s'):(Made.float x).post Q s:=k _ _ G (ak.toks hi _) (.flt _ _)
theorem j7{a b:UInt64}(h: ¬abT b=true):bO w (abI .Div) (.flt a) (.flt b) (.flt (acG a b)):=o2 du du fun z z G z z z z hi k=>AutoFloatOps.truediv_1 h (CW hi k)
theorem Dc{a b:UInt64}(h: ¬abT b=true):bO w (abI .Mod) (.flt a) (.flt b) (.flt (adL a b).snd):=o2 du du fun z z G z z z z hi k=>AutoFloatOps.mod_1 h (CW hi k)
theorem qk{a:UInt64}{b:Int}(h:b.natAbs<2^1023):bO w (abI .Mult) (.flt a) (.int b) (.flt (aaC a (abb b))):=o2 du aZ fun z z G z z z z hi k=>mul_fi_fits h (k _ _ G (ak.toks hi _) (.flt _ _))
theorem JR{a:UInt64}{b:Int}(h:b.natAbs<2^1023):bO w (abI .Add) (.flt a) (.int b) (.flt (abE a (abb b))):=o2 du aZ fun z z G z z z z hi k=>add_fi_fits h (k _ _ G (ak.toks hi _) (.flt _ _))
theorem Wf{a:UInt64}{b:Int}(h:b.natAbs<2^1023):bO w (abI .Sub) (.flt a) (.int b) (.flt (aaJ a (abb b))):=o2 du aZ fun z z G z z z z hi k=>sub_fi_fits h (k _ _ G (ak.toks hi _) (.flt _ _))
theorem r0{a b:Int}(h:b≠0)(hf:adB (aef (decide (a<0) !=decide (b<0)) a.natAbs b.natAbs)=false):bO w (abI .Div) (.int a) (.int b) (.flt (aef (decide (a<0) !=decide (b<0)) a.natAbs b.natAbs)):=o2 aZ aZ fun z z G z z z z hi k=>AutoIntOps.truediv_2 (by simpa using h) (by rw[hf];decide) (CW hi k)
theorem cJ{a b:Int}:bO w (abz .Eq) (.int a) (.int b) (.bool (a==b)):=o2 aZ aZ fun z z G z z z z hi k=>eq_int (k _ _ G (ak.refl hi) (.bool _))
theorem zL{a b:Int}:bO w (abz .NotEq) (.int a) (.int b) (.bool (a !=b)):=o2 aZ aZ fun z z G z z z z hi k=>ne_int (k _ _ G (ak.refl hi) (.bool _))
theorem oU{a b:Int}:bO w (abz .Lt) (.int a) (.int b) (.bool (decide (a<b))):=o2 aZ aZ fun z z G z z z z hi k=>lt_int (k _ _ G (ak.refl hi) (.bool _))
theorem MV{a b:Int}:bO w (abz .LtE) (.int a) (.int b) (.bool (decide (a<=b))):=o2 aZ aZ fun z z G z z z z hi k=>le_int (k _ _ G (ak.refl hi) (.bool _))
theorem MT{a b:Int}:bO w (abz .GtE) (.int a) (.int b) (.bool (decide (b<=a))):=o2 aZ aZ fun z z G z z z z hi k=>ge_int (k _ _ G (ak.refl hi) (.bool _))
theorem s9{a b:Str}:bO w (abz .Eq) (.str a) (.str b) (.bool (a==b)):=o2 dC dC fun z z G z z z z hi k=>eq_str (k _ _ G (ak.refl hi) (.bool _))
theorem MW{a b:Str}:bO w (abz .Lt) (.str a) (.str b) (.bool (decide (a.cps.toList<b.cps.toList))):=o2 dC dC fun z z G z z z z hi k=>lt_str (k _ _ G (ak.refl hi) (.bool _))
theorem nz{a b:UInt64}:bO w (abz .Eq) (.flt a) (.flt b) (.bool (aaW a b==some .eq)):=o2 du du fun z z G z z z z hi k=>AutoFloatOps.eq_0 (k _ _ G (ak.refl hi) (.bool _))
theorem zK{a b:UInt64}:bO w (abz .Lt) (.flt a) (.flt b) (.bool (aaW a b==some .lt)):=o2 du du fun z z G z z z z hi k=>AutoFloatOps.lt_0 (k _ _ G (ak.refl hi) (.bool _))
theorem EP{a b:UInt64}:bO w (abz .LtE) (.flt a) (.flt b) (.bool (aaW a b==some .lt||aaW a b==some .eq)):=o2 du du fun z z G z z z z hi k=>AutoFloatOps.le_0 (k _ _ G (ak.refl hi) (.bool _))
noncomputable def V.isNone:V->Bool
 | .none=>true
 |_=>false
theorem Kh{G:GM}{a:V}{ca:ZN}(r:Rd G a ca):(ca==Value.none)=a.isNone:=by cases r<;>rfl
theorem mi{a:V}(hb: ∀n,a≠ .bi n):bO w (abz .Is) a .none (.bool a.isNone):=by
 intro A s G ca cb _ _ hi ra rb Q E k;obtain rfl:=Kg rb;refine wpAny_is_plain ?_ (by rw[Kh ra];exact k _ _ G (ak.refl hi) (.bool _));cases ra<;>first|rfl|exact absurd rfl (hb _)
theorem mj{a:V}(hb: ∀n,a≠ .bi n):bO w (abz .IsNot) a .none (.bool (!a.isNone)):=by
 intro A s G ca cb _ _ hi ra rb Q E k;obtain rfl:=Kg rb;refine wpAny_isNot_plain ?_ (by rw[Kh ra];exact k _ _ G (ak.refl hi) (.bool _));cases ra<;>first|rfl|exact absurd rfl (hb _)
noncomputable def oK(w:Z2)(a:V)(c:Bool):Prop:=
 ∀(A:aaj) (s:ZL) (G:GM) (ca:ZN),bS G s->Rd G a ca-> ∀(Q:Bool->ZL->Prop) (E:ZN->ZL->Prop),(∀tk,Q c {s with toks:=tk})->Z6 (Z8 PW w) A (truthy ca) Q E s
theorem oh{b:Bool}:oK w (.bool b) b:=by
 intro A s G ca hi ra Q E k;obtain rfl:=Dt ra;exact wpAny_truthy_bool (k s.toks)
theorem oi{a:Int}:oK w (.int a) (a !=0):=by
 intro A s G ca hi ra Q E k;obtain⟨_,rfl⟩:=aZ ra;exact truthy_int (k s.toks)
theorem Yn{x:List V}(h:x.length<2^62):oK w (.list x) (!x.isEmpty):=by
 intro A s G ca hi ra Q E k;cases ra with
 | @list a vs n l hg hr=>
  have hlen:=hr.length;refine wpAny_truthy_list (items:=vs.toArray) ⟨_,hi _ _ hg,rfl,_,rfl⟩ (by simp;exact "<A^62;1=AB>'B9223372036854775808" h hlen) ?_;have:(!vs.toArray.isEmpty)= !x.isEmpty:=by cases hr<;>simp
  rw[this];exact k _
structure aM(w:Z2)(H:Heap)(l n:Nat)(sc:ZZ)(ρ:aw)(e:Expr)(c:Bool):Prop where
 go: ∀(env:Env) (A:aaj) (s:ZL) (G:GM),bW A l n->St H sc env ρ G s-> ∀(Q:Bool->ZL->Prop) (E:ZN->ZL->Prop),
  (∀s' G',ak aq G s G' s'->Q c s')->Z6 (Z8 PW w) A (isTrue e env (eval e env)) Q E s
theorem KN{a:V}{c:Bool}(t:oK w a c){A:aaj}{s:ZL}{G G₁:GM}{s₁:ZL}{ca:ZN}(x:ak aq G s G₁ s₁)(r:Rd G₁ a ca){Q:Bool->ZL->Prop}{E:ZN->ZL->Prop}
 (k: ∀s' G',ak aq G s G' s'->Q c s'):Z6 (Z8 PW w) A (truthy ca) Q E s₁:=t A s₁ G₁ ca x.inn r Q E fun tk=>k _ G₁ (x.trans (ak.toks x.inn _))
theorem YE{el er:Expr}{op:CmpOp}{pos:Pos}{a b v:V}{c:Bool}(t:oK w v c)(ij:bO w (abz op) a b v)(ha:ah w H l (n+1) sc ρ el a)(hb:ah w H l (n+1) sc ρ er b)
 (hm:autoParam (behindInMarks op er=false) au):aM w H l (n+1) sc ρ (.Compare el [op] [er] pos) c:=
 .mk fun env A s G r S Q E k=>wpAny_isTrue_Compare1 (ha.go env A s G r S _ E fun ca s₁ G₁ af aA=>hb.go env A s₁ G₁ r (S.ext af) _ E fun cb ar aB ax bx=>
  ij A ar aB ca cb r.hd r.u ax.inn (cN ax.sub aA) bx _ E fun cv bj bI bL dT=>KN t ((af.trans ax).trans bL) dT k) hm
theorem YG{e:Expr}{v:V}{c:Bool}(t:oK w v c)(h:ah w H l n sc ρ e v)(hp:autoParam (∀env whole,isTrue e env whole=(do let v<-whole;ac9 e.pos;acA [v] (truthy v))) au):aM w H l n sc ρ e c:=
 .mk fun env A s G r S Q E k=>isTrue_plain (h.go env A s G r S _ E fun ca s₁ G₁ af aA=>KN t af aA k) (hp _ _)
theorem YF{e:Expr}{pos:Pos}{c:Bool}(h:aM w H l n sc ρ e c):aM w H l n sc ρ (.UnaryOp .Not e pos) (!c):=
 .mk fun env A s G r S Q E k=>isTrue_not (h.go env A s G r S _ E fun s' G' x=>k s' G' x)
theorem yL{pos:Pos}:aM w H l n sc ρ (.BoolOp .And [] pos) true:= .mk fun env A s G r S Q E k=>isTrue_and_nil (k s G (ak.refl S.inn))
theorem qC{pos:Pos}:aM w H l n sc ρ (.BoolOp .Or [] pos) false:= .mk fun env A s G r S Q E k=>isTrue_or_nil (k s G (ak.refl S.inn))
theorem ot{e:Expr}{es:List Expr}{pos:Pos}{c d:Bool}(h:aM w H l n sc ρ e c)(hr:c=true->aM w H l n sc ρ (.BoolOp .And es pos) d):aM w H l n sc ρ (.BoolOp .And (e::es) pos) (c&&d):=
 .mk fun env A s G r S Q E k=>isTrue_and (h.go env A s G r S _ E fun s₁ G₁ af=>by
  cases c with
  |false=>exact k s₁ G₁ af
  |true=>exact(hr rfl).go env A s₁ G₁ r (S.ext af) Q E fun ar aB ax=>k ar aB (af.trans ax))
theorem f9{e:Expr}{es:List Expr}{pos:Pos}{c d:Bool}(h:aM w H l n sc ρ e c)(hr:c=false->aM w H l n sc ρ (.BoolOp .Or es pos) d):aM w H l n sc ρ (.BoolOp .Or (e::es) pos) (c||d):=
 .mk fun env A s G r S Q E k=>isTrue_or (h.go env A s G r S _ E fun s₁ G₁ af=>by
  cases c with
  |true=>exact k s₁ G₁ af
  |false=>exact(hr rfl).go env A s₁ G₁ r (S.ext af) Q E fun ar aB ax=>k ar aB (af.trans ax))
theorem Al{t e f:Expr}{pos:Pos}{c:Bool}{x y:V}(h:aM w H l n sc ρ t c)(h1:c=true->ah w H l n sc ρ e x)(h2:c=false->ah w H l n sc ρ f y):ah w H l n sc ρ (.IfExp t e f pos) (if c then x else y):=
 .mk fun env A s G r S Q E k=>wpAny_IfExp (h.go env A s G r S _ E fun s₁ G₁ af=>by
  cases c with
  |true=>exact(h1 rfl).go env A s₁ G₁ r (S.ext af) Q E fun cv ar aB ax=>k cv ar aB (af.trans ax)
  |false=>exact(h2 rfl).go env A s₁ G₁ r (S.ext af) Q E fun cv ar aB ax=>k cv ar aB (af.trans ax))
theorem F2{e f:Expr}{pos:Pos}{c d:Bool}(h:ah w H l n sc ρ e (.bool c))(hr:c=true->ah w H l n sc ρ f (.bool d)):ah w H l n sc ρ (.BoolOp .And [e,f] pos) (.bool (c&&d)):=
 .mk fun env A s G r S Q E k=>wpAny_And2 (h.go env A s G r S _ E fun cv s₁ G₁ af aA=>oh A s₁ G₁ cv af.inn aA _ E fun t=>by
  have ax:ak aq G s G₁ {s₁ with toks:=t}:=af.trans (ak.toks af.inn t);cases c with
  |false=>exact k cv _ G₁ ax aA
  |true=>exact(hr rfl).go env A _ G₁ r (S.ext ax) Q E fun cv bj bI bL=>k cv bj bI (ax.trans bL))
theorem fX{G:GM}{x:List V}{ca:ZN}(r:Rd G (.list x) ca): ∃a vs k,ca= .ref a/\G a=some (aI vs k)/\aP G x vs:=k7 r
theorem su{G:GM}{x:List V}{ca:ZN}(r:Rd G (.tup x) ca): ∃a vs k,ca= .ref a/\G a=some (iD vs k)/\aP G x vs:=k7 r
theorem iq{G:GM}{s:ZL}{a:Addr}{vs:List ZN}{k:Nat}(hi:bS G s)(h:G a=some (aI vs k)):s.heap.IsList a vs.toArray:=⟨_,hi _ _ h,rfl,_,rfl⟩
theorem rR{G:GM}{s:ZL}{a:Addr}{vs:List ZN}{k:Nat}(hi:bS G s)(h:G a=some (iD vs k)):IsTup s.heap a vs.toArray:=⟨_,hi _ _ h,rfl,_,rfl⟩
theorem uS{G:GM}{s:ZL}{x:List V}{vs:List ZN}{k:Nat}(hi:bS G s)(r:aP G x vs)(t:Nat):ak aq G s (bN G s.heap.objs.size (aI vs k)) {s with heap:=s.heap.push (aI vs k),toks:=t}/\Rd (bN G s.heap.objs.size (aI vs k)) (.list x) (.ref s.heap.objs.size):=by
 have e:ak aq G s (bN G s.heap.objs.size (aI vs k)) {s with heap:=s.heap.push (aI vs k),toks:=t}:=ak.alloc hi rfl t;exact⟨e, .list iK (mX e.sub r)⟩
theorem uT{G:GM}{s:ZL}{x:List V}{vs:List ZN}{k:Nat}(hi:bS G s)(r:aP G x vs)(t:Nat):ak aq G s (bN G s.heap.objs.size (iD vs k)) {s with heap:=s.heap.push (iD vs k),toks:=t}/\Rd (bN G s.heap.objs.size (iD vs k)) (.tup x) (.ref s.heap.objs.size):=by
 have e:ak aq G s (bN G s.heap.objs.size (iD vs k)) {s with heap:=s.heap.push (iD vs k),toks:=t}:=ak.alloc hi rfl t;exact⟨e, .tup iK (mX e.sub r)⟩
structure dX(w:Z2)(H:Heap)(l n:Nat)(sc:ZZ)(ρ:aw)(es:List Expr)(x:List V):Prop where
 go: ∀(env:Env) (A:aaj) (s:ZL) (G:GM) (pos:Pos),bW A l n->St H sc env ρ G s-> ∀(Q:List ZN->ZL->Prop) (E:ZN->ZL->Prop),
  (∀vs s' G',ak aq G s G' s'->aP G' x vs->Q vs s')->Z6 (Z8 PW w) A (spliced (abW pos (aa4 es env))) Q E s
noncomputable def rZ(e:Expr):Bool:= !aak e.ctorIdx 22
theorem vn{e:Expr}{es:List Expr}{env:Env}(h:rZ e=true):aa4 (e::es) env=(false,eval e env)::aa4 es env:=by
 cases e<;>first|rfl|cases h
noncomputable def qy:List Expr->Bool
 |[]=>true
 |e::es=>rZ e&&qy es
noncomputable def dU:List Expr->Bool
 |[]=>false
 |e::es=>rZ e&&qy es
theorem jB{pos:Pos}{env:Env}: ∀{es:List Expr},qy es=true->(abW pos (aa4 es env)).any (·.1)=false/\(abW pos (aa4 es env)).all (fun x=> !x.1)=true:=by
 intro rr
 induction rr with
 |nil=>
  exact fun z=>⟨rfl,rfl⟩
 |cons e es ih=>
  exact fun h=>by
   simp only[qy,aax] at h;obtain⟨h1,h2⟩:=ih h.2;rw[vn h.1];exact⟨by simpa [abW] using h1,by simpa [abW] using h2⟩
theorem dE{pos:Pos}{env:Env}: ∀{es:List Expr},dU es=true->qy es=true/\ ∃x rest,abW pos (aa4 es env)=(false,x)::rest
 |e::es,h=>by
  have h':=h;simp only[dU,aax] at h';refine⟨h,?_⟩;rw[vn h'.1];exact⟨_,_,rfl⟩
theorem eE{k:Nat}(h:abt k 99=true):k<=sizeLine:=ZW (acy.mp h) (by decide)
theorem ao:dX w H l n sc ρ [] []:= .mk fun env A s G pos r S Q E k=>aeK (k [] s G (ak.refl S.inn) .nil)
theorem ae{e:Expr}{es:List Expr}{v:V}{x:List V}(h:ah w H l n sc ρ e v)(hr:dX w H l n sc ρ es x)(hs:autoParam (rZ e=true) au):dX w H l n sc ρ (e::es) (v::x):=
 .mk fun env A s G pos r S Q E k=>wpAny_items_cons (h.go env A s G r S _ E fun cv s₁ G₁ af aA=>hr.go env A s₁ G₁ pos r (S.ext af) _ E fun vs ar aB ax bx=>k (cv::vs) ar aB (af.trans ax) (.cons (cN ax.sub aA) bx)) (vn hs)
noncomputable def Jd(e:Expr):Option Int:=nf 19 none e.ctorIdx fun h=>Expr.Constant.elim (motive_1:=fun z=>Option Int) e h fun c z z=>nf 2 none c.ctorIdx fun h=>Const.int.elim (motive:=fun z=>Option Int) c h some
theorem T2{e:Expr}{i:Int}(h:Jd e=some i): ∃k p,e= .Constant (.int i) k p:=by
 cases e with
 |Constant c k p=>cases c with
  |int j=>cases gR h;exact⟨k,p,rfl⟩
  |_=>exact fM h
 |_=>exact fM h
theorem An{es:List Expr}{xs:List Int}(h:es.map Jd=xs.map some):dX w H l n sc ρ es (xs.map V.int):=by
 induction es generalizing xs with
 |nil=>cases xs with
  |nil=>exact ao
  |cons=>exact absurd h.symm (ael _ _)
 |cons e es ih=>cases xs with
  |nil=>exact absurd h (ael _ _)
  |cons x xs=>
   have h:=List.cons.inj h;obtain⟨k,p,rfl⟩:=T2 h.1;exact ae aj (ih h.2)
theorem bU{es:List Expr}{x:List V}{k:Nat}{pos:Pos}(h:dX w H l n sc ρ es x)(hl:x.length<=Z7):ah w H l n sc ρ (.Tuple es k pos) (.tup x):=
 .mk fun env A s G r S Q E k=>wpAny_Tuple (h.go env A s G pos r S _ E fun vs s₁ G₁ af aA=>⟨by rw[<-aA.length];exact hl,by
  have:=uT af.inn aA s₁.toks (k:=0);exact k _ _ _ (af.trans this.1) this.2⟩)
theorem dA{es:List Expr}{x:List V}{pos:Pos}(h:dX w H l n sc ρ es x)(hl:x.length<=Z7):ah w H l n sc ρ (.List es pos) (.list x):=
 .mk fun env A s G r S Q E k=>wpAny_List (h.go env A s G pos r S _ E fun vs s₁ G₁ af aA=>⟨by rw[<-aA.length];exact hl,by
  have:=uS af.inn aA s₁.toks (k:=0);exact k _ _ _ (af.trans this.1) this.2⟩)
theorem j8{x y:List V}(h:x.length+y.length<=Z7):bO w (abI .Add) (.list x) (.list y) (.list (x++y)):=by
 intro A s G ca cb _ _ hi ra rb Q E k;obtain⟨a,vs,n₁,rfl,ga,ra⟩:=fX ra;obtain⟨b,us,uV,rfl,gb,rb⟩:=fX rb;have e:vs.toArray++us.toArray=(vs++us).toArray:=by simp
 refine concat_meets ⟨_,hi _ _ ga,rfl⟩ ⟨_,hi _ _ gb,rfl⟩ noFill_list_add seq_list_add PySem.F.slot_list_add PySem.F.entry_list_add (PySem.F.args_list_add_2 _ _)
  (list_addW a b vs.toArray us.toArray n₁ uV none none #[] #[] (by simpa [ra.length,rb.length] using h)) ⟨hi _ _ ga,hi _ _ gb,?_⟩
 rw[e];have:=uS hi (ra.append rb) s.toks (k:=0);exact k _ _ _ this.1 this.2
theorem Wg{x y:List V}(h:x.length+y.length<=Z7):bO w (abI .Add) (.tup x) (.tup y) (.tup (x++y)):=by
 intro A s G ca cb _ _ hi ra rb Q E k;obtain⟨a,vs,n₁,rfl,ga,ra⟩:=su ra;obtain⟨b,us,uV,rfl,gb,rb⟩:=su rb;have e:vs.toArray++us.toArray=(vs++us).toArray:=by simp
 have sub: ∀{z:List V} {ws:List ZN} {c:Addr} {We:Nat},G c=some (iD ws We)->aP G z ws->z=x++y->Q (.ref c) s:=fun g r e=>k _ _ G (ak.refl hi) (e▸ .tup g r)
 by_cases hv:vs=[]
 ·have:x=[]:=by subst hv;cases ra;rfl
  exact concat_meets ⟨_,hi _ _ ga,rfl⟩ ⟨_,hi _ _ gb,rfl⟩ noFill_tuple_add seq_tuple_add PySem.F.slot_tuple_add aeY (aeQ _ _)
   (tuple_addW0 a b vs.toArray us.toArray n₁ uV none none #[] #[] (by simp[hv])) ⟨hi _ _ ga,hi _ _ gb,sub gb rb (by simp[this])⟩
 ·by_cases hw:us=[]
  ·have:y=[]:=by subst hw;cases rb;rfl
   exact concat_meets ⟨_,hi _ _ ga,rfl⟩ ⟨_,hi _ _ gb,rfl⟩ noFill_tuple_add seq_tuple_add PySem.F.slot_tuple_add aeY (aeQ _ _)
    (tuple_addW1 a b vs.toArray us.toArray n₁ uV none none #[] #[] (by simpa using hv) (by simp[hw])) ⟨hi _ _ ga,hi _ _ gb,sub ga ra (by simp[this])⟩
  ·refine concat_meets ⟨_,hi _ _ ga,rfl⟩ ⟨_,hi _ _ gb,rfl⟩ noFill_tuple_add seq_tuple_add PySem.F.slot_tuple_add aeY (aeQ _ _)
    (tuple_addW2 a b vs.toArray us.toArray n₁ uV none none #[] #[] (by simpa using hv) (by simpa using hw) (by simpa [ra.length,rb.length] using h)) ⟨hi _ _ ga,hi _ _ gb,?_⟩
   rw[e];have:=uT hi (ra.append rb) s.toks (k:=0);exact k _ _ _ this.1 this.2
theorem Hg(vs:List ZN): ∀(m:Nat) (acc:List ZN),List.foldl (fun x1 x2=>x1++x2) acc.toArray (aaB m vs.toArray)=(acc++(aaB m vs).flatten).toArray:=by
 intro rr
 induction rr with
 |zero=>
  exact fun acc=>by simp
 |succ m ih=>
  exact fun acc=>by
   rw[ab7,List.foldl_cons,show acc.toArray++vs.toArray=(acc++vs).toArray by simp,ih];simp[ab7]
theorem aP.rep{G:GM}{x:List V}{vs:List ZN}(r:aP G x vs): ∀m:Nat,aP G (aaB m x).flatten (aaB m vs).flatten
 |0=> .nil
 |m+1=>by rw[ab7,ab7,List.flatten_cons,List.flatten_cons];exact r.append (r.rep m)
theorem JT{x:List V}{m:Int}(h0:m<2^62)(h1: -(2^62)<m)(h:x.length*m.toNat<=2^24):bO w (abI .Mult) (.list x) (.int m) (.list (aaB m.toNat x).flatten):=by
 intro A s G ca cb _ _ hi ra rb Q E k;obtain⟨a,vs,n₁,rfl,ga,ra⟩:=fX ra;obtain⟨u,rfl⟩:=aZ rb;have hl:=hi _ _ ga;have hsz:vs.toArray.size*m.toNat<=2^24:=by simpa [ra.length] using h
 refine wpAny_binaryOp_repeat_ref (T:= "list") (U:= "int") (by decide) ⟨_,hl,rfl⟩ (fun s'=>typeIs_int s' m u) noFill_list_mul F.fills_int_mul F.slot_int_rmul repeat_list F.slot_int_index.lookup
  (call_meets F.slot_int_rmul (typeIs_int s m u) F.entry_int_rmul (F.args_int_rmul_2 _ _) (int___rmul___int_list m u a vs.toArray n₁)
   ⟨hl,rfl,⟨_,hl,rfl⟩,call_meets F.slot_list_mul ⟨_,hl,rfl⟩ F.entry_list_mul (F.args_list_mul_2 _ _)
    (ae1 a vs.toArray n₁ m u (by simp[Builtin.List.listFitsIndex];exact⟨">~^62a]~9223372036854775808a" h1,">a^62>a9223372036854775808" h0⟩) (by exact ":8[A^24;1=+*8BC9223372036854775807<C8:8!<BA" hsz (aan _ _) (aaR _ (by decide))) (by simp[Builtin.List.listTooLong,Z7];omega)) ⟨hl,?_⟩⟩)
 have e:List.foldl (fun x1 x2=>x1++x2) #[] (aaB (if vs.toArray.isEmpty=true then 0 else m.toNat) vs.toArray)=(aaB m.toNat vs).flatten.toArray:=by
  rw[show(#[]:Array ZN)=([]:List ZN).toArray from rfl,Hg]
  by_cases hv:vs=[]
  ·subst hv
   have: ∀q:Nat,(aaB q ([]:List ZN)).flatten=[]:=fun q=>by induction q with
    |zero=>rfl
    |succ q ih=>simp[ab7]
   simp[this]
  ·simp[hv]
 rw[e];have:=uS hi (ra.rep m.toNat) s.toks (k:=0);exact k _ _ _ this.1 this.2
theorem aP.at{G:GM}{x:List V}{vs:List ZN}(r:aP G x vs){i:Nat}{v:V}(h:x[i]?=some v): ∃cv,vs[i]?=some cv/\Rd G v cv:=r.get h
theorem kz{ve se:Expr}{pos:Pos}{x:List V}{i:Int}{v:V}(ha:ah w H l n sc ρ ve (.list x))(hb:ah w H l n sc ρ se (.int i))(h0:0<=i)(h1:i<2^63)(hv:x[i.toNat]?=some v)
 (hs:autoParam (∀c u,ac4 se false (.ref c) (.int i u)=operate [.ref c, .int i u] (getItem (.ref c) (.int i u))) au):ah w H l n sc ρ (.Subscript ve se pos) v:=
 .mk fun env A s G r S Q E k=>ad1 (ha.go env A s G r S _ E fun ca s₁ G₁ af aA=>hb.go env A s₁ G₁ r (S.ext af) _ E fun cb ar aB ax bx=>by
  obtain⟨a,vs,n₁,rfl,ga,ra⟩:=fX (cN ax.sub aA);obtain⟨u,rfl⟩:=aZ bx;obtain⟨cv,hc,rc⟩:=ra.at hv;exact item_listR (iq ax.inn ga) h0 h1 (by simpa using hc) (k cv ar aB (af.trans ax) rc) (hs a u))
theorem cZ{ve se:Expr}{pos:Pos}{x:List V}{i:Int}{j:Nat}{v:V}(ha:ah w H l n sc ρ ve (.tup x))(hb:ah w H l n sc ρ se (.int i))(h0: -(2^63)<=i)(h1:i<2^63)(hj:ad2 i x.length=some j)(hv:x[j]?=some v)
 (hs:autoParam (∀c u,ac4 se false (.ref c) (.int i u)=operate [.ref c, .int i u] (getItem (.ref c) (.int i u))) au):ah w H l n sc ρ (.Subscript ve se pos) v:=
 .mk fun env A s G r S Q E k=>ad1 (ha.go env A s G r S _ E fun ca s₁ G₁ af aA=>hb.go env A s₁ G₁ r (S.ext af) _ E fun cb ar aB ax bx=>by
  obtain⟨a,vs,n₁,rfl,ga,ra⟩:=su (cN ax.sub aA);obtain⟨u,rfl⟩:=aZ bx;obtain⟨cv,hc,rc⟩:=ra.at hv;exact subscriptTail_builtinR (rR ax.inn ga).typeIs slot_tuple_getitem.lookup (getItem_tuple (rR ax.inn ga) h0 h1 (by simpa [<-ra.length] using hj) (by simpa using hc) ⟨rfl,k cv ar aB (af.trans ax) rc⟩) (hs a u))
variable{X:List Addr}
variable{env:Env}
variable{ρ':aw}
variable{ow:Ow}
variable{ow':Ow}
variable{G₀:GM}
variable{G:GM}
variable{G':GM}
variable{s₀:ZL}
variable{s':ZL}
structure Bs(H:Heap)(G:GM)(s:ZL):Prop where
 base: ∀b o,H.get? b=some o->b∉aq->s.heap.get? b=some o
 tab:bY s.heap
 gt: ∀p∈aq,G p=none
 hl:Hl H G
structure aU(w:Z2)(H:Heap)(l n:Nat)(f:ZN)(as:List V)(v:V):Prop where
 go: ∀(A:aaj) (s:ZL) (G:GM) (cs:List ZN),bW A l n->Bs H G s->bS G s->aP G as cs->qI w A (call f cs) G s v
theorem bY.keepOff{h h':Heap}(x:bY h){a:Addr}(k:Heap.ExtBut a h h')(ha:a∉aq)(hc: ∀o b8,h.get? a=some o->o.data≠ .fields b8):bY h':=
 x.keepT fun b o vs e d z=>k b o (fun q=>hc o vs (q▸e) d) e
theorem AS{names:List (Str×aam)}(nd:(names.map (·.1)).Nodup){i j:Nat}{x:Str}{k k':aam}(h1:names[i]?=some (x,k))(h2:names[j]?=some (x,k')):i=j:=by
 have hi:i<(names.map (·.1)).length:=by rw[ZQ];exact(aa2.mp h1).1
 refine(List.getElem?_inj hi nd).mp ?_;rw[aal,aal,h1,h2];rfl
theorem gJ{x:Str}{k:aam}{names:List (Str×aam)}: ∀{i:Nat},names[i]?=some (x,k)->(names.map (·.1)).Nodup->names.lookup x=some k:=by
 induction names with
 |nil=>exact fun h z=>fM h
 |cons a r ih=>
  intro i h nd;have nd:=abC.mp nd;rw[acC];cases i with
  |zero=>rw[gR h,beq_self_eq_true]
  |succ i=>
   rw[beq_eq_false_iff_ne.mpr (fun e:x=a.1=>nd.1 (show a.1∈_ from e▸Z1.mpr ⟨_,aag h,rfl⟩))];exact ih h nd.2
theorem uU{h:Heap}{c:Addr}{m}(x:h.Ns c m): ∀o b8,h.get? c=some o->o.data≠ .fields b8:=fun o b8 e q=>by
 obtain⟨o',es,ep,ho,hd,_⟩:=x;rw[ho] at e;cases e;rw[hd] at q;cases q
theorem E9{h:Heap}{c:Addr}{v}(x:h.IsCell c v): ∀o b8,h.get? c=some o->o.data≠ .fields b8:=fun o b8 e q=>by
 obtain⟨o',ho,hd⟩:=x;rw[ho] at e;cases e;rw[hd] at q;cases q
noncomputable abbrev Ow:=List (Addr×List V)
inductive vC(H:Heap)(X:List Addr)(s₀:ZL)(G:GM)(s:ZL)(p:Addr×List V):Prop
 |mk (a:G p.1=none) (b: ∀o,H.get? p.1≠some o) (c:s₀.heap.get? p.1=none\/p.1∈X) (vs:List ZN) (k:Nat) (d:s.heap.get? p.1=some (aI vs k)) (r:aP G p.2 vs):vC H X s₀ G s p
inductive s6(H:Heap)(G:GM)(s:ZL)(x:Addr):Prop
 |mk (a: ∀o,H.get? x≠some o) (b:G x=none) (vs:List ZN) (k:Nat) (d:s.heap.get? x=some (aI vs k)):s6 H G s x
structure av(X:List Addr)(H:Heap)(sc:ZZ)(env:Env)(ρ:aw)(ow:Ow)(G₀:GM)(s₀:ZL)(G:GM)(s:ZL):Prop where
 st:St H sc env ρ G s
 ext:ak (X++aq) G₀ s₀ G s
 base₀: ∀b o,H.get? b=some o->b∉aq->s₀.heap.get? b=some o
 lnew:s₀.heap.get? env.locals=none
 lG:G env.locals=none
 cnew: ∀x c,env.cells.lookup x=some c->sc.names.lookup x=some .cell->s₀.heap.get? c=none/\G c=none
 cis: ∀x c,env.cells.lookup x=some c-> ∃v,s.heap.IsCell c v
 cell: ∀{i:Nat} {x:Str} {kd:aam},sc.names[i]?=some (x,kd)->kd=acm->(env.cells.lookup x).isSome=true
 ckeys: ∀x c,(x,c)∈env.cells->env.cells.lookup x=some c
 xs: ∀a∈X,s6 H G s a
 apart:env.cells.Pairwise fun x y=>x.2≠y.2
 own: ∀p∈ow,vC H X s₀ G s p
 dis:ow.Pairwise fun x y=>x.1≠y.1
theorem ir{h:Heap}(t:bY h){c:Addr}{vs k}(x:h.get? c=some (aI vs k)):c∉aq:=fun hc=>by
 obtain⟨us,h1,_⟩:=t c hc;rw[h1] at x;cases x
theorem uD{h:Heap}{c:Addr}{vs k v}(x:h.get? c=some (aI vs k))(y:h.IsCell c v):False:=by
 obtain⟨o',eu,cG⟩:=y;rw[x] at eu;cases eu;cases cG
theorem iS{h:Heap}{c:Addr}{vs k m}(x:h.get? c=some (aI vs k))(y:h.Ns c m):False:=by
 obtain⟨o',es,ep,eu,cG,_⟩:=y;rw[x] at eu;cases eu;cases cG
theorem ak.none{X:List Addr}{G G':GM}{s s':ZL}(x:ak X G s G' s'){a:Addr}{o:Obj}(hg:G a=none)(ha:s.heap.get? a=some o)(hX:a∉X):G' a=none:=by
 cases e:G' a with
 |none=>rfl
 |some o=>
  rcases x.new a o e with h|h|h
  ·rw[hg] at h;cases h
  ·rw[ha] at h;cases h
  ·exact absurd h hX
theorem av.re(I:av X H sc env ρ ow G₀ s₀ G s){D:Addr->Prop}(dn: ∀b,D b->s₀.heap.get? b=none\/b∈X)(kp: ∀b o,s.heap.get? b=some o-> ¬D b->b∉aq->s'.heap.get? b=some o/\(G b=none->G' b=none))
 (sub: ∀a o,G a=some o->G' a=some o) (new: ∀a o,G' a=some o->G a=some o\/s.heap.get? a=none\/s₀.heap.get? a=none\/a∈X++aq) (inn:bS G' s') (ge:s'.gens=s.gens) (os:s'.os=s.os) (tab:bY s'.heap) (gt: ∀p∈aq,G' p=none)
 (loc:ni env sc ρ' G' s'.heap) (lG:G' env.locals=none) (cel: ∀c v,s.heap.IsCell c v->D c->(∃u,s'.heap.IsCell c u)/\(G c=none->G' c=none))
 (xs: ∀a vs k,s.heap.get? a=some (aI vs k)->D a->a∈X->s6 H G' s' a) (own: ∀p∈ow',p∈ow/\(∀vs k,s.heap.get? p.1=some (aI vs k)-> ¬D p.1)\/vC H X s₀ G' s' p) (dis:ow'.Pairwise fun x y=>x.1≠y.1):
 av X H sc env ρ' ow' G₀ s₀ G' s':=by
 have ht:=I.st.tab;have hc: ∀c v,s.heap.IsCell c v->(∃u,s'.heap.IsCell c u)/\(G c=none->G' c=none):=fun c v y=>by
  by_cases h:D c
  ·exact cel c v y h
  ·have hk:=fun o e=>kp c o e h (nD ht y)
   exact⟨⟨v,v7 (fun o e=>(hk o e).1) y⟩,let⟨o,e,_⟩:=y;(hk o e).2⟩
 have kN: ∀b o,s₀.heap.get? b=some o->b∉X-> ¬D b:=fun b o e h d=>(dn b d).elim (sO e) h
 have cis: ∀x c,env.cells.lookup x=some c-> ∃v,s'.heap.IsCell c v:=fun x c h=>let⟨v,y⟩:=I.cis x c h;(hc c v y).1
 refine⟨⟨fun b o e hb=>(kp b o (I.st.base b o e hb) (kN b o (I.base₀ b o e hb) fun h=>(I.xs b h).1 o e) hb).1,inn,I.st.envIs,loc,cis,tab,gt,fun a vs k e=>sub _ _ (I.st.hl a vs k e)⟩,
  ⟨fun a o e=>sub a o (I.ext.sub a o e),fun a o e=>(new a o e).elim (I.ext.new a o) fun h=>h.elim (fun h=> ?_) .inr,inn,fun b o e hb=>(kp b o (I.ext.keep b o e hb) (kN b o e fun h=>hb (abX _ h)) fun h=>hb (abP _ h)).1,ge.trans I.ext.gens,os.trans I.ext.os,fun z=>tab,fun z z=>gt⟩,
  I.base₀,I.lnew,lG,fun x c h1 h2=>⟨(I.cnew x c h1 h2).1,let⟨v,y⟩:=I.cis x c h1;(hc c v y).2 (I.cnew x c h1 h2).2⟩,cis,I.cell,I.ckeys,fun a ha=> ?_,I.apart,fun p hp=>(own p hp).elim (fun q=> ?_) id,dis⟩
 ·by_cases hX:a∈X++aq
  ·exact .inr (.inr hX)
  ·exact .inr (.inl (jT fun q eq=>Lb h (I.ext.keep a q eq hX)))
 ·obtain⟨h1,h2,vs,k,h4⟩:=I.xs a ha
  by_cases h:D a
  ·exact xs a vs k h4 h ha
  ·have:=kp a _ h4 h (ir ht h4)
   exact⟨h1,this.2 h2,vs,k,this.1⟩
 ·obtain⟨h1,h2,h3,vs,k,h4,h5⟩:=I.own p q.1
  have:=kp _ _ h4 (q.2 vs k h4) (ir ht h4);exact⟨this.2 h1,h2,h3,vs,k,this.1,mX sub h5⟩
theorem av.ext'(I:av X H sc env ρ ow G₀ s₀ G s)(x:ak aq G s G' s'):av X H sc env ρ ow G₀ s₀ G' s':=by
 have S:=I.st.ext x;refine I.re (D:=fun z=>False) (fun z h=>h.elim) (fun b o e z h=>⟨x.keep b o e h,fun hg=>x.none hg e h⟩) x.sub (fun a o e=>(x.new a o e).imp id fun h=>h.imp id fun h=> .inr (abP _ h)) x.inn x.gens x.os S.tab S.gt S.loc ?_ (fun z z z h=>h.elim) (fun z z z z h=>h.elim) (fun p hp=> .inl ⟨hp,fun z z z h=>h⟩) I.dis;obtain⟨m,⟨o,_,_,ho,r⟩,_⟩:=I.st.loc
 exact x.none I.lG ho (jz I.st.tab ⟨o,_,_,ho,r⟩)
theorem av.but(I:av X H sc env ρ ow G₀ s₀ G s){a:Addr}{h':Heap}{tk':Nat}(hs:abp a s.heap h')(hg:G a=none)(h0:s₀.heap.get? a=none\/a∈X)(ht:a∉aq)(hd: ∀o b8,s.heap.get? a=some o->o.data≠ .fields b8)(loc:ni env sc ρ' G h')
 (cel: ∀v,s.heap.IsCell a v-> ∃u,h'.IsCell a u) (xs: ∀vs k,s.heap.get? a=some (aI vs k)->a∈X->s6 H G {s with heap:=h',toks:=tk'} a) (own: ∀p∈ow',p∈ow/\(∀vs k,s.heap.get? p.1=some (aI vs k)->p.1≠a)\/vC H X s₀ G {s with heap:=h',toks:=tk'} p) (dis:ow'.Pairwise fun x y=>x.1≠y.1):
 av X H sc env ρ' ow' G₀ s₀ G {s with heap:=h',toks:=tk'}:=
 I.re (D:=fun b=>b=a) (fun b e=>e▸h0) (fun b o e h z=>⟨hs.extBut b o h e,id⟩) (fun z z e=>e) (fun z z e=> .inl e) (fun b o e=>hs.extBut b o (fun q=>sO (q▸e) hg) (I.st.inn b o e)) rfl rfl (bY.keepOff I.st.tab hs.extBut ht hd) I.st.gt loc I.lG
  (fun c v y e=>⟨by subst e;exact cel v y,id⟩) (fun b vs k e q=>by subst q;exact xs vs k e) own dis
theorem av.sub(I:av X H sc env ρ ow G₀ s₀ G s)(h: ∀p∈ρ',p∈ρ)(h':aeR ow' ow):av X H sc env ρ' ow' G₀ s₀ G s:=
 ⟨I.st.sub h,I.ext,I.base₀,I.lnew,I.lG,I.cnew,I.cis,I.cell,I.ckeys,I.xs,I.apart,fun p hp=>I.own p (h'.subset hp),I.dis.sublist h'⟩
theorem D7(I:av X H sc env ρ ow G₀ s₀ G s){i:Nat}{x:Str}{kd:aam}{v:V}{cv:ZN}(hx:sc.names[i]?=some (x,kd))(hk:kd= .local\/(kd= .cell/\(env.cells.lookup x).isSome=true))(r:Rd G v cv)(dZ: ∀p∈ρ',p=(i,v)\/(p∈ρ/\p.1≠i))
 {A:aaj} {Q:Unit->ZL->Prop} {E:ZN->ZL->Prop} (k: ∀s',av X H sc env ρ' ow G₀ s₀ G s'->Q () s'):Z6 (Z8 PW w) A (storeName env x cv) Q E s:=by
 obtain⟨m,hn,hv⟩:=I.st.loc;have ht:=I.st.tab;have gE:=gJ hx I.st.envIs.nd;have bC: ∀{j y k},sc.names[j]?=some (y,k)->j≠i->y≠x:=fun h1 h2 e=>h2 (AS I.st.envIs.nd (e▸h1) hx)
 rcases hk with rfl|⟨rfl,hc⟩
 ·have iO:=I.st.envIs.loc _ gE
  refine wpAny_storeName_local iO hn (fun h' mN eS=>k _ (I.but eS I.lG (.inl I.lnew) (jz ht hn) (uU hn) ⟨_,mN,fun p hp=> ?_⟩ (fun z y=>(mU hn y).elim) (fun z z e=>(iS e hn).elim) (fun p hp=> .inl ⟨hp,fun z z e q=>iS e (q▸hn)⟩) I.dis)) (by rw[I.st.envIs.kind];rfl);rcases dZ p hp with rfl|⟨h1,h2⟩
  ·exact⟨x,_,hx, .loc iO cv (by simp) r⟩
  ·obtain⟨y,ky,hy,hh⟩:=hv p h1
   have Cv:=bC hy h2;refine⟨y,ky,hy,?_⟩;rcases hh with⟨h3,cu,h4,h5⟩|⟨h3,c,cu,h4,h5,h6⟩
   ·exact .loc h3 cu (by simp[Cv,h4]) h5
   ·exact .cel h3 c cu h4 (h5.sameBut eS fun q=>mU hn (q▸h5)) h6
 ·obtain⟨c,hc⟩:=abO.mp hc
  have iO:=I.st.envIs.cel _ gE;obtain⟨ZJ,hu⟩:=I.cis x c hc;obtain⟨dB,QZ⟩:=I.cnew x c hc gE;refine wpAny_storeName_cell I.st.envIs.kind iO hc hu (fun h' rD eS=>k _ (I.but eS QZ (.inl dB) (nD ht hu) (E9 hu) ⟨m,hn.sameBut eS fun q=>mU hn (q▸hu),fun p hp=> ?_⟩ (fun z z=>⟨_,rD⟩) (fun z z e=>(uD e hu).elim) (fun p hp=> .inl ⟨hp,fun z z e q=>uD e (q▸hu)⟩) I.dis));rcases dZ p hp with rfl|⟨h1,h2⟩
  ·exact⟨x,_,hx, .cel (.inl iO) c cv hc rD r⟩
  ·obtain⟨y,ky,hy,hh⟩:=hv p h1
   have Cv:=bC hy h2;refine⟨y,ky,hy,?_⟩;rcases hh with⟨h3,cu,h4,h5⟩|⟨h3,d,cu,h4,h5,h6⟩
   ·exact .loc h3 cu h4 h5
   ·refine .cel h3 d cu h4 (h5.sameBut eS fun q=>Cv ?_) h6
    subst q;exact name_of_addr I.apart (mem_of_lookup h4) (mem_of_lookup hc)
variable{o:aW}
noncomputable def da(sc:ZZ):Env:={scope:=sc,locals:=0,globals:=0,cells:=[]}
theorem kj{t:Option Expr}{e:Expr}{k:Nat}{sc:ZZ}{b:Bool}{env:Env}(h:abY e t k (da sc)=pure b)(q:env.scope=sc):abY e t k env=pure b:=by subst q;exact h
theorem yG{ts:List Expr}{e:Expr}{k:Nat}{sc:ZZ}{b:Bool}{env:Env}(h:aex ts e k (da sc)=pure b)(q:env.scope=sc):aex ts e k env=pure b:=by
 cases ts with
 |nil=>exact h
 |cons t r=>cases r with
  |nil=>exact kj h q
  |cons=>exact h
theorem yF{ts:List Expr}{e:Expr}{sc:ZZ}{b:Option (List Str)}{env:Env}(h:aey ts e (da sc)=pure b)(q:env.scope=sc):aey ts e env=pure b:=by subst q;exact h
inductive aW
 |next (ρ:aw) (ow:Ow)
 |ret (v:V) (ow:Ow)
set_option tactic.hygienic true in
noncomputable def lx(X:List Addr)(H:Heap)(sc:ZZ)(env:Env)(G₀:GM)(s₀:ZL)(o:aW)(f:Flow)(G:GM)(s:ZL):Prop:=match o with
 | .next ρ ow=>f= .next/\av X H sc env ρ ow G₀ s₀ G s
 | .ret v ow=> ∃cv,f= .ret cv/\Rd G v cv/\av X H sc env [] ow G₀ s₀ G s
structure aD(w:Z2)(X:List Addr)(H:Heap)(l n:Nat)(sc:ZZ)(ρ:aw)(ow:Ow)(ss:List Stmt)(o:aW):Prop where
 go: ∀(env:Env) (A:aaj) (G₀:GM) (s₀:ZL) (G:GM) (s:ZL) (Q:Flow->ZL->Prop) (E:ZN->ZL->Prop),env.scope=sc->bW A l n->av X H sc env ρ ow G₀ s₀ G s->
  (∀f G' s',lx X H sc env G₀ s₀ o f G' s'->Q f s')->Z6 (Z8 PW w) A (ac3 ss env) Q E s
structure bV(w:Z2)(X:List Addr)(H:Heap)(l n:Nat)(sc:ZZ)(ρ:aw)(ow:Ow)(st:Stmt)(o:aW):Prop where
 go: ∀(env:Env) (A:aaj) (G₀:GM) (s₀:ZL) (G:GM) (s:ZL) (Q:Flow->ZL->Prop) (E:ZN->ZL->Prop),env.scope=sc->bW A l n->av X H sc env ρ ow G₀ s₀ G s->
  (∀f G' s',lx X H sc env G₀ s₀ o f G' s'->Q f s')->Z6 (Z8 PW w) A (exec st env) Q E s
set_option tactic.hygienic true in
theorem gk:aD w X H l n sc ρ ow [] (.next ρ ow):= .mk fun env A G₀ s₀ G s Q E q r I k=>ace (k .next G s ⟨rfl,I⟩)
set_option tactic.hygienic true in
theorem zD{st:Stmt}{ss:List Stmt}(h:bV w X H l n sc ρ ow st (.next ρ' ow'))(hr:aD w X H l n sc ρ' ow' ss o):aD w X H l n sc ρ ow (st::ss) o:=
 .mk fun env A G₀ s₀ G s Q E q r I k=>aar (h.go env A G₀ s₀ G s _ E q r I fun f G' s' ok=>by
  obtain⟨rfl,I'⟩:=ok;exact hr.go env A G₀ s₀ G' s' Q E q r I' k)
theorem qN{st:Stmt}{ss:List Stmt}{v:V}(h:bV w X H l n sc ρ ow st (.ret v ow')):aD w X H l n sc ρ ow (st::ss) (.ret v ow'):=
 .mk fun env A G₀ s₀ G s Q E q r I k=>aar (h.go env A G₀ s₀ G s _ E q r I fun f G' s' ok=>by
  obtain⟨cv,rfl,h1,I'⟩:=ok;exact k _ G' s' ⟨cv,rfl,h1,I'⟩)
set_option tactic.hygienic true in
theorem MI{st:Stmt}{ss:List Stmt}(h:bV w X H l n sc ρ ow st o):aD w X H l n sc ρ ow [st] o:=
 .mk fun env A G₀ s₀ G s Q E q r I k=>aar (h.go env A G₀ s₀ G s _ E q r I fun f G' s' ok=>by
  cases o with
  |next ρ' ow'=>obtain⟨rfl,I'⟩:=ok;exact ace (k _ G' s' ⟨rfl,I'⟩)
  |ret v ow'=>obtain⟨cv,rfl,h1,I'⟩:=ok;exact k _ G' s' ⟨cv,rfl,h1,I'⟩)
theorem aD.sub{ss:List Stmt}(h:aD w X H l n sc ρ' ow' ss o)(h1: ∀p∈ρ',p∈ρ)(h2:aeR ow' ow):aD w X H l n sc ρ ow ss o:=
 .mk fun env A G₀ s₀ G s Q E q r I k=>h.go env A G₀ s₀ G s Q E q r (I.sub h1 h2) k
theorem aD.cast{ss:List Stmt}{o':aW}(h:aD w X H l n sc ρ ow ss o)(e:o=o'):aD w X H l n sc ρ ow ss o':=e▸h
theorem Pn{e:Expr}{pos:Pos}{v:V}(h:ah w H l n sc ρ e v):bV w X H l n sc ρ ow (.Return (some e) pos) (.ret v ow):=
 .mk fun env A G₀ s₀ G s Q E q r I k=>wpAny_Return_some (h.go env A s G r I.st _ E fun cv s' G' x r'=>k _ G' s' ⟨cv,rfl,r',(I.ext' x).sub (fun z h=>nomatch h) (aae _)⟩)
set_option tactic.hygienic true in
theorem Pb{i:Nat}{x:Str}{kd:aam}{e:Expr}{p pos:Pos}{v:V}(h:ah w H l n sc ρ e v)(hx:sc.names[i]?=some (x,kd))(hk:kd= .local\/kd= .cell)(dZ:(ρ.map (·.1)).contains i=false)
 (hs:abY e (some (.Name x p)) pos.line (da sc)=pure false) (hc:autoParam (∀env:Env,env.scope=sc->kd= .cell->True) au):
 bV w X H l n sc ρ ow (.Assign [.Name x p] e pos) (.next ((i,v)::ρ) ow):=
 .mk fun env A G₀ s₀ G s Q E q r I k=>by
  rw[ab3 _ _ _ _ _ (kj hs q)];refine ZO (aaM (ZO (h.go env A s G r I.st _ E fun cv s' G' x' r'=>ZO (aaM (ZO ?_)))));have I':=I.ext' x';refine acL (D7 I' hx (ρ':=(i,v)::ρ) ?_ r' (fun q' hq=> ?_) fun s'' kq=>ZS (k _ G' s'' ⟨rfl,kq⟩))
  ·rcases hk with h1|h1
   ·exact .inl h1
   ·exact .inr ⟨h1,I'.cell hx h1⟩
  ·rcases ZU.mp hq with h1|h1
   ·exact .inl h1
   ·refine .inr ⟨h1,fun e=> ?_⟩
    have:i∈ρ.map (·.1):=Z1.mpr ⟨q',h1,e⟩;rw[aem,decide_eq_false_iff_not] at dZ;exact dZ this
theorem Mh{kf:Str->Option aam}: ∀(binds:List (Str×ZN)) (m:Str->Option ZN) (x:Str),x∉binds.map (·.1)->bindL kf binds m x=m x:=by
 intro rr
 induction rr with
 |nil=>
  exact fun z z z=>rfl
 |cons cw r ih=>
  obtain⟨y,v⟩:=cw;exact fun m x h=>by
   rw[aah,ZU,not_or] at h;unfold bindL;rw[ih _ x h.2];split
   ·exact if_neg h.1
   ·rfl
theorem EH{kf:Str->Option aam}(binds:List (Str×ZN)): ∀(m:Str->Option ZN) {x:Str} {v:ZN},(binds.map (·.1)).Nodup->(x,v)∈binds->kf x=some .local->bindL kf binds m x=some v:=by
 induction binds with
 |nil=>exact fun z z z z h=>vw h
 |cons a r ih=>
  intro m x v nd h hk;have nd:=abC.mp nd;show bindL kf r (if kf a.1=some .local then fun y=>if y=a.1 then some a.2 else m y else m) x=some v
  rcases ZU.mp h with e|h
  ·rw[<-e] at nd⊢;rw[Mh r _ _ nd.1,if_pos hk];exact if_pos rfl
  ·exact ih _ nd.2 h hk
theorem Mg{kf:Str->Option aam}: ∀(binds:List (Str×ZN)) (m:Str->Option ZN) (x:Str),x∉binds.map (·.1)->bindC kf binds m x=m x:=by
 intro rr
 induction rr with
 |nil=>
  exact fun z z z=>rfl
 |cons cw r ih=>
  obtain⟨y,v⟩:=cw;exact fun m x h=>by
   rw[aah,ZU,not_or] at h;unfold bindC;rw[ih _ x h.2];split
   ·rfl
   ·exact if_neg h.1
theorem EG{kf:Str->Option aam}(binds:List (Str×ZN)): ∀(m:Str->Option ZN) {x:Str} {v:ZN},(binds.map (·.1)).Nodup->(x,v)∈binds->kf x≠some .local->bindC kf binds m x=some v:=by
 induction binds with
 |nil=>exact fun z z z z h=>vw h
 |cons a r ih=>
  intro m x v nd h hk;have nd:=abC.mp nd;show bindC kf r (if kf a.1=some .local then m else fun y=>if y=a.1 then some a.2 else m y) x=some v
  rcases ZU.mp h with e|h
  ·rw[<-e] at nd⊢;rw[Mg r _ _ nd.1,if_neg hk];exact if_pos rfl
  ·exact ih _ nd.2 h hk
theorem NK: ∀(names:List (Str×aam)) (b:Nat) (acc:List (Str×Addr)) (x:Str),(acc.lookup x).isSome=true->((abQ b names acc).lookup x).isSome=true:=by
 intro rr
 induction rr with
 |nil=>
  exact fun z z z h=>h
 |cons cw r ih=>
  obtain⟨y,k⟩:=cw;exact fun b acc x h=>by
   unfold abQ;split
   ·refine ih _ _ x ?_
    rw[acC];split<;>simp[h]
   ·exact ih _ _ x h
theorem lC(names:List (Str×aam)): ∀(b:Nat) (acc:List (Str×Addr)) (x:Str),(x,acm)∈names->((abQ b names acc).lookup x).isSome=true:=by
 induction names with
 |nil=>exact fun z z z h=>vw h
 |cons a r ih=>
  intro b acc x h;show((if(a.2== .cell)=true then abQ (b+1) r ((a.1,b)::acc) else abQ b r acc).lookup x).isSome=true
  rcases ZU.mp h with e|h
  ·rw[<-e,if_pos (show((x,acm).2==acm)=true from rfl)]
   exact NK r _ _ x (by rw[acC,beq_self_eq_true];rfl)
  ·split
   ·exact ih _ _ x h
   ·exact ih _ _ x h
theorem v8: ∀(names:List (Str×aam)) (b:Nat) (acc:List (Str×Addr)),(names.map (·.1)).Nodup->(acc.map (·.1)).Nodup->(∀x∈acc.map (·.1),x∉names.map (·.1))->((abQ b names acc).map (·.1)).Nodup:=by
 intro rr
 induction rr with
 |nil=>
  exact fun z z z h z=>h
 |cons cw r ih=>
  obtain⟨y,k⟩:=cw;exact fun b acc hn ha hd=>by
   unfold abQ;rw[aah,abC] at hn;split
   ·refine ih _ _ hn.2 ?_ fun x hx h=> ?_
    ·rw[aah,abC]
     exact⟨fun h=>hd _ h ZR,ha⟩
    ·rcases ZU.mp hx with e|hx
     ·subst e;exact hn.1 h
     ·exact hd x hx (ZP _ h)
   ·exact ih _ _ hn.2 ha fun x hx h=>hd x hx (ZP _ h)
theorem j5{x:Str}{c:Addr}{l:List (Str×Addr)}:(l.map (·.1)).Nodup->(x,c)∈l->l.lookup x=some c:=by
 induction l with
 |nil=>exact fun z h=>vw h
 |cons a r ih=>
  intro nd h;have nd:=abC.mp nd;rw[acC];rcases ZU.mp h with e|h
  ·rw[<-e,beq_self_eq_true]
  ·rw[beq_eq_false_iff_ne.mpr (fun e:x=a.1=>nd.1 (show a.1∈_ from e▸Z1.mpr ⟨_,h,rfl⟩))]
   exact ih nd.2 h
noncomputable def mf(sc:ZZ):List Str->List Nat->Prop
 |x::xs,i::is=>(∃kd,sc.names[i]?=some (x,kd)/\(kd= .local\/kd= .cell))/\mf sc xs is
 |[],[]=>True
 |_,_=>False
theorem mf.get{sc:ZZ}{G:GM}{xs:List Str}{is:List Nat}(h:mf sc xs is){as:List V}{cs:List ZN}(q:aP G as cs)(hl:xs.length=cs.length)(p:Nat×V)(hp:p∈is.zip as):
 ∃x kd cv,sc.names[p.1]?=some (x,kd)/\(kd= .local\/kd= .cell)/\(x,cv)∈xs.zip cs/\Rd G p.2 cv:=by
 induction is generalizing xs as cs with
 |nil=>cases hp
 |cons i is ih=>
  cases as with
  |nil=>cases hp
  |cons a as=>
   obtain⟨c,r,rfl,h1,hr⟩:=q.inv;cases xs with
   |nil=>cases h
   |cons x xs=>
    obtain⟨⟨kd,g1,g2⟩,g3⟩:=h;rcases ZU.mp hp with rfl|hp
    ·exact⟨x,kd,c,g1,g2,ZR,h1⟩
    ·obtain⟨y,k',cv,e1,e2,e3,e4⟩:=ih g3 hr (Nat.succ.inj hl) hp
     exact⟨y,k',cv,e1,e2,ZP _ e3,e4⟩
theorem mf.kinds{sc:ZZ}{xs:List Str}{is:List Nat}(h:mf sc xs is){cs:List ZN}(p:Str×ZN)(hp:p∈xs.zip cs): ∃(i:Nat) (kd:aam),sc.names[i]?=some (p.1,kd)/\(kd= .local\/kd= .cell):=by
 induction xs generalizing is cs with
 |nil=>cases hp
 |cons x xs ih=>
  cases cs with
  |nil=>cases hp
  |cons c cs=>
   cases is with
   |nil=>cases h
   |cons i is=>
    obtain⟨⟨kd,g1,g2⟩,g3⟩:=h;rcases ZU.mp hp with rfl|hp
    ·exact⟨i,kd,g1,g2⟩
    ·exact ih g3 hp
structure cD(w:Z2)(H:Heap)(a:Addr)(fd:aaL)(body:List Stmt)(pars:List Str)(idx:List Nat):Prop where
 obj: ∃o,H.get? a=some o/\o.data= .func fd
 cod: ∃c o vs t,fd.code= .ref c/\c∉aq/\H.get? c=some o/\o.data= .fields vs/\vs[1]?=some (.str fd.qualname t)
 nt:a∉aq
 body:fd.body= .stmts body
 clo:fd.closure=[]
 glob:fd.globals=aaI
 blt:fd.builtins=acx
 co:fd.scope.isCoroutine=false
 gen:fd.scope.isGenerator=false
 kind:fd.scope.kind= .function
 nd:(fd.scope.names.map (·.1)).Nodup
 par:mf fd.scope pars idx
 pnd:pars.Nodup
 nofr:fd.scope.names.all (fun p=>p.2 != .free)=true
theorem uy{h:Heap}(hn:H.NoLimit)(hb: ∀b o,H.get? b=some o->b∉aq->h.get? b=some o):h.NoLimit:=by
 obtain⟨mc,⟨o,es,ep,ho,r⟩,h2⟩:=hn;exact⟨mc,⟨o,es,ep,hb _ _ ho (by decide),r⟩,h2⟩
set_option tactic.hygienic true in
noncomputable def Dh:aW->V
 | .ret v _=>v
 | .next _ _=> .none
set_option tactic.hygienic true in
theorem zM{a:Addr}{fd:aaL}{body:List Stmt}{pars:List Str}{idx:List Nat}{as:List V}(B:ai w tk H)(F:cD w H a fd body pars idx)
 (fu: ∀cs:List ZN,cs.length=pars.length->aba fd ⟨cs,[]⟩=pure (pars.zip cs)) (hlen:as.length=pars.length)
 (hb: ∀(L:Addr) (A:aaj) (G₀:GM) (s₀:ZL) (G:GM) (s:ZL) (Q:Flow->ZL->Prop) (E:ZN->ZL->Prop),bW A l 40->av [] H fd.scope (acv fd L a) (idx.zip as) [] G₀ s₀ G s->
  (∀f G' s',lx [] H fd.scope (acv fd L a) G₀ s₀ o f G' s'->Q f s')->Z6 (Z8 PW w) A (ac3 body (acv fd L a)) Q E s):aU w H (l+1) n (.ref a) as (Dh o):= .mk fun A s G cs r bs hi rl Q E k=>by
 obtain⟨ob,jl,pD⟩:=F.obj;obtain⟨c,oc,vs,t,ic,jh,gy,kJ,mE⟩:=F.cod;have b7:cs.length=pars.length:=rl.length.symm.trans hlen;refine ac6 (codeAny_call_cells (fd:=fd) (binds:=pars.zip cs) (by have:=r.depth;show A.depth<1000;exact "[+A+B1_600<A1000" this) (bs.base _ _ jl F.nt) pD (uy B.nolimit bs.base) ⟨c,oc,vs,t,ic,bs.base _ _ gy jh,kJ,mE⟩ F.body (fu cs b7) F.clo
  (fun x hx=> ?_) (fun s₁ I=> ?_) F.co F.gen F.kind)
 ·obtain⟨i,kd,h1,h2⟩:=F.par.kinds x hx
  have h3:=gJ h1 F.nd;rcases h2 with rfl|rfl
  ·exact .inl h3
  ·exact .inr ⟨h3,lC _ _ _ _ (aag h1)⟩
 ·obtain⟨eU,Yy,rfl⟩:=I.toInCall.same
  have cO:=I.toInCall.keep;have lN:s.heap.get? s.heap.objs.size=none:=ct (aab _);have hG: ∀a o,G a=some o->eU.get? a=some o:=fun a o e=>cO a o (hi a o e)
  have mr:qG (acv fd s.heap.objs.size a) fd.scope:=⟨F.kind,fun z h=>h,fun z h=>h,fun z h=>h,fun z h=> .inr h,F.glob,F.blt,F.nd,fun x h=>(h.elim (fun h=>lC _ _ _ _ (mem_of_lookup h)) fun h=>by have:=Z3.mp F.nofr _ (mem_of_lookup h);cases this),I.apart,fun x c h=>j5 (v8 _ _ _ F.nd acJ fun z h=>(nomatch h)) h⟩
  have tW: ∀y d,(acv fd s.heap.objs.size a).cells.lookup y=some d->s.heap.get? d=none:=fun y d h=>ct (ZW (abq (acB _)) (I.above y d (mem_of_lookup h)))
  have cY: ∀{d:Addr},s.heap.get? d=none->G d=none:=fun{d} h=>by
   cases e:G d with
   |none=>rfl
   |some q=>rw[hi d q e] at h;cases h
  refine hb _ _ G s G _ _ _ ⟨r.hd,by have:=r.depth;show A.depth+1+l<=600;exact "[+A+B1_600[++A1B600" this,by have:=r.units;show A.units+3+100*l+2*40<=9000;exact "[++A*100+B1*2C9000[+++A3*100B80_9000" this⟩
   ⟨⟨fun b q e hb=>cO _ _ (bs.base b q e hb),hG,mr,⟨_,I.toInCall.ns,fun p hp=> ?_⟩,fun y d h1=>⟨_,I.cell y d h1⟩,bs.tab.keep cO,bs.gt,bs.hl⟩,
    ak.grown hi _ cO,bs.base,lN,cY lN,fun y d h1 z=>⟨tW y d h1,cY (tW y d h1)⟩,fun y d h1=>⟨_,I.cell y d h1⟩,fun{i x kd} h1 h2=> ?_,fun x c h=>j5 (v8 _ _ _ F.nd acJ fun z h=>(nomatch h)) h,fun z h=>(nomatch h),I.apart,fun z h=>(nomatch h),ada⟩ fun f G' s' ok=> ?_
  ·obtain⟨x,kd,cv,h1,h2,h3,h4⟩:=F.par.get rl b7.symm p hp
   have h5:=gJ h1 F.nd;have eR:((pars.zip cs).map (·.1)).Nodup:=by rw[List.map_fst_zip (by simp[*])];exact F.pnd
   refine⟨x,kd,h1,?_⟩;rcases h2 with rfl|rfl
   ·exact .loc h5 cv (EH _ _ eR h3 h5) h4
   ·obtain⟨d,hd⟩:=abO.mp (lC fd.scope.names (s.heap.objs.size+1) [] x (aag h1))
    refine .cel (.inl h5) d cv hd ?_ h4;have:=I.cell x d hd
    rwa [EG _ _ eR h3 (by rw[show(acv fd s.heap.objs.size a).kindOf x=some .cell from h5];decide)] at this
  ·subst h2;exact lC _ _ _ _ (aag h1)
  ·cases o with
   |next ρ' ow'=>
    obtain⟨rfl,I'⟩:=ok;exact k .none s' G' I'.ext .none
   |ret v ow'=>
    obtain⟨cv,rfl,h1,I'⟩:=ok;exact k cv s' G' I'.ext h1
theorem M8{a:Addr}{fd:aaL}{body:List Stmt}{pars:List Str}{idx:List Nat}{as:List V}(B:ai w tk H)(F:cD w H a fd body pars idx)
 (fu: ∀cs:List ZN,cs.length=pars.length->aba fd ⟨cs,[]⟩=pure (pars.zip cs)) (hlen:as.length=pars.length)
 (hb:aD w [] H l 40 fd.scope (idx.zip as) [] body o):aU w H (l+1) n (.ref a) as (Dh o):=
 zM B F fu hlen fun L A G₀ s₀ G s Q E r I k=>hb.go (acv fd L a) A G₀ s₀ G s Q E rfl r I k
noncomputable def bk(H:Heap)(x:Str)(cf:ZN):Prop:=(x==("__debug__" :Str))=false/\(H.nsMap aaI x=some cf\/(H.nsMap aaI x=none/\x≠ "__name__" /\bootBuiltins x=some cf))
inductive cF(H:Heap):ZN->Prop
 |fn {a o fd:_}:H.get? a=some o->a∉aq->o.data= .func fd->cF H (.ref a)
 |bi (id:_):cF H (.builtin id)
 |ty (T:_):cF H (.type T)
theorem eZ(B:ai w tk H){x:Str}{cf:ZN}{p:Pos}(g:bk H x cf){i:Nat}(hx:sc.names[i]?=some (x, .globalImplicit)){A:aaj}{G:GM}{s:ZL}{Q:ZN->ZL->Prop}{E:ZN->ZL->Prop}
 (S:St H sc env ρ G s) (k:Q cf s):Z6 (Z8 PW w) A (eval (.Name x p) env) Q E s:=by
 have hk:=S.envIs.glb _ (gJ hx S.envIs.nd);rcases g.2 with h1|⟨h1,h2,h3⟩
 ·exact Name_function_global S.envIs.kind hk (loadGlobal_global (by rw[S.envIs.glob];exact xT B.ns (by decide) S.base) h1 k) g.1
 ·exact Name_function_global S.envIs.kind hk (loadGlobal_builtin (by rw[S.envIs.glob];exact xT B.ns (by decide) S.base) h1 (by rw[S.envIs.blt];exact xT B.blt (by decide) S.base) ((B.blts x h2).trans h3) k) g.1
theorem gY(B:ai w tk H){x:Str}{cf:ZN}{v:V}{p:Pos}(g:bk H x cf){i:Nat}(hx:sc.names[i]?=some (x, .globalImplicit))(hr: ∀G:GM,Rd G v cf):ah w H l n sc ρ (.Name x p) v:=
 .mk fun env A s G z S Q E h=>eZ B g hx S (h _ _ G (ak.refl S.inn) (hr G))
theorem St.bs{G:GM}{s:ZL}(S:St H sc env ρ G s):Bs H G s:=⟨S.base,S.tab,S.gt,S.hl⟩
theorem ml{f:ZN}(hc:cF H f){pos:Pos}{args:List (Bool×Sem ZN)}{A:aaj}{s:ZL}{Q:ZN->ZL->Prop}{E:ZN->ZL->Prop}(ha: ∃x rest,args=(false,x)::rest)(hp:args.any (·.1)=false)
 (h:Z6 (Z8 PW w) A (spliced args) (fun vs s'=>(∀b o,H.get? b=some o->b∉aq->s'.heap.get? b=some o)/\Z6 (Z8 PW w) A (call f vs) Q E s') E s):Z6 (Z8 PW w) A (callWith pos f [] args []) Q E s:=by
 obtain⟨x,rest,rfl⟩:=ha;cases hc with
 |fn h1 h2 h3=>exact callWith_function (abu (abJ h (fun vs s' q=>⟨⟨q.1 _ _ h1 h2,h3⟩,q.2⟩) fun z z q=>q))
 |bi id=>exact adk hp (abu (abJ h (fun vs s' q=>q.2) fun z z q=>q))
 |ty T=>exact abn hp (abu (abJ h (fun vs s' q=>q.2) fun z z q=>q))
theorem OO(B:ai w tk H){x:Str}{p pos:Pos}{es:List Expr}{f:ZN}{as:List V}{v:V}{i:Nat}(g:bk H x f)(hc:cF H f)(hx:sc.names[i]?=some (x, .globalImplicit))(hv:aU w H l n f as v)(ha:dX w H l n sc ρ es as)
 (h1:autoParam (dU es=true) au):ah w H l n sc ρ (.Call (.Name x p) es [] pos) v:=
 .mk fun env A s G r S Q E k=>aaZ (eZ B g hx S (ml hc (dE h1).2 (jB (dE (pos:=pos) (env:=env) h1).1).1 (ha.go env A s G pos r S _ E fun cs s₁ G₁ af aA=>⟨(S.ext af).base,hv.go A s₁ G₁ cs r (S.ext af).bs af.inn aA Q E fun cv ar aB ax bx=>k cv ar aB (af.trans ax) bx⟩)))
theorem GL{env:Env}{pos:Pos}{es:List Expr}(h1:dU es=true)(h:decide (es.length<30)=true):((abW pos (aa4 es env)).all (fun x=> !x.1)&&(acD pos (abL [] env)).all (fun x=>x.1.isSome)
 &&decide (es.length+([]:List Keyword).length+(if([]:List Keyword).isEmpty then 0 else 1)<30))=true:=by
 rw[(jB (dE (pos:=pos) (env:=env) h1).1).2];exact h
noncomputable def jL(w:Z2)(H:Heap)(l n:Nat)(name:Str)(a:V)(as:List V)(v:V):Prop:=
 ∃(T id:String),PlainAttrs T/\Slot T name id/\typeOf (.builtin id)=pure (.type "method_descriptor")/\
  (∀(G:GM) (s:ZL) (ca:ZN),bS G s->Rd G a ca->s.TypeIs ca T/\ ∀b,ca= .ref b-> ∃ob,s.heap.get? b=some ob/\ob.dict=none)/\aU w H l n (.builtin id) (a::as) v
theorem kA{oe:Expr}{name:Str}{apos pos:Pos}{es:List Expr}{a:V}{as:List V}{v:V}(hm:jL w H l n name a as v)(ho:ah w H l n sc ρ oe a)(ha:dX w H l n sc ρ es as)
 (h1:autoParam (dU es=true) au)
 (ib:autoParam (∀env,adC oe name env (eval oe env)=eval oe env) au) (fS:autoParam ((apos.endLine==pos.line)=true) au)
 (pH:autoParam (decide (es.length<30)=true) au):ah w H l n sc ρ (.Call (.Attribute oe name apos) es [] pos) v:=
 .mk fun env A s G r S Q E k=>wpAny_Call_method_lateS (ib env) (GL h1 pH) fS (ho.go env A s G r S _ E fun ca s₁ G₁ af aA=>by
  obtain⟨T,id,pa,sl,ty,ht,hv⟩:=hm;obtain⟨t1,t2⟩:=ht G₁ s₁ ca af.inn aA;refine⟨T,id,pa,sl,ty,t1,t2,?_⟩;obtain⟨x,rest,he⟩:=(dE (pos:=pos) (env:=env) h1).2;have hp:=(jB (pos:=pos) (env:=env) (dE (pos:=pos) (env:=env) h1).1).1;have hs:=ha.go env A s₁ G₁ pos r (S.ext af) (fun vs s'=>Z6 (Z8 PW w) A (call (.builtin id) (ca::vs)) Q E s') E fun cs ar aB ax bx=>
   hv.go A ar aB (ca::cs) r ((S.ext af).ext ax).bs ax.inn (.cons (cN ax.sub aA) bx) Q E fun cv bj bI bL dT=>k cv bj bI ((af.trans ax).trans bL) dT
  rw[he] at hs hp⊢;exact adk hp (abu hs))
theorem gq{oe:Expr}{name:Str}{apos pos:Pos}{a:V}{v:V}(hm:jL w H l n name a [] v)(ho:ah w H l n sc ρ oe a)
 (ib:autoParam (∀env,adC oe name env (eval oe env)=eval oe env) au) (fS:autoParam ((apos.endLine==pos.line)=true) au):ah w H l n sc ρ (.Call (.Attribute oe name apos) [] [] pos) v:=
 .mk fun env A s G r S Q E k=>Call_method0 (ib env) fS (ho.go env A s G r S _ E fun ca s₁ G₁ af aA=>by
  obtain⟨T,id,pa,sl,ty,ht,hv⟩:=hm;obtain⟨t1,t2⟩:=ht G₁ s₁ ca af.inn aA;refine⟨T,id,pa,sl,ty,t1,t2,?_⟩;exact adk rfl (evalArgs_nil3 (hv.go A s₁ G₁ [ca] r (S.ext af).bs af.inn (.cons aA .nil) Q E fun cv bj bI bL dT=>k cv bj bI (af.trans bL) dT)))
noncomputable def without(h:Heap):List Addr->Heap
 |[]=>h
 |a::r=>(without h r).update a fun z=>{cls:= .none,dict:=none,data:= .freed,slots:= #[]}
theorem QB(h:Heap)(a:Addr):(h.update a fun z=>{cls:= .none,dict:=none,data:= .freed,slots:= #[]}).get? a=none:=by
 refine jT fun o e=> ?_
 obtain⟨e1,e2⟩:=Heap.get?_some_iff.mp e;cases h;simp only[Heap.update,Array.getElem?_modify,if_true] at e1;cases hq:(‹Array Obj›)[a]? with
 |none=>rw[hq] at e1;cases e1
 |some q=>rw[hq] at e1;cases e1;cases e2
theorem eG(h:Heap): ∀(D:List Addr) (a:Addr),a∈D->(without h D).get? a=none
 |b::r,a,hm=>by
  unfold without
  by_cases e:b=a
  ·subst e;exact QB _ _
  ·rw[Heap.get?_update_other _ _ e]
   exact eG h r a ((ZU.mp hm).resolve_left fun x=>e x.symm)
theorem dv(h:Heap): ∀(D:List Addr) (a:Addr),a∉D->(without h D).get? a=h.get? a:=by
 intro rr
 induction rr with
 |nil=>
  exact fun z z=>rfl
 |cons b r ih=>
  exact fun a hm=>by
   unfold without;rw[ZU,not_or] at hm;rw[Heap.get?_update_other _ _ (fun e=>hm.1 e.symm)];exact ih a hm.2
noncomputable def bM(sc:ZZ)(env:Env)(ow:Ow)(X:List Addr):List Addr:=env.locals::((env.cells.filter fun p=>sc.names.lookup p.1==some .cell).map (·.2)++(ow.map (·.1)++X))
theorem qi{a:Addr}(h:a∈bM sc env ow X):a=env.locals\/(∃x,(x,a)∈env.cells/\sc.names.lookup x=some .cell)\/(∃x,(a,x)∈ow)\/a∈X:=by
 unfold bM at h;rcases ZU.mp h with h|h
 ·exact .inl h
 ·rcases aaw.mp h with h|h
  ·obtain⟨⟨x,c⟩,h1,rfl⟩:=Z1.mp h
   obtain⟨h2,h3⟩:=aaQ.mp h1;exact .inr (.inl ⟨x,h2,by simpa using h3⟩)
  ·rcases aaw.mp h with h|h
   ·obtain⟨⟨c,x⟩,h1,rfl⟩:=Z1.mp h
    exact .inr (.inr (.inl ⟨x,h1⟩))
   ·exact .inr (.inr (.inr h))
theorem bY.without{h:Heap}(t:bY h){D:List Addr}(hD: ∀L∈D,∃o,h.get? L=some o/\ ∀vs,o.data≠ .fields vs):bY (without h D):=t.keepT fun b o vs e d z=>(dv _ _ _ fun hm=>by
 obtain⟨o',e',hn⟩:=hD b hm;cases gS e e';exact hn _ d).trans e
theorem av.mem(I:av X H sc env ρ ow G₀ s₀ G s){a:Addr}(h:a∈bM sc env ow X):
 (s₀.heap.get? a=none\/a∈X)/\G a=none/\a∉aq/\(∀o b8,s.heap.get? a=some o->o.data≠ .fields b8)/\ ∀o,H.get? a≠some o:=by
 obtain⟨m,hn,_⟩:=I.st.loc;have hH: ∀{b},b∉aq->s₀.heap.get? b=none-> ∀o,H.get? b≠some o:=fun ht h o e=>by rw[I.base₀ _ o e ht] at h;cases h
 rcases qi h with rfl|⟨x,h1,h2⟩|⟨x,h1⟩|h1
 ·have:=jz I.st.tab hn
  exact⟨.inl I.lnew,I.lG,this,uU hn,hH this I.lnew⟩
 ·have h3:=I.ckeys x a h1
  obtain⟨v,hv⟩:=I.cis x a h3;have:=nD I.st.tab hv;exact⟨.inl (I.cnew x a h3 h2).1,(I.cnew x a h3 h2).2,this,E9 hv,hH this (I.cnew x a h3 h2).1⟩
 ·obtain⟨g,h2,h3,vs,k,h4,_⟩:=I.own _ h1
  refine⟨h3,g,ir I.st.tab h4,?_,h2⟩;intro o b8 e q;rw[h4] at e;cases e;cases q
 ·obtain⟨h2,h3,vs,k,h4⟩:=I.xs a h1
  refine⟨.inr h1,h3,ir I.st.tab h4,?_,h2⟩;intro o b8 e q;rw[h4] at e;cases e;cases q
noncomputable abbrev df(s:ZL)(D:List Addr):Shared:={s with heap:=without s.heap D}
theorem CY:env.locals∈bM sc env ow X:=ZR
theorem JB{x:Str}{c:Addr}(h1:env.cells.lookup x=some c)(h2:sc.names.lookup x=some .cell):c∈bM sc env ow X:=
 ZP _ (abX _ (Z1.mpr ⟨(x,c),aaQ.mpr ⟨mem_of_lookup h1,by simp[h2]⟩,rfl⟩))
theorem JC{p:Addr×List V}(h:p∈ow):p.1∈bM sc env ow X:=ZP _ (abP _ (abX _ (Z1.mpr ⟨p,h,rfl⟩)))
theorem av.anchor(I:av X H sc env ρ ow G₀ s₀ G s):av X H sc env ρ ow G (df s (bM sc env ow X)) G s:=by
 have out: ∀b o,(df s (bM sc env ow X)).heap.get? b=some o->b∉bM sc env ow X/\s.heap.get? b=some o:=fun b o e=>by
  by_cases hb:b∈bM sc env ow X
  ·rw[show(df s (bM sc env ow X)).heap.get? b=none from eG _ _ _ hb] at e;cases e
  ·exact⟨hb,(dv _ _ _ hb).symm.trans e⟩
 refine⟨I.st,⟨fun y y e=>e,fun y y e=> .inl e,I.st.inn,fun b o e y=>(out b o e).2,rfl,rfl,fun y=>I.st.tab,fun y z=>z⟩,fun b o e ht=> ?_,eG _ _ _ CY,I.lG,
  fun x c h1 h2=>⟨eG _ _ _ (JB h1 h2),(I.cnew x c h1 h2).2⟩,I.cis,I.cell,I.ckeys,I.xs,I.apart,fun p hp=> ?_,I.dis⟩
 ·have:b∉bM sc env ow X:=fun hm=>(I.mem hm).2.2.2.2 o e
  exact(dv _ _ _ this).trans (I.st.base b o e ht)
 ·obtain⟨h1,h2,h3,vs,k,h4,h5⟩:=I.own p hp
  exact⟨h1,h2, .inl (eG _ _ _ (JC hp)),vs,k,h4,h5⟩
theorem av.none₀(I:av X H sc env ρ ow G₀ s₀ G s){a:Addr}(h:(df s (bM sc env ow X)).heap.get? a=none):s₀.heap.get? a=none\/a∈X++aq:=by
 by_cases hm:a∈bM sc env ow X
 ·exact(I.mem hm).1.imp id fun h=>abX _ h
 ·rw[show(df s (bM sc env ow X)).heap.get? a=s.heap.get? a from dv _ _ _ hm] at h
  by_cases hX:a∈X++aq
  ·exact .inr hX
  ·refine .inl (jT fun o e=> ?_)
   rw[I.ext.keep a o e hX] at h;cases h
theorem av.back(I:av X H sc env ρ ow G₀ s₀ G s)(I':av X H sc env ρ' ow' G (df s (bM sc env ow X)) G' s'):av X H sc env ρ' ow' G₀ s₀ G' s':=by
 refine⟨I'.st,⟨fun a o e=>I'.ext.sub a o (I.ext.sub a o e),fun a o e=> ?_,I'.ext.inn,fun b o e hb=> ?_,I'.ext.gens.trans I.ext.gens,I'.ext.os.trans I.ext.os,fun z=>I'.st.tab,fun z z=>I'.st.gt⟩,I.base₀,I.lnew,I'.lG,
  fun x c h1 h2=>⟨(I.cnew x c h1 h2).1,(I'.cnew x c h1 h2).2⟩,I'.cis,I.cell,I.ckeys,I'.xs,I.apart,fun p hp=> ?_,I'.dis⟩
 ·rcases I'.ext.new a o e with h|h|h
  ·exact I.ext.new a o h
  ·rcases I.none₀ h with h|h
   ·exact .inr (.inl h)
   ·exact .inr (.inr h)
  ·exact .inr (.inr h)
 ·refine I'.ext.keep b o ((dv _ _ _ fun hm=> ?_).trans (I.ext.keep b o e hb)) hb
  rcases (I.mem hm).1 with h|h
  ·rw[h] at e;cases e
  ·exact hb (abX _ h)
 ·obtain⟨h1,h2,h3,vs,k,h4,h5⟩:=I'.own p hp
  refine⟨h1,h2,?_,vs,k,h4,h5⟩;rcases h3 with h|h
  ·rcases I.none₀ h with h|h
   ·exact .inl h
   ·rcases aaw.mp h with h|h
    ·exact .inr h
    ·exact absurd h (ir I'.st.tab h4)
  ·exact .inr h
noncomputable def dO(sc:ZZ)(env:Env)(ow:Ow)(X:List Addr)(G:GM)(s:ZL)(G':GM)(s':ZL):Prop:=
 (∀a o,G a=some o->G' a=some o)/\ ∀b o,b∉bM sc env ow X->b∉X++aq->s.heap.get? b=some o->s'.heap.get? b=some o/\(G b=none->G' b=none)
theorem av.kept(I:av X H sc env ρ ow G₀ s₀ G s)(I':av X H sc env ρ' ow' G (df s (bM sc env ow X)) G' s'):dO sc env ow X G s G' s':=
 ⟨I'.ext.sub,fun b o h1 h2 e=>by
  have e':(df s (bM sc env ow X)).heap.get? b=some o:=(dv _ _ _ h1).trans e;exact⟨I'.ext.keep b o e' h2,fun hg=>I'.ext.none hg e' h2⟩⟩
set_option tactic.hygienic true in
theorem zE{ss:List Stmt}(h:aD w X H l n sc ρ ow ss o){A:aaj}{Q:Flow->ZL->Prop}{E:ZN->ZL->Prop}(q:env.scope=sc)(r:bW A l n)(I:av X H sc env ρ ow G₀ s₀ G s)
 (k: ∀f G' s',lx X H sc env G₀ s₀ o f G' s'->dO sc env ow X G s G' s'->Q f s'):Z6 (Z8 PW w) A (ac3 ss env) Q E s:=
 h.go env A G _ G s Q E q r I.anchor fun f G' s' ok=>by
  cases o with
  |next ρ' ow'=>exact k f G' s' ⟨ok.1,I.back ok.2⟩ (I.kept ok.2)
  |ret v ow'=>
   obtain⟨cv,h1,h2,h3⟩:=ok;exact k f G' s' ⟨cv,h1,h2,I.back h3⟩ (I.kept h3)
noncomputable def fN(s:ZL)(b:Addr):Prop:= ∃o vs T,s.heap.get? b=some o/\o.data= .fields vs/\o.cls= .type T/\T≠ "code"
theorem fN.tab{b:Addr}(h:fN s b)(t:bY s.heap):b∉aq:=fun hb=>by
 obtain⟨o,vs,T,h1,_,h3,_⟩:=h;obtain⟨us,e,_⟩:=t b hb;rw[e] at h1;cases h1;cases h3
theorem fN.nl{b:Addr}(h:fN s b){vs:List ZN}{k:Nat}(e:s.heap.get? b=some (aI vs k)):False:=by
 obtain⟨o,us,T,h1,h2,_⟩:=h;cases gS e h1;cases h2
theorem av.apartI(I:av X H sc env ρ ow G₀ s₀ G s){b:Addr}(h:fN s b):b∉bM sc env ow X:=fun hm=>by
 obtain⟨o,vs,T,h1,h2,_⟩:=h;exact(I.mem hm).2.2.2.1 o vs h1 h2
theorem av.fresh(I:av X H sc env ρ ow G₀ s₀ G s){b:Addr}(h:s.heap.get? b=none):s₀.heap.get? b=none:=jT fun o e=>by
 by_cases hX:b∈X++aq
 ·rcases aaw.mp hX with hX|hX
  ·obtain⟨_,_,vs,k,h1⟩:=I.xs b hX
   rw[h1] at h;cases h
  ·obtain⟨vs,h1,_⟩:=I.st.tab b hX
   rw[h1] at h;cases h
 ·rw[I.ext.keep b o e hX] at h;cases h
theorem av.wr(I:av X H sc env ρ ow G₀ s₀ G s){wr:List Addr}{h':Heap}{tk':Nat}(hk: ∀b o,b∉wr->s.heap.get? b=some o->h'.get? b=some o)
 (hw: ∀b∈wr,fN s b/\G b=none/\s₀.heap.get? b=none) (hs: ∀a o,G a=some o->G' a=some o) (dB: ∀a o,G' a=some o->G a=some o\/s.heap.get? a=none) (ji:bS G' {s with heap:=h',toks:=tk'}):
 av X H sc env ρ ow G₀ s₀ G' {s with heap:=h',toks:=tk'}:=by
 have dR: ∀b,b∈bM sc env ow X->b∉wr:=fun b hb hm=>I.apartI (hw b hm).1 hb
 have xC: ∀{b o},G b=none->s.heap.get? b=some o->G' b=none:=fun{b o} h1 h2=>by
  cases e:G' b with
  |none=>rfl
  |some q=>exact(dB b q e).elim (Lb h1) (sO h2)
 have hf: ∀{b o},b∈wr->s.heap.get? b=some o->(∃vs,o.data= .fields vs)/\ ∃T,o.cls= .type T/\T≠ "code" :=fun hm e=>by
  obtain⟨o2,vs,T,e1,e2,e3,e4⟩:=(hw _ hm).1;cases gS e e1;exact⟨⟨vs,e2⟩,T,e3,e4⟩
 have fF: ∀c v,s.heap.IsCell c v->h'.IsCell c v:=fun c v y=>by
  obtain⟨q,h1,h2⟩:=y;refine⟨q,hk c q (fun hm=> ?_) h1,h2⟩;obtain⟨⟨_,e⟩,_⟩:=hf hm h1;cases h2.symm.trans e
 have ht:bY h':=I.st.tab.keepT fun b o vs e z hc=>hk b o (fun hm=> ?_) e
 ·have hl: ∀a vs k,s.heap.get? a=some (aI vs k)->a∉wr:=fun a vs k e hm=>by
   obtain⟨⟨_,e'⟩,_⟩:=hf hm e;cases e'
  have RW: ∀p∈aq,G' p=none:=fun p hp=>by
   obtain⟨vs,h1,_⟩:=I.st.tab p hp;exact xC (I.st.gt p hp) h1
  refine I.re (D:=fun b=>b∈wr) (fun b hb=> .inl (hw b hb).2.2) (fun b o e hb z=>⟨hk b o hb e,fun hg=>xC hg e⟩) hs (fun a o e=>(dB a o e).imp id .inl) ji rfl rfl ht RW ?_ ?_ (fun c v y hm=>⟨⟨v,fF c v y⟩,fun hg=>let⟨o,e,_⟩:=y;xC hg e⟩) (fun a vs k e hm z=>(hl a vs k e hm).elim) (fun p hp=> .inl ⟨hp,hl p.1⟩) I.dis
  ·exact I.st.loc.mono hs fF fun m=>yj fun o=>hk _ _ (dR _ CY)
  ·obtain⟨m,⟨o,_,_,ho,_⟩,_⟩:=I.st.loc
   exact xC I.lG ho
 ·rcases hc with hc|hc
  ·exact(hw b hm).1.tab I.st.tab hc
  ·obtain⟨_,T,e3,e4⟩:=hf hm e
   cases hc.symm.trans e3;exact e4 rfl
variable{N:Nat}
structure Wk(w:Z2)(A:aaj)(tg:Expr)(I:Addr)(wr:List Addr)(items:List V)(J:Nat->GM->ZL->Prop):Prop where
 obj: ∀i G s,J i G s-> ∀b∈wr,fN s b/\G b=none
 stab: ∀i G s G' s',J i G s->(∀a o,G a=some o->G' a=some o)->bS G' s'->(∀b∈wr,(∀o,s.heap.get? b=some o->s'.heap.get? b=some o)/\G' b=none)->J i G' s'
 item: ∀i G s v (Q:ZN->ZL->Prop) (E:ZN->ZL->Prop),J i G s->bS G s->items[i]?=some v->
  (∀cv h' tk G',(∀a o,G a=some o->G' a=some o)->(∀a o,G' a=some o->G a=some o\/s.heap.get? a=none)->bS G' {s with heap:=h',toks:=tk}->
   (∀b o,b∉wr->s.heap.get? b=some o->h'.get? b=some o)->Rd G' v cv->J (i+1) G' {s with heap:=h',toks:=tk}->Q cv {s with heap:=h',toks:=tk})->
  Z6 (Z8 PW w) A (pyNext (.ref I)) (fun r s₁=>match r with|none=>False|some cv=>Z6 (Z8 PW w) A (aeL tg (.ref I) cv) (fun z ar=>Q cv ar) E s₁) E s
 done: ∀G s (Q:ZL->Prop) (E:ZN->ZL->Prop),J items.length G s->bS G s->
  (∀h' tk,(∀b o,b∉wr->s.heap.get? b=some o->h'.get? b=some o)->Q {s with heap:=h',toks:=tk})->
  Z6 (Z8 PW w) A (pyNext (.ref I)) (fun r s₁=>r=none/\Q s₁) E s
 self: ∀i G s (Q:ZN->ZL->Prop) (E:ZN->ZL->Prop),J i G s->Q (.ref I) s->Z6 (Z8 PW w) A (pyIter (.ref I)) Q E s
noncomputable def cI(w:Z2)(H:Heap)(l n:Nat)(sc:ZZ)(ρ:aw)(tg e:Expr)(items:List V):Prop:=
 ∀(env:Env) (A:aaj) (s:ZL) (G:GM),bW A l n->St H sc env ρ G s-> ∀(Q:ZN->ZL->Prop) (E:ZN->ZL->Prop),
  (∀I wr J s' G',ak aq G s G' s'->Wk w A tg I wr items J->J 0 G' s'->(∀b∈wr,s.heap.get? b=none)->Q (.ref I) s')->
  Z6 (Z8 PW w) A (eval e env) (fun x s₁=>Z6 (Z8 PW w) A (pyIter x) Q E s₁) E s
noncomputable def qH(N:Nat)(w:Z2)(H:Heap)(l n:Nat)(sc:ZZ)(ρ:aw)(e:Expr)(v:V):Prop:=
 ∀(env:Env) (A:aaj) (s:ZL) (G:GM),N<=s.toks->bW A l n->St H sc env ρ G s->qI w A (eval e env) G s v
noncomputable def oE(N:Nat)(w:Z2)(X:List Addr)(H:Heap)(l n:Nat)(sc:ZZ)(ρ:aw)(ow:Ow)(st:Stmt)(o:aW):Prop:=
 ∀(env:Env) (A:aaj) (G₀:GM) (s₀:ZL) (G:GM) (s:ZL) (Q:Flow->ZL->Prop) (E:ZN->ZL->Prop),N<=s.toks->env.scope=sc->bW A l n->av X H sc env ρ ow G₀ s₀ G s->
  (∀f G' s',lx X H sc env G₀ s₀ o f G' s'->Q f s')->Z6 (Z8 PW w) A (exec st env) Q E s
noncomputable def gT(N:Nat)(w:Z2)(X:List Addr)(H:Heap)(l n:Nat)(sc:ZZ)(ρ:aw)(ow:Ow)(ss:List Stmt)(o:aW):Prop:=
 ∀(env:Env) (A:aaj) (G₀:GM) (s₀:ZL) (G:GM) (s:ZL) (Q:Flow->ZL->Prop) (E:ZN->ZL->Prop),N<=s.toks->env.scope=sc->bW A l n->av X H sc env ρ ow G₀ s₀ G s->
  (∀f G' s',lx X H sc env G₀ s₀ o f G' s'->Q f s')->Z6 (Z8 PW w) A (ac3 ss env) Q E s
theorem uz{A:aaj}{tg:Expr}{I:Addr}{wr:List Addr}{items:List V}{J:Nat->GM->ZL->Prop}(W:Wk w A tg I wr items J){i:Nat}(hJ:J i G s)(Iv:av X H sc env ρ ow G₀ s₀ G s)(k:dO sc env ow X G s G' s')(hi:bS G' s'):J i G' s':=
 W.stab i G s G' s' hJ k.1 hi fun b hb=>by
  obtain⟨h1,h2⟩:=W.obj i G s hJ b hb;have hX:b∉X++aq:=fun hm=>by
   rcases aaw.mp hm with hm|hm
   ·obtain⟨_,_,vs,k,e⟩:=Iv.xs b hm
    exact h1.nl e
   ·exact h1.tab Iv.st.tab hm
  obtain⟨o,_,_,e1,_⟩:=id h1;refine⟨fun o e=>(k.2 b o (Iv.apartI h1) hX e).1,(k.2 b o (Iv.apartI h1) hX e1).2 h2⟩
noncomputable def jM(w:Z2)(X:List Addr)(H:Heap)(sc:ZZ)(tg:Expr)(ρ:aw)(v:V)(ρ':aw):Prop:=
 ∀(env:Env) (A:aaj) (G₀:GM) (s₀:ZL) (G:GM) (s:ZL) (ow:Ow) (cv:ZN) (Q:Unit->ZL->Prop) (E:ZN->ZL->Prop),A.handled=none->av X H sc env ρ ow G₀ s₀ G s->Rd G v cv->
  (∀G' s',av X H sc env ρ' ow G₀ s₀ G' s'->dO sc env ow X G s G' s'->Q () s')->Z6 (Z8 PW w) A (assign tg env cv) Q E s
theorem jE{α:Type}{t:Sem α}{Q:α->ZL->Prop}{E:ZN->ZL->Prop}{A:aaj}(hn:N<=s.toks)(h:Z6 (Z8 PW w) A t (fun a s'=>N<=s'.toks->Q a s') E s):Z6 (Z8 PW w) A t Q E s:=
 wpAny_with_toks hn (abJ h (fun z z q=>q) fun z z e z=>e)
set_option tactic.hygienic true in
theorem EL{ss:List Stmt}(h:gT N w X H l n sc ρ ow ss o){A:aaj}{Q:Flow->ZL->Prop}{E:ZN->ZL->Prop}(hN:N<=s.toks)(q:env.scope=sc)(r:bW A l n)(I:av X H sc env ρ ow G₀ s₀ G s)
 (k: ∀f G' s',lx X H sc env G₀ s₀ o f G' s'->dO sc env ow X G s G' s'->Q f s'):Z6 (Z8 PW w) A (ac3 ss env) Q E s:=
 h env A G _ G s Q E hN q r I.anchor fun f G' s' ok=>by
  cases o with
  |next ρ' ow'=>exact k f G' s' ⟨ok.1,I.back ok.2⟩ (I.kept ok.2)
  |ret v ow'=>
   obtain⟨cv,h1,h2,h3⟩:=ok;exact k f G' s' ⟨cv,h1,h2,I.back h3⟩ (I.kept h3)
set_option tactic.hygienic true in
theorem F7{tg e:Expr}{body:List Stmt}{pos:Pos}{items:List V}{R R':Nat->aw}{O:Nat->Ow}{M:Nat}(hit:cI w H l n sc ρ tg e items)(h0: ∀p∈R 0,p∈ρ)(hO:O 0=ow)
 (jr: ∀k v,k<=M->items[k]?=some v->jM w X H sc tg (R k) v (R' k))
 (hb: ∀k v,k<M->items[k]?=some v->gT N w X H l n sc (R' k) (O k) body (.next (R (k+1)) (O (k+1))))
 (tZ:(M=items.length/\o= .next (R M) (O M))\/(∃v r or,items[M]?=some v/\gT N w X H l n sc (R' M) (O M) body (.ret r or)/\o= .ret r or))
 (hs:autoParam (∀env x,aaN e env x=pure x) au):oE N w X H l n sc ρ ow (.For tg e body [] pos) o:=fun env A G₀ s₀ G s Q E hN q r I k=>by
 refine wpAny_For (jE hN (abJ (hit env A s G r I.st (fun v s'=>N<=s'.toks->_) E fun It wr J s₁ G₁ af W hJ hw tS=> ?_) (fun x s₁ h tS=>jE tS h) fun z z e=>e)) (hs env);have hM:M<=items.length:=by
  rcases tZ with⟨h,_⟩|⟨v,_,_,h,_⟩
  ·exact Nat.le_of_eq h
  ·exact abq (aa2.mp h).1
 have aE:av X H sc env (R 0) (O 0) G₀ s₀ G₁ s₁:=by rw[hO];exact(I.ext' af).sub h0 (aae _)
 have pX: ∀b∈wr,s₀.heap.get? b=none:=fun b hb=>I.fresh (hw b hb)
 refine codeAny_forLoop_any (fun m s'=>N<=s'.toks/\ ∃i G',m+i=M+1/\i<=M/\av X H sc env (R i) (O i) G₀ s₀ G' s'/\J i G' s') ?_ (M+1) ⟨tS,0,G₁,rfl,aav _,aE,hJ⟩
 rintro m ar ⟨Q3,i,aB,hm,mI,bf,iL⟩;have jX: ∀b∈wr,fN ar b/\aB b=none/\s₀.heap.get? b=none:=fun b hb=>⟨(W.obj i aB ar iL b hb).1,(W.obj i aB ar iL b hb).2,pX b hb⟩
 by_cases pG:i=items.length
 ·rcases tZ with⟨Bn,rfl⟩|⟨v,rr,or,hv,_,_⟩
  ·subst pG
   refine abJ (W.done aB ar (fun bj=> ∃bI,av X H sc env (R items.length) (O items.length) G₀ s₀ bI bj) _ iL bf.st.inn fun h' tk' hk=>⟨aB,bf.wr hk jX (fun z z e=>e) (fun z z e=> .inl e) fun a q' e=>hk a q' (fun hm=>sO e (jX a hm).2.1) (bf.st.inn a q' e)⟩) (fun rr bj fH=> ?_) fun z z e=>e
   obtain⟨rfl,bI,b0⟩:=fH;exact ace (k .next bI bj ⟨rfl,Bn▸b0⟩)
  ·exact absurd (aa2.mp hv).1 (adV.mpr (pG▸mI))
 ·have hi:i<items.length:=Nat.lt_of_le_of_ne (ZW mI hM) pG
  obtain⟨v,hv⟩: ∃v,items[i]?=some v:=⟨_,aaT hi⟩;refine jE Q3 (abJ (W.item i aB ar v (fun cv bj=>N<=bj.toks->Z6 (Z8 PW w) A (assign tg env cv) (fun z dN=>Z6 (Z8 PW w) A (ac3 body env) (fun f fJ=>match f with
   | .next| .cont=> ∃m',m'<m/\N<=fJ.toks/\ ∃i G',m'+i=M+1/\i<=M/\av X H sc env (R i) (O i) G₀ s₀ G' fJ/\J i G' fJ
   | .brk=>Q .next fJ
   | .ret v=>Q (.ret v) fJ) _ dN) _ bj) _ iL bf.st.inn hv fun cv h' tk' bI eB dB ji hk hr tR xg=> ?_) (fun rr bj fH=>by
   cases rr with
   |none=>exact fH.elim
   |some cv=>exact fun rz=>jE rz fH) fun z z e=>e)
  have b0:=bf.wr hk jX eB dB ji;refine jE xg ((jr i v mI hv) env A G₀ s₀ bI _ (O i) cv _ _ r.hd b0 hr fun ko dN eK rT rA=> ?_);have lM:=uz W tR b0 rT eK.st.inn
  by_cases aV:i<M
  ·refine jE rA (EL (hb i v aV hv) rA q r eK fun f l8 fJ ok Jr HH=> ?_)
   obtain⟨rfl,fm⟩:=ok;exact⟨m -1,by exact "=+A1B<AB" (ZM (";1=+AB+C1[BC[1A" hm mI)),HH,i+1,l8,by exact Z5 ("=+AB+C1=+D1A[+D+B1+C1" hm (ZM (";1=+AB+C1[BC[1A" hm mI))) (";1=+AB+C1;1=+D1A[+C1+D+B1" hm (ZM (";1=+AB+C1[BC[1A" hm mI))),aV,fm,uz W lM eK Jr fm.st.inn⟩
  ·obtain rfl:i=M:=Z5 mI (adV.mp aV)
   rcases tZ with⟨Bn,_⟩|⟨v',rr,or,nV,pz,rfl⟩
   ·exact absurd Bn pG
   ·refine EL pz rA q r eK fun f l8 fJ ok Jr=> ?_
    obtain⟨cv,rfl,h1,fm⟩:=ok;exact k _ l8 fJ ⟨cv,rfl,h1,fm⟩
set_option tactic.hygienic true in
theorem kD{tg e:Expr}{body:List Stmt}{pos:Pos}{items:List V}{R R':Nat->aw}{O:Nat->Ow}{M:Nat}(hit:cI w H l n sc ρ tg e items)(h0: ∀p∈R 0,p∈ρ)(hO:O 0=ow)
 (jr: ∀k v,k<=M->items[k]?=some v->jM w X H sc tg (R k) v (R' k))
 (hb: ∀k v,k<M->items[k]?=some v->aD w X H l n sc (R' k) (O k) body (.next (R (k+1)) (O (k+1))))
 (tZ:(M=items.length/\o= .next (R M) (O M))\/(∃v r or,items[M]?=some v/\aD w X H l n sc (R' M) (O M) body (.ret r or)/\o= .ret r or))
 (hs:autoParam (∀env x,aaN e env x=pure x) au):bV w X H l n sc ρ ow (.For tg e body [] pos) o:= .mk fun env A G₀ s₀ G s Q E=>
 F7 (N:=0) hit h0 hO jr (fun k v hk hv env A G₀ s₀ G s Q E z=>(hb k v hk hv).go env A G₀ s₀ G s Q E) (tZ.imp id fun⟨v,r,or,h1,h2,h3⟩=>⟨v,r,or,h1,fun env A G₀ s₀ G s Q E z=>h2.go env A G₀ s₀ G s Q E,h3⟩) hs env A G₀ s₀ G s Q E (aav _)
theorem av.kept_store(I:av X H sc env ρ ow G₀ s₀ G s){i:Nat}{x:Str}{kd:aam}{v:V}{cv:ZN}(hx:sc.names[i]?=some (x,kd))(hk:kd= .local\/kd= .cell)(r:Rd G v cv)(dZ:(ρ.map (·.1)).contains i=false)
 {A:aaj} {Q:Unit->ZL->Prop} {E:ZN->ZL->Prop} (k: ∀G' s',av X H sc env ((i,v)::ρ) ow G₀ s₀ G' s'->dO sc env ow X G s G' s'->Q () s'):Z6 (Z8 PW w) A (storeName env x cv) Q E s:=
 D7 (ρ':=(i,v)::ρ) I.anchor hx (hk.imp id fun h=>⟨h,I.cell hx h⟩) r (fun q hq=>by
  rcases ZU.mp hq with h1|h1
  ·exact .inl h1
  ·refine .inr ⟨h1,fun e=> ?_⟩
   have:i∈ρ.map (·.1):=Z1.mpr ⟨q,h1,e⟩;rw[aem,decide_eq_false_iff_not] at dZ;exact dZ this) fun s' I'=>k G s' (I.back I') (I.kept I')
theorem qB{i:Nat}{x:Str}{kd:aam}{p:Pos}{v:V}(hx:sc.names[i]?=some (x,kd))(hk:kd= .local\/kd= .cell)(dZ:(ρ.map (·.1)).contains i=false):jM w X H sc (.Name x p) ρ v ((i,v)::ρ):=
 (fun env A G₀ s₀ G s ow cv Q E hh I r k=>wpAny_assign_Name (I.kept_store hx hk r dZ k))
theorem sJ{A:aaj}{tg:Expr}{I:Addr}{fp wr:List Addr}{P:Nat->ZN->Prop}{J:Nat->Heap->Prop}{items:List V}{G₁:GM}{n:Nat}(W:Walks PW w A I fp wr n P J)(hn:n=items.length)
 (hP: ∀i cv,P i cv-> ∀v,items[i]?=some v->Rd G₁ v cv) (pQ: ∀i (s:ZL),J i s.heap-> ∀b∈wr,fN s b) (t9: ∀b∈fp,b∉wr-> ∃o,G₁ b=some o)
 (RV: ∀i (s:ZL) v cv (Q:ZL->Prop) (E:ZN->ZL->Prop),J (i+1) s.heap->Rd G₁ v cv->items[i]?=some v->Q s->Z6 (Z8 PW w) A (aeL tg (.ref I) cv) (fun z ar=>Q ar) E s):
 Wk w A tg I wr items (fun i G s=>J i s.heap/\(∀a o,G₁ a=some o->G a=some o)/\bS G s/\ ∀b∈wr,G b=none) where
 obj:=fun i G s h b hb=>⟨pQ i s h.1 b hb,h.2.2.2 b hb⟩
 stab:=fun i G s G' s' h hs hi hw=>⟨W.frame i _ _ h.1 fun b hb o e=>by
  by_cases hm:b∈wr
  ·exact(hw b hm).1 o e
  ·obtain⟨q,hq⟩:=t9 b hb hm
   have e1:=h.2.2.1 b q (h.2.1 b q hq);rw[e] at e1;cases e1;exact hi b _ (hs b _ (h.2.1 b _ hq)),fun a o e=>hs a o (h.2.1 a o e),hi,fun b hb=>(hw b hb).2⟩
 item:=fun i G s v Q E h hi hv k=>by
  have aV:i<n:=by rw[hn];exact(aa2.mp hv).1
  refine W.item i s _ _ aV h.1 fun cv h' tk' Q4 hJ hk=> ?_
  have hr:=hP i cv Q4 v hv;have ji:bS G {s with heap:=h',toks:=tk'}:=fun a o e=>hk a o (fun hm=>by rw[h.2.2.2 a hm] at e;cases e) (hi a o e)
  exact RV i {s with heap:=h',toks:=tk'} v cv _ _ hJ hr hv (k cv h' tk' G (fun z z e=>e) (fun z z e=> .inl e) ji hk (cN h.2.1 hr) ⟨hJ,h.2.1,ji,h.2.2.2⟩)
 done:=fun G s Q E h hi k=>W.done s _ _ (hn▸h.1) fun h' tk' hk=>⟨rfl,k h' tk' hk⟩
 self:=fun i G s Q E h hQ=>W.self i s Q E h.1 hQ
theorem iZ{G:GM}{s:ZL}{o:Obj}(h:bS G s)(t:Nat):ak aq G s G {s with heap:=s.heap.push o,toks:=t}:=ak.grown h t fun b x e=>Z9 _ e
theorem cY(hi:bS G s){d:Addr}(h:s.heap.get? d=none):G d=none:=by
 cases e:G d with
 |none=>rfl
 |some q=>rw[hi d q e] at h;cases h
noncomputable def ly(tg:Expr):Prop:= ∀it v,aeL tg it v=pure ()
theorem bP{x:Str}{p:Pos}:ly (.Name x p):=fun z z=>rfl
theorem cE{tg e:Expr}{x:List V}(ht:ly tg\/(∃es k p,tg= .Tuple es k p)/\ ∀v∈x,∃y,v= .tup y)(h:ah w H l n sc ρ e (.list x)):cI w H l n sc ρ tg e x:=fun env A s G r S Q E k=>
 h.go env A s G r S _ E fun cv s₁ G₁ af aA=>by
  obtain⟨a,vs,n₁,rfl,ga,ra⟩:=fX aA;refine wpAny_pyIter_list (iq af.inn ga) ?_;have bC:a≠s₁.heap.objs.size:=abV (aa1 (af.inn _ _ ga));have ax:=iZ (o:={cls:= .type "list_iterator",data:= .fields #[.ref a, .int 0 0]}) af.inn s₁.toks;have hIn:s₁.heap.get? s₁.heap.objs.size=none:=ct (aab _)
  refine k _ [s₁.heap.objs.size] _ _ G₁ (af.trans ax) (sJ (G₁:=G₁) (Walks.list r.hd s₁.heap.objs.size a bC vs.toArray) (by simp[ra.length]) (fun i cv hp v hv=> ?_) (fun i s' hj b hb=> ?_) (fun b hb hm=> ?_) (fun i s' v cv Q' E' hj hr hv hq=> ?_))
   ⟨⟨⟨_,aai _ rfl,rfl,rfl⟩,(iq af.inn ga).push _⟩,fun z z e=>e,ax.inn,fun b hb=> ?_⟩ fun b hb=> ?_
  ·obtain⟨cu,h1,h2⟩:=ra.at hv
   have:vs[i]?=some cv:=by simpa using hp
   rw[this] at h1;cases h1;exact h2
  ·rw[Z4.mp hb]
   obtain⟨o,ho,hc,hd⟩:=hj.1;exact⟨o,_,_,ho,hd,hc,by decide⟩
  ·rcases ZU.mp hb with rfl|hb
   ·exact absurd ZR hm
   ·rw[Z4.mp hb];exact⟨_,ga⟩
  ·rcases ht with ht|⟨⟨es,kk,p,rfl⟩,hx⟩
   ·exact adI (ht _ _) hq
   ·obtain⟨y,rfl⟩:=hx v (aag hv)
    obtain⟨T,us,q,rfl,_,_⟩:=su hr;exact wpAny_letOwnedTupleGo_listiter hj.1 hq
  ·rw[Z4.mp hb];exact cY af.inn hIn
  ·rw[Z4.mp hb]
   refine jT fun o e=> ?_
   by_cases hb:s₁.heap.objs.size∈aq
   ·obtain⟨vs,h1,_⟩:=(S.ext af).tab _ hb
    rw[h1] at hIn;cases hIn
   ·rw[af.keep _ o e hb] at hIn;cases hIn
theorem ux{tg e:Expr}{x:List V}(ht:ly tg)(h:ah w H l n sc ρ e (.tup x)):cI w H l n sc ρ tg e x:=fun env A s G r S Q E k=>
 h.go env A s G r S _ E fun cv s₁ G₁ af aA=>by
  obtain⟨a,vs,n₁,rfl,ga,ra⟩:=su aA;refine iter_tuple (rR af.inn ga) ?_;have bC:a≠s₁.heap.objs.size:=abV (aa1 (af.inn _ _ ga));have ax:=iZ (o:={cls:= .type "tuple_iterator",data:= .fields #[.ref a, .int 0 0]}) af.inn s₁.toks;have hIn:s₁.heap.get? s₁.heap.objs.size=none:=ct (aab _)
  refine k _ [s₁.heap.objs.size] _ _ G₁ (af.trans ax) (sJ (G₁:=G₁) (Walks.tuple r.hd s₁.heap.objs.size a bC vs.toArray) (by simp[ra.length]) (fun i cv hp v hv=> ?_) (fun i s' hj b hb=> ?_) (fun b hb hm=> ?_) (fun i s' v cv Q' E' hj hr hv hq=>adI (ht _ _) hq))
   ⟨⟨⟨_,aai _ rfl,rfl,rfl⟩,(rR af.inn ga).push _⟩,fun z z e=>e,ax.inn,fun b hb=> ?_⟩ fun b hb=> ?_
  ·obtain⟨cu,h1,h2⟩:=ra.at hv
   have:vs[i]?=some cv:=by simpa using hp
   rw[this] at h1;cases h1;exact h2
  ·rw[Z4.mp hb]
   obtain⟨o,ho,hc,hd⟩:=hj.1;exact⟨o,_,_,ho,hd,hc,by decide⟩
  ·rcases ZU.mp hb with rfl|hb
   ·exact absurd ZR hm
   ·rw[Z4.mp hb];exact⟨_,ga⟩
  ·rw[Z4.mp hb];exact cY af.inn hIn
  ·rw[Z4.mp hb]
   refine jT fun o e=> ?_
   by_cases hb:s₁.heap.objs.size∈aq
   ·obtain⟨vs,h1,_⟩:=(S.ext af).tab _ hb
    rw[h1] at hIn;cases hIn
   ·rw[af.keep _ o e hb] at hIn;cases hIn
theorem jA(x:ak aq G s G' s')(t:bY s'.heap){b:Addr}(h:s'.heap.get? b=none):s.heap.get? b=none:=jT fun o e=>by
 by_cases hb:b∈aq
 ·obtain⟨vs,h1,_⟩:=t _ hb
  rw[h1] at h;cases h
 ·rw[x.keep _ o e hb] at h;cases h
noncomputable def signs(x:Str):List V:=x.cps.toList.map fun c=> .str ⟨#[c]⟩
theorem CL{tg e:Expr}{x:Str}(ht:ly tg)(h:ah w H l n sc ρ e (.str x)):cI w H l n sc ρ tg e (signs x):=fun env A s G r S Q E k=>
 h.go env A s G r S _ E fun cv s₁ G₁ af aA=>by
  obtain⟨t,rfl⟩:=dC aA;have hIn:s₁.heap.get? s₁.heap.objs.size=none:=ct (aab _);have hP: ∀i cv,SignAt x i cv-> ∀v,(signs x)[i]?=some v->Rd G₁ v cv:=fun i cv ⟨c,u,h1,h2⟩ v hv=>by
   unfold signs at hv;rw[aal,ac0,h1] at hv;cases hv;subst h2;exact .str _ _
  have jl: ∀{ty:String} (bC:ty≠ "code") i (s':ZL),s'.heap.IsStrIter s₁.heap.objs.size ty x t i-> ∀b∈[s₁.heap.objs.size],fN s' b:=fun{ty} bC i s' ⟨o,ho,hc,hd⟩ b hb=>by
   rw[Z4.mp hb];exact⟨o,_,_,ho,hd,hc,bC⟩
  have hlen:x.cps.size=(signs x).length:=by simp[signs]
  cases ha:x.cps.all (· <128) with
  |false=>
   refine wpAny_pyIter_wide ha ?_;have ax:=iZ (o:={cls:= .type "str_iterator",data:= .fields #[.str x t, .int 0 0]}) af.inn s₁.toks;exact k _ [s₁.heap.objs.size] _ _ G₁ (af.trans ax) (sJ (G₁:=G₁) (Walks.strWide r.hd s₁.heap.objs.size x t) hlen hP (jl (by decide)) (fun b hb hm=>absurd hb hm) (fun i s' v cv Q' E' hj hr hv hq=>adI (ht _ _) hq))
    ⟨⟨_,aai _ rfl,rfl,rfl⟩,fun z z e=>e,ax.inn,fun b hb=>by rw[Z4.mp hb];exact cY af.inn hIn⟩ fun b hb=>by rw[Z4.mp hb];exact jA af (S.ext af).tab hIn
  |true=>
   refine wpAny_pyIter_ascii ha ?_;have ax:=iZ (o:={cls:= .type "str_ascii_iterator",data:= .fields #[.str x t, .int 0 0]}) af.inn s₁.toks;exact k _ [s₁.heap.objs.size] _ _ G₁ (af.trans ax) (sJ (G₁:=G₁) (Walks.strAscii r.hd s₁.heap.objs.size x t) hlen hP (jl (by decide)) (fun b hb hm=>absurd hb hm) (fun i s' v cv Q' E' hj hr hv hq=>adI (ht _ _) hq))
    ⟨⟨_,aai _ rfl,rfl,rfl⟩,fun z z e=>e,ax.inn,fun b hb=>by rw[Z4.mp hb];exact cY af.inn hIn⟩ fun b hb=>by rw[Z4.mp hb];exact jA af (S.ext af).tab hIn
noncomputable def mW(a b:Int):List V:=(aac (b -a).toNat).map fun(i:Nat)=>V.int (a+(i:Int))
theorem Xb{a b:Int}:(mW a b).length=(b -a).toNat:=by simp[mW]
theorem Xa{a b:Int}{i:Nat}{v:V}(h:(mW a b)[i]?=some v):v= .int (a+(i:Int)):=by
 unfold mW at h;rw[aal] at h;cases e:(aac (b -a).toNat)[i]? with
 |none=>rw[e] at h;cases h
 |some j=>
  rw[e] at h;cases h;have:=aa2.mp e;obtain⟨h1,h2⟩:=this;rw[List.getElem_range] at h2;subst h2;rfl
theorem Kc{tg:Expr}{a b:Int}(ht:ly tg)(ha: -(2^62)<=a)(lO:a<2^62)(hb: -(2^62)<=b)(cL:b<2^62){A:aaj}(hh:A.handled=none){s₁:ZL}{G₁:GM}(af:ak aq G s G₁ s₁)(tb:bY s₁.heap){t u v:Tok}{tk':Nat}{Q:ZN->ZL->Prop}{E:ZN->ZL->Prop}
 (k: ∀I wr J s' G',ak aq G s G' s'->Wk w A tg I wr (mW a b) J->J 0 G' s'->(∀b∈wr,s.heap.get? b=none)->Q (.ref I) s'):
 Z6 (Z8 PW w) A (pyIter (.ref s₁.heap.objs.size)) Q E {s₁ with heap:=s₁.heap.push {cls:= .type "range",data:= .fields #[.int a t, .int b u, .int 1 v]},toks:=tk'}:=by
 refine wpAny_pyIter_range (IsRange.new ..) (small_one ha lO hb cL) ?_;have ax:=iZ (o:={cls:= .type "range",data:= .fields #[.int a t, .int b u, .int 1 v]}) af.inn tk';have bL:=iZ (o:={cls:= .type "range_iterator",data:= .fields #[adO a,adO (adS a b 1),adO 1]}) ax.inn tk'
 have hI:({s₁ with heap:=s₁.heap.push {cls:= .type "range",data:= .fields #[.int a t, .int b u, .int 1 v]},toks:=tk'}:ZL).heap.objs.size=s₁.heap.objs.size+1:=abS ..;have hIn:s₁.heap.get? (s₁.heap.objs.size+1)=none:=ct (acU _);have hsz:adS a b 1=((b -a).toNat:Int):=by rw[rangeSize_one];split<;>grind
 refine k _ [s₁.heap.objs.size+1] _ _ G₁ ((af.trans ax).trans bL) (sJ (G₁:=G₁) (by rw[hI];exact Walks.range hh (s₁.heap.objs.size+1) a 1 (b -a).toNat) Xb.symm (fun i cv hp v hv=> ?_) (fun i s' hj c hc=> ?_) (fun c hc hm=>absurd hc hm) (fun i s' v cv Q' E' hj hr hv hq=>adI (ht _ _) hq))
  ⟨?_,fun z z e=>e,bL.inn,fun c hc=> ?_⟩ fun c hc=> ?_
 ·obtain⟨t,rfl⟩:=hp
  rw[Xa hv,Int.mul_one];exact .int _ _
 ·rw[Z4.mp hc];exact⟨_,_,_,hj,rfl,rfl,by decide⟩
 ·have e1:a+((0:Nat):Int)*1=a:=by simp
  have e2:(((b -a).toNat:Nat):Int) -((0:Nat):Int)=adS a b 1:=by rw[hsz];simp
  rw[e1,e2,<-hI];exact aai _ rfl
 ·rw[Z4.mp hc];exact cY af.inn hIn
 ·rw[Z4.mp hc];exact jA af tb hIn
theorem Um(B:ai w tk H){tg e:Expr}{p pos:Pos}{b:Int}{i:Nat}(g:bk H "range" (.type "range"))(hx:sc.names[i]?=some (("range" :Str),abo))(ht:ly tg)(h:ah w H l n sc ρ e (.int b))(hb: -(2^62)<=b)(cL:b<2^62)
 (h1:autoParam (∀env,abW pos (aa4 [e] env)=[(false,eval e env)]) au):cI w H l n sc ρ tg (.Call (.Name "range" p) [e] [] pos) (mW 0 b):=fun env A s G r S Q E k=>
 aaZ (eZ B g hx S (by
  rw[h1 env];refine abn rfl (abu (abZ (h.go env A s G r S _ E fun cv s₁ G₁ af aA=>acV ?_)));obtain⟨u,rfl⟩:=aZ aA;exact call_range_1 (Kc ht (by decide) (by decide) hb cL r.hd af (S.ext af).tab k)))
theorem Un(B:ai w tk H){tg e f:Expr}{p pos:Pos}{a b:Int}{i:Nat}(g:bk H "range" (.type "range"))(hx:sc.names[i]?=some (("range" :Str),abo))(ht:ly tg)(h:ah w H l n sc ρ e (.int a))(h':ah w H l n sc ρ f (.int b))(ha: -(2^62)<=a)(lO:a<2^62)(hb: -(2^62)<=b)(cL:b<2^62)
 (h1:autoParam (∀env,abW pos (aa4 [e,f] env)=[(false,eval e env),(false,eval f env)]) au):cI w H l n sc ρ tg (.Call (.Name "range" p) [e,f] [] pos) (mW a b):=fun env A s G r S Q E k=>
 aaZ (eZ B g hx S (by
  rw[h1 env];refine abn rfl (abu (abZ (h.go env A s G r S _ E fun cv s₁ G₁ af aA=>abZ (h'.go env A s₁ G₁ r (S.ext af) _ E fun o7 ar aB ax bx=>acV ?_))));obtain⟨t,rfl⟩:=aZ aA;obtain⟨u,rfl⟩:=aZ bx;exact call_range_2 (Kc ht ha lO hb cL r.hd (af.trans ax) ((S.ext af).ext ax).tab k)))
noncomputable def qz(elt:Expr)(gens:List abv)(scope:ZZ)(pos:Pos)(d:Nat)(acc:ZN)(env:Env):Sem Unit:=
 match gens[d+1]? with
 |some g'=>do
  let x<-eval g'.iter env
  ac9 g'.iter.pos
  let x<-if g'.is_async !=0 then foldedIterable g'.iter x else aaN g'.iter env x
  let _<-runOwn (.compStart (.ListComp elt gens scope pos) (d+1) (<-acA [x] (if g'.is_async !=0 then asyncIter x else pyIter x)) acc env) env
 |none=>do let _<-call (.builtin "list.append") [acc,<-eval elt env]
theorem Od{elt target iter:Expr}{gens:List abv}{ifs:List Expr}{scope:ZZ}{pos:Pos}{d:Nat}(it acc:ZN)(env:Env)(hg:gens[d]?=some ⟨target,iter,ifs,0⟩)(hn: ∀g,gens[d+1]?=some g->g.is_async=0):
 compTurn (.ListComp elt gens scope pos) d it acc env=(do
  ac9 iter.pos
  match<-pyNext it with
  |none=>pure (.done .next)
  |some v=>
   aeL target it v
   assign target env v
   let mut ok:=true
   for c in ifs do
    if ok then ok<-isTrue c env (eval c env)
   if ok then qz elt gens scope pos d acc env
   again (.compLoop (.ListComp elt gens scope pos) d it acc env)):=by
 unfold compTurn qz;simp only[hg];cases e:gens[d+1]? with
 |none=>simp only[bne_self_eq_false,abU,if_false,bind_assoc,pure_bind];rfl
 |some g=>simp only[hn g e,bne_self_eq_false,abU,if_false,bind_assoc,pure_bind];rfl
noncomputable def iF(w:Z2)(H:Heap)(l n:Nat)(sc:ZZ)(ρ:aw)(es:List Expr)(c:Bool):Prop:=
 ∀(env:Env) (A:aaj) (s:ZL) (G:GM),bW A l n->St H sc env ρ G s-> ∀(Q:Bool->ZL->Prop) (E:ZN->ZL->Prop),
  (∀s' G',ak aq G s G' s'->Q c s')->Z6 (Z8 PW w) A (forIn es true fun c r=>if r=true then do let ok<-isTrue c env (eval c env);pure (abN ok) else pure (abN r)) Q E s
theorem iF.nil:iF w H l n sc ρ [] true:=fun env A s G r S Q E k=>by rw[adK];exact ZS (k s G (ak.refl S.inn))
theorem TJ{A:aaj}{env:Env}{Q:Bool->ZL->Prop}{E:ZN->ZL->Prop}: ∀(es:List Expr) (s:ZL),Q false s->
 Z6 (Z8 PW w) A (forIn es false fun c r=>if r=true then do let ok<-isTrue c env (eval c env);pure (abN ok) else pure (abN r)) Q E s:=by
 intro rr
 induction rr with
 |nil=>
  exact fun s h=>by rw[adK];exact ZS h
 |cons e es ih=>
  exact fun s h=>by
   rw[ad0];exact ZO (ady rfl (ZS (ih s h)))
theorem iF.cons{e:Expr}{es:List Expr}{c d:Bool}(h1:aM w H l n sc ρ e c)(h2:c=true->iF w H l n sc ρ es d):iF w H l n sc ρ (e::es) (c&&d):=fun env A s G r S Q E k=>by
 rw[ad0];refine ZO (wpAny_ite_true rfl (ZO (h1.go env A s G r S _ E fun s₁ G₁ af=>ZS ?_)));cases c with
 |false=>exact TJ es s₁ (k s₁ G₁ af)
 |true=>exact h2 rfl env A s₁ G₁ r (S.ext af) _ E fun ar aB ax=>k ar aB (af.trans ax)
noncomputable def oC(w:Z2)(H:Heap)(l n:Nat)(sc:ZZ)(ρ:aw)(elt:Expr)(gens:List abv)(scope:ZZ)(pos:Pos)(d:Nat)(res:List V):Prop:=
 ∀(env:Env) (A:aaj) (G₀:GM) (s₀:ZL) (G:GM) (s:ZL) (D:Addr) (ys:List V) (Q:Unit->ZL->Prop) (E:ZN->ZL->Prop),bW A l n->av [] H sc env ρ [(D,ys)] G₀ s₀ G s->ys.length+res.length<=Z7->
  (∀G' s',av [] H sc env ρ [(D,ys++res)] G₀ s₀ G' s'->Q () s')->Z6 (Z8 PW w) A (qz elt gens scope pos d (.ref D) env) Q E s
theorem av.append{X:List Addr}{ow:Ow}{a:Addr}{ys zs:List V}{cs:List ZN}{k:Nat}(I:av X H sc env ρ ((a,ys)::ow) G₀ s₀ G s)(hr:aP G zs cs){h':Heap}{tk':Nat}(hs:abp a s.heap h')(hg:h'.get? a=some (aI cs k)):
 av X H sc env ρ ((a,zs)::ow) G₀ s₀ G {s with heap:=h',toks:=tk'}:=by
 obtain⟨ga,ha,h3,vs,q,hl,fx⟩:=I.own _ ZR;have fF: ∀c u,s.heap.IsCell c u->c≠a:=fun c u y e=>uD hl (e▸y)
 exact I.but hs ga h3 (ir I.st.tab hl) (fun o b8 e q=>by cases gS hl e;cases q) (I.st.loc.mono (fun z z e=>e) (fun c v y=>y.sameBut hs (fF c v y)) fun m y=>y.sameBut hs fun e=>iS (e▸hl) y)
  (fun v y=>(fF a v y rfl).elim) (fun z z z z=>⟨ha,ga,cs,k,hg⟩) (fun p hp=>(ZU.mp hp).elim (fun e=>by subst e;exact .inr ⟨ga,ha,h3,cs,k,hg,hr⟩) fun hp=> .inl ⟨ZP _ hp,fun z z z e=>(abi.mp I.dis).1 p hp e.symm⟩) (abi.mpr (abi.mp I.dis))
theorem yQ{X:List Addr}{ow:Ow}{a:Addr}{ys:List V}{v:V}{cv:ZN}(I:av X H sc env ρ ((a,ys)::ow) G₀ s₀ G s)(r:Rd G v cv)(hsz:ys.length<=Z7){A:aaj}{Q:ZN->ZL->Prop}{E:ZN->ZL->Prop}
 (k: ∀s',av X H sc env ρ ((a,ys++[v])::ow) G₀ s₀ G s'->Q .none s'):Z6 (Z8 PW w) A (call (.builtin "list.append") [.ref a,cv]) Q E s:=by
 refine gz fun zq zk=> ?_
 obtain⟨ga,ha,h3,vs,q,hl,fx⟩:=I.own _ ZR;refine zk ?_;refine wpAny_list_append_plain (items:=vs.toArray) (hsz:=by simpa [<-fx.length] using hsz) ⟨_,hl⟩ fun rQ xy Tb=> ?_
 obtain⟨q',xy⟩:=xy;have e:vs.toArray.push cv=(vs++[cv]).toArray:=by simp
 rw[e] at xy;exact k _ (I.append (k:=q') (fx.append (.cons r .nil)) Tb xy (tk':=s.toks))
theorem mu{elt:Expr}{gens:List abv}{scope:ZZ}{pos:Pos}{d:Nat}{v:V}(hg:gens[d+1]?=none)(h:ah w H l n sc ρ elt v):oC w H l n sc ρ elt gens scope pos d [v]:=
 fun env A G₀ s₀ G s D ys Q E r I hsz k=>by
  unfold qz;rw[hg];refine ZO (h.go env A s G r I.st _ E fun cv s₁ G₁ af aA=> ?_);exact ZO (yQ (I.ext' af) aA (by simp at hsz;exact abq ‹_›) fun ar bf=>ZS (k G₁ ar bf))
theorem OC{elt:Expr}{gens:List abv}{scope:ZZ}{pos:Pos}{d:Nat}{res:List V}(h:oC w H l n sc ρ elt gens scope pos d res){A:aaj}{D:Addr}{ys:List V}{Q:Unit->ZL->Prop}{E:ZN->ZL->Prop}
 (r:bW A l n) (I:av [] H sc env ρ [(D,ys)] G₀ s₀ G s) (hsz:ys.length+res.length<=Z7)
 (k: ∀G' s',av [] H sc env ρ [(D,ys++res)] G₀ s₀ G' s'->dO sc env [(D,ys)] [] G s G' s'->Q () s'):Z6 (Z8 PW w) A (qz elt gens scope pos d (.ref D) env) Q E s:=
 h env A G _ G s D ys Q E r I.anchor hsz fun G' s' I'=>k G' s' (I.back I') (I.kept I')
noncomputable def qJ(w:Z2)(H:Heap)(l n:Nat)(sc:ZZ)(ρ:aw)(tg:Expr)(ifs:List Expr)(elt:Expr)(gens:List abv)(scope:ZZ)(pos:Pos)(d:Nat)(v:V)(res:List V):Prop:=
 ∃ρ' c,jM w [] H sc tg ρ v ρ'/\(∀p∈ρ,p∈ρ')/\iF w H l n sc ρ' ifs c/\(c=true->oC w H l n sc ρ' elt gens scope pos d res)/\(c=false->res=[])
theorem Fq{α:Type}{elt tg iter:Expr}{gens:List abv}{ifs:List Expr}{scope:ZZ}{pos:Pos}{d:Nat}(hg:gens[d]?=some ⟨tg,iter,ifs,0⟩)(hn: ∀g,gens[d+1]?=some g->g.is_async=0)
 {ls:List α} {toV:α->V} {f:α->List V} {A:aaj} {It:Addr} {wr:List Addr} {J:Nat->GM->ZL->Prop} (W:Wk w A tg It wr (ls.map toV) J) (r:bW A l n)
 (mP: ∀a∈ls,qJ w H l n sc ρ tg ifs elt gens scope pos d (toV a) (f a)) {D:Addr} {ys:List V} {R:adE->ZL->Prop}
 (hJ:J 0 G s) (I:av [] H sc env ρ [(D,ys)] G₀ s₀ G s) (pX: ∀b∈wr,s₀.heap.get? b=none) (hsz:ys.length+(ls.flatMap f).length<=Z7)
 (k: ∀G' s',av [] H sc env ρ [(D,ys++ls.flatMap f)] G₀ s₀ G' s'->R (.ok .next) s'):
 codeAny (Z8 PW w) A (.compLoop (.ListComp elt gens scope pos) d (.ref It) (.ref D) env) R s:=by
 refine codeAny_loop rfl (fun m s'=> ∃i G',m+i=ls.length+1/\i<=ls.length/\av [] H sc env ρ [(D,ys++(ls.take i).flatMap f)] G₀ s₀ G' s'/\J i G' s') ?_ (ls.length+1) ⟨0,G,rfl,aav _,by simpa using I,hJ⟩
 rintro m ar ⟨i,aB,hm,hi,bf,iL⟩;show Z6 _ A ((compTurn (.ListComp elt gens scope pos) d (.ref It) (.ref D) env).onRaise (fun x=>do noteFrame x env;theTreesLotGoes x)) _ _ ar
 refine wpAny_noted ?_;rw[Od _ _ _ hg hn];have jX: ∀b∈wr,fN ar b/\aB b=none/\s₀.heap.get? b=none:=fun b hb=>⟨(W.obj i aB ar iL b hb).1,(W.obj i aB ar iL b hb).2,pX b hb⟩
 refine ZO (aaM (ZO ?_))
 by_cases he:i=ls.length
 ·subst he
  have Q1:J (ls.map toV).length aB ar:=by rw[ZQ];exact iL
  refine abJ (W.done aB ar (fun bj=> ∃bI,av [] H sc env ρ [(D,ys++ls.flatMap f)] G₀ s₀ bI bj) _ Q1 bf.st.inn fun h' tk' hk=>⟨aB,by
   have:=bf.wr (tk':=tk') hk jX (fun z z e=>e) (fun z z e=> .inl e) fun a q' e=>hk a q' (fun hm=>by rw[(jX a hm).2.1] at e;cases e) (bf.st.inn a q' e)
   rwa [adj] at this⟩) (fun rr bj fH=> ?_) fun z z e=>e
  obtain⟨rfl,bI,b0⟩:=fH;exact ZS (k bI bj b0)
 ·have aV:i<ls.length:=by exact(aa8 he).elim (fun x2=>x2) (fun x2=> "[AB<BA:0<AB" hi x2)
  have ha:ls[i]?=some ls[i]:=aaT aV;have hv:(ls.map toV)[i]?=some (toV ls[i]):=by rw[aal,ha];rfl
  refine gz fun zq zk=> ?_
  obtain⟨ρ',c,jr,rP,RX,RG,jk⟩:=mP ls[i] (List.getElem_mem aV);refine zk ?_;have uk:(ls.take (i+1)).flatMap f=(ls.take i).flatMap f++f ls[i]:=by
   rw[ab9,ha,acQ];simp
  have fD:((ls.take (i+1)).flatMap f).length<=(ls.flatMap f).length:=by
   conv=>rhs;rw[<-adz (i+1) ls,acQ,aap]
   exact adM _ _
  refine abJ (W.item i aB ar (toV ls[i]) (fun cv bj=>Z6 (Z8 PW w) A (do
   assign tg env cv
   let mut ok:=true
   for c in ifs do
    if ok then ok<-isTrue c env (eval c env)
   if ok then qz elt gens scope pos d (.ref D) env
   again (.compLoop (.ListComp elt gens scope pos) d (.ref It) (.ref D) env)) _ _ bj) _ iL bf.st.inn hv fun cv h' tk' bI eB dB ji hk hr tR=> ?_) (fun rr bj fH=>by
   cases rr with
   |none=>exact fH.elim
   |some cv=>exact ZO fH) fun z z e=>e
  have b0:=bf.wr hk jX eB dB ji;refine ZO (jr env A G₀ s₀ bI _ _ cv _ _ r.hd b0 hr fun ko dN eK rT=> ?_);have lM:=uz W tR b0 rT eK.st.inn;refine ZO (RX _ A _ _ r eK.st _ _ fun fJ l8 qD=> ?_);have fm:=eK.ext' qD;have HF:J (i+1) l8 fJ:=W.stab _ _ _ _ _ lM qD.sub qD.inn fun b hb=>by
   obtain⟨h1,h2⟩:=W.obj _ _ _ lM b hb;have ht:=h1.tab eK.st.tab;obtain⟨q,_,_,e1,_⟩:=id h1;exact⟨fun o e=>qD.keep b o e ht,qD.none h2 e1 ht⟩
  cases c with
  |false=>
   refine ady rfl ?_;refine ZS ⟨rfl,m -1,by exact "=+A1B<AB" (ZM (";1=+AB+C1<BC[1A" hm aV)),i+1,l8,by exact Z5 ("=+AB+C1=+D1A[+D+B1+C1" hm (ZM (";1=+AB+C1<BC[1A" hm aV))) (";1=+AB+C1;1=+D1A[+C1+D+B1" hm (ZM (";1=+AB+C1<BC[1A" hm aV))),aV,?_,HF⟩;have:f ls[i]=[]:=jk rfl;rw[uk,this,adZ];exact fm.sub rP (aae _)
  |true=>
   refine wpAny_ite_true rfl ?_;refine ZO (OC (RG rfl) r fm ?_ fun sU yH fO uB=> ?_)
   ·rw[uk] at fD
    simp only[aap] at fD⊢;exact "[+ABC[+DEB[++ADEC" hsz fD
   ·refine ZS ⟨rfl,m -1,by exact "=+A1B<AB" (ZM (";1=+AB+C1<BC[1A" hm aV)),i+1,sU,by exact Z5 ("=+AB+C1=+D1A[+D+B1+C1" hm (ZM (";1=+AB+C1<BC[1A" hm aV))) (";1=+AB+C1;1=+D1A[+C1+D+B1" hm (ZM (";1=+AB+C1<BC[1A" hm aV))),aV,?_,uz W HF fm uB fO.st.inn⟩
    rw[uk,<-List.append_assoc];exact fO.sub rP (aae _)
theorem Fp{elt:Expr}{gens:List abv}{scope:ZZ}{pos:Pos}{d:Nat}{g:abv}(hg:gens[d]?=some g)(ha:g.is_async=0){A:aaj}{it acc:ZN}{R:adE->ZL->Prop}
 (h0:codeAny (Z8 PW w) A (.compLoop (.ListComp elt gens scope pos) d it acc env) R s)
 (h:Z6 (Z8 PW w) A (pyIter it) (fun Jl s'=>codeAny (Z8 PW w) A (.compLoop (.ListComp elt gens scope pos) d Jl acc env) R s') (notedBy (Z8 PW w) A env fun x s'=>R (.error x) s') s):
 codeAny (Z8 PW w) A (.compStart (.ListComp elt gens scope pos) d it acc env) R s:=by
 refine codeAny_of_tree ?_;show Z6 _ A ((compStart (.ListComp elt gens scope pos) d it acc env).onRaise (fun x=>do noteFrame x env;ac9 theWindowsPlace)) _ _ s
 refine wpAny_notedAt ?_;unfold compStart;have hc:(clausesOf (.ListComp elt gens scope pos))[d]?=some g:=hg;rw[hc];refine ady (by rw[Option.elim_some,ha];rfl) ?_;refine ZO (wpAny_askSetting (wpAny_ite ?_));split
 ·first
   |exact ZO (ZS (ZS (And.intro rfl h0)))
   |exact ZS (And.intro rfl h0)
 ·exact ZO (wpAny_rule (ZO (aaM (ZO (abJ h (fun Jl s' h'=>ZS (And.intro rfl h')) fun z z x=>x)))))
theorem FQ{α:Type}{elt tg iter:Expr}{gens:List abv}{ifs:List Expr}{scope:ZZ}{pos:Pos}{d:Nat}(hg:gens[d+1]?=some ⟨tg,iter,ifs,0⟩)(hn: ∀g,gens[d+2]?=some g->g.is_async=0)
 {ls:List α} {toV:α->V} {f:α->List V} (hit:cI w H l n sc ρ tg iter (ls.map toV)) (mP: ∀a∈ls,qJ w H l n sc ρ tg ifs elt gens scope pos (d+1) (toV a) (f a))
 (hs:autoParam (∀env x,aaN iter env x=pure x) au):oC w H l n sc ρ elt gens scope pos d (ls.flatMap f):=
 fun env A G₀ s₀ G s D ys Q E r I hsz k=>by
  unfold qz;rw[hg];refine ZO (abJ (hit env A s G r I.st (fun it s'=>Z6 (Z8 PW w) A (runOwn (.compStart (.ListComp elt gens scope pos) (d+1) it (.ref D) env) env) (fun z s''=>Q () s'') E s') E fun It wr J s₁ G₁ af W hJ hw=> ?_) (fun x s₁ eU=> ?_) fun z z e=>e)
  ·have aE:=I.ext' af
   have pX: ∀b∈wr,s₀.heap.get? b=none:=fun b hb=>I.fresh (hw b hb)
   refine wpAny_runOwn ?_;have loop:codeAny (Z8 PW w) A (.compLoop (.ListComp elt gens scope pos) (d+1) (.ref It) (.ref D) env) (fun r s'=>match r with| .ok f=>Q () s'| .error e=>cameBackBy (Z8 PW w) A env E e s') s₁:=
    Fq hg hn W r mP hJ aE pX hsz fun G' s' I'=>k G' s' I'
   exact Fp hg rfl loop (W.self 0 _ _ _ _ hJ loop)
  ·refine ZO (aaM (ZO (adI (hs env x) (ZO (aaV (abJ eU (fun it ar jY=>ZO (abJ jY (fun z bj fH=>ZS fH) fun z z e=>e)) fun z z e=>e))))))
noncomputable def c9(env:Env):List (Str×aam)->List (Str×Addr)->List (Str×Addr)
 |[],acc=>acc
 |(x,k)::r,acc=>if k== .free then c9 env r ((x,(env.cells.lookup x).getD 0)::acc) else c9 env r acc
theorem N2(env:Env): ∀(names:List (Str×aam)) (acc:List (Str×Addr)),(∀x,(x,abd)∈names->(env.cells.lookup x).isSome=true)->
 (forIn names acc fun(p:Str×aam) (cs:List (Str×Addr))=>(if p.2== .free then do let c<-cellOf env p.1;pure (abN ((p.1,c)::cs)) else pure (abN cs):Sem (ForInStep (List (Str×Addr)))))=pure (c9 env names acc):=by
 intro rr
 induction rr with
 |nil=>
  exact fun acc z=>by rw[adK];rfl
 |cons cw r ih=>
  obtain⟨x,k⟩:=cw;exact fun acc h=>by
   rw[ad0];unfold c9;cases hk:k==abd with
   |true=>
    have fR:k= .free:=by simpa using hk
    subst fR;obtain⟨c,hc⟩:=abO.mp (h x ZR);simp only[hc,if_true,aen];have:cellOf env x=pure c:=by unfold cellOf;rw[hc]
    simp only[this,pure_bind];exact ih _ fun y hy=>h y (ZP _ hy)
   |false=>
    simp only[abU,if_false,pure_bind];exact ih _ fun y hy=>h y (ZP _ hy)
theorem z3(env:Env)(scope:ZZ)(h: ∀x,(x,abd)∈scope.names->(env.cells.lookup x).isSome=true):closureFor scope env=pure (c9 env scope.names []):=by
 have:=N2 env scope.names [] h;unfold closureFor;refine Eq.trans ?_ this;simp only[bind_pure]
set_option tactic.hygienic true in
theorem Ff(env:Env): ∀(names:List (Str×aam)) (acc:List (Str×Addr)) (x:Str) (c:Addr),(x,c)∈c9 env names acc->(x,c)∈acc\/((x,abd)∈names/\c=(env.cells.lookup x).getD 0):=by
 intro rr
 induction rr with
 |nil=>
  exact fun z z z h=> .inl h
 |cons cw r ih=>
  obtain⟨y,k⟩:=cw;exact fun acc x c h=>by
   unfold c9 at h;split at h
   ·rename_i hk
    have fR:k= .free:=by simpa using hk
    subst fR;rcases ih _ x c h with h|h
    ·rcases ZU.mp h with e|h
     ·cases e;exact .inr ⟨ZR,rfl⟩
     ·exact .inl h
    ·exact .inr ⟨ZP _ h.1,h.2⟩
   ·rcases ih _ x c h with h|h
    ·exact .inl h
    ·exact .inr ⟨ZP _ h.1,h.2⟩
theorem N3(env:Env): ∀(names:List (Str×aam)) (acc:List (Str×Addr)) (p:Str×Addr),p∈acc->p∈c9 env names acc:=by
 intro rr
 induction rr with
 |nil=>
  exact fun z z h=>h
 |cons cw r ih=>
  obtain⟨y,k⟩:=cw;exact fun acc p h=>by
   unfold c9;split
   ·exact ih _ p (ZP _ h)
   ·exact ih _ p h
theorem wd(env:Env): ∀(names:List (Str×aam)) (acc:List (Str×Addr)) (x:Str),(x,abd)∈names->(x,(env.cells.lookup x).getD 0)∈c9 env names acc
 |(y,k)::r,acc,x,h=>by
  unfold c9;rcases ZU.mp h with e|h
  ·cases e
   rw[if_pos (by decide:(abd==abd)=true)];exact N3 env r _ _ ZR
  ·split
   ·exact wd env r _ x h
   ·exact wd env r _ x h
theorem Fh(env:Env): ∀(names:List (Str×aam)) (acc:List (Str×Addr)),(names.map (·.1)).Nodup->(acc.map (·.1)).Nodup->(∀x∈acc.map (·.1),x∉names.map (·.1))->((c9 env names acc).map (·.1)).Nodup:=by
 intro rr
 induction rr with
 |nil=>
  exact fun z z h z=>h
 |cons cw r ih=>
  obtain⟨y,k⟩:=cw;exact fun acc hn ha hd=>by
   unfold c9;rw[aah,abC] at hn;split
   ·refine ih _ hn.2 ?_ fun x hx h=> ?_
    ·rw[aah,abC]
     exact⟨fun h=>hd _ h ZR,ha⟩
    ·rcases ZU.mp hx with e|hx
     ·subst e;exact hn.1 h
     ·exact hd x hx (ZP _ h)
   ·exact ih _ hn.2 ha fun x hx h=>hd x hx (ZP _ h)
theorem Wa{M:Model}{A:aaj}{E:ZN->ZL->Prop}{s:ZL}{scope:ZZ}{globals:Addr}{cl:List (Str×Addr)}{qual:Str}{outer:Env}{Q:Env->ZL->Prop}
 (hQ:Q {scope,locals:=s.heap.objs.size,globals,cells:=abQ (s.heap.objs.size+1) scope.names cl,qual,func:=none,code:=outer.code,frame:=outer.frame,builtins:=outer.builtins}
  {s with heap:=ad3 (s.heap.push {cls:= .type "dict",data:= .dict #[]}) scope.names}):
 Z6 M A (newFunctionEnv scope globals cl [] qual none .none (some outer)) Q E s:=by
 simp only[newFunctionEnv,Option.isSome_some,if_true];refine ZO (wpAny_alloc ?_);refine ZO (wpAny_layCells _ (fun name kind cells=>by cases xu:kind==acm<;>simp) _ _ _ _ ?_);rw[show({s with heap:=s.heap.push {cls:= .type "dict",data:= .dict #[]} }:ZL).heap.objs.size=s.heap.objs.size+1 from abS ..];refine ZO ?_;rw[adK];exact ZS (ZS hQ)
set_option tactic.hygienic true in
theorem NM: ∀(names:List (Str×aam)) (h:Heap) (acc:List (Str×Addr)) (x:Str) (c:Addr),(x,c)∈abQ h.objs.size names acc->
 (x,c)∈acc\/((x,acm)∈names/\h.objs.size<=c/\(ad3 h names).IsCell c none):=by
 intro rr
 induction rr with
 |nil=>
  exact fun z z z z h=> .inl h
 |cons cw r ih=>
  obtain⟨y,k⟩:=cw;exact fun h acc x c hm=>by
   unfold abQ at hm;unfold ad3;split at hm
   ·rename_i hk
    have fR:k= .cell:=by simpa using hk
    subst fR;rw[if_pos (by decide:(acm==acm)=true)];have hsz:(h.push {cls:= .type "cell",data:= .cell none}).objs.size=h.objs.size+1:=abS ..;rw[<-hsz] at hm;rcases ih _ _ x c hm with e|⟨e1,e2,e3⟩
    ·rcases ZU.mp e with e|e
     ·cases e
      exact .inr ⟨ZR,aab _,⟨_,pushCells_keeps _ _ _ _ (aai _ rfl),rfl⟩⟩
     ·exact .inl e
    ·exact .inr ⟨ZP _ e1,by rw[hsz] at e2;exact abq ‹_›,e3⟩
   ·rename_i hk
    rw[if_neg hk];rcases ih h acc x c hm with e|⟨e1,e2,e3⟩
    ·exact .inl e
    ·exact .inr ⟨ZP _ e1,e2,e3⟩
theorem Xk{scope:ZZ}{env:Env}{i:Nat}{x:Str}{k:aam}(h:scope.names[i]?=some (x,k)): ∃k',(relabel scope env).names[i]?=some (x,k')/\(k≠ .free->k'=k)/\(k= .free->k'= .free\/k'= .cell):=by
 unfold relabel;simp only[aal,h,Option.map_some]
 by_cases hc:(k==abd&&env.scope.kind== .function&&env.kindOf x==some .cell)=true
 ·rw[if_pos hc]
  have:k= .free:=by simp at hc;exact hc.1.1
  exact⟨_,rfl,fun h=>absurd this h,fun z=> .inr rfl⟩
 ·rw[if_neg hc]
  exact⟨_,rfl,fun z=>rfl,fun h=> .inl h⟩
theorem Xl{scope:ZZ}{env:Env}:(relabel scope env).names.map (·.1)=scope.names.map (·.1):=by
 unfold relabel;simp only[aaf]
 congr 1
 funext ⟨x,k⟩
 simp only[Function.comp];split<;>rfl
theorem w7{names:List (Str×aam)}{x:Str}{k:aam}(h:(x,k)∈names): ∃i:Nat,names[i]?=some (x,k):=List.mem_iff_getElem?.mp h
set_option tactic.hygienic true in
theorem NO: ∀(names:List (Str×aam)) (b:Nat) (acc:List (Str×Addr)),(names.map (·.1)).Nodup->(acc.map (·.1)).Nodup->(∀x∈acc.map (·.1),(x,acm)∉names)->((abQ b names acc).map (·.1)).Nodup:=by
 intro rr
 induction rr with
 |nil=>
  exact fun z z z h z=>h
 |cons cw r ih=>
  obtain⟨y,k⟩:=cw;exact fun b acc hn ha hd=>by
   unfold abQ;rw[aah,abC] at hn;split
   ·rename_i hk
    have fR:k= .cell:=by simpa using hk
    subst fR;refine ih _ _ hn.2 ?_ fun x hx h=> ?_
    ·rw[aah,abC]
     exact⟨fun h=>hd _ h ZR,ha⟩
    ·rcases ZU.mp hx with e|hx
     ·subst e;exact hn.1 (Z1.mpr ⟨_,h,rfl⟩)
     ·exact hd x hx (ZP _ h)
   ·exact ih _ _ hn.2 ha fun x hx h=>hd x hx (ZP _ h)
theorem NN: ∀(names:List (Str×aam)) (b:Nat) (acc:List (Str×Addr)) (p:Str×Addr),p∈acc->p∈abQ b names acc:=by
 intro rr
 induction rr with
 |nil=>
  exact fun z z z h=>h
 |cons cw r ih=>
  obtain⟨y,k⟩:=cw;exact fun b acc p h=>by
   unfold abQ;split
   ·exact ih _ _ p (ZP _ h)
   ·exact ih _ _ p h
theorem NL: ∀(names:List (Str×aam)) (b:Nat) (acc:List (Str×Addr)),(∀p∈acc,p.2<b)->acc.Pairwise (fun x y=>x.2≠y.2)->(abQ b names acc).Pairwise fun x y=>x.2≠y.2:=by
 intro rr
 induction rr with
 |nil=>
  exact fun z z z h=>h
 |cons cw r ih=>
  obtain⟨y,k⟩:=cw;exact fun b acc hl hp=>by
   unfold abQ;split
   ·refine ih _ _ (fun p hp=> ?_) (abi.mpr ⟨fun q hq e=> ?_,hp⟩)
    ·rcases ZU.mp hp with rfl|hp
     ·exact acB _
     ·exact adG (hl p hp)
    ·have:=hl q hq
     have e':b=q.2:=e;rw[e'] at this;exact aew _ this
   ·exact ih _ _ hl hp
theorem J1{l:List (Str×Addr)}(nd:(l.map (·.1)).Nodup)(inj: ∀x y c,(x,c)∈l->(y,c)∈l->x=y):l.Pairwise fun x y=>x.2≠y.2:=by
 have h:l.Pairwise fun x y=>x.1≠y.1:=by rw[List.Nodup,List.pairwise_map] at nd;exact nd
 refine List.Pairwise.imp_of_mem (fun{a b} ha hb mD e=>mD ?_) h;exact inj a.1 b.1 a.2 ha (by rw[e];exact hb)
theorem lK{G:GM}{a:Addr}{x:Obj}(h:G a=none): ∀b o,G b=some o->bN G a x b=some o:=fun b o e=>by
 unfold bN
 by_cases q:b=a
 ·rw[q,h] at e;cases e
 ·rw[if_neg q];exact e
structure jH(sc scope:ZZ):Prop where
 kind:scope.kind= .function
 nd:(scope.names.map (·.1)).Nodup
 free: ∀x,(x,abd)∈scope.names->sc.names.lookup x=some .cell\/sc.names.lookup x=some .free
theorem Px{X:List Addr}{G G':GM}{s s':ZL}(x:ak X G s G' s'){C:Addr}{h':Heap}(hs:abp C s'.heap h')(h0:s.heap.get? C=none)(hg:G' C=none)(ht:C∉aq)(hd: ∀o b8,s'.heap.get? C=some o->o.data≠ .fields b8):ak X G s G' {s' with heap:=h'}:=
 ⟨x.sub,x.new,fun a o e=>hs.extBut a o (fun e'=>by rw[e',hg] at e;cases e) (x.inn a o e),fun b o e hb=>hs.extBut b o (fun e'=>by rw[e',h0] at e;cases e) (x.keep b o e hb),x.gens,x.os,fun z=>bY.keepOff (x.tab z) hs.extBut ht hd,x.gt⟩
theorem Fs{α:Type}{elt tg iter:Expr}{ifs:List Expr}{gs:List abv}{scope:ZZ}{pos:Pos}{bo:aw}{ls:List α}{toV:α->V}{f:α->List V}{use:Option (ZN->Sem Unit)}{T6:Pos}
 (C:jH sc scope) (hn: ∀g,gs[0]?=some g->g.is_async=0)
 (eo: ∀p∈bo,∃(i:Nat) (x:Str) (k:aam),scope.names[p.1]?=some (x, .free)/\sc.names[i]?=some (x,k)/\(i,p.2)∈ρ)
 (hit:cI w H l n sc ρ tg iter (ls.map toV)) (mP: ∀a∈ls,qJ w H l n scope bo tg ifs elt (⟨tg,iter,ifs,0⟩::gs) scope pos 0 (toV a) (f a))
 (hsz:(ls.flatMap f).length<=Z7) (hs: ∀env x,aaN iter env x=pure x) {env:Env} {A:aaj} {s:ZL} {G:GM} (r:bW A l n) (S:St H sc env ρ G s) {Q:ZN->ZL->Prop} {E:ZN->ZL->Prop}
 (k: ∀G' s' D cn m,ak aq G s G' s'->Rd G' (.list (ls.flatMap f)) (.ref D)->s'.heap.Ns cn m->s.heap.get? cn=none->G' cn=none->compPost (Z8 PW w) A E use Q (.ref D) cn (.ok .next) s'):
 Z6 (Z8 PW w) A (comprehension (.ListComp elt (⟨tg,iter,ifs,0⟩::gs) scope pos) scope env T6 (newList []) false (eval iter env) use) Q E s:=by
 have dR: ∀x,(x,abd)∈scope.names->(env.cells.lookup x).isSome=true:=fun x h=>S.envIs.has x (C.free x h)
 refine wpAny_comprehension_free (use:=use) rfl (hs env) (z3 env scope dR) C.kind (fun x hx hl=> ?_) (hit env A s G r S _ E fun It wr J s₁ G₁ af W hJ hw=> ?_)
 ·obtain⟨i,hi⟩:=w7 (x:=x.1) (k:=x.2) hx
  rw[hl] at hi;exact gJ hi C.nd
 ·refine adb (Wa ?_)
  have gV:=S.ext af;generalize Be:s₁.heap.push {cls:= .type "list",dict:=none,data:= .seq ([]:List ZN).toArray}=H2;have hC:H2.objs.size=s₁.heap.objs.size+1:=by rw[<-Be,abS]
  generalize xd:H2.push {cls:= .type "dict",data:= .dict #[]}=H3;have HD:H3.objs.size=H2.objs.size+1:=by rw[<-xd,abS]
  have up: ∀b o,s₁.heap.get? b=some o->(ad3 H3 scope.names).get? b=some o:=fun b o e=>
   pushCells_keeps _ _ _ _ (xd▸Z9 _ (Be▸Z9 _ e))
  have QR:(ad3 H3 scope.names).get? s₁.heap.objs.size=some (aI [] 0):=pushCells_keeps _ _ _ _ (xd▸Z9 _ (Be▸aai _ rfl));have QQ:(ad3 H3 scope.names).Ns H2.objs.size (fun z=>none):=(show H3.Ns H2.objs.size _ from xd▸Heap.Ns.new H2 (.type "dict")).keeps (pushCells_keeps _ _);have n₁: ∀{b:Addr},s₁.heap.objs.size<=b->s.heap.get? b=none/\G₁ b=none:=fun{b} h=>⟨jA af gV.tab (ct h),cY af.inn (ct h)⟩
  have Sz: ∀{b:Addr},s₁.heap.objs.size<=b-> ∀o,H.get? b≠some o:=fun{b} h o e=>by
   by_cases hb:b∈aq
   ·obtain⟨vs,h1,_⟩:=gV.tab b hb
    rw[ct h] at h1;cases h1
   ·exact absurd (gV.base b o e hb) (by rw[ct h];intro q;cases q)
  have xj:=fun x c (h:(x,c)∈abQ (H2.objs.size+1) scope.names (c9 env scope.names []))=>NM scope.names H3 (c9 env scope.names []) x c (by rw[HD];exact h)
  have b7: ∀x c,(x,c)∈c9 env scope.names []->(x,abd)∈scope.names/\env.cells.lookup x=some c:=fun x c h=>by
   rcases Ff env _ _ x c h with h|⟨h1,h2⟩
   ·cases h
   ·obtain⟨d,hd⟩:=abO.mp (dR x h1)
    rw[hd] at h2;exact⟨h1,by rw[hd,h2];rfl⟩
  have rE:((c9 env scope.names []).map (·.1)).Nodup:=Fh env _ _ C.nd acJ fun z h=>(nomatch h)
  have Ij: ∀x k k',(x,k)∈scope.names->(x,k')∈scope.names->k=k':=fun x k k' h1 h2=>by
   obtain⟨i,hi⟩:=w7 h1;obtain⟨j,hj⟩:=w7 h2;have:=AS C.nd hi hj;subst this;rw[hi] at hj;cases hj;rfl
  have aV: ∀x c,env.cells.lookup x=some c->c<s₁.heap.objs.size:=fun x c h=>let⟨v,hv⟩:=gV.cis x c h;hv.lt
  have eR:((abQ (H2.objs.size+1) scope.names (c9 env scope.names [])).map (·.1)).Nodup:=NO _ _ _ C.nd rE fun x hx h=>by
   obtain⟨⟨x',c⟩,h1,rfl⟩:=Z1.mp hx;exact absurd (Ij x' _ _ h (b7 x' c h1).1) (by decide)
  have HO:(abQ (H2.objs.size+1) scope.names (c9 env scope.names [])).Pairwise fun x y=>x.2≠y.2:=
   NL _ _ _ (fun p hp=>adG (aaa (aV p.1 p.2 (b7 p.1 p.2 hp).2) (by rw[hC];exact acU _))) (J1 rE fun x y c h1 h2=>name_of_addr gV.envIs.apart (mem_of_lookup (b7 x c h1).2) (mem_of_lookup (b7 y c h2).2))
  have gE: ∀x c,(x,abd)∈scope.names->env.cells.lookup x=some c->(abQ (H2.objs.size+1) scope.names (c9 env scope.names [])).lookup x=some c:=fun x c h1 h2=>by
   have:=wd env scope.names [] x h1;rw[h2] at this;exact j5 eR (NN _ _ _ _ this)
  generalize jU:abQ (H2.objs.size+1) scope.names (c9 env scope.names [])=cs at*;have SX:((relabel scope env).names.map (·.1)).Nodup:=by rw[Xl];exact C.nd
  have BM: ∀x kk,scope.names.lookup x=some kk-> ∃k',(relabel scope env).names.lookup x=some k'/\(kk≠ .free->k'=kk)/\(kk= .free->k'= .free\/k'= .cell):=fun x kk h=>by
   obtain⟨i,hi⟩:=w7 (mem_of_lookup h);obtain⟨k',h1,h2,h3⟩:=Xk (env:=env) hi;exact⟨k',gJ h1 SX,h2,h3⟩
  have BN: ∀x kk,scope.names.lookup x=some kk->kk≠ .free->(relabel scope env).names.lookup x=some kk:=fun x kk h bC=>by
   obtain⟨k',h1,h2,_⟩:=BM x kk h;rw[h1,h2 bC]
  have Ii: ∀x,scope.names.lookup x=some .free->(relabel scope env).names.lookup x=some .cell\/(relabel scope env).names.lookup x=some .free:=fun x h=>by
   obtain⟨k',h1,_,h2⟩:=BM x _ h;rcases h2 rfl with e|e
   ·exact .inr (e▸h1)
   ·exact .inl (e▸h1)
  have mr:qG {scope:=relabel scope env,locals:=H2.objs.size,globals:=env.globals,cells:=cs,qual:=env.qual,func:=none,code:=env.code,frame:=env.frame,builtins:=env.builtins} scope:=by
   refine⟨C.kind,fun x h=>BN x _ h (by decide),fun x h=>BN x _ h (by decide),fun x h=>BN x _ h (by decide),fun x h=>Ii x h,gV.envIs.glob,gV.envIs.blt,C.nd,fun x h=> ?_,HO,fun x c h=>j5 eR h⟩;rcases h with h|h
   ·rw[<-jU];exact lC _ _ _ _ (mem_of_lookup h)
   ·obtain⟨c,hc⟩:=abO.mp (dR x (mem_of_lookup h))
    show(cs.lookup x).isSome=true
    rw[gE x c (mem_of_lookup h) hc];rfl
  have HW: ∀x c,cs.lookup x=some c-> ∃v,(ad3 H3 scope.names).IsCell c v:=fun x c h=>by
   rcases xj x c (mem_of_lookup h) with h|⟨_,_,h⟩
   ·obtain⟨v,hv⟩:=gV.cis x c (b7 x c h).2
    exact⟨v,hv.keeps up⟩
   ·exact⟨_,h⟩
  have st:St H scope {scope:=relabel scope env,locals:=H2.objs.size,globals:=env.globals,cells:=cs,qual:=env.qual,func:=none,code:=env.code,frame:=env.frame,builtins:=env.builtins} bo G₁ {s₁ with heap:=ad3 H3 scope.names}:=by
   refine⟨fun b o e hb=>up b o (gV.base b o e hb),fun a o e=>up a o (af.inn a o e),mr,⟨_,QQ,fun p hp=> ?_⟩,HW,gV.tab.keep up,gV.gt,gV.hl⟩;refine gz fun zq zk=> ?_
   obtain⟨i,x,kk,h1,h2,h3⟩:=eo p hp;obtain⟨m,BY,hv⟩:=gV.loc;obtain⟨y,k',hy,hh⟩:=hv _ h3;refine zk ?_;rw[h2] at hy;cases hy;have xM:(x,abd)∈scope.names:=aag h1;refine⟨x,_,h1,?_⟩;rcases hh with⟨h4,_⟩|⟨_,c,cv,h5,h6,h7⟩
   ·rcases C.free x xM with h|h
    ·rw[gV.envIs.cel _ h] at h4;cases h4
    ·rcases gV.envIs.fre _ h with h|h<;>rw[h] at h4<;>cases h4
   ·exact .cel (Ii x (gJ h1 C.nd)) c cv (gE x c xM h5) (h6.keeps up) h7
  have I:av [] H scope {scope:=relabel scope env,locals:=H2.objs.size,globals:=env.globals,cells:=cs,qual:=env.qual,func:=none,code:=env.code,frame:=env.frame,builtins:=env.builtins} bo [(s₁.heap.objs.size,[])] G s G₁ {s₁ with heap:=ad3 H3 scope.names}:=by
   refine⟨st,af.trans (ak.grown af.inn s₁.toks up),S.base,(n₁ (by rw[hC];exact acU _)).1,(n₁ (by rw[hC];exact acU _)).2,fun x c h1 h2=> ?_,HW,fun{i x kd} h1 h2=> ?_,fun x c h=>j5 eR h,fun z h=>(nomatch h),HO,fun p hp=> ?_,aeZ _ _⟩
   ·rcases xj x c (mem_of_lookup h1) with h|⟨_,h,_⟩
    ·exact absurd (Ij x _ _ (mem_of_lookup h2) (b7 x c h).1) (by decide)
    ·exact n₁ (ZW (by rw[HD,hC];exact Nat.le_succ_of_le (acU _)) h)
   ·subst h2
    show(cs.lookup x).isSome=true
    rw[<-jU];exact lC _ _ _ _ (aag h1)
   ·rw[Z4.mp hp]
    exact⟨(n₁ (aab _)).2,Sz (aab _), .inl (n₁ (aab _)).1,[],0,QR, .nil⟩
  have lM:J 0 G₁ {s₁ with heap:=ad3 H3 scope.names}:=W.stab 0 G₁ s₁ G₁ _ hJ (fun z z e=>e) st.inn fun b hb=>⟨fun o e=>up b o e,(W.obj _ _ _ hJ b hb).2⟩
  have loop:=Fq (R:=compPost (Z8 PW w) A E use Q (.ref s₁.heap.objs.size) H2.objs.size) (elt:=elt) (pos:=pos) (gens:=⟨tg,iter,ifs,0⟩::gs) (d:=0) rfl (fun g h=>hn g h) W r mP lM I hw (by simpa using hsz) fun G' s' I'=>by
   obtain⟨m,BY,_⟩:=I'.st.loc;obtain⟨gD,_,h3,vs,q,hl,fx⟩:=I'.own _ ZR;have QP:s₁.heap.objs.size≠H2.objs.size:=fun e=>iS hl (e▸BY)
   have y:=ak.freeze I'.ext hl (.inl (h3.resolve_right (fun h=>nomatch h))) gD (.inl (h3.resolve_right (fun h=>nomatch h)));refine k _ _ _ _ m y (.list iK (mX (lK gD) (by simpa using fx))) BY I'.lnew ?_;have h4:G' H2.objs.size=none:=I'.lG;unfold bN;rw[if_neg (fun e=>QP e.symm)];exact h4
  exact Fp rfl rfl loop (W.self 0 _ _ _ _ lM loop)
theorem wD{α:Type}{elt tg iter:Expr}{ifs:List Expr}{gs:List abv}{scope:ZZ}{pos:Pos}{bo:aw}{ls:List α}{toV:α->V}{f:α->List V}
 (C:jH sc scope) (hn: ∀g,gs[0]?=some g->g.is_async=0)
 (eo: ∀p∈bo,∃(i:Nat) (x:Str) (k:aam),scope.names[p.1]?=some (x, .free)/\sc.names[i]?=some (x,k)/\(i,p.2)∈ρ)
 (hit:cI w H l n sc ρ tg iter (ls.map toV)) (mP: ∀a∈ls,qJ w H l n scope bo tg ifs elt (⟨tg,iter,ifs,0⟩::gs) scope pos 0 (toV a) (f a))
 (hsz:(ls.flatMap f).length<=Z7) (hs:autoParam (∀env x,aaN iter env x=pure x) au):
 ah w H l n sc ρ (.ListComp elt (⟨tg,iter,ifs,0⟩::gs) scope pos) (.list (ls.flatMap f)):= .mk fun env A s G r S Q E k=>by
 rw[eval_ListComp];refine Fs (use:=none) C hn eo hit mP hsz hs r S fun G' s' D cn m x rd hm h0 hg=>⟨m,hm,fun h' eS=> ?_⟩
 have ht:=(S.ext x).tab;exact k _ _ _ (Px x eS h0 hg (jz ht hm) (uU hm)) rd
theorem jf{t:Expr}{body orelse:List Stmt}{pos:Pos}{c:Bool}(h:aM w H l n sc ρ t c)(h1:c=true->aD w X H l n sc ρ ow body o)(h2:c=false->aD w X H l n sc ρ ow orelse o):bV w X H l n sc ρ ow (.If t body orelse pos) o:=
 .mk fun env A G₀ s₀ G s Q E q r I k=>wpAny_If (h.go env A s G r I.st _ E fun s₁ G₁ af=>by
  cases c with
  |true=>exact(h1 rfl).go env A G₀ s₀ G₁ s₁ Q E q r (I.ext' af) k
  |false=>exact(h2 rfl).go env A G₀ s₀ G₁ s₁ Q E q r (I.ext' af) k)
theorem MF{t:Expr}{body rest:List Stmt}{pos:Pos}{c:Bool}(h:aM w H l n sc ρ t c)(h1:c=true-> ∃v ow',o= .ret v ow'/\aD w X H l n sc ρ ow body o)(h2:c=false->aD w X H l n sc ρ ow rest o):aD w X H l n sc ρ ow (.If t body [] pos::rest) o:=by
 cases c with
 |true=>
  obtain⟨v,ow',rfl,hb⟩:=h1 rfl;exact qN (jf h (fun z=>hb) fun h=>nomatch h)
 |false=>exact zD (jf h (fun h=>nomatch h) fun z=>gk) (h2 rfl)
theorem vX{i:Nat}{x:Str}{kd:aam}{p lp pos:Pos}{rest:List Stmt}(hx:sc.names[i]?=some (x,kd))(hk:kd= .local\/kd= .cell)(dZ:(ρ.map (·.1)).contains i=false)
 (hs:autoParam (abY (.List [] lp) (some (.Name x p)) pos.line (da sc)=pure false) au)
 (h: ∀a,aD w X H l n sc ((i, .at a)::ρ) ((a,[])::ow) rest o):aD w X H l n sc ρ ow (.Assign [.Name x p] (.List [] lp) pos::rest) o:= .mk fun env A G₀ s₀ G s Q E q r I k=>by
 refine aar (wpAny_Assign_Name (wpAny_List (aeK ⟨aav _,?_⟩)) (kj hs q));have e:ak aq G s G {s with heap:=s.heap.push (aI [] 0),toks:=s.toks}:=ak.grown I.st.inn _ fun b y e=>Z9 _ e
 have aE:=I.ext' e;have hn:s.heap.get? s.heap.objs.size=none:=ct (aab _);have hg:G s.heap.objs.size=none:=cY I.st.inn hn;have hl:(s.heap.push (aI [] 0)).get? s.heap.objs.size=some (aI [] 0):=aai _ rfl;have bf:av X H sc env ρ ((s.heap.objs.size,[])::ow) G₀ s₀ G {s with heap:=s.heap.push (aI [] 0)}:=by
  refine⟨aE.st,aE.ext,aE.base₀,aE.lnew,aE.lG,aE.cnew,aE.cis,aE.cell,aE.ckeys,aE.xs,aE.apart,fun p hp=> ?_,abi.mpr ⟨fun p hp e'=> ?_,aE.dis⟩⟩
  ·rcases ZU.mp hp with rfl|hp
   ·refine⟨hg,fun o e'=> ?_, .inl (I.fresh hn),[],0,hl, .nil⟩
    have:=I.st.base _ o e' (ir aE.st.tab hl);rw[hn] at this;cases this
   ·exact aE.own p hp
  ·obtain⟨_,_,_,vs,k',h4,_⟩:=I.own p hp
   have o8:s.heap.objs.size=p.1:=e';rw[<-o8,hn] at h4;cases h4
 exact bf.kept_store hx hk (.at _) dZ fun G' s' b0 z=>(h _).go env A G₀ s₀ G' s' Q E q r b0 k
set_option tactic.hygienic true in
theorem q0{i:Nat}{x:Str}{kd:aam}{a:Addr}{ys:List V}{v:V}{e:Expr}{np apos pos pos':Pos}(hx:sc.names[i]?=some (x,kd))(hm:(i, .at a)∈ρ)(he:ah w H l n sc ρ e v)(hsz:ys.length<=Z7)
 (hd:(x==("__debug__" :Str))=false) (hc:(x==("__classdict__" :Str))=false) (fS:autoParam ((apos.endLine==pos.line)=true) au)
 (pH:autoParam (∀env,((abW pos (aa4 [e] env)).all (fun x=> !x.1)&&(acD pos (abL [] env)).all (fun x=>x.1.isSome)
  &&decide (([e]:List Expr).length+([]:List Keyword).length+(if([]:List Keyword).isEmpty then 0 else 1)<30))=true) au)
 (ht:autoParam (∀env,abW pos (aa4 [e] env)=[(false,eval e env)]) au):
 bV w X H l n sc ρ ((a,ys)::ow) (.Expr (.Call (.Attribute (.Name x np) "append" apos) [e] [] pos) pos') (.next ρ ((a,ys++[v])::ow)):= .mk fun env A G₀ s₀ G s Q E q r I k=>by
 refine wpAny_Expr (wpAny_Call_append rfl (pH env) fS (ht env) ((jd (l:=l) (n:=n) hx hm hd hc).go env A s G r I.st _ E fun cv s₁ G₁ af aA=> ?_)) (by unfold adt;rw[I.st.envIs.kind];rfl) rfl;have aE:=I.ext' af;obtain rfl:=fe aA
 ·
  obtain⟨_,_,_,vs,q',h4,_⟩:=aE.own _ ZR;refine⟨a,vs.toArray,rfl,⟨_,q',h4,rfl,rfl,rfl⟩,he.go env A s₁ G₁ r aE.st _ E fun cv ar aB ax bx=> ?_⟩;exact yQ (aE.ext' ax) bx hsz fun bj b0=>k _ aB bj ⟨rfl,b0⟩
section
variable {E:ZN->ZL->Prop}
theorem FN{it t:Addr}{items:Array ZN}(bC:t≠it): ∀(n i:Nat) (s:ZL) (Q:List ZN->ZL->Prop),s.heap.IsListIter it t i->s.heap.IsList t items->i+n<=items.size->
 (∀h',h'.IsListIter it t (i+n)->abp it s.heap h'->Q ((items.toList.drop i).take n) {s with heap:=h'})->Z6 (Z8 prog w) A (draw (.ref it) n) Q E s
 |0,i,s,Q,hit,_,_,hQ=>by
  show Z6 _ _ (pure []) Q E s
  exact ZS (by simpa using hQ s.heap hit (aee ..))
 |n+1,i,s,Q,hit,ht,hle,hQ=>by
  have aV:i<items.size:=by exact Nat.lt_of_add_right_lt ‹_›
  show Z6 _ _ (pyNext (.ref it)>>=_) Q E s
  refine ZO (wpAny_pyNext_list_item hit ht (x:=items[i]) (by simp[aV]) fun eU BJ uj=> ?_);refine ZO (aaV (FN bC n (i+1) _ _ BJ (ht.extBut uj.extBut bC) (by exact "[+A+B1C[++A1BC" hle) fun jY R1 pU=>ZS ?_));have hd:items.toList.drop i=items[i]::items.toList.drop (i+1):=by simp[aeJ,aV]
  have:=hQ jY (by rw[show i+(n+1)=i+1+n by exact "@=+A+B1++A1B" ()];exact R1) (uj.trans pU);rw[hd,List.take_succ_cons] at this;exact this
theorem YL{t:Addr}{items:Array ZN}{Q:List ZN->ZL->Prop}(hh:A.handled=none)(ht:s.heap.IsList t items)
 (hQ: ∀h',Heap.ExtBut s.heap.objs.size s.heap h'->Q items.toList {s with heap:=h'}):Z6 (Z8 prog w) A (unpackItems (.ref t) items.size none) Q E s:=by
 have aV:t≠s.heap.objs.size:=by obtain⟨o,ho,_⟩:=ht;exact abV (aa1 ho)
 unfold unpackItems;refine ZO ?_
 ·unfold notIterableAtAll
  refine ZO (wpAny_specialOf ht.typeIs slot_list_iter.lookup ?_);refine ZS ?_;simp only[abU,if_false];refine ZO (aaV (wpAny_pyIter_list ht ?_));refine ZO (aaV (FN aV items.size 0 _ _ ⟨_,aai _ rfl,rfl,rfl⟩ (ht.push _) (by simp) fun eU BJ uj=> ?_));have fD:List.take items.size (List.drop 0 items.toList)=items.toList:=by
   rw[List.drop_zero];exact aaX (by simp)
  rw[fD];rw[if_neg (by simp)];have Th:eU.IsList t items:=(ht.push _).extBut uj.extBut aV;refine ZO (aaV (wpAny_pyNext_list_end hh BJ Th (by simp) fun jY t5=> ?_));simp only[Option.isSome_none,abU,if_false];refine ZS (hQ jY fun b o hb e=>t5 b o hb (uj.extBut b o hb (Z9 _ e)))
end
section
noncomputable def V.items?:V->Option (List V)
 | .list x=>Option.some x
 | .tup x=>Option.some x
 |_=>Option.none
theorem DV{v:V}{x:List V}(hv:v.items?=Option.some x){cv:ZN}(r:Rd G v cv)(hi:bS G s){A:aaj}(hh:A.handled=none){Q:List ZN->ZL->Prop}{E:ZN->ZL->Prop}
 (k: ∀cs s',ak aq G s G s'->aP G x cs->Q cs s'):Z6 (Z8 PW w) A (unpackItems cv x.length none) Q E s:=by
 have fin: ∀{vs:List ZN} {h':Heap},aP G x vs->Heap.ExtBut s.heap.objs.size s.heap h'->Q vs {s with heap:=h'}:=fun{vs h'} ra he=>k _ _ (ak.grown hi s.toks fun b o e=>he b o (fun q=>by
  have:=aa1 e;rw[q] at this;exact aew _ this) e) ra
 cases r with
 | @list a vs q x' h1 h2=>
  cases hv;rw[show x.length=vs.toArray.size by simp[h2.length]];exact YL hh (iq hi h1) fun h' he=>by simpa using fin h2 he
 | @tup a vs q x' h1 h2=>
  cases hv;rw[show x.length=vs.toArray.size by simp[h2.length]];exact unpackItems_tuple hh (rR hi h1) fun h' he=>by simpa using fin h2 he
 |_=>cases hv
theorem dO.trans{G₁ aB:GM}{s₁ ar:ZL}(x:dO sc env ow X G s G₁ s₁)(y:dO sc env ow X G₁ s₁ aB ar):dO sc env ow X G s aB ar:=
 ⟨fun a o e=>y.1 a o (x.1 a o e),fun b o h1 h2 e=>by
  obtain⟨e1,g1⟩:=x.2 b o h1 h2 e;obtain⟨e2,g2⟩:=y.2 b o h1 h2 e1;exact⟨e2,fun h=>g2 (g1 h)⟩⟩
theorem av.kept_ext(I:av X H sc env ρ ow G₀ s₀ G s)(x:ak aq G s G' s'):dO sc env ow X G s G' s':=I.kept (I.anchor.ext' x)
noncomputable def kr(w:Z2)(X:List Addr)(H:Heap)(sc:ZZ)(es:List Expr)(ρ:aw)(vs:List V)(ρ':aw):Prop:= ∀env:Env,((assignEach es env).length=vs.length/\(assignEach es env).findIdx? (·.1)=none)/\
 ∀(A:aaj) (ow:Ow) (G₀:GM) (s₀:ZL) (G:GM) (s:ZL) (cs:List ZN) (Q:Unit->ZL->Prop) (E:ZN->ZL->Prop),A.handled=none->av X H sc env ρ ow G₀ s₀ G s->aP G vs cs->
  (∀G' s',av X H sc env ρ' ow G₀ s₀ G' s'->dO sc env ow X G s G' s'->Q () s')->Z6 (Z8 PW w) A (assignInOrder ((assignEach es env).map (·.2)) cs) Q E s
theorem kr.nil:kr w X H sc [] ρ [] ρ:=fun env=>⟨⟨rfl,rfl⟩,fun A ow G₀ s₀ G s cs Q E hh I r k=>by cases r.inv0;exact ZS (k G s I (I.kept_ext (ak.refl I.st.inn)))⟩
theorem kr.cons{e:Expr}{es:List Expr}{ρ yV sQ:aw}{v:V}{vs:List V}(h1:jM w X H sc e ρ v yV)(h2:kr w X H sc es yV vs sQ)(he: ∀env,assignEach (e::es) env=(false,assign e env)::assignEach es env):kr w X H sc (e::es) ρ (v::vs) sQ:=fun env=>by
 obtain⟨⟨l1,l2⟩,h2⟩:=h2 env;rw[he env];refine⟨⟨congrArg adN l1,by rw[List.findIdx?_cons,l2];rfl⟩,fun A ow G₀ s₀ G s cs Q E hh I r k=> ?_⟩;obtain⟨c,cs,rfl,ra,rb⟩:=r.inv;show Z6 _ A (do acA _ (assign e env _);assignInOrder _ _) Q E s
 exact ZO (aaV (h1 env A G₀ s₀ G s ow _ _ _ hh I ra fun G₁ s₁ aE k₁=>h2 A ow G₀ s₀ G₁ s₁ cs Q E hh aE (mX k₁.1 rb) fun aB ar bf k₂=>k aB ar bf (k₁.trans k₂)))
theorem m7{es:List Expr}{k:Nat}{p:Pos}{v:V}{x:List V}{ρ ρ':aw}(hv:v.items?=some x)(t:kr w X H sc es ρ x ρ'):jM w X H sc (.Tuple es k p) ρ v ρ':=
 (fun env A G₀ s₀ G s ow cv Q E hh I r kk=>by
  rw[PyProof.Rows.assign_Tuple];refine ZO (aaM ?_);unfold unpack;rw[(t env).1.1,(t env).1.2];refine ZO (aaV (DV hv r I.st.inn hh fun cs s₁ af rl=> ?_));exact(t env).2 A ow G₀ s₀ _ s₁ cs _ E hh (I.ext' af) rl fun G' s' I' k'=>kk G' s' I' ((I.kept_ext af).trans k'))
end
set_option tactic.hygienic true in
theorem je{es:List Expr}{k:Nat}{p pos:Pos}{e:Expr}{v:V}{x:List V}(h:ah w H l n sc ρ e v)(hv:v.items?=some x)(t:kr w X H sc es ρ x ρ')
 (hs:aex [.Tuple es k p] e pos.line (da sc)=pure false) (hw:aey [.Tuple es k p] e (da sc)=pure none):bV w X H l n sc ρ ow (.Assign [.Tuple es k p] e pos) (.next ρ' ow):=
 .mk fun env A G₀ s₀ G s Q E q r I kk=>PyProof.Rows.Assign_Tuple (h.go env A s G r I.st _ E fun cv s₁ G₁ af aA=>
  (m7 (k:=k) (p:=p) hv t) env A G₀ s₀ G₁ s₁ ow cv _ E r.hd (I.ext' af) aA fun G' s' I' z=>kk .next G' s' ⟨rfl,I'⟩) (yG hs q) (yF hw q)
theorem aP.reverse{G:GM}{x:List V}{cs:List ZN}(r:aP G x cs):aP G x.reverse cs.reverse:=by
 induction x generalizing cs with
 |nil=>cases r;exact .nil
 |cons v x ih=>cases r with|cons ra rb=>rw[List.reverse_cons,List.reverse_cons];exact(ih rb).append (.cons ra .nil)
theorem fI{G:GM}{a:V}{cs:List ZN}(r:aP G [a] cs): ∃ca,cs=[ca]/\Rd G a ca:=by
 cases r with
 |cons h r=>cases r;exact⟨_,rfl,h⟩
theorem qx{G:GM}{a b:V}{cs:List ZN}(r:aP G [a,b] cs): ∃ca cb,cs=[ca,cb]/\Rd G a ca/\Rd G b cb:=by
 cases r with
 |cons h r=>obtain⟨cb,rfl,h2⟩:=fI r;exact⟨_,_,rfl,h,h2⟩
theorem yw{G:GM}{a b c:V}{cs:List ZN}(r:aP G [a,b,c] cs): ∃ca cb cc,cs=[ca,cb,cc]/\Rd G a ca/\Rd G b cb/\Rd G c cc:=by
 cases r with
 |cons h r=>obtain⟨cb,cc,rfl,h2,h3⟩:=qx r;exact⟨_,_,_,rfl,h,h2,h3⟩
theorem i9{x:List V}(h:x.length<2^62):aU w H l n (.builtin "len") [.list x] (.int x.length):=by
 constructor;intro A s G cs r bs hi rl Q E k
 obtain⟨ca,rfl,ra⟩:=fI rl;obtain⟨a,vs,q,rfl,ga,ra⟩:=fX ra;exact call_len_list (iq hi ga) (by simp[<-ra.length];exact "<A^62>'A9223372036854775808" h) (by simpa [<-ra.length] using k _ _ G (ak.toks hi _) (.int _ _))
theorem Nm{x:Str}(h:x.length<2^62):aU w H l n (.builtin "len") [.str x] (.int x.length):=by
 constructor;intro A s G cs r bs hi rl Q E k
 obtain⟨ca,rfl,ra⟩:=fI rl;obtain⟨t,rfl⟩:=dC ra;have h':(x.length:Int)<2^62:=by exact_mod_cast h
 exact PyProof.Rows.len_str (by exact "<A^62!]^63'A" h) (k _ _ G (ak.toks hi _) (.int _ _))
theorem MX{a:Int}:aU w H l n (.builtin "abs") [.int a] (.int (if a<0 then -a else a)):=by
 constructor;intro A s G cs r bs hi rl Q E k
 obtain⟨ca,rfl,ra⟩:=fI rl;obtain⟨_,rfl⟩:=aZ ra;exact call_abs_int fun u tk=>k _ _ G (ak.toks hi _) (.int _ _)
theorem ta{c:Nat}:aU w H l n (.builtin "ord") [.str ⟨#[c]⟩] (.int c):=by
 constructor;intro A s G cs r bs hi rl Q E k
 obtain⟨ca,rfl,ra⟩:=fI rl;obtain⟨_,rfl⟩:=dC ra;exact P.ord_of_char (k _ _ G (ak.toks hi _) (.int _ _))
theorem v3{i:Int}(h0:0<=i)(h1:i<=1114111):aU w H l n (.builtin "chr") [.int i] (.str ⟨#[i.toNat]⟩):=by
 constructor;intro A s G cs r bs hi rl Q E k
 obtain⟨ca,rfl,ra⟩:=fI rl;obtain⟨_,rfl⟩:=aZ ra;exact chr_of_range h0 h1 (k _ _ G (ak.toks hi _) (.str _ _))
theorem Nh{b:Bool}:aU w H l n (.type "int") [.bool b] (.int (if b then 1 else 0)):=by
 constructor;intro A s G cs r bs hi rl Q E k
 obtain⟨ca,rfl,ra⟩:=fI rl;obtain rfl:=Dt ra;exact call_int_bool (k _ _ G (ak.toks hi _) (.int _ _))
theorem Ni{x:UInt64}{sg:Bool}{m:Nat}{e:Int}(hd:aeg x= .fin sg m e):aU w H l n (.type "int") [.flt x] (.int (Float64.truncOf sg m e)):=by
 constructor;intro A s G cs r bs hi rl Q E k
 obtain⟨ca,rfl,ra⟩:=fI rl;obtain⟨_,rfl⟩:=du ra;exact call_int_float hd (k _ _ G (ak.toks hi _) (.int _ _))
theorem qP{a:Int}(h:a.natAbs.log2<1920):aU w H l n (.type "str") [.int a] (.str (toString a)):=by
 constructor;intro A s G cs r bs hi rl Q E k
 obtain⟨ca,rfl,ra⟩:=fI rl;obtain⟨_,rfl⟩:=aZ ra;exact P.str_of_int h (k _ _ G (ak.toks hi _) (.str _ _))
theorem E4{a b:Int}:aU w H l n (.builtin "min") [.int a, .int b] (.int (if b<a then b else a)):=by
 constructor;intro A s G cs r bs hi rl Q E k
 obtain⟨ca,cb,rfl,ra,rb⟩:=qx rl;obtain⟨_,rfl⟩:=aZ ra;obtain⟨_,rfl⟩:=aZ rb;refine min_two_ints r.hd fun h' tk hk=> ?_
 have:=fun t=>k (.int (if b<a then b else a) t) _ G (ak.grown hi tk hk) (.int _ _)
 by_cases c:b<a
 ·simp only[if_pos c] at this⊢;exact this _
 ·simp only[if_neg c] at this⊢;exact this _
theorem M6{a b:Int}(hb:b≠0)(hp:Builtin.divisionGoesByPylong a b=false):aU w H l n (.builtin "divmod") [.int a, .int b] (.tup [.int (a.fdiv b), .int (a.fmod b)]):=by
 constructor;intro A s G cs r bs hi rl Q E k
 obtain⟨ca,cb,rfl,ra,rb⟩:=qx rl;obtain⟨_,rfl⟩:=aZ ra;obtain⟨_,rfl⟩:=aZ rb;refine divmod_int hb ?_ (.inl hp);have:=uT hi (.cons (.int (a.fdiv b) s.toks) (.cons (.int (a.fmod b) (s.toks+1)) .nil)) (s.toks+1+1) (k:=0);exact k _ _ _ this.1 this.2
theorem M1{a:Int}:aU w H l n (.builtin "int.bit_length") [.int a] (.int (aad a)):=by
 constructor;intro A s G cs r bs hi rl Q E k
 obtain⟨ca,rfl,ra⟩:=fI rl;obtain⟨_,rfl⟩:=aZ ra;exact call_int_bit_length (k _ _ G (ak.toks hi _) (.int _ _))
theorem Je{G:GM}: ∀{xs:List Int} {vs:List ZN},aP G (xs.map V.int) vs-> ∃ys:List (Int×Tok),vs=ys.map (fun p=> .int p.1 p.2)/\ys.map (·.1)=xs
 |[],_,h=>⟨[],h.inv0,rfl⟩
 |x::xs,_,h=>by
  obtain⟨c,r,rfl,h1,hr⟩:=h.inv;obtain⟨t,rfl⟩:=aZ h1;obtain⟨ys,rfl,e⟩:=Je hr;exact⟨(x,t)::ys,rfl,congrArg (x:: ·) e⟩
theorem Nw{xs:List Int}:aU w H l n (.builtin "sum") [.list (xs.map V.int)] (.int xs.sum):=by
 constructor;intro A s G cs r bs hi rl Q E k
 obtain⟨ca,rfl,ra⟩:=fI rl;obtain⟨a,vs,q,rfl,ga,ra⟩:=fX ra;obtain⟨ys,rfl,rfl⟩:=Je ra;have e:(ys.map (fun p=>Value.int p.1 p.2)).toArray=intItems ys.toArray:=by simp[intItems]
 refine sum_intListG r.hd (e▸iq hi ga) fun h' tk t' hk=> ?_
 rw[preSum_eq,aaX (by simp)];exact k _ _ G (ak.grown hi tk hk) (.int _ _)
noncomputable def eD(a b c:UInt64):UInt64:=let x:=if aaW a b==some .lt then b else a;if aaW x c==some .lt then c else x
noncomputable def iy(a b c:UInt64):UInt64:=let x:=if aaW b a==some .lt then b else a;if aaW c x==some .lt then c else x
theorem LG(bt:Nat->Nat->Bool):argBest bt 2=if bt 1 0 then(if bt 2 1 then 2 else 1) else(if bt 2 0 then 2 else 0):=by
 simp only[argBest]
 by_cases h:bt 1 0=true<;>simp[h]
theorem WL{a b c:UInt64}{t u x:Tok}{v:ZN}{bt:Nat->Nat->Bool}(hP:(#[Value.float a t, .float b u, .float c x]:Array ZN)[argBest bt 2]?=some v): ∃y,v= .float (if bt 1 0=true then(if bt 2 1=true then c else b) else(if bt 2 0=true then c else a)) y:=by
 rw[LG] at hP;revert hP;cases bt 1 0<;>cases bt 2 1<;>cases bt 2 0<;>exact fun h=>⟨_,(abM h).symm⟩
theorem Vo(a b c:UInt64):eD a b c=if(aaW a b==some .lt)=true then(if(aaW b c==some .lt)=true then c else b) else(if(aaW a c==some .lt)=true then c else a):=by
 unfold eD;cases aaW a b==some .lt<;>rfl
theorem VA(a b c:UInt64):iy a b c=if(aaW b a==some .lt)=true then(if(aaW c b==some .lt)=true then c else b) else(if(aaW c a==some .lt)=true then c else a):=by
 unfold iy;cases aaW b a==some .lt<;>rfl
theorem KI{a b c z:UInt64}{t u x:Tok}{op:CmpOp}{bt:Nat->Nat->Bool}{A:aaj}{s:ZL}{G:GM}{Q:ZN->ZL->Prop}{E:ZN->ZL->Prop}(r:A.handled=none)(hi:bS G s)
 (hc:CmpOf PW w A.in1 op (fun i v=>(#[Value.float a t, .float b u, .float c x]:Array ZN)[i]?=some v) bt)
 (hz:z=if bt 1 0=true then(if bt 2 1=true then c else b) else(if bt 2 0=true then c else a)) (k: ∀cv s' G',ak aq G s G' s'->Rd G' (.flt z) cv->Q cv s'):
 Z6 (Z8 PW w) A.in1 (pyIter (.ref s.heap.objs.size)) (fun it ar=> ∃I fp wr n P St bt,it= .ref I/\Walks PW w A.in1 I fp wr n P St/\St 0 ar.heap/\(∀b∈fp,b<ar.heap.objs.size)/\0<n/\CmpOf PW w A.in1 op P bt/\
  ∀v h' tk,P (argBest bt (n -1)) v->(∀b o,b∉wr->ar.heap.get? b=some o->h'.get? b=some o)->Q v {ar with heap:=h',toks:=tk}) E
  {s with heap:=s.heap.push {cls:= .type "tuple",data:= .seq #[.float a t, .float b u, .float c x]} }:=by
 subst hz;have hT:(s.heap.push {cls:= .type "tuple",data:= .seq #[.float a t, .float b u, .float c x]}).IsTuple s.heap.objs.size #[.float a t, .float b u, .float c x]:=⟨_,aai _ rfl,rfl,0,rfl⟩;refine wpAny_pyIter_tuple hT ?_;have hsz:(s.heap.push {cls:= .type "tuple",data:= .seq #[.float a t, .float b u, .float c x]}).objs.size=s.heap.objs.size+1:=abS ..
 refine⟨_,[_,s.heap.objs.size],[_],_,_,_,_,rfl,Walks.tuple (A:=A.in1) r _ s.heap.objs.size (by rw[hsz];exact abV (acB _)) #[.float a t, .float b u, .float c x],
  ⟨⟨_,aai _ rfl,rfl,rfl⟩,hT.push _⟩,fun c hc=> ?_,by simp,hc,fun v h' tk hP hk=> ?_⟩
 ·show c<((s.heap.push _).push _).objs.size
  rw[abS,hsz];rcases ZU.mp hc with rfl|hc
  ·rw[hsz];exact acB _
  ·rcases ZU.mp hc with rfl|hc
   ·exact adG (acB _)
   ·cases hc
 ·obtain⟨y,rfl⟩:=WL hP
  refine k _ _ G (ak.grown hi tk fun c o e=> ?_) (.flt _ _);refine hk c o (fun hm=> ?_) (Z9 _ (Z9 _ e));rcases ZU.mp hm with e1|hm
  ·have:=aa1 e;rw[e1,hsz] at this;exact aew _ (Nat.lt_of_succ_lt this)
  ·cases hm
theorem JP{a b c:UInt64}{t u x:Tok}: ∀v∈(#[Value.float a t, .float b u, .float c x]:Array ZN),Flt.NumV v:=by simp;exact⟨.float _ _, .float _ _, .float _ _⟩
theorem EZ{a b c:UInt64}:aU w H l n (.builtin "max") [.flt a, .flt b, .flt c] (.flt (eD a b c)):=by
 constructor;intro A s G cs r bs hi rl Q E k
 obtain⟨ca,cb,cc,rfl,ra,rb,rc⟩:=yw rl;obtain⟨t,rfl⟩:=du ra;obtain⟨u,rfl⟩:=du rb;obtain⟨x,rfl⟩:=du rc;exact call_max_three (KI r.hd hi (Flt.cmpOf_gt _ JP) (Vo a b c) k)
theorem E3{a b c:UInt64}:aU w H l n (.builtin "min") [.flt a, .flt b, .flt c] (.flt (iy a b c)):=by
 constructor;intro A s G cs r bs hi rl Q E k
 obtain⟨ca,cb,cc,rfl,ra,rb,rc⟩:=yw rl;obtain⟨t,rfl⟩:=du ra;obtain⟨u,rfl⟩:=du rb;obtain⟨x,rfl⟩:=du rc;exact call_min_three (KI r.hd hi (Flt.cmpOf_lt _ JP) (VA a b c) k)
noncomputable def cm{α:Type}(x:List α)(lo hi st:Option Int):List α:=
 (sliceRange (ab4 lo hi st x.length).1 (ab4 lo hi st x.length).2.1 (ab4 lo hi st x.length).2.2).filterMap (x[·]?)
theorem aP.none{G:GM}{x:List V}{vs:List ZN}(r:aP G x vs){i:Nat}(h:x[i]?=Option.none):vs[i]?=Option.none:=by
 rw[List.getElem?_eq_none_iff] at h⊢;rw[<-r.length];exact h
theorem aP.pickI{G:GM}{x:List V}{vs:List ZN}(r:aP G x vs): ∀is:List Nat,aP G (is.filterMap (x[·]?)) (is.filterMap (vs[·]?))
 |[]=> .nil
 |i::is=>by
  rw[adi,adi];cases h:x[i]? with
  |none=>rw[r.none h];exact r.pickI is
  |some v=>
   obtain⟨cv,h1,h2⟩:=r.get h;rw[h1];exact .cons h2 (r.pickI is)
theorem aP.pick{G:GM}{x:List V}{vs:List ZN}(r:aP G x vs)(lo hi st:Option Int):aP G (cm x lo hi st) (slicePick vs.toArray lo hi st).toList:=by
 unfold slicePick cm;rw[show vs.toArray.size=x.length by simp[r.length]]
 simpa using r.pickI _
inductive me(w:Z2)(H:Heap)(l n:Nat)(sc:ZZ)(ρ:aw):Option Expr->Option Int->Prop
 |none:me w H l n sc ρ .none .none
 |some {e:Expr} {i:Int}:ah w H l n sc ρ e (.int i)->me w H l n sc ρ (some e) (some i)
theorem sN{e:Option Expr}{p:Option Int}(h:me w H l n sc ρ e p){env:Env}{A:aaj}{s:ZL}{G:GM}(r:bW A l n)(S:St H sc env ρ G s){Q:ZN->ZL->Prop}{E:ZN->ZL->Prop}
 (k: ∀cv s' G',ak aq G s G' s'->IsPart cv p->Q cv s'):Z6 (Z8 PW w) A (evalPart e env) Q E s:=by
 cases h with
 |none=>rw[evalPart_none];exact ZS (k _ s G (ak.refl S.inn) .none)
 |some h=>
  refine h.go env A s G r S Q E fun cv s' G' x r'=> ?_
  obtain⟨t,rfl⟩:=aZ r';exact k _ s' G' x (.int _ _)
theorem O2{ve:Expr}{lo hi st:Option Expr}{p pos:Pos}{x:List V}{a b c:Option Int}(ha:ah w H l n sc ρ ve (.list x))(h1:me w H l n sc ρ lo a)(h2:me w H l n sc ρ hi b)(h3:me w H l n sc ρ st c)(h0:c≠some 0)(hsz:x.length<=Z7)
 (hs:autoParam (∀c d,∃ops,ac4 (.Slice lo hi st p) false (.ref c) (.ref d)=operate ops (getItem (.ref c) (.ref d))) au) (ht:autoParam (∀o r,letTemporaryGo ve o r=pure ()) au):
 ah w H l n sc ρ (.Subscript ve (.Slice lo hi st p) pos) (.list (cm x a b c)):= .mk fun env A s G r S Q E k=>
 ad1 (ha.go env A s G r S _ E fun ca s₁ G₁ af aA=>wpAny_Slice (sN h1 r (S.ext af) fun c1 ar aB ax p1=>sN h2 r ((S.ext af).ext ax) fun c2 bj bI bL p2=>sN h3 r (((S.ext af).ext ax).ext bL) fun c3 dN ko gh p3=>by
  obtain⟨d,vs,q,rfl,gd,rd⟩:=fX (cN gh.sub (cN bL.sub (cN ax.sub aA)));obtain⟨ops,ho⟩:=hs d dN.heap.objs.size;have hl:=iq gh.inn gd;have y:=iZ (o:={cls:= .type "slice",data:= .fields #[c1,c2,c3]}) gh.inn dN.toks;refine subscriptTail_ops (s:={dN with heap:=dN.heap.push {cls:= .type "slice",data:= .fields #[c1,c2,c3]} }) (T:= "list") (hl.push _).typeIs list_getitem_lookup
   (wpAny_getItem_list_slice (hl.push _) (Heap.IsSliceOf.new ..) p1 p2 p3 h0 ?_ (by simpa [<-rd.length] using hsz)) ho (ht _)
  have:=uS y.inn (rd.pick a b c) dN.toks (k:=0);have e:({cls:= .type "list",data:= .seq (slicePick vs.toArray a b c)}:Obj)=aI (slicePick vs.toArray a b c).toList 0:=by simp[aI]
  rw[e];exact k _ _ _ ((((af.trans ax).trans bL).trans gh).trans (y.trans this.1)) this.2))
theorem O4{ve e:Expr}{p pos:Pos}{x:List V}{a:Nat}(ha:ah w H l n sc ρ ve (.tup x))(hb:ah w H l n sc ρ e (.int a))(h1:1<=a)(h2:a<=x.length)(hsz:x.length<=Z7)
 (hs:autoParam (∀c d,∃ops,ac4 (.Slice (some e) none none p) false (.ref c) (.ref d)=operate ops (getItem (.ref c) (.ref d))) au) (ht:autoParam (∀o r,letTemporaryGo ve o r=pure ()) au):
 ah w H l n sc ρ (.Subscript ve (.Slice (some e) none none p) pos) (.tup (x.drop a)):= .mk fun env A s G r S Q E k=>
 ad1 (ha.go env A s G r S _ E fun ca s₁ G₁ af aA=>wpAny_Slice (hb.go env A s₁ G₁ r (S.ext af) _ E fun c1 ar aB ax p1=>by
  obtain⟨u,rfl⟩:=aZ p1;rw[evalPart_none];refine ZS (ZS ?_);obtain⟨d,vs,q,rfl,gd,rd⟩:=su (cN ax.sub aA);obtain⟨ops,ho⟩:=hs d ar.heap.objs.size;have hl:=rR ax.inn gd;have y:=iZ (o:={cls:= .type "slice",data:= .fields #[.int a u, .none, .none]}) ax.inn ar.toks;have iO:IsTup (ar.heap.push {cls:= .type "slice",data:= .fields #[.int a u, .none, .none]}) d vs.toArray:=hl.keeps fun j j e=>Z9 _ e
  refine subscriptTail_ops (s:={ar with heap:=ar.heap.push {cls:= .type "slice",data:= .fields #[.int a u, .none, .none]} }) (T:= "tuple") iO.typeIs slot_tuple_getitem.lookup
   (getItem_tuple_from iO (Heap.IsSliceOf.new ..) h1 (by simpa [<-rd.length] using h2) ?_ (by simpa [<-rd.length] using hsz)) ho (ht _)
  have hd: ∀{z:List V} {us:List ZN} (m:Nat),aP aB z us->aP aB (z.drop m) (us.drop m):=fun{z us} m h=>by
   induction m generalizing z us with
   |zero=>exact h
   |succ m ih=>cases h with
    |nil=>exact .nil
    |cons _ h=>exact ih h
  have:=uT y.inn (hd a rd) ar.toks (k:=0);exact k _ _ _ ((af.trans ax).trans (y.trans this.1)) this.2))
mutual
noncomputable def V.dat : V → PyData
  | .none => .none
  | .bool b => .bool b
  | .int i => .int i
  | .str x => .str x
  | .list l => .list (V.dats l)
  | .tup l => .tuple (V.dats l)
  | .flt _ | .obj _ | .ty _ | .bi _ | .at _ | .hdr _ => .none
noncomputable def V.dats : List V → List PyData
  | [] => []
  | v :: l => V.dat v :: V.dats l
end
mutual
noncomputable def V.okd : V → Bool
  | .none | .bool _ | .int _ => true
  | .str x => PyData.strOk x
  | .list l => V.okds l
  | .tup l => V.okds l
  | .flt _ | .obj _ | .ty _ | .bi _ | .at _ | .hdr _ => false
noncomputable def V.okds : List V → Bool
  | [] => true
  | v :: l => V.okd v && V.okds l
end
theorem qw{G:GM}{s:ZL}(hi:bS G s): ∀{v:V} {cv:ZN},Rd G v cv->v.okd=true->(∃as,Reads s.heap cv v.dat as)/\v.dat.canLay0=true:=by
 intro v cv h;refine Rd.rec (motive_1:=fun v cv z=>v.okd=true->(∃as,Reads s.heap cv v.dat as)/\v.dat.canLay0=true) (motive_2:=fun l vs z=>V.okds l=true->(∃as,ReadsAll s.heap vs (V.dats l) as)/\PyData.canLayAll0 (V.dats l)=true) ?_ ?_ ?_ ?_ ?_ ?_ ?_ ?_ ?_ ?_ ?_ ?_ ?_ ?_ h
 ·exact fun z=>⟨⟨_, .none⟩,rfl⟩
 ·exact fun b z=>⟨⟨_, .bool b⟩,rfl⟩
 ·exact fun i t z=>⟨⟨_, .int i t⟩,rfl⟩
 ·exact fun x t h=>dh h
 ·exact fun x t h=>⟨⟨_, .str x t⟩,h⟩
 ·exact fun g z ih h=>let⟨⟨_,h1⟩,h2⟩:=ih h;⟨⟨_, .list (hi _ _ g) rfl rfl h1⟩,h2⟩
 ·exact fun g z ih h=>let⟨⟨_,h1⟩,h2⟩:=ih h;⟨⟨_, .tuple (hi _ _ g) rfl rfl h1⟩,h2⟩
 ·exact fun n h=>dh h
 ·exact fun n h=>dh h
 ·exact fun n h=>dh h
 ·exact fun z z h=>dh h
 ·exact fun z z z z h=>dh h
 ·exact fun z=>⟨⟨_, .nil⟩,rfl⟩
 ·intro v cv l vs _ _ h1 h2 h
  have h:=ZT.mp h;obtain⟨⟨a1,r1⟩,c1⟩:=h1 h.1;obtain⟨⟨a2,r2⟩,c2⟩:=h2 h.2;exact⟨⟨_, .cons r1 r2⟩,ZT.mpr ⟨c1,c2⟩⟩
structure bu{α:Type}[DecidableEq α](f:α->V)(P:α->Prop)(d:Nat):Prop where
 ok: ∀a,P a->(f a).okd=true
 dp: ∀a,(f a).dat.depth<=d
 eq: ∀a b,acz (f a).dat (f b).dat=decide (a=b)
theorem bu.int:bu V.int (fun z=>True) 0:=⟨fun z z=>rfl,fun z=>aab _,fun a b=>aa9.mpr (beq_iff_eq.trans decide_eq_true_iff.symm)⟩
theorem bu.str:bu V.str (fun x=>aa6 x=true) 0:=⟨fun z h=>h,fun z=>aab _,fun a b=>aa9.mpr (beq_iff_eq.trans decide_eq_true_iff.symm)⟩
theorem bu.bool:bu V.bool (fun z=>True) 0:=⟨fun z z=>rfl,fun z=>aab _,fun a b=>by cases a<;>cases b<;>rfl⟩
noncomputable def ostr(o:Option Str):V:=match o with
 |none=> .none
 |some x=> .str x
theorem bu.ostr:bu Mine.Internal.ostr (fun o=> ∀x,o=some x->aa6 x=true) 0:=by
 refine⟨fun o h=> ?_,fun o=> ?_,fun a b=> ?_⟩
 ·cases o with
  |none=>rfl
  |some x=>exact h x rfl
 ·cases o<;>exact aab _
 ·cases a with
  |none=>cases b with|none=>rfl|some y=>rfl
  |some x=>cases b with
   |none=>rfl
   |some y=>exact(bu.str.eq x y).trans (decide_eq_decide.mpr ⟨congrArg some,abM⟩)
section
variable {α:Type}{β:Type}[DecidableEq α][DecidableEq β]{f:α->V}{g:β->V}{P:α->Prop}{R:β->Prop}{d:Nat}{e:Nat}
theorem uY(E:bu f P d): ∀l:List α,(∀a∈l,P a)->V.okds (l.map f)=true:=by
 intro rr
 induction rr with
 |nil=>
  exact fun z=>rfl
 |cons a l ih=>
  exact fun h=>ZT.mpr ⟨E.ok a (h a ZR),ih fun b hb=>h b (ZP _ hb)⟩
theorem FG(E:bu f P d): ∀l:List α,PyData.depthAll (V.dats (l.map f))<=d:=by
 intro rr
 induction rr with
 |nil=>exact aav _
 |cons a l ih=>exact Nat.max_le.mpr ⟨E.dp a,ih⟩
theorem FV(E:bu f P d): ∀l m:List α,PyData.eqvAll (V.dats (l.map f)) (V.dats (m.map f))=decide (l=m):=by
 intro l
 induction l with
 |nil=>
  intro m;cases m with
  |nil=>rfl
  |cons b m=>rfl
 |cons a l ih=>
  intro m;cases m with
  |nil=>rfl
  |cons b m=>
   show(acz (f a).dat (f b).dat&&PyData.eqvAll (V.dats (l.map f)) (V.dats (m.map f)))=_
   rw[E.eq,ih m,<-Bool.decide_and];exact decide_eq_decide.mpr List.cons_eq_cons.symm
theorem bu.list(E:bu f P d):bu (fun l:List α=>V.list (l.map f)) (fun l=> ∀a∈l,P a) (d+1):=
 ⟨fun l h=>uY E l h,fun l=>aeo (FG E l),fun a b=>(FV E a b).trans (decide_eq_decide.mpr Iff.rfl)⟩
theorem bu.tupl(E:bu f P d):bu (fun l:List α=>V.tup (l.map f)) (fun l=> ∀a∈l,P a) (d+1):=
 ⟨fun l h=>uY E l h,fun l=>aeo (FG E l),fun a b=>(FV E a b).trans (decide_eq_decide.mpr Iff.rfl)⟩
theorem bu.pair(E:bu f P d)(F:bu g R e):bu (fun p:α×β=>V.tup [f p.1,g p.2]) (fun p=>P p.1/\R p.2) (d+e+1):=
 ⟨fun p h=>ZT.mpr ⟨E.ok _ h.1,ZT.mpr ⟨F.ok _ h.2,rfl⟩⟩,fun p=>aeo (Nat.max_le.mpr ⟨ZW (E.dp p.1) (adM _ _),Nat.max_le.mpr ⟨ZW (F.dp p.2) (abf _ _),aav _⟩⟩),
  fun a b=>by
   show(acz (f a.1).dat (f b.1).dat&&(acz (g a.2).dat (g b.2).dat&&true))=_
   rw[E.eq,F.eq,acn,<-Bool.decide_and];exact decide_eq_decide.mpr Prod.ext_iff.symm⟩
end
section
variable {α:Type}[DecidableEq α]{f:α->V}{P:α->Prop}{d:Nat}
theorem bu.shaped(E:bu f P d){s:ZL}{G:GM}(hi:bS G s)(hd:d<=64){a:α}(pa:P a){cv:ZN}(r:Rd G (f a) cv): ∃as,Reads s.heap cv (f a).dat as/\PySem.SeqAt.shaped (f a).dat=true:=by
 obtain⟨⟨as,h1⟩,h2⟩:=qw hi r (E.ok a pa);refine⟨as,h1,?_⟩;have:=E.dp a;unfold PySem.SeqAt.shaped;rw[h2,decide_eq_true (by exact ZW ‹_› ‹_›)];rfl
theorem gW(E:bu f P d)(hd:d<=64){a b:α}(pa:P a)(pb:P b):bO w (abz .Eq) (f a) (f b) (.bool (decide (a=b))):=by
 intro A s G ca cb _ hu hi ra rb Q E' k;refine gz fun zq zk=> ?_
 obtain⟨as,r1,s1⟩:=E.shaped hi hd pa ra;obtain⟨bs,r2,s2⟩:=E.shaped hi hd pb rb;refine zk ?_;clear zk zq;exact eq_dataH r1 r2 s1 s2 (by show A.units+64<9900;exact "<A9000<+A64_9900" hu) (by rw[E.eq];exact k _ _ G (ak.refl hi) (.bool _))
theorem nB(E:bu f P d)(hd:d<=64){a b:α}(pa:P a)(pb:P b):bO w (abz .NotEq) (f a) (f b) (.bool (!decide (a=b))):=by
 intro A s G ca cb _ hu hi ra rb Q E' k;refine gz fun zq zk=> ?_
 obtain⟨as,r1,s1⟩:=E.shaped hi hd pa ra;obtain⟨bs,r2,s2⟩:=E.shaped hi hd pb rb;refine zk ?_;clear zk zq;exact ne_dataH r1 r2 s1 s2 (by show A.units+64<9900;exact "<A9000<+A64_9900" hu) (by rw[E.eq];exact k _ _ G (ak.refl hi) (.bool _))
theorem Er(E:bu f P d)(a:α): ∀l:List α,(V.dats (l.map f)).any (fun y=>acz y (f a).dat)=decide (a∈l):=by
 intro rr
 induction rr with
 |nil=>rfl
 |cons b l ih=>
  show(acz (f b).dat (f a).dat||(V.dats (l.map f)).any (fun y=>acz y (f a).dat))=_
  rw[E.eq,ih,<-Bool.decide_or];exact decide_eq_decide.mpr ((or_congr_left eq_comm).trans ZU.symm)
theorem vZ(E:bu f P d)(hd:d<=60){a:α}{xs:List α}(pa:P a)(pb: ∀b∈xs,P b):bO w (abz .In) (f a) (.list (xs.map f)) (.bool (decide (a∈xs))):=by
 intro A s G ca cb _ hu hi ra rb Q E' k;refine gz fun zq zk=> ?_
 obtain⟨⟨as,r1⟩,c1⟩:=qw hi ra (E.ok a pa);obtain⟨⟨bs,r2⟩,c2⟩:=qw hi rb (uY E xs pb);refine zk ?_;clear zk zq;have h1:=E.dp a;refine PySem.SeqAt.in_list_reads r2 r1 c2 c1 ?_ (by rw[Er E];exact k _ _ G (ak.refl hi) (.bool _));have:min (PyData.depthAll (V.dats (xs.map f))) (f a).dat.depth<=(f a).dat.depth:=abj _ _;show A.units+1+_<9900
 exact "[A60<B9000[CA[DC<++B1D9900" hd hu h1 this
theorem oV(E:bu f P d)(hd:d<=60){a:α}{xs:List α}(pa:P a)(pb: ∀b∈xs,P b):bO w (abz .NotIn) (f a) (.list (xs.map f)) (.bool (!decide (a∈xs))):=by
 intro A s G ca cb _ hu hi ra rb Q E' k;refine gz fun zq zk=> ?_
 obtain⟨⟨as,r1⟩,c1⟩:=qw hi ra (E.ok a pa);obtain⟨⟨bs,r2⟩,c2⟩:=qw hi rb (uY E xs pb);refine zk ?_;clear zk zq;have h1:=E.dp a;refine PySem.SeqAt.notIn_list_reads r2 r1 c2 c1 ?_ (by rw[Er E];exact k _ _ G (ak.refl hi) (.bool _));have:min (PyData.depthAll (V.dats (xs.map f))) (f a).dat.depth<=(f a).dat.depth:=abj _ _;show A.units+1+_<9900
 exact "[A60<B9000[CA[DC<++B1D9900" hd hu h1 this
theorem Uq(E:bu f P d)(hd:d<=60){A:aaj}(hu:A.units<9000){s:ZL}{G:GM}(hi:bS G s){a:α}{xs:List α}(pa:P a)(pb: ∀b∈xs,P b){ca:ZN}{vs:List ZN}{b:Addr}{m:Nat}(ra:Rd G (f a) ca)(gb:G b=some (aI vs m))(rb:aP G (xs.map f) vs):
 (∀y,y∈vs.toArray->PySem.SeqAt.EqAt A.in1 s y ca (acz (ac1 s.heap y) (f a).dat))/\vs.map (fun y=>acz (ac1 s.heap y) (f a).dat)=xs.map (fun y=>decide (y=a)):=by
 refine gz fun zq zk=> ?_
 obtain⟨⟨as,r1⟩,c1⟩:=qw hi ra (E.ok a pa);obtain⟨⟨bs,r2⟩,c2⟩:=qw hi (.list gb rb) (uY E xs pb);refine zk ?_;clear zk zq;have zJ:PyData.canLayAll0 (V.dats (xs.map f))=true:=c2;have h1:=E.dp a;cases r2 with
 |list e1 e2 e3 e4=>
  rw[hi _ _ gb] at e1;cases e1;cases e3;have:min (PyData.depthAll (V.dats (xs.map f))) (f a).dat.depth<=(f a).dat.depth:=abj _ _;refine⟨PySem.SeqAt.items_eqAt e4 r1 zJ c1 (by show A.units+1+_<9900;exact "[A60<B9000[CA[DC<++B1D9900" hd hu h1 this),?_⟩;have e5:=PySem.SeqAt.readsAll_map _ _ _ zJ e4;rw[show(fun y=>acz (ac1 s.heap y) (f a).dat)=(fun y=>acz y (f a).dat)∘ac1 s.heap from rfl,<-aaf]
  simp only at e5;rw[e5];clear e4 e5 rb gb c2 zJ this pb
  induction xs with
  |nil=>rfl
  |cons x xs ih=>
   show acz (f x).dat (f a).dat::_=_::_
   rw[E.eq];exact congrArg _ ih
theorem M3(E:bu f P d)(hd:d<=60){a:α}{xs:List α}(pa:P a)(pb: ∀b∈xs,P b):aU w H l (n+1) (.builtin "list.count") [.list (xs.map f),f a] (.int (xs.count a)):=by
 constructor;intro A s G cs r bs hi rl Q E' k
 refine gz fun zq zk=> ?_
 obtain⟨ca,cb,rfl,ra,rb⟩:=qx rl;obtain⟨b,vs,m,rfl,gb,rb⟩:=fX ra;obtain⟨h1,h2⟩:=Uq E hd r.u hi pa pb ‹_› gb rb;refine zk ?_;clear zk zq;refine call_meets F.slot_list_count ⟨_,hi _ _ gb,rfl⟩ F.entry_list_count (F.args_list_count_2 _ _) (PySem.SeqAt.list_countAt b vs.toArray m none #[] cb _) ⟨hi _ _ gb,h1,?_⟩;have h3:vs.countP (fun y=>acz (ac1 s.heap y) (f a).dat)=xs.count a:=by
  have e:=congrArg (List.countP id) h2;rw[List.countP_map,List.countP_map] at e;rw[show(fun y=>acz (ac1 s.heap y) (f a).dat)=id∘(fun y=>acz (ac1 s.heap y) (f a).dat) from rfl,e,List.count_eq_countP];rfl
 have:=k (.int (xs.count a) s.toks) _ G (ak.toks hi (s.toks+1)) (.int _ _);rw[<-h3] at this;exact this
end
theorem bw{i:Nat}{v:V}{ρ:aw}:ρ.lookup i=some v->(i,v)∈ρ:=by
 induction ρ with
 |nil=>intro h;cases h
 |cons a r ih=>
  intro h;rw[acC] at h
  by_cases e:(i==a.1)=true
  ·rw[e] at h;cases h;cases beq_iff_eq.mp e;exact ZR
  ·rw[Bool.eq_false_iff.mpr e] at h;exact ZP _ (ih h)
noncomputable def PB(fd:aaL)(pars:List Str)(idx:List Nat):Bool:=fd.closure.isEmpty&&
 decide (fd.globals=aaI/\fd.builtins=acx/\fd.scope.isCoroutine=false/\fd.scope.isGenerator=false/\fd.scope.kind= .function/\(fd.scope.names.map (·.1)).Nodup/\(pars.length=idx.length/\ ∀p∈pars.zip idx,fd.scope.names[p.2]?=some (p.1, .local)\/fd.scope.names[p.2]?=some (p.1, .cell))/\pars.Nodup/\fd.scope.names.all (fun p=>p.2 != .free)=true)
theorem WJ: ∀{pars:List Str} {idx:List Nat},pars.length=idx.length->(∀p∈pars.zip idx,sc.names[p.2]?=some (p.1, .local)\/sc.names[p.2]?=some (p.1, .cell))->mf sc pars idx:=fun{pars}=>by
 induction pars with
 |nil=>intro idx h _;cases idx with
  |nil=>exact trivial
  |cons _ _=>cases h
 |cons x xs ih=>intro idx h k;cases idx with
  |nil=>cases h
  |cons i is=>exact⟨(k (x,i) ZR).elim (fun e=>⟨_,e, .inl rfl⟩) (fun e=>⟨_,e, .inr rfl⟩),ih (Nat.succ.inj h) fun p hp=>k p (ZP _ hp)⟩
theorem dc(B:ai w tk H){a c:Addr}{fd:aaL}{body:List Stmt}{pars:List Str}{idx:List Nat}{vs:Array ZN}{t:Tok}
 (ho:(KK w.params tk).lookup a=some ⟨.type "function",none, .func fd,#[]⟩) (mF:fd.code= .ref c) (hc:(KK w.params tk).lookup c=some ⟨.type "code",none, .fields vs,#[]⟩) (hq:vs[1]?=some (.str fd.qualname t)) (tX:decide (c∈aq)=false) (Bq:decide (a∈aq)=false)
 (Rk:fd.body= .stmts body) (hb:PB fd pars idx=true):cD w H a fd body pars idx:=by
 obtain⟨hs,hb⟩:=ZT.mp hb;obtain⟨g1,g2,f1,f2,f3,f4,f5,f6,f7⟩:=of_decide_eq_true hb;exact⟨⟨_,B.frag _ _ ho,rfl⟩,⟨c,_,vs,t,mF,of_decide_eq_false tX,B.frag _ _ hc,rfl,hq⟩,of_decide_eq_false Bq,Rk,List.isEmpty_iff.mp hs,g1,g2,f1,f2,f3,f4,WJ f5.1 f5.2,f6,f7⟩
noncomputable def rW(P:abm)(tk:Nat):=match(KK P tk).lookup 3 with
 |some ⟨_,_, .dict es _,_⟩=>es
 |_=> #[]
theorem C5(B:ai w tk H)(x:Str):H.nsMap aaI x=nsFind (rW w.params tk) x:=by
 have h: ∃c d es ep sl,(KK w.params tk).lookup 3=some ⟨c,d, .dict es ep,sl⟩:=⟨_,_,_,_,_,rfl⟩;obtain⟨c,d,es,ep,sl,h⟩:=h;unfold Heap.nsMap rW;rw[show H.get? aaI=_ from B.frag _ _ h,h]
theorem c5(B:ai w tk H){x:Str}{cf:ZN}(hd:(x==("__debug__" :Str))=false)(h:nsFind (rW w.params tk) x=some cf):bk H x cf:=⟨hd, .inl ((C5 B x).trans h)⟩
theorem fQ(B:ai w tk H){x:Str}{cf:ZN}(hd:(x==("__debug__" :Str))=false)(h:nsFind (rW w.params tk) x=none)(hn:(x==("__name__" :Str))=false)(hb:bootBuiltins x=some cf):bk H x cf:=
 ⟨hd, .inr ⟨(C5 B x).trans h,by simpa using hn,hb⟩⟩
noncomputable def aL(sc:ZZ):Prop:=sc.names.all (fun p=> !(p.1==("__debug__" :Str))&& !(p.1==("__classdict__" :Str)))=true
theorem aL.at{i:Nat}{x:Str}{k:aam}(h:aL sc)(hx:sc.names[i]?=some (x,k)):(x==("__debug__" :Str))=false/\(x==("__classdict__" :Str))=false:=by
 have:=Z3.mp h _ (aag hx);simp only[aax,abR] at this;exact this
noncomputable def Vd(ns:List (Str×aam))(ρ:aw)(i:Nat):Option (Str×V):=ns[i]?.bind fun p=>(ρ.lookup i).map fun v=>(p.1,v)
theorem aa(i:Nat)(nd:aL sc){x:Str}{v:V}{pos:Pos}(h:Vd sc.names ρ i=some (x,v)):ah w H l n sc ρ (.Name x pos) v:=by
 obtain⟨p,h1,h2⟩:=aaP.mp h;obtain⟨u,h3,h4⟩:=ad8.mp h2;cases h4;exact jd (k:=p.2) h1 (bw h3) (nd.at h1).1 (nd.at h1).2
theorem ag{el er:Expr}{op:Operator}{pos:Pos}{a b v:V}(ha:ah w H l (n+1) sc ρ el a)(hb:ah w H l (n+1) sc ρ er b)(ij:bO w (abI op) a b v):ah w H l (n+1) sc ρ (.BinOp el op er pos) v:=O0 ij ha hb
theorem jR{x:Expr}{op:UnaryOp}{pos:Pos}{a v:V}(ha:ah w H l (n+1) sc ρ x a)(ij:vB w (unaryOp op) a v):ah w H l (n+1) sc ρ (.UnaryOp op x pos) v:=OZ ij ha
theorem o9{el er:Expr}{op:CmpOp}{pos:Pos}{a b v:V}(ha:ah w H l (n+1) sc ρ el a)(hb:ah w H l (n+1) sc ρ er b)(ij:bO w (abz op) a b v)
 (hm:autoParam (behindInMarks op er=false) au):ah w H l (n+1) sc ρ (.Compare el [op] [er] pos) v:=OQ ij ha hb hm
theorem aF{el er:Expr}{op:CmpOp}{pos:Pos}{a b:V}{c:Bool}(ha:ah w H l (n+1) sc ρ el a)(hb:ah w H l (n+1) sc ρ er b)(ij:bO w (abz op) a b (.bool c))
 (hm:autoParam (behindInMarks op er=false) au):aM w H l (n+1) sc ρ (.Compare el [op] [er] pos) c:=YE oh ij ha hb hm
theorem iC{e:Expr}{v:V}{c:Bool}(h:ah w H l n sc ρ e v)(t:oK w v c)(hp:autoParam (∀env whole,isTrue e env whole=(do let v<-whole;ac9 e.pos;acA [v] (truthy v))) au):aM w H l n sc ρ e c:=YG t h hp
theorem kx{t e e':Expr}{pos:Pos}{v:V}(h:aM w H l n sc ρ t true)(h1:ah w H l n sc ρ e v):ah w H l n sc ρ (.IfExp t e e' pos) v:=Al (c:=true) (y:=v) h (fun z=>h1) fun h=>nomatch h
theorem pe{t e e':Expr}{pos:Pos}{v:V}(h:aM w H l n sc ρ t false)(h1:ah w H l n sc ρ e' v):ah w H l n sc ρ (.IfExp t e e' pos) v:=Al (c:=false) (x:=v) h (fun h=>nomatch h) fun z=>h1
theorem aM.cast{e:Expr}{c d:Bool}(h:aM w H l n sc ρ e c)(hc:c=d):aM w H l n sc ρ e d:=hc▸h
theorem bD{st:Stmt}(h:bV w X H l n sc ρ ow st o):aD w X H l n sc ρ ow [st] o:=MI (ss:=[]) h
theorem bZ{e:Expr}{pos:Pos}{ss:List Stmt}{v:V}(h:ah w H l n sc ρ e v):aD w X H l n sc ρ ow (.Return (some e) pos::ss) (.ret v ow):=qN (Pn h)
theorem mv{α:Type}{f:α->V}{t e e':Expr}{pos:Pos}{c:Bool}{x y:α}(h:aM w H l n sc ρ t c)(h1:c=true->ah w H l n sc ρ e (f x))(h2:c=false->ah w H l n sc ρ e' (f y)):ah w H l n sc ρ (.IfExp t e e' pos) (f (if c then x else y)):=
 (Al h h1 h2).cast (by cases c<;>rfl)
theorem ME{t:Expr}{body rest:List Stmt}{pos:Pos}{c:Bool}{v u:V}(h:aM w H l n sc ρ t c)(h1:c=true->aD w X H l n sc ρ ow body (.ret v ow'))(h2:c=false->aD w X H l n sc ρ ow rest (.ret u ow')):aD w X H l n sc ρ ow (.If t body [] pos::rest) (.ret (if c then v else u) ow'):=
 MF h (fun hc=>⟨_,_,rfl,by subst hc;exact h1 rfl⟩) fun hc=>by subst hc;exact h2 rfl
theorem ny{α:Type}{f:α->V}{t:Expr}{body rest:List Stmt}{pos:Pos}{c:Bool}{x y:α}(h:aM w H l n sc ρ t c)(h1:c=true->aD w X H l n sc ρ ow body (.ret (f x) ow'))(h2:c=false->aD w X H l n sc ρ ow rest (.ret (f y) ow')):aD w X H l n sc ρ ow (.If t body [] pos::rest) (.ret (f (if c then x else y)) ow'):=
 (ME h h1 h2).cast (by cases c<;>rfl)
theorem lB{t:Expr}{body orelse rest:List Stmt}{pos:Pos}{v:V}(h:aM w H l n sc ρ t true)(h1:aD w X H l n sc ρ ow body (.ret v ow')):aD w X H l n sc ρ ow (.If t body orelse pos::rest) (.ret v ow'):=
 qN (jf h (fun z=>h1) fun h=>nomatch h)
theorem jP{t:Expr}{body rest:List Stmt}{pos:Pos}(h:aM w H l n sc ρ t false)(h1:aD w X H l n sc ρ ow rest o):aD w X H l n sc ρ ow (.If t body [] pos::rest) o:=
 zD (jf h (fun h=>nomatch h) fun z=>gk) h1
set_option tactic.hygienic true in
theorem pf{α:Type}{f:α->V}{t:Expr}{body orelse:List Stmt}{pos:Pos}{c:Bool}{i:Nat}{x y:α}(h:aM w H l n sc ρ t c)(h1:c=true->aD w X H l n sc ρ ow body (.next ((i,f x)::ρ') ow'))(h2:c=false->aD w X H l n sc ρ ow orelse (.next ((i,f y)::ρ') ow')):
 bV w X H l n sc ρ ow (.If t body orelse pos) (.next ((i,f (if c then x else y))::ρ') ow'):=
 jf h (fun hc=>by subst hc;exact h1 rfl) fun hc=>by subst hc;exact h2 rfl
set_option tactic.hygienic true in
theorem wG(i:Nat){x:Str}{kd:aam}{e:Expr}{p pos:Pos}{v:V}(h:ah w H l n sc ρ e v)(hx:sc.names[i]?=some (x,kd))(dZ:(ρ.map (·.1)).contains i=false)(hk:autoParam (kd= .local\/kd= .cell) au)
 (hs:autoParam (abY e (some (.Name x p)) pos.line (da sc)=pure false) au):
 bV w X H l n sc ρ ow (.Assign [.Name x p] e pos) (.next ((i,v)::ρ) ow):=Pb h hx hk dZ hs
noncomputable def dD(ρ:aw)(i:Nat)(v:V):aw:=(i,v)::ρ.filter fun p=> !(p.1==i)
theorem Xv{ρ:aw}{i:Nat}{v:V}: ∀p∈dD ρ i v,p=(i,v)\/(p∈ρ/\p.1≠i):=fun p hp=>by
 rcases ZU.mp hp with h|h
 ·exact .inl h
 ·obtain⟨h1,h2⟩:=aaQ.mp h
  exact .inr ⟨h1,by simpa using h2⟩
theorem av.other(I:av X H sc env ρ ow G₀ s₀ G s){a:Addr}{m':Str->Option ZN}(hm:s.heap.Ns a m')(hl:a≠env.locals)(h0:s₀.heap.get? a=none)(hg:G a=none){h':Heap}(hs:abp a s.heap h'):
 av X H sc env ρ ow G₀ s₀ G {s with heap:=h'}:=
 I.but (tk':=s.toks) hs hg (.inl h0) (jz I.st.tab hm) (uU hm) (I.st.loc.mono (fun z z e=>e) (fun c v y=>y.sameBut hs fun e=>mU hm (e▸y)) fun m y=>y.sameBut hs (Ne.symm hl)) (fun v y=>(mU hm y).elim) (fun z z e=>(iS e hm).elim) (fun p hp=> .inl ⟨hp,fun z z e q=>iS e (q▸hm)⟩) I.dis
theorem av.kept_set(I:av X H sc env ρ ow G₀ s₀ G s){i:Nat}{x:Str}{kd:aam}{v:V}{cv:ZN}(hx:sc.names[i]?=some (x,kd))(hk:kd= .local\/kd= .cell)(r:Rd G v cv)
 {A:aaj} {Q:Unit->ZL->Prop} {E:ZN->ZL->Prop} (k: ∀G' s',av X H sc env (dD ρ i v) ow G₀ s₀ G' s'->dO sc env ow X G s G' s'->Q () s'):Z6 (Z8 PW w) A (storeName env x cv) Q E s:=
 D7 (ρ':=dD ρ i v) I.anchor hx (hk.imp id fun h=>⟨h,I.cell hx h⟩) r Xv fun s' I'=>k G s' (I.back I') (I.kept I')
set_option tactic.hygienic true in
theorem wI{α:Type}{elt tg iter:Expr}{ifs:List Expr}{gs:List abv}{scope:ZZ}{pos i0 p:Pos}{bo:aw}{ls:List α}{toV:α->V}{f:α->List V}{i:Nat}{x:Str}
 (C:jH sc scope) (hn: ∀g,gs[0]?=some g->g.is_async=0)
 (eo: ∀p∈bo,∃(i:Nat) (x:Str) (k:aam),scope.names[p.1]?=some (x, .free)/\sc.names[i]?=some (x,k)/\(i,p.2)∈ρ)
 (hit:cI w H l n sc ρ tg iter (ls.map toV)) (mP: ∀a∈ls,qJ w H l n scope bo tg ifs elt (⟨tg,iter,ifs,0⟩::gs) scope pos 0 (toV a) (f a))
 (hsz:(ls.flatMap f).length<=Z7) (hx:sc.names[i]?=some (x, .local))
 (hw:abY (.ListComp elt (⟨tg,iter,ifs,0⟩::gs) scope pos) (some (.Name x p)) i0.line (da sc)=pure true) (hs:autoParam (∀env x,aaN iter env x=pure x) au):
 bV w X H l n sc ρ ow (.Assign [.Name x p] (.ListComp elt (⟨tg,iter,ifs,0⟩::gs) scope pos) i0) (.next (dD ρ i (.list (ls.flatMap f))) ow):= .mk fun env A G₀ s₀ G s Q E q r I k=>by
 rw[exec_Assign_Name_used _ _ _ _ (kj hw q)];refine ZO (aaM (ZO ?_));show Z6 _ A (do let _<-comprehension (.ListComp elt (⟨tg,iter,ifs,0⟩::gs) scope pos) scope env _ (newList []) false (eval iter env) (some (assign (.Name x p) env))) _ _ s
 refine ZO (abJ (Fs (use:=some (assign (.Name x p) env)) (Q:=fun z s'=>Q .next s') C hn eo hit mP hsz hs r I.st fun G' s' D cn m xx rd hm h0 hg=> ?_) (fun z s' hq=>ZS (ZS hq)) fun z z e=>e);have aE:=I.ext' xx;obtain⟨VK,B5,_⟩:=I.st.loc;have bC:cn≠env.locals:=fun e=>by
  obtain⟨ob,es,ep,ho,_⟩:=B5;rw[<-e,h0] at ho;cases ho
 have Bt:cn∉bM sc env ow X:=fun fT=>by
  rcases qi fT with e|⟨y,h1,_⟩|⟨y,h1⟩|h1
  ·exact bC e
  ·obtain⟨v,ob,ho,_⟩:=I.cis y cn (I.ckeys y cn h1)
   rw[h0] at ho;cases ho
  ·obtain⟨_,_,_,vs,k',h4,_⟩:=I.own _ h1
   rw[show s.heap.get? cn=none from h0] at h4;cases h4
  ·obtain⟨_,_,vs,k',h4⟩:=I.xs _ h1
   rw[h0] at h4;cases h4
 have tX:cn∉X++aq:=fun Sj=>by
  rcases aaw.mp Sj with h1|h1
  ·obtain⟨_,_,vs,k',h4⟩:=I.xs _ h1
   rw[h0] at h4;cases h4
  ·exact jz aE.st.tab hm h1
 show Z6 _ A (assign (.Name x p) env (.ref D)) _ _ _
 refine wpAny_assign_Name (aE.kept_set hx (.inl rfl) rd fun aB ar bf k₂=> ?_);obtain⟨ob,es,ep,ho,r'⟩:=id hm;obtain⟨e1,e2⟩:=k₂.2 cn ob Bt tX ho;have IC:ar.heap.Ns cn m:=⟨ob,es,ep,e1,r'⟩;exact⟨m,IC,fun h' eS=>k .next aB _ ⟨rfl,bf.other IC bC (I.fresh h0) (e2 hg) eS⟩⟩
theorem m6(i:Nat){x:Str}{kd:aam}{p:Pos}{v:V}(hx:sc.names[i]?=some (x,kd))(hk:autoParam (kd= .local\/kd= .cell) au):jM w X H sc (.Name x p) ρ v (dD ρ i v):=
 (fun env A G₀ s₀ G s ow cv Q E hh I r k=>wpAny_assign_Name (I.kept_set hx hk r k))
set_option tactic.hygienic true in
theorem aQ(i:Nat){x:Str}{kd:aam}{e:Expr}{p pos:Pos}{v:V}(h:ah w H l n sc ρ e v)(hx:sc.names[i]?=some (x,kd))(hk:autoParam (kd= .local\/kd= .cell) au)
 (hs:autoParam (abY e (some (.Name x p)) pos.line (da sc)=pure false) au):
 bV w X H l n sc ρ ow (.Assign [.Name x p] e pos) (.next (dD ρ i v) ow):= .mk fun env A G₀ s₀ G s Q E q r I k=>by
 rw[ab3 _ _ _ _ _ (kj hs q)];refine ZO (aaM (ZO (h.go env A s G r I.st _ E fun cv s' G' x' r'=>ZO (aaM (ZO ?_)))));exact acL ((I.ext' x').kept_set hx hk r' fun jJ s'' kq z=>ZS (k _ jJ s'' ⟨rfl,kq⟩))
set_option tactic.hygienic true in
theorem zF(h: ∀p∈ρ',p∈ρ):aD w X H l n sc ρ ow [] (.next ρ' ow):=(gk (ρ:=ρ') (ow:=ow)).sub h (aae _)
set_option tactic.hygienic true in
theorem d8{ss:List Stmt}(h:aD w X H l n sc ρ ow ss (.next ρ' ow')){i5:aw}{gM:Ow}(h1: ∀p∈i5,p∈ρ')(h2:aeR gM ow'):aD w X H l n sc ρ ow ss (.next i5 gM):= .mk fun env A G₀ s₀ G s Q E q r I k=>
 h.go env A G₀ s₀ G s Q E q r I fun f G' s' ok=>k f G' s' ⟨ok.1,ok.2.sub h1 h2⟩
set_option tactic.hygienic true in
theorem Pr{st:Stmt}(h:bV w X H l n sc ρ ow st (.next ρ' ow')){i5:aw}{gM:Ow}(h1: ∀p∈i5,p∈ρ')(h2:aeR gM ow'):bV w X H l n sc ρ ow st (.next i5 gM):= .mk fun env A G₀ s₀ G s Q E q r I k=>
 h.go env A G₀ s₀ G s Q E q r I fun f G' s' ok=>k f G' s' ⟨ok.1,ok.2.sub h1 h2⟩
set_option tactic.hygienic true in
theorem aH{st:Stmt}{ss:List Stmt}(h:bV w X H l n sc ρ ow st (.next ρ' ow'))(hr:aD w X H l n sc ρ' ow' ss o):aD w X H l n sc ρ ow (st::ss) o:=zD h hr
theorem OB{x:Str}{p:Pos}{es:List Expr}{env:Env}:assignEach (.Name x p::es) env=(false,assign (.Name x p) env)::assignEach es env:=rfl
theorem eF:kr w X H sc [] ρ [] ρ:= .nil
theorem bz(i:Nat){x:Str}{kd:aam}{p:Pos}{es:List Expr}{v:V}{vs:List V}(hx:sc.names[i]?=some (x,kd))(h:kr w X H sc es (dD ρ i v) vs ρ')(hk:autoParam (kd= .local\/kd= .cell) au):kr w X H sc (.Name x p::es) ρ (v::vs) ρ':= .cons (m6 i hx hk) h fun z=>OB
noncomputable def oJ(sc:ZZ)(xs:List Str)(ρ:aw)(vs:List V)(ρ':aw):Prop:= ∀(w:Z2) (X:List Addr) (H:Heap) (ow:Ow) (env:Env) (A:aaj) (G₀:GM) (s₀:ZL) (G:GM) (s:ZL) (cs:List ZN) (Q:Unit->ZL->Prop) (E:ZN->ZL->Prop),av X H sc env ρ ow G₀ s₀ G s->aP G vs cs->
 (∀G' s',av X H sc env ρ' ow G₀ s₀ G' s'->Q () s')->Z6 (Z8 PW w) A (assignInOrder (xs.map fun n=>bindName env n) cs) Q E s
theorem oJ.nil:oJ sc [] ρ [] ρ:=fun w X H ow env A G₀ s₀ G s cs Q E I r k=>by cases r.inv0;exact ZS (k G s I)
theorem oJ.cons{x:Str}{xs:List Str}{i:Nat}{kd:aam}{ρ sQ:aw}{v:V}{vs:List V}(h1:sc.names[i]?=some (x,kd))(h2:kd= .local\/kd= .cell)(ih:oJ sc xs (dD ρ i v) vs sQ):oJ sc (x::xs) ρ (v::vs) sQ:=fun w X H ow env A G₀ s₀ G s cs Q E I r k=>by
 obtain⟨c,cs,rfl,ra,rb⟩:=r.inv;show Z6 _ A (do acA _ (bindName env x _);assignInOrder _ _) Q E s
 exact ZO (aaV (acL (I.kept_set h1 h2 ra fun G₁ s₁ aE k₁=>ih w X H ow env A G₀ s₀ G₁ s₁ cs Q E aE (mX k₁.1 rb) k)))
set_option tactic.hygienic true in
theorem Ge{es:List Expr}{k:Nat}{p pos:Pos}{e:Expr}{v:V}{x:List V}{names:List Str}(h:ah w H l n sc ρ e v)(hv:v.items?=some x)(hl:x.length=names.length)(t:oJ sc names.reverse ρ x.reverse ρ')
 (hs:autoParam (aex [.Tuple es k p] e pos.line (da sc)=pure false) au) (hw:aey [.Tuple es k p] e (da sc)=pure (some names)):bV w X H l n sc ρ ow (.Assign [.Tuple es k p] e pos) (.next ρ' ow):=
 .mk fun env A G₀ s₀ G s Q E q r I kk=>ae2 (names:=names) (h.go env A s G r I.st _ E fun cv s₁ G₁ af aA=>by
  rw[<-hl];exact DV hv aA af.inn r.hd fun cs ar ax rl=>t w X H ow env A _ _ _ ar _ _ E ((I.ext' af).ext' ax) rl.reverse fun G' s' I'=>kk .next G' s' ⟨rfl,I'⟩) (yG hs q) (yF hw q)
noncomputable def aS(a b:Int):List Int:=(aac (b -a).toNat).map fun(i:Nat)=>a+(i:Int)
theorem Kf(a b:Int):mW a b=(aS a b).map V.int:=by simp[mW,aS,aaf,aaF]
theorem fc{a b x:Int}:x∈aS a b↔a<=x/\x<b:=by
 unfold aS;simp only[Z1,aaq];constructor
 ·rintro⟨i,hi,rfl⟩;(simp at*;exact⟨"]a+a'A" (),">'A-ab>+b'Aa" hi⟩)
 ·rintro⟨h1,h2⟩;exact⟨(x -a).toNat,by(simp at*;exact ">ab#c-ad>c-bd" h2 (Int.max_eq_left ("]ab]0-ba" h1))),by exact ab0 ("#'A-ab]+b'Aa" (ZV ("]ab]0-ba" h1))) (";1#'A-ab]a+b'A" (ZV ("]ab]0-ba" h1)))⟩
theorem fb{a b:Int}:(aS a b).length=(b -a).toNat:=by simp[aS]
noncomputable def aO(l:List Int):V:= .list (l.map V.int)
noncomputable def lq(l:List Int):V:= .tup (l.map V.int)
theorem iG:bu aO (fun l=> ∀a∈l,True) 1:=bu.int.list
theorem Af:bu lq (fun l=> ∀a∈l,True) 1:=bu.int.tupl
theorem bR{α:Type}{l:List α}: ∀a∈l,True:=fun z z=>trivial
noncomputable def Oc(sc scope:ZZ):Bool:=(scope.names.all fun p=> !(p.1==("__debug__" :Str))&& !(p.1==("__classdict__" :Str)))&&
 decide (scope.kind= .function/\(scope.names.map (·.1)).Nodup/\ ∀p∈scope.names,p.2= .free->sc.names.lookup p.1=some .cell\/sc.names.lookup p.1=some .free)
theorem b6{sc scope:ZZ}(h:Oc sc scope=true):jH sc scope/\aL scope:=by
 obtain⟨h0,h⟩:=ZT.mp h;obtain⟨h1,h2,h3⟩:=of_decide_eq_true h;exact⟨⟨h1,h2,fun x hx=>h3 (x, .free) hx rfl⟩,h0⟩
noncomputable def kl(sc scope:ZZ)(ρ bo:aw):Prop:= ∀p∈bo,∃(i:Nat) (x:Str) (k:aam),scope.names[p.1]?=some (x, .free)/\sc.names[i]?=some (x,k)/\(i,p.2)∈ρ
theorem b5{scope:ZZ}:kl sc scope ρ []:=fun z h=>nomatch h
theorem bJ{scope:ZZ}(j i:Nat){x:Str}{k:aam}{v:V}{bo:aw}(hj:scope.names[j]?=some (x, .free))(hi:sc.names[i]?=some (x,k))(hv:ρ.lookup i=some v)(h:kl sc scope ρ bo):kl sc scope ρ ((j,v)::bo):=fun p hp=>by
 rcases ZU.mp hp with rfl|hp
 ·exact⟨i,x,k,hj,hi,bw hv⟩
 ·exact h p hp
theorem jc{α:Type}(ls:List α)(toV:α->V)(g:α->V){elt iter:Expr}{x:Str}{kd:aam}{p:Pos}{scope:ZZ}{pos:Pos}{i:Nat}{bo:aw}
 (C:jH sc scope/\aL scope) (hx:scope.names[i]?=some (x,kd)) (hk:kd= .local\/kd= .cell) (hi:(bo.map (·.1)).contains i=false)
 (eo:kl sc scope ρ bo)
 (hit:cI w H l n sc ρ (.Name x p) iter (ls.map toV)) (h:aL scope-> ∀a∈ls,ah w H l n scope ((i,toV a)::bo) elt (g a)) (hsz:ls.length<=Z7)
 (hs:autoParam (∀env x,aaN iter env x=pure x) au):ah w H l n sc ρ (.ListComp elt [⟨.Name x p,iter,[],0⟩] scope pos) (.list (ls.map g)):=by
 have e:ls.flatMap (fun a=>[g a])=ls.map g:=adQ.symm;rw[<-e];exact wD C.1 (fun g h=>nomatch h) eo hit (fun a ha=>⟨_,true,qB hx hk hi,fun q hq=>ZP _ hq, .nil,fun z=>mu rfl (h C.2 a ha),fun h=>nomatch h⟩) (by rw[e];simpa using hsz) hs
theorem g0{α:Type}(ls:List α)(toV:α->V)(c:α->Bool)(g:α->V){elt iter t:Expr}{x:Str}{kd:aam}{p:Pos}{scope:ZZ}{pos:Pos}{i:Nat}{bo:aw}
 (C:jH sc scope/\aL scope) (hx:scope.names[i]?=some (x,kd)) (hk:kd= .local\/kd= .cell) (hi:(bo.map (·.1)).contains i=false)
 (eo:kl sc scope ρ bo)
 (hit:cI w H l n sc ρ (.Name x p) iter (ls.map toV)) (ht:aL scope-> ∀a∈ls,aM w H l n scope ((i,toV a)::bo) t (c a)) (h:aL scope-> ∀a∈ls,c a=true->ah w H l n scope ((i,toV a)::bo) elt (g a)) (hsz:ls.length<=Z7)
 (hs:autoParam (∀env x,aaN iter env x=pure x) au):ah w H l n sc ρ (.ListComp elt [⟨.Name x p,iter,[t],0⟩] scope pos) (.list ((ls.filter c).map g)):=by
 have e:ls.flatMap (fun a=>if c a then[g a] else[])=(ls.filter c).map g:=by
  induction ls with
  |nil=>rfl
  |cons a ls ih=>
   have: ∀ls:List α,ls.flatMap (fun a=>if c a then[g a] else[])=(ls.filter c).map g:=fun ls=>by
    induction ls with
    |nil=>rfl
    |cons a ls ih=>rw[aa3,ih];cases h:c a<;>simp[h]
   exact this _
 rw[<-e];refine wD C.1 (fun g h=>nomatch h) eo hit (fun a ha=>⟨_,c a,qB hx hk hi,fun q hq=>ZP _ hq,?_,fun hc=> ?_,fun hc=>by simp[hc]⟩) ?_ hs
 ·have:=iF.cons (ht C.2 a ha) fun z=>iF.nil
  rwa [acn] at this
 ·rw[if_pos hc];exact mu rfl (h C.2 a ha hc)
 ·rw[e]
  have:=aaE c ls;simp only[ZQ];exact ZW ‹_› ‹_›
theorem lT(B:ai w tk H){tg e:Expr}{p pos:Pos}{b:Int}{i:Nat}(g:bk H "range" (.type "range"))(hx:sc.names[i]?=some (("range" :Str),abo))(ht:ly tg)(h:ah w H l n sc ρ e (.int b))(hb: -(2^62)<=b)(cL:b<2^62)
 (h1:autoParam (∀env,abW pos (aa4 [e] env)=[(false,eval e env)]) au):cI w H l n sc ρ tg (.Call (.Name "range" p) [e] [] pos) ((aS 0 b).map V.int):=Kf 0 b▸Um B g hx ht h hb cL h1
theorem xS(B:ai w tk H){tg e f:Expr}{p pos:Pos}{a b:Int}{i:Nat}(g:bk H "range" (.type "range"))(hx:sc.names[i]?=some (("range" :Str),abo))(ht:ly tg)(h:ah w H l n sc ρ e (.int a))(h':ah w H l n sc ρ f (.int b))(ha: -(2^62)<=a)(lO:a<2^62)(hb: -(2^62)<=b)(cL:b<2^62)
 (h1:autoParam (∀env,abW pos (aa4 [e,f] env)=[(false,eval e env),(false,eval f env)]) au):cI w H l n sc ρ tg (.Call (.Name "range" p) [e,f] [] pos) ((aS a b).map V.int):=Kf a b▸Un B g hx ht h h' ha lO hb cL h1
theorem fo(B:ai w tk H){a:Addr}{fd:aaL}{body:List Stmt}{pars:List Str}{idx:List Nat}(F:cD w H a fd body pars idx):cF H (.ref a):=let⟨_,h1,h2⟩:=F.obj; .fn h1 F.nt h2
theorem dy{a:Addr}{fd:aaL}{body:List Stmt}{pars:List Str}{idx:List Nat}{as:List V}{v:V}{ow:Ow}(B:ai w tk H)(F:cD w H a fd body pars idx)
 (fu: ∀cs:List ZN,cs.length=pars.length->aba fd ⟨cs,[]⟩=pure (pars.zip cs)) (hlen:as.length=pars.length)
 (hb:aD w [] H l 40 fd.scope (idx.zip as) [] body (.ret v ow)):aU w H (l+1) n (.ref a) as v:=M8 B F fu hlen hb
theorem XW{α β:Type}{c:α->Bool}{f:α->β}{ls:List α}{k:Nat}(h:ls.length<=k):((ls.filter c).map f).length<=k:=by
 rw[ZQ];exact ZW (aaE c ls) h
theorem aR(i:Nat)(B:ai w tk H){x:Str}{p pos:Pos}{es:List Expr}{f:ZN}{as:List V}{v:V}(g:bk H x f)(hc:cF H f)(hx:sc.names[i]?=some (x, .globalImplicit))(ha:dX w H l n sc ρ es as)(hv:aU w H l n f as v)
 (h1:autoParam (dU es=true) au):ah w H l n sc ρ (.Call (.Name x p) es [] pos) v:=OO B g hc hx hv ha h1
theorem aU.cast{f:ZN}{as:List V}{v v':V}(h:aU w H l n f as v)(e:v=v'):aU w H l n f as v':=e▸h
theorem FO{α:Type}(ls:List α)(toV:α->V)(g:α->V){elt iter:Expr}{x:Str}{kd:aam}{p:Pos}{gens:List abv}{scope:ZZ}{pos:Pos}{d i:Nat}(hg:gens[d+1]?=some ⟨.Name x p,iter,[],0⟩)(hn:gens[d+2]?=none)
 (hx:scope.names[i]?=some (x,kd)) (hk:kd= .local\/kd= .cell) (hi:(ρ.map (·.1)).contains i=false)
 (hit:cI w H l n scope ρ (.Name x p) iter (ls.map toV)) (h: ∀a∈ls,ah w H l n scope ((i,toV a)::ρ) elt (g a)) (hs:autoParam (∀env x,aaN iter env x=pure x) au):
 oC w H l n scope ρ elt gens scope pos d (ls.map g):=by
 rw[show ls.map g=ls.flatMap (fun a=>[g a]) from adQ];exact FQ hg (fun g e=>by rw[hn] at e;cases e) hit (fun a ha=>⟨_,true,qB hx hk hi,fun q hq=>ZP _ hq, .nil,fun z=>mu hn (h a ha),fun h=>nomatch h⟩) hs
theorem rj{α β:Type}(c:α->Bool)(g:α->β): ∀ls:List α,ls.flatMap (fun a=>if c a then[g a] else[])=(ls.filter c).map g:=by
 intro rr
 induction rr with
 |nil=>
  exact rfl
 |cons a ls ih=>
  exact by rw[aa3,ih];cases h:c a<;>simp[h]
theorem FP{α:Type}(ls:List α)(toV:α->V)(c:α->Bool)(g:α->V){elt iter t:Expr}{x:Str}{kd:aam}{p:Pos}{gens:List abv}{scope:ZZ}{pos:Pos}{d i:Nat}(hg:gens[d+1]?=some ⟨.Name x p,iter,[t],0⟩)(hn:gens[d+2]?=none)
 (hx:scope.names[i]?=some (x,kd)) (hk:kd= .local\/kd= .cell) (hi:(ρ.map (·.1)).contains i=false)
 (hit:cI w H l n scope ρ (.Name x p) iter (ls.map toV)) (ht: ∀a∈ls,aM w H l n scope ((i,toV a)::ρ) t (c a)) (h: ∀a∈ls,c a=true->ah w H l n scope ((i,toV a)::ρ) elt (g a)) (hs:autoParam (∀env x,aaN iter env x=pure x) au):
 oC w H l n scope ρ elt gens scope pos d ((ls.filter c).map g):=by
 rw[<-rj];refine FQ hg (fun g e=>by rw[hn] at e;cases e) hit (fun a ha=>⟨_,c a,qB hx hk hi,fun q hq=>ZP _ hq,?_,fun hc=> ?_,fun hc=>by simp[hc]⟩) hs
 ·have:=iF.cons (ht a ha) fun z=>iF.nil
  rwa [acn] at this
 ·rw[if_pos hc];exact mu hn (h a ha hc)
theorem Up{α:Type}{toV:α->V}{g:α->V}{a:α}{elt:Expr}{x:Str}{kd:aam}{p:Pos}{gens:List abv}{scope:ZZ}{pos:Pos}{d i:Nat}{bo:aw}(hx:scope.names[i]?=some (x,kd))(hk:kd= .local\/kd= .cell)(hi:(bo.map (·.1)).contains i=false)
 (hg:gens[d+1]?=none) (h:ah w H l n scope ((i,toV a)::bo) elt (g a)):qJ w H l n scope bo (.Name x p) [] elt gens scope pos d (toV a) [g a]:=
 ⟨_,true,qB hx hk hi,fun q hq=>ZP _ hq, .nil,fun z=>mu hg h,fun h=>nomatch h⟩
set_option tactic.hygienic true in
theorem wJ{α:Type}(ls:List α)(toV:α->V)(g:α->V){elt iter:Expr}{x y:Str}{kd:aam}{p q:Pos}{scope:ZZ}{pos i0:Pos}{i j:Nat}{bo:aw}
 (C:jH sc scope/\aL scope) (hx:scope.names[i]?=some (x,kd)) (hk:kd= .local\/kd= .cell) (hi:(bo.map (·.1)).contains i=false) (eo:kl sc scope ρ bo)
 (hit:cI w H l n sc ρ (.Name x p) iter (ls.map toV)) (h:aL scope-> ∀a∈ls,ah w H l n scope ((i,toV a)::bo) elt (g a)) (hsz:ls.length<=Z7)
 (hy:sc.names[j]?=some (y, .local))
 (hw:abY (.ListComp elt [⟨.Name x p,iter,[],0⟩] scope pos) (some (.Name y q)) i0.line (da sc)=pure true) (hs:autoParam (∀env x,aaN iter env x=pure x) au):
 bV w X H l n sc ρ ow (.Assign [.Name y q] (.ListComp elt [⟨.Name x p,iter,[],0⟩] scope pos) i0) (.next (dD ρ j (.list (ls.map g))) ow):=by
 have e:ls.flatMap (fun a=>[g a])=ls.map g:=adQ.symm;rw[<-e];exact wI C.1 (fun g h=>nomatch h) eo hit (fun a ha=>Up hx hk hi rfl (h C.2 a ha)) (by rw[e];simpa using hsz) hy hw hs
set_option tactic.hygienic true in
theorem iW{a b:Int}(h0: -(2^63)<=a)(h1:a<2^63):IntMulOk a b:= .of_left (by
 unfold aad;split
 ·exact aav _
 ·rename_i h
  have h2:a.natAbs≠0:=by simpa using h
  have:a.natAbs.log2<64:=(ad9 h2).mpr (by exact(Int.le_total (0) (a)).elim (fun x2=> ">a^63#'Aa<A^64" h1 (aas (x2))) (fun x2=> "]~^63a#'A~a<A^64" h0 (aaS (x2))))
  assumption)
set_option tactic.hygienic true in
theorem wK{α:Type}(ls:List α)(toV:α->V)(f:α->List V){elt iter:Expr}{x y:Str}{kd:aam}{p q:Pos}{gs:List abv}{scope:ZZ}{pos i0:Pos}{i j:Nat}{bo:aw}
 (C:jH sc scope/\aL scope) (hn: ∀g,gs[0]?=some g->g.is_async=0) (hx:scope.names[i]?=some (x,kd)) (hk:kd= .local\/kd= .cell) (hi:(bo.map (·.1)).contains i=false) (eo:kl sc scope ρ bo)
 (hit:cI w H l n sc ρ (.Name x p) iter (ls.map toV)) (h:aL scope-> ∀a∈ls,oC w H l n scope ((i,toV a)::bo) elt (⟨.Name x p,iter,[],0⟩::gs) scope pos 0 (f a)) (hsz:(ls.flatMap f).length<=Z7)
 (hy:sc.names[j]?=some (y, .local))
 (hw:abY (.ListComp elt (⟨.Name x p,iter,[],0⟩::gs) scope pos) (some (.Name y q)) i0.line (da sc)=pure true) (hs:autoParam (∀env x,aaN iter env x=pure x) au):
 bV w X H l n sc ρ ow (.Assign [.Name y q] (.ListComp elt (⟨.Name x p,iter,[],0⟩::gs) scope pos) i0) (.next (dD ρ j (.list (ls.flatMap f))) ow):=
 wI C.1 hn eo hit (fun a ha=>⟨_,true,qB hx hk hi,fun q hq=>ZP _ hq, .nil,fun z=>h C.2 a ha,fun h=>nomatch h⟩) hsz hy hw hs
theorem u5{α:Type}(xs:List α)(a:Nat): ∀k:Nat,((aac k).map (a+ ·)).filterMap (xs[·]?)=(xs.drop a).take k:=by
 intro rr
 induction rr with
 |zero=>
  exact by simp
 |succ k ih=>
  exact by
   rw[List.range_succ,aaA,List.filterMap_append,ih,ab9]
   congr 1
   simp only[aah,List.map_nil,List.getElem?_drop];cases h:xs[a+k]?<;>simp[h]
theorem J8{α β:Type}(f:α->β)(x:List α)(a b c:Option Int):cm (x.map f) a b c=(cm x a b c).map f:=by
 unfold cm;rw[ZQ];generalize sliceRange _ _ _=is
 induction is with
 |nil=>rfl
 |cons i is ih=>
  rw[adi,adi,ih,aal];cases x[i]?<;>rfl
theorem wc(a b:Nat):max (0:Int) (min (a:Int) (b:Int))=((min a b:Nat):Int):=by rw[<-Lean.Omega.Int.ofNat_min];exact Int.max_eq_right (Z0 _)
theorem sf{α:Type}(x:List α)(a:Nat):cm x (some (a:Int)) none none=x.drop a:=by
 have e:ab4 (some (a:Int)) none none x.length=(((min a x.length:Nat):Int),(x.length:Int),1):=by
  simp only[ab4,Option.getD_none];have h1: ¬((a:Int)<0):=by exact abK.mpr (Z0 _)
  simp only[h1,if_false,show(1:Int)>0 by decide,if_true];rw[wc]
 unfold cm;rw[e];simp only[sliceRange_one,u5];rw[aaX (by simp)];rcases Nat.le_total a x.length with h|h
 ·rw[abB h]
 ·rw[adl h,acW h,acW (aab _)]
theorem yo{α:Type}(x:List α)(b:Nat):cm x none (some (b:Int)) none=x.take b:=by
 have e:ab4 none (some (b:Int)) none x.length=(((0:Nat):Int),((min b x.length:Nat):Int),1):=by
  simp only[ab4,Option.getD_none];have h2: ¬((b:Int)<0):=by exact abK.mpr (Z0 _)
  simp only[h2,if_false,show(1:Int)>0 by decide,if_true];rw[wc];rfl
 unfold cm;rw[e];simp only[sliceRange_one,u5];rw[List.drop_zero,Nat.sub_zero];rcases Nat.le_total b x.length with h|h
 ·rw[abB h]
 ·rw[adl h,aaX h,aaX (aab _)]
theorem WN{α:Type}(x:List α):cm x none none none=x:=by
 have e:ab4 none none none x.length=(((0:Nat):Int),(x.length:Int),1):=by simp[ab4]
 unfold cm;rw[e];simp only[sliceRange_one,u5];rw[List.drop_zero,Nat.sub_zero,aaX (aab _)]
theorem Am{ve se:Expr}{pos:Pos}{x:Str}{i:Int}{c:Nat}(ha:ah w H l n sc ρ ve (.str x))(hb:ah w H l n sc ρ se (.int i))(h0:0<=i)(h1:i<2^62)(hc:x.cps[i.toNat]?=some c)
 (hs:autoParam (∀t u,ac4 se false (.str x t) (.int i u)=operate [.str x t, .int i u] (getItem (.str x t) (.int i u))) au) (ht:autoParam (∀o r,letTemporaryGo ve o r=pure ()) au):ah w H l n sc ρ (.Subscript ve se pos) (.str ⟨#[c]⟩):=
 .mk fun env A s G r S Q E k=>ad1 (ha.go env A s G r S _ E fun ca s₁ G₁ af aA=>hb.go env A s₁ G₁ r (S.ext af) _ E fun cb ar aB ax bx=>by
  obtain⟨t,rfl⟩:=dC aA;obtain⟨u,rfl⟩:=aZ bx;have aV:i.toNat<x.length:=(Array.getElem?_eq_some_iff.mp hc).1;refine subscriptTail_ops (T:= "str") (typeIs_str _ _ _) F.slot_str_getitem.lookup (P.getItem_str (c:=c) ?_ ?_ (k _ _ aB ((af.trans ax).trans (ak.toks ax.inn _)) (.str _ _))) (hs t u) (ht _)
  ·rw[decide_eq_false (by exact "]0a!>a~^63" h0),decide_eq_false (by exact ">a^62!]^63a" h1)];rfl
  ·have:ad2 i x.length=some i.toNat:=by
    unfold ad2;have h3: ¬i<0:=by exact abK.mpr ‹_›
    simp only[h3,if_false];have h4:i<(x.length:Int):=by exact "<AB;1#'Aa>a'B" aV (ZV (h0))
    simp[h0,h4]
   rw[this];exact hc)
theorem ER{x y:Str}:bO w (abz .In) (.str y) (.str x) (.bool (!(abH x y 0 x.length 1).isEmpty)):=by
 intro A s G ca cb _ _ hi ra rb Q E k;obtain⟨_,rfl⟩:=dC ra;obtain⟨_,rfl⟩:=dC rb;exact P.in_str (k _ _ G (ak.refl hi) (.bool _))
theorem yc{name:Str}{id:String}{x:Str}{as:List V}{v:V}(sl:Slot "str" name id)(ty:typeOf (.builtin id)=pure (.type "method_descriptor"))(h:aU w H l n (.builtin id) (.str x::as) v):jL w H l n name (.str x) as v:=
 ⟨"str",id,F.plainAttrs_str,sl,ty,fun G s ca hi r=>by obtain⟨t,rfl⟩:=dC r;exact⟨typeIs_str _ _ _,fun b e=>nomatch e⟩,h⟩
theorem Vv{name:Str}{id:String}{x:List V}{as:List V}{v:V}(pa:PlainAttrs "list")(sl:Slot "list" name id)(ty:typeOf (.builtin id)=pure (.type "method_descriptor"))(h:aU w H l n (.builtin id) (.list x::as) v):jL w H l n name (.list x) as v:=
 ⟨"list",id,pa,sl,ty,fun G s ca hi r=>by
  obtain⟨a,vs,q,rfl,ga,ra⟩:=fX r;exact⟨(iq hi ga).typeIs,fun b e=>by cases e;exact⟨_,hi _ _ ga,rfl⟩⟩,h⟩
theorem Vu{name:Str}{id:String}{x:Int}{as:List V}{v:V}(pa:PlainAttrs "int")(sl:Slot "int" name id)(ty:typeOf (.builtin id)=pure (.type "method_descriptor"))(h:aU w H l n (.builtin id) (.int x::as) v):jL w H l n name (.int x) as v:=
 ⟨"int",id,pa,sl,ty,fun G s ca hi r=>by obtain⟨t,rfl⟩:=aZ r;exact⟨typeIs_int _ _ _,fun b e=>nomatch e⟩,h⟩
theorem Ny{x:Str}(hf:x.length<=5592405):aU w H l n (.builtin "str.upper") [.str x] (.str (abA x)):=by
 constructor;intro A s G cs r bs hi rl Q E k
 obtain⟨ca,rfl,ra⟩:=fI rl;obtain⟨_,rfl⟩:=dC ra;exact SCL.upper hf fun z=>k _ _ G (ak.toks hi _) (.str _ _)
theorem Nn{x:Str}(hf:x.length<=5592405):aU w H l n (.builtin "str.lower") [.str x] (.str (aau x)):=by
 constructor;intro A s G cs r bs hi rl Q E k
 obtain⟨ca,rfl,ra⟩:=fI rl;obtain⟨_,rfl⟩:=dC ra;exact SCL.lower hf fun z=>k _ _ G (ak.toks hi _) (.str _ _)
theorem Kz{G:GM}: ∀{xs:List Str} {vs:List ZN},aP G (xs.map V.str) vs-> ∃ys:List (Str×Tok),vs=strValues ys/\ys.map (·.1)=xs
 |[],_,h=>⟨[],h.inv0,rfl⟩
 |x::xs,_,h=>by
  obtain⟨c,r,rfl,h1,hr⟩:=h.inv;obtain⟨t,rfl⟩:=dC h1;obtain⟨ys,rfl,e⟩:=Kz hr;exact⟨(x,t)::ys,rfl,congrArg (x:: ·) e⟩
theorem Nk{x:Str}{xs:List Str}(cU:JoinOk x xs=true):aU w H l n (.builtin "str.join") [.str x, .list (xs.map V.str)] (.str (Txt.join x xs)):=by
 constructor;intro A s G cs r bs hi rl Q E k
 obtain⟨ca,cb,rfl,ra,rb⟩:=qx rl;obtain⟨t,rfl⟩:=dC ra;obtain⟨a,vs,q,rfl,ga,rb⟩:=fX rb;obtain⟨ys,rfl,he⟩:=Kz rb;exact SC.join (iq hi ga) he cU fun t' m=>k _ _ G (ak.toks hi _) (.str _ _)
theorem uK{x:Str}(hf:x.length<=5592405):jL w H l n "upper" (.str x) [] (.str (abA x)):=yc F.slot_str_upper F.type_str_upper (Ny hf)
theorem nZ{x:Str}(hf:x.length<=5592405):jL w H l n "lower" (.str x) [] (.str (aau x)):=yc F.slot_str_lower F.type_str_lower (Nn hf)
theorem yb{x:Str}{xs:List Str}(cU:JoinOk x xs=true):jL w H l n "join" (.str x) [.list (xs.map V.str)] (.str (Txt.join x xs)):=yc F.slot_str_join F.type_str_join (Nk cU)
theorem uJ{α:Type}[DecidableEq α]{f:α->V}{P:α->Prop}{d:Nat}(E:bu f P d)(hd:d<=60){a:α}{xs:List α}(pa:P a)(pb: ∀b∈xs,P b):jL w H l (n+1) "count" (.list (xs.map f)) [f a] (.int (xs.count a)):=Vv F.plainAttrs_list F.slot_list_count F.type_list_count (M3 E hd pa pb)
theorem CX{a:Int}:jL w H l n "bit_length" (.int a) [] (.int (aad a)):=Vu F.plainAttrs_int F.slot_int_bit_length F.type_int_bit_length M1
theorem av.frz{X:List Addr}{a:Addr}{ob:Obj}(I:av X H sc env ρ ow G₀ s₀ G s)(ha:s.heap.get? a=some ob)(h0:s₀.heap.get? a=none)(hX:a∉X)(hg:G a=none)(hl:a≠env.locals)(fF: ∀v,¬s.heap.IsCell a v)(IJ: ∀p∈ow',p∈ow/\p.1≠a)(dis:ow'.Pairwise fun x y=>x.1≠y.1)(ht:a∉aq):
 av X H sc env ρ ow' G₀ s₀ (bN G a ob) s:=by
 have eB:=lK (x:=ob) hg;have e:=ak.freeze I.ext ha (.inl h0) hg (.inl h0);have jk: ∀{b:Addr},G b=none->b≠a->bN G a ob b=none:=fun{b} h h'=>by unfold bN;rw[if_neg h'];exact h
 refine I.re (D:=fun b=>b=a) (fun b e=> .inl (e▸h0)) (fun b o h hb z=>⟨h,fun hg=>jk hg hb⟩) eB (fun b o e=> ?_) e.inn rfl rfl I.st.tab (fun p hp=>jk (I.st.gt p hp) fun q=>ht (q▸hp)) (I.st.loc.mono eB (fun z z h=>h) fun z h=>h) (jk I.lG hl.symm) (fun c v y e=>(fF v (e▸y)).elim) (fun b z z z e hb=>(hX (e▸hb)).elim) (fun p hp=> .inl ⟨(IJ p hp).1,fun z z z=>(IJ p hp).2⟩) dis;unfold bN at e
 by_cases q:b=a
 ·exact .inr (.inr (.inl (q▸h0)))
 ·rw[if_neg q] at e;exact .inl e
theorem av.freezeX{X:List Addr}{a:Addr}{ys:List V}{vs:List ZN}{k:Nat}(I:av X H sc env ρ ((a,ys)::ow) G₀ s₀ G s)(hX:a∉X)(hl:s.heap.get? a=some (aI vs k))(hr:aP G ys vs):
 av X H sc env ρ ow G₀ s₀ (bN G a (aI vs k)) s/\Rd (bN G a (aI vs k)) (.list ys) (.ref a):=by
 obtain⟨ga,ha,h3,_⟩:=I.own _ ZR;exact⟨I.frz hl (h3.resolve_right hX) hX ga (fun q=>by obtain⟨m,hn,_⟩:=I.st.loc;exact iS (q▸hl) hn) (fun z=>uD hl) (fun p hp=>⟨ZP _ hp,fun q=>(abi.mp I.dis).1 p hp q.symm⟩) (abi.mp I.dis).2 (ir I.st.tab hl), .list iK (mX (lK ga) hr)⟩
theorem av.freeze{a:Addr}{ys:List V}{vs:List ZN}{k:Nat}(I:av [] H sc env ρ ((a,ys)::ow) G₀ s₀ G s)(hl:s.heap.get? a=some (aI vs k))(hr:aP G ys vs):
 av [] H sc env ρ ow G₀ s₀ (bN G a (aI vs k)) s/\Rd (bN G a (aI vs k)) (.list ys) (.ref a):=I.freezeX (fun h=>nomatch h) hl hr
theorem av.renamed{X:List Addr}{i:Nat}{u v:V}(I:av X H sc env ρ ow G₀ s₀ G s)(h:(i,u)∈ρ)(hv: ∀cv,Rd G u cv->Rd G v cv):av X H sc env ((i,v)::ρ) ow G₀ s₀ G s:=by
 obtain⟨m,hn,hh⟩:=I.st.loc;refine⟨⟨I.st.base,I.st.inn,I.st.envIs,⟨m,hn,fun p hp=> ?_⟩,I.st.cis,I.st.tab,I.st.gt,I.st.hl⟩,I.ext,I.base₀,I.lnew,I.lG,I.cnew,I.cis,I.cell,I.ckeys,I.xs,I.apart,I.own,I.dis⟩;rcases ZU.mp hp with rfl|hp
 ·obtain⟨x,kd,h1,h2⟩:=hh _ h
  refine⟨x,kd,h1,?_⟩;rcases h2 with⟨h3,cv,h4,h5⟩|⟨h3,c,cv,h4,h5,h6⟩
  ·exact .loc h3 _ h4 (hv _ h5)
  ·exact .cel h3 c _ h4 h5 (hv _ h6)
 ·exact hh p hp
theorem av.named{X:List Addr}{a:Addr}{i:Nat}(I:av X H sc env ρ ow G₀ s₀ G s)(h:(i, .at a)∈ρ){v:V}(hv:Rd G v (.ref a)):av X H sc env ((i,v)::ρ) ow G₀ s₀ G s:=I.renamed h fun cv r=>fe r▸hv
theorem oQ{i:Nat}{a:Addr}{ys:List V}{ss:List Stmt}(hm:(i, .at a)∈ρ)(h:aD w [] H l n sc ((i, .list ys)::ρ) ow ss o):aD w [] H l n sc ρ ((a,ys)::ow) ss o:= .mk fun env A G₀ s₀ G s Q E q r I k=>by
 obtain⟨_,_,_,vs,k',hl,hr⟩:=I.own _ ZR;obtain⟨I',mO⟩:=I.freeze hl hr;exact h.go env A G₀ s₀ _ s Q E q r (I'.named hm mO) k
noncomputable def V.scal:V->Bool
 | .none| .bool _| .int _| .flt _| .str _| .ty _| .bi _| .at _=>true
 | .list _| .tup _| .obj _| .hdr _=>false
theorem sr{v:V}(h:v.scal=true){cv:ZN}(r:Rd G v cv):Rd G' v cv:=by
 cases r with
 |none=>exact .none
 |bool b=>exact .bool b
 |int i t=>exact .int i t
 |flt x t=>exact .flt x t
 |str x t=>exact .str x t
 |list _ _=>cases h
 |tup _ _=>cases h
 |ty n=>exact .ty n
 |bi n=>exact .bi n
 |«at» a=>exact .at a
 |obj _=>cases h
 |hdr _ _ _=>cases h
noncomputable def kH(G:GM)(a:Addr):GM:=fun b=>if b=a then none else G b
theorem Hk{a b:Addr}{x:Obj}(h:kH G a b=some x):G b=some x/\b≠a:=by
 unfold kH at h
 by_cases e:b=a
 ·rw[if_pos e] at h;cases h
 ·rw[if_neg e] at h;exact⟨h,e⟩
theorem av.thaw{a:Addr}{ys:List V}{vs:List ZN}{k:Nat}{Gy:GM}(I:av [] H sc env ρ ow G₀ s₀ G s)(hg:G a=some (aI vs k))(tP:G₀ a=none)(hH: ∀o,H.get? a≠some o)(kN:s₀.heap.get? a=none)(hs:ρ.all (fun p=>p.2.scal)=true)(hd:ow=[])
 (hr:aP Gy ys vs) (hy: ∀b x,Gy b=some x->G b=some x) (Tv:Gy a=none):av [] H sc env ρ [(a,ys)] G₀ s₀ (kH G a) s:=by
 subst hd;have hl:=I.st.inn _ _ hg;obtain⟨m,hn,hv⟩:=I.st.loc;have jk: ∀{b:Addr},G b=none->kH G a b=none:=fun{b} h=>by
  unfold kH
  by_cases e:b=a
  ·rw[if_pos e]
  ·rw[if_neg e];exact h
 have dk:bS (kH G a) s:=fun b x e=>I.st.inn b x (Hk e).1
 refine⟨⟨I.st.base,dk,I.st.envIs,⟨m,hn,fun p hp=> ?_⟩,I.st.cis,I.st.tab,fun p hp=>jk (I.st.gt p hp),fun b us q' e'=>by unfold kH;rw[if_neg (fun q=>hH _ (q▸e'))];exact I.st.hl b us q' e'⟩,⟨fun b x e=> ?_,fun b x e=>I.ext.new b x (Hk e).1,dk,I.ext.keep,I.ext.gens,I.ext.os,I.ext.tab,fun z z p hp=>jk (I.st.gt p hp)⟩,I.base₀,I.lnew,jk I.lG,fun x c h1 h2=>⟨(I.cnew x c h1 h2).1,jk (I.cnew x c h1 h2).2⟩,I.cis,I.cell,I.ckeys,fun b hb=>(nomatch hb),I.apart,fun p hp=> ?_,aeZ _ _⟩
 ·obtain⟨x,kd,h1,h2⟩:=hv p hp
  refine⟨x,kd,h1,?_⟩;have:=Z3.mp hs p hp;rcases h2 with⟨h3,cv,h4,h5⟩|⟨h3,c,cv,h4,h5,h6⟩
  ·exact .loc h3 cv h4 (sr this h5)
  ·exact .cel h3 c cv h4 h5 (sr this h6)
 ·unfold kH
  rw[if_neg (fun q=>by rw[q,tP] at e;cases e)];exact I.ext.sub b x e
 ·rw[Z4.mp hp]
  refine⟨by unfold kH;rw[if_pos rfl],hH, .inl kN,vs,k,hl,mX (fun b x e=> ?_) hr⟩;unfold kH;rw[if_neg (fun q=>by rw[q,Tv] at e;cases e)];exact hy b x e
set_option tactic.hygienic true in
theorem Ap{i:Nat}{a:Addr}{ys:List V}{st:Stmt}(hm:(i, .at a)∈ρ)(h:bV w [] H l n sc ((i, .list ys)::ρ) [] st (.next ρ' []))(hs:ρ'.all (fun p=>p.2.scal)=true):bV w [] H l n sc ρ [(a,ys)] st (.next ρ' [(a,ys)]):= .mk fun env A G₀ s₀ G s Q E q r I k=>by
 obtain⟨ga,ha,h3,vs,k',hl,hr⟩:=I.own _ ZR;have kN:s₀.heap.get? a=none:=h3.resolve_right (fun h=>nomatch h);have tP:G₀ a=none:=by
  cases e:G₀ a with
  |none=>rfl
  |some x=>rw[I.ext.sub a x e] at ga;cases ga
 obtain⟨I',mO⟩:=I.freeze hl hr;refine h.go env A (bN G a (aI vs k')) _ _ s Q E q r (I'.named hm mO).anchor fun f G' s' ok=> ?_
 obtain⟨rfl,bf⟩:=ok;have b0:=I'.back bf;have xr:G' a=some (aI vs k'):=bf.ext.sub _ _ iK;refine k .next _ s' ⟨rfl,b0.thaw xr tP ha kN hs rfl hr (fun b x e=>bf.ext.sub b x (lK ga b x e)) ga⟩
noncomputable def oL(X:List Addr)(H:Heap)(G:GM)(s:ZL):Prop:= ∀a∈X,s6 H G s a
noncomputable def oH(X:List Addr)(G:GM)(s:ZL)(ow:Ow):Prop:=(∀p∈ow,p.1∈X/\ ∃vs k,s.heap.get? p.1=some (aI vs k)/\aP G p.2 vs)/\ow.Pairwise fun x y=>x.1≠y.1
noncomputable def iE(w:Z2)(H:Heap)(l n:Nat)(X:List Addr)(f:ZN)(kw:List (Str×ZN))(as:List V)(ow:Ow)(v:V)(ow':Ow):Prop:=
 ∀(A:aaj) (s:ZL) (G:GM) (cs:List ZN),bW A l n->Bs H G s->bS G s->aP G as cs->oL X H G s->oH X G s ow->
  ∀(R:adE->ZL->Prop),(∀cv s' G',ak (X++aq) G s G' s'->Rd G' v cv->oL X H G' s'->oH X G' s' ow'->R (.ok (.ret cv)) s')->codeAny (Z8 PW w) A (.call f ⟨cs,kw⟩) R s
set_option tactic.hygienic true in
noncomputable def ym:aW->Ow
 | .ret _ ow=>ow
 | .next _ ow=>ow
structure jI(w:Z2)(H:Heap)(a:Addr)(fd:aaL)(body:List Stmt)(ρf:aw):Prop where
 obj: ∃o,H.get? a=some o/\o.data= .func fd
 cod: ∃c o vs t,fd.code= .ref c/\c∉aq/\H.get? c=some o/\o.data= .fields vs/\vs[1]?=some (.str fd.qualname t)
 nt:a∉aq
 body:fd.body= .stmts body
 glob:fd.globals=aaI
 blt:fd.builtins=acx
 co:fd.scope.isCoroutine=false
 gen:fd.scope.isGenerator=false
 kind:fd.scope.kind= .function
 nd:(fd.scope.names.map (·.1)).Nodup
 noc: ∀x∈fd.scope.names,x.2≠ .cell
 free: ∀x,(x,abd)∈fd.scope.names->(fd.closure.lookup x).isSome=true
 ckeys:(fd.closure.map (·.1)).Nodup
 apart:fd.closure.Pairwise fun x y=>x.2≠y.2
 cells: ∀x c,(x,c)∈fd.closure->c∉aq/\ ∃v,H.IsCell c v
 rf: ∀p∈ρf,∃x c cv,fd.scope.names[p.1]?=some (x, .free)/\fd.closure.lookup x=some c/\H.IsCell c (some cv)/\ ∀G,Hl H G->Rd G p.2 cv
noncomputable def i6(w:Z2)(H:Heap)(sc:ZZ)(fd:aaL)(kw:List (Str×ZN))(as:List V)(jG:aw):Prop:=
 ∀(A:aaj) (s:ZL) (G:GM) (cs:List ZN),Bs H G s->bS G s->aP G as cs-> ∀(Q:List (Str×ZN)->ZL->Prop) (E:ZN->ZL->Prop),
  (∀binds s' G',ak aq G s G' s'->(∀x∈binds,sc.names.lookup x.1=some .local)->(∀p∈jG,∃x cv,sc.names[p.1]?=some (x, .local)/\binds.reverse.lookup x=some cv/\Rd G' p.2 cv)->Q binds s')->Z6 (Z8 PW w) A (aba fd ⟨cs,kw⟩) Q E s
theorem oL.ext(h:oL X H G s)(t:bY s.heap)(x:ak aq G s G' s'):oL X H G' s':=fun a ha=>by
 obtain⟨h1,h2,vs,k,h4⟩:=h a ha;have:=ir t h4;exact⟨h1,x.none h2 h4 this,vs,k,x.keep _ _ h4 this⟩
theorem oH.ext(h:oH X G s ow)(t:bY s.heap)(x:ak aq G s G' s'):oH X G' s' ow:=⟨fun p hp=>by
 obtain⟨h1,vs,k,h4,h5⟩:=h.1 p hp;exact⟨h1,vs,k,x.keep _ _ h4 (ir t h4),mX x.sub h5⟩,h.2⟩
set_option tactic.hygienic true in
theorem oW{a:Addr}{fd:aaL}{body:List Stmt}{kw:List (Str×ZN)}{as:List V}{jG ρf:aw}(B:ai w tk H)(F:jI w H a fd body ρf)(fu:i6 w H fd.scope fd kw as jG)
 (hb:aD w X H l 40 fd.scope (jG++ρf) ow body o) (IH: ∀p∈ym o,p.1∈X):iE w H (l+1) n X (.ref a) kw as ow (Dh o) (ym o):=fun A s G cs r bs hi rl hX hO R k=>by
 refine gz fun zq zk=> ?_
 obtain⟨ob,jl,pD⟩:=F.obj;obtain⟨c,oc,vs,t,ic,jh,gy,kJ,mE⟩:=F.cod;refine zk ?_;refine codeAny_call_function (fd:=fd) (by have:=r.depth;show A.depth<1000;exact "[+A+B1_600<A1000" this) (bs.base _ _ jl F.nt) pD F.co F.gen F.body ⟨c,oc,vs,t,ic,bs.base _ _ gy jh,kJ,mE⟩ ?_;refine fu A.in1 s G cs bs hi rl _ _ fun binds s₁ G₁ af BQ dZ=> ?_
 have ku:Bs H G₁ s₁:=⟨fun b o e hb=>af.keep _ _ (bs.base _ _ e hb) hb,af.tab bs.tab,af.gt bs.tab bs.gt,fun a vs k e=>af.sub _ _ (bs.hl a vs k e)⟩;refine wpAny_newFunctionEnv F.noc BQ (fun h' gF fG=> ?_) F.kind;have cO: ∀b o,s₁.heap.get? b=some o->h'.get? b=some o:=fun b o e=>fG.extBut b o (abV (aa1 e)) (Z9 _ e)
 have ax:ak aq G₁ s₁ G₁ {s₁ with heap:=h',toks:=s₁.toks+binds.length}:=ak.grown af.inn _ cO;have lY:=ku.tab;have x:=af.trans ax;refine⟨uy B.nolimit fun b o e hb=>cO _ _ (ku.base _ _ e hb),codeAny_func ?_⟩;have Bk:s.heap.get? s₁.heap.objs.size=none:=jA af lY (ct (aab _));have Bj:G₁ s₁.heap.objs.size=none:=cY af.inn (ct (aab _))
 have b7: ∀y d,fd.closure.lookup y=some d->d∉aq/\ ∃v,H.IsCell d v:=fun y d h=>F.cells y d (mem_of_lookup h)
 have jU: ∀y d,fd.closure.lookup y=some d-> ∃v,h'.IsCell d v:=fun y d h=>by
  obtain⟨h1,v,q,h2,h3⟩:=b7 y d h;exact⟨v,q,cO _ _ (ku.base _ _ h2 h1),h3⟩
 have mr:qG (callEnv fd s₁.heap.objs.size a) fd.scope:=⟨F.kind,fun z h=>h,fun z h=>h,fun z h=>h,fun z h=> .inr h,F.glob,F.blt,F.nd,
  fun x h=>h.elim (fun h=>absurd rfl (F.noc _ (mem_of_lookup h))) fun h=>F.free x (mem_of_lookup h),F.apart,fun x c h=>j5 F.ckeys h⟩
 refine hb.go (callEnv fd s₁.heap.objs.size a) _ G s G₁ _ _ _ rfl ⟨r.hd,by have:=r.depth;show A.depth+1+l<=600;exact "[+A+B1_600[++A1B600" this,by have:=r.units;show A.units+3+100*l+2*40<=9000;exact "[++A*100+B1*2C9000[+++A3*100B80_9000" this⟩
  ⟨⟨fun b q e hb=>cO _ _ (ku.base b q e hb),x.inn,mr,⟨_,gF,fun p hp=> ?_⟩,jU,x.tab bs.tab,x.gt bs.tab bs.gt,fun a vs k e=>x.sub _ _ (bs.hl a vs k e)⟩,
   x.wide fun a h=>abP _ h,bs.base,Bk,Bj,fun y d h1 h2=>absurd rfl (F.noc _ (mem_of_lookup h2)),jU,fun{i y kd} h1 h2=>absurd h2 (F.noc _ (aag h1)),fun y d h=>j5 F.ckeys h,
   hX.ext bs.tab x,F.apart,fun p hp=> ?_,hO.2⟩ fun f G' s' ok=> ?_
 ·rcases aaw.mp hp with hp|hp
  ·obtain⟨y,cv,h1,h2,h3⟩:=dZ p hp
   exact⟨y,_,h1, .loc (gJ h1 F.nd) cv h2 h3⟩
  ·refine gz fun zq zk=> ?_
   obtain⟨y,c,cv,h1,h2,h3,h4⟩:=F.rf p hp;obtain⟨h5,_⟩:=b7 y c h2;obtain⟨q,h6,h7⟩:=h3;refine zk ?_;exact⟨y,_,h1, .cel (.inr (gJ h1 F.nd)) c cv h2 ⟨q,cO _ _ (ku.base _ _ h6 h5),h7⟩ (h4 _ ku.hl)⟩
 ·obtain⟨h1,vs,kk,h4,h5⟩:=(hO.ext bs.tab x).1 p hp
  obtain⟨h6,h7,_⟩:=(hX.ext bs.tab x) p.1 h1;exact⟨h7,h6, .inr h1,vs,kk,h4,h5⟩
 ·have fin: ∀{i5:aw} {gM:Ow},av X H fd.scope (callEnv fd s₁.heap.objs.size a) i5 gM G s G' s'->oL X H G' s'/\((∀p∈gM,p.1∈X)->oH X G' s' gM):=fun{i5 gM} I=>
   ⟨fun b hb=>I.xs b hb,fun hx=>⟨fun p hp=>by obtain⟨_,_,_,vs,kk,h4,h5⟩:=I.own p hp;exact⟨hx p hp,vs,kk,h4,h5⟩,I.dis⟩⟩
  cases o with
  |next ρ' ow'=>
   obtain⟨rfl,I'⟩:=ok;exact k .none s' G' I'.ext .none (fin I').1 ((fin I').2 IH)
  |ret v ow'=>
   obtain⟨cv,rfl,h1,I'⟩:=ok;exact k cv s' G' I'.ext h1 (fin I').1 ((fin I').2 IH)
theorem iE.ca{f:ZN}{as:List V}{v:V}(h:iE w H l n [] f [] as [] v []):aU w H l n f as v:= .mk fun A s G cs r bs hi rl Q E k=>
 ac6 (h A s G cs r bs hi rl (fun z h=>nomatch h) ⟨fun z h=>(nomatch h),ada⟩ _ fun cv s' G' x rd z z=>k cv s' G' x rd)
theorem av.extD{D:Addr}{ys ys':List V}{vs:List ZN}{k:Nat}(I:av X H sc env ρ ((D,ys)::ow) G₀ s₀ G s)(x:ak ([D]++aq) G s G' s')(hg:G' D=none)(hl:s'.heap.get? D=some (aI vs k))(hr:aP G' ys' vs):
 av X H sc env ρ ((D,ys')::ow) G₀ s₀ G' s':=by
 obtain⟨gD,hH,h3,us,q,hD,_⟩:=I.own _ ZR;have ht:=I.st.tab;have mm: ∀{b},b∈[D]++aq->b=D\/b∈aq:=fun h=>(aaw.mp h).imp Z4.mp id
 have fF: ∀c u,s.heap.IsCell c u->c≠D:=fun c u y e=>uD hD (e▸y)
 have kp: ∀b o,s.heap.get? b=some o->b≠D->b∉aq->s'.heap.get? b=some o/\(G b=none->G' b=none):=fun b o e h1 h2=>have h:=fun h=>(mm h).elim h1 h2;⟨x.keep b o e h,fun hg=>x.none hg e h⟩
 have kn: ∀m o,s.heap.Ns env.locals m->s.heap.get? env.locals=some o->s'.heap.get? env.locals=some o/\(G env.locals=none->G' env.locals=none):=fun m o y e=>kp _ o e (fun e=>iS (e▸hD) y) (jz ht y)
 refine I.re (D:=fun b=>b=D) (fun b e=>e▸h3) kp x.sub (fun b o e=>(x.new b o e).imp id fun h=>h.imp id fun h=>(mm h).elim (fun h=> ?_) fun h=> .inr (abP _ h)) x.inn x.gens x.os (x.tab ht) (x.gt ht I.st.gt)
  (I.st.loc.mono x.sub (fun c v y=>v7 (fun o e=>(kp c o e (fF c v y) (nD ht y)).1) y) fun m y=>yj (fun o e=>(kn m o y e).1) y) ?_
  (fun c v y e=>(fF c v y e).elim) (fun b z z z e z=>by subst e;exact⟨hH,hg,vs,k,hl⟩) (fun p hp=>(ZU.mp hp).elim (fun e=>by subst e;exact .inr ⟨hg,hH,h3,vs,k,hl,hr⟩) fun hp=> .inl ⟨ZP _ hp,fun z z z e=>(abi.mp I.dis).1 p hp e.symm⟩) (abi.mpr (abi.mp I.dis))
 ·obtain⟨m,⟨o,es,ep,ho,r⟩,_⟩:=I.st.loc
  exact(kn m o ⟨o,es,ep,ho,r⟩ ho).2 I.lG
 ·rw[h,hg] at e;cases e
theorem av.xok{D:Addr}{ys:List V}(I:av X H sc env ρ ((D,ys)::ow) G₀ s₀ G s):oL [D] H G s/\oH [D] G s [(D,ys)]:=by
 refine gz fun zq zk=> ?_
 obtain⟨gD,hH,h3,us,q,hD,hr⟩:=I.own _ ZR;refine zk ?_;exact⟨fun a ha=>by rw[Z4.mp ha];exact⟨hH,gD,us,q,hD⟩,fun p hp=>by rw[Z4.mp hp];exact⟨ach _,us,q,hD,hr⟩,aeZ _ _⟩
theorem F3{x:Str}{p pos:Pos}{es:List Expr}{F:Addr}{as:List V}{v:V}(hf:ah w H l n sc ρ (.Name x p) (.at F))(hc:cF H (.ref F))(ha:dX w H l n sc ρ es as)(hv:aU w H l n (.ref F) as v)(h1:autoParam (dU es=true) au):
 ah w H l n sc ρ (.Call (.Name x p) es [] pos) v:= .mk fun env A s G r S Q E k=>
 aaZ (hf.go env A s G r S _ E fun cf s₁ G₁ af aA=>by
  obtain rfl:=fe aA
  ·exact ml hc (dE h1).2 (jB (dE (pos:=pos) (env:=env) h1).1).1 (ha.go env A s₁ G₁ pos r (S.ext af) _ E fun cs ar aB ax bx=>⟨((S.ext af).ext ax).base,hv.go A ar aB cs r ((S.ext af).ext ax).bs ax.inn bx Q E fun cv bj bI bL dT=>k cv bj bI ((af.trans ax).trans bL) dT⟩))
set_option tactic.hygienic true in
theorem F6{D:Addr}{ys ys':List V}{x:Str}{p pos pos':Pos}{es:List Expr}{F:Addr}{as:List V}{v:V}(hf:ah w H l n sc ρ (.Name x p) (.at F))(hc:cF H (.ref F))(ha:dX w H l n sc ρ es as)(hv:iE w H l n [D] (.ref F) [] as [(D,ys)] v [(D,ys')])(h1:autoParam (dU es=true) au):
 bV w X H l n sc ρ ((D,ys)::ow) (.Expr (.Call (.Name x p) es [] pos) pos') (.next ρ ((D,ys')::ow)):= .mk fun env A G₀ s₀ G s Q E q r I k=>by
 refine adm (aaZ (hf.go env A s G r I.st _ E fun cf s₁ G₁ af aA=> ?_)) (by unfold adt;rw[I.st.envIs.kind];rfl) rfl;obtain rfl:=fe aA
 ·
  have aE:=I.ext' af;refine ml hc (dE h1).2 (jB (dE (pos:=pos) (env:=env) h1).1).1 (ha.go env A s₁ G₁ pos r aE.st _ E fun cs ar aB ax bx=> ?_);have bf:=aE.ext' ax;obtain⟨xo,oo⟩:=bf.xok;refine⟨bf.st.base,ac6 (hv A ar aB cs r bf.st.bs ax.inn bx xo oo _ fun cv bj bI bL dT vu uZ=> ?_)⟩;obtain⟨_,vs,k',hl,hr⟩:=uZ.1 _ ZR;exact k .next bI bj ⟨rfl,bf.extD bL (vu D ZR).2 hl hr⟩
theorem zv{fd:aaL}{pars:List Str}{idx:List Nat}{as:List V}(hp:mf sc pars idx)(nd:(sc.names.map (·.1)).Nodup)(lQ: ∀x∈sc.names,x.2≠acm)(Ce:pars.Nodup)(fu: ∀cs:List ZN,cs.length=pars.length->aba fd ⟨cs,[]⟩=pure (pars.zip cs))(hlen:as.length=pars.length):i6 w H sc fd [] as (idx.zip as):=
 fun A s G cs bs hi rl Q E k=>by
  have b7:cs.length=pars.length:=rl.length.symm.trans hlen;rw[fu cs b7];refine ZS (k _ s G (ak.refl hi) (fun x hx=> ?_) fun p jm=> ?_)
  ·obtain⟨i,kd,h1,h2⟩:=hp.kinds x hx
   rcases h2 with rfl|rfl
   ·exact gJ h1 nd
   ·exact absurd rfl (lQ _ (aag h1))
  ·obtain⟨x,kd,cv,h1,h2,h3,h4⟩:=hp.get rl b7.symm p jm
   rcases h2 with rfl|rfl
   ·refine⟨x,cv,h1,?_,h4⟩
    have eR:(((pars.zip cs).reverse).map (·.1)).Nodup:=by rw[List.map_reverse,List.map_fst_zip (by simp[*])];exact(List.reverse_perm pars).nodup_iff.mpr Ce
    have: ∀{l:List (Str×ZN)} {x:Str} {c:ZN},(l.map (·.1)).Nodup->(x,c)∈l->l.lookup x=some c:=fun{l x c}=>by
     induction l with
     |nil=>intro _ h;cases h
     |cons q r ih=>
      obtain⟨y,d⟩:=q;intro nd h;rw[aah,abC] at nd;rw[acC];rcases ZU.mp h with e|h
      ·cases e;rw[beq_self_eq_true]
      ·rw[beq_eq_false_iff_ne.mpr (fun e:x=y=>nd.1 (e▸Z1.mpr ⟨_,h,rfl⟩))]
       exact ih nd.2 h
    exact this eR (List.mem_reverse.mpr h3)
   ·exact absurd rfl (lQ _ (aag h1))
theorem JA(vs:List ZN)(q:Nat)(f:Array ZN->Array ZN): ∃q',Obj.mapSeq f (aI vs q)=aI (f vs.toArray).toList q':=by
 obtain⟨q',h⟩:=Obj.data_mapSeq (o:=aI vs q) rfl f;exact⟨q',by
  have h1:(Obj.mapSeq f (aI vs q)).cls= .type "list" :=Obj.cls_mapSeq ..;revert h h1;unfold Obj.mapSeq aI;simp only;intro h h1;simp only[Obj.mk.injEq];exact⟨trivial,trivial,by simpa using h,trivial⟩⟩
theorem WY{a:Addr}{vs:List ZN}{q:Nat}{k:Int}{t:Tok}{v:ZN}{A:aaj}{Q:Unit->ZL->Prop}{E:ZN->ZL->Prop}(hl:s.heap.get? a=some (aI vs q))(h0:0<=k)(hn:k<vs.length)(hf:k<2^63)
 (hQ: ∀h' q',abp a s.heap h'->h'.get? a=some (aI (vs.set k.toNat v) q')->Q () {s with heap:=h'}):Z6 (Z8 PW w) A (setItem (.ref a) (.int k t) v) Q E s:=by
 have hT:s.TypeIs (.ref a) "list" :=⟨_,hl,rfl⟩;have aV:k.toNat<vs.length:=by simp[*]
 have Bq:vs.toArray[k.toNat]?=some (vs[k.toNat]'aV):=by simp
 obtain⟨q',hq⟩:=JA vs q (·.setIfInBounds k.toNat v);have dB:(s.heap.update a (Obj.mapSeq (·.setIfInBounds k.toNat v))).get? a=some (aI (vs.set k.toNat v) q'):=by
  rw[acY _ hl (by rw[hq];rfl),hq];simp
 have Ib:=hQ _ q' (acP ..) dB;unfold setItem;refine aaV (ZO (wpAny_sequenceKey hT (by decide) ?_));refine ZO (wpAny_callSpecial?_slot (name:=Str.ofString "__setitem__") hT slot_list_setitem (aep slot_list_setitem hT entry_list_setitem ?_ (args_list_setitem _ _ _)));show Z6 _ _ (Builtin.List.listSubscript? (.int k t)>>=_) _ _ s
 refine ZO (wpAny_listSubscript_int (fitsIndex_of h0 hf) ?_);obtain⟨j,rfl⟩:=adh h0;show Z6 _ _ ((seqItemAt a j>>=fun r=>pure (r.map (j,·)))>>=_) _ _ s
 refine ZO (ZO (wpAny_seqItemAt hl rfl (ZS ?_)));rw[show vs.toArray[j]?=some (vs[j]'aV) from Bq];show Z6 _ _ (setSeqItemAt a j v>>=_) _ _ s
 refine ZO (wpAny_setSeqItemAt hl rfl ?_)
 first
  |exact ZO (ZS (ZS ⟨.none,rfl,ZS Ib⟩))
  |exact ZS ⟨.none,rfl,ZS Ib⟩
theorem aP.set{G:GM}{x:List V}{vs:List ZN}{v:V}{cv:ZN}(r:aP G x vs)(h:Rd G v cv): ∀i:Nat,aP G (x.set i v) (vs.set i cv):=by
 induction x generalizing vs with
 |nil=>cases r;intro i;exact .nil
 |cons a x ih=>
  cases r with
  |cons r1 r2=>
   intro i;cases i with
   |zero=>exact .cons h r2
   |succ i=>exact .cons r1 (ih r2 i)
set_option tactic.hygienic true in
theorem Pm{D:Addr}{ys:List V}{k:Int}{v:V}{oe ie e:Expr}{p pos:Pos}(he:ah w H l n sc ρ e v)(ho:ah w H l n sc ρ oe (.at D))(hi:ah w H l n sc ρ ie (.int k))(h0:0<=k)(hn:k<ys.length)(hf:k<2^63)
 (hs:autoParam (∀env:Env,abY e (some (.Subscript oe ie p)) pos.line env=pure false) au):bV w X H l n sc ρ ((D,ys)::ow) (.Assign [.Subscript oe ie p] e pos) (.next ρ ((D,ys.set k.toNat v)::ow)):= .mk fun env A G₀ s₀ G s Q E q r I kk=>by
 refine wpAny_Assign_Subscript (he.go env A s G r I.st _ E fun cv s₁ G₁ af aA=> ?_) (hs env);have aE:=I.ext' af;refine ho.go env A s₁ G₁ r aE.st _ E fun ca ar aB ax bx=> ?_
 have bf:=aE.ext' ax;refine hi.go env A ar aB r bf.st _ E fun ci bj bI bL dT=> ?_
 have b0:=bf.ext' bL;obtain rfl:=fe bx
 ·
  obtain⟨t,rfl⟩:=aZ dT;obtain⟨_,_,_,vs,k',hl,hr⟩:=b0.own _ ZR;have hlen:=hr.length;refine WY hl h0 (by simp only at hlen;exact ">a'A=AB>a'B" hn hlen) hf fun h' q' fG hg=> ?_
  exact kk .next bI _ ⟨rfl,b0.append (k:=q') (zs:=ys.set k.toNat v) (cs:=vs.set k.toNat cv) (aP.set hr (cN bL.sub (cN ax.sub aA)) _) fG hg (tk':=bj.toks)⟩
theorem Vk{A:aaj}{E:ZN->ZL->Prop}{Q:ZN->ZL->Prop}{c P:Addr}{mg:Str->Option ZN}{qual name:Str}{params:Arguments}{body:List Stmt}{scope:ZZ}{pos:Pos}{q:Str×Addr}{cl:List (Str×Addr)}
 (b7:closureFor scope env=pure (q::cl)) (nO:env.globals=aaI) (hg:s.heap.Ns aaI mg) (xk:env.code= .ref c) (C:CodeHd s.heap c P) (hP:P∈aq) (RS:aaI∉aq) (h4:(4:Addr)∉aq) (hb:mg "__builtins__" =some (.ref 4)) (Rl:s.heap.get? 4=some {cls:= .type "module",dict:=some 0,data:= .plain,slots:= #[]})
 (ht:bY s.heap) (hw:pos.line=(fZ P).1.line/\pos.col=(fZ P).1.col) (hq:qual=(fZ P).2) (Bx:docOf body=none)
 (k: ∀c' eN h' tk',(∀b o,s.heap.get? b=some o->b∉aq->h'.get? b=some o)->bY h'->(c'∉aq/\ ∃o b8 t,h'.get? c'=some o/\o.data= .fields b8/\b8[1]?=some (.str qual t))->
  Q (.ref h'.objs.size) {s with heap:=h'.push {cls:= .type "function",data:= .func (fnX name qual params body scope (q::cl) .none .none .none ((mg "__name__").getD .none) none (.ref c') eN)},toks:=tk'}):
 Z6 (Z8 PW w) A (makeFunction name qual params (.stmts body) scope env [] [] [] pos pos.line) Q E s:=by
 obtain⟨ps,fw,SO⟩:=ht P hP;rw[makeFunction_eq,List.zip_nil_right];show Z6 _ A (makeTail name qual params (.stmts body) scope env .none .none none pos pos.line) Q E s
 unfold makeTail;rw[b7,nO];refine ZO (ZS (ady rfl (ZO (wpAny_newTextTuple ?_))));generalize Zz:({cls:= .type "tuple",data:= .seq (List.map (fun x=>adf x.2) ((q::cl).mergeSort fun a b=>decide (a.1.cps.toList<=b.1.cps.toList))).toArray}:Obj)=oT;have fU: ∀b o,s.heap.get? b=some o->(s.heap.push oT).get? b=some o:=fun b o e=>Z9 _ e
 have Bo:(s.heap.push oT).get? P=some (tabObj ps):=fU _ _ fw;have fin: ∀(c':Addr) (eN:ZN) (h':Heap) (tk':Nat),(∀b o,(s.heap.push oT).get? b=some o->b∉aq->h'.get? b=some o)->bY h'->(c'∉aq/\ ∃o b8 t,h'.get? c'=some o/\o.data= .fields b8/\b8[1]?=some (.str qual t))->
  Z6 (Z8 PW w) A (do
   let bs<-builtinsFor aaI env.builtins
   let nm<-nsGet aaI "__name__"
   let d<-(match docOf body with|some s=>mkText s|none=>pure .none)
   newObj (.type "function") (.func {name,qualname:=qual,params,body:= .stmts body,scope,globals:=aaI,closure:=q::cl,closureTuple:=eN,code:= .ref c',builtins:=bs,defaults:= .none,kwdefaults:= .none,annotations:=none,pyModule:=nm.getD .none,doc:=d})) Q E {s with heap:=h',toks:=tk'}:=fun c' eN h' tk' hk hT hc=>by
  have xr:h'.Ns aaI mg:=yj (fun o ho=>hk _ _ (fU _ _ ho) RS) hg;refine ZO (wpAny_builtinsFor xr hb (by decide) (hk _ _ (fU _ _ Rl) h4) rfl rfl rfl ?_);refine ZO (wpAny_nsGet xr ?_);rw[Bx];exact ZO (ZS (adb (k c' eN h' tk' (fun b o e cL=>hk _ _ (fU _ _ e) cL) hT hc) (by size_fits)))
 rcases SO with rfl|⟨c₀,Ww,b8,t,rfl,Rn,pI,Zp,cw,RJ⟩
 ·refine ZO (wpAny_functionCodeX xk ((C.keeps fU).code Bo trivial) ((C.keeps fU).tab Bo) rfl fun c' h' tk' hx nO aV y Cg jo tX=> ?_)
  refine gz fun zq zk=> ?_
  obtain⟨c₂,JZ,b8,t,e2,g2,d2,f2⟩:=Cg;cases e2;obtain⟨P',Zo,_,⟨ZH,us,g3,zY,d3,_⟩,_⟩:=tX;refine zk ?_;rw[g2] at g3;cases g3;have cO: ∀b o,(s.heap.push oT).get? b=some o->b∉aq->h'.get? b=some o:=fun b o e cL=>hx b o (fun e'=>cL (e'▸hP)) e
  have HX:c'∉aq:=fun h=>by
   obtain⟨KS,h1,_⟩:=ht c' h;have:=aa1 (fU _ _ h1);exact absurd nO (Nat.not_le.mpr this)
  refine fin c' _ h' tk' cO (fun p hp=> ?_) ⟨HX,JZ,b8,t,g2,d2,f2⟩
  by_cases e:p=P
  ·subst e
   refine⟨_,jo.2, .inr ⟨c',JZ,b8,t,?_,HX,g2,zY,d2,by rw[<-hq];exact f2⟩⟩;rw[<-hw.1,<-hw.2];simp
  ·obtain⟨KS,h1,h2⟩:=ht p hp
   exact⟨KS,hx _ _ e (fU _ _ h1),h2.imp id (ac5 fun c=>ac5 fun o=>ac5 fun y=>ac5 fun y z=>⟨z.1,z.2.1,cO _ _ (fU _ _ z.2.2.1) z.2.1,z.2.2.2⟩)⟩
 ·have hf:codeAmong pos (#[adO (fZ P).1.line,adO (fZ P).1.col,adf c₀]:Array ZN).toList=some (.ref c₀):=by
   rw[<-hw.1,<-hw.2];exact codeAmong_snoc [] trivial rfl
  refine ZO (wpAny_functionCode_hit xk ((C.keeps fU).code Bo ⟨⟩) hf ?_);exact fin c₀ _ _ s.toks (fun b o e y=>e) (ht.keep fU) ⟨Rn,Ww,b8,t,fU _ _ pI,cw,by rw[hq];exact RJ⟩
theorem Vx(B:ai w tk H):H.get? 4=some {cls:= .type "module",dict:=some 0,data:= .plain,slots:= #[]}:=B.frag _ _ (by kernel_rfl)
theorem ML(B:ai w tk H):H.nsMap aaI "__builtins__" =some (.ref 4):=(C5 B _).trans (by kernel_rfl)
noncomputable abbrev qT(name qual:Str)(params:Arguments)(body:List Stmt)(scope:ZZ)(cl:List (Str×Addr))(pm:ZN)(c':Addr)(eN:ZN):Obj:=
 {cls:= .type "function",data:= .func (fnX name qual params body scope cl .none .none .none pm none (.ref c') eN)}
set_option tactic.hygienic true in
theorem FD{A:aaj}{E:ZN->ZL->Prop}{Q:Flow->ZL->Prop}{c P:Addr}{i:Nat}{name:Str}{kd:aam}{params:Arguments}{body:List Stmt}{scope:ZZ}{pos:Pos}{q:Str×Addr}{cl:List (Str×Addr)}
 (B:ai w tk H) (I:av X H sc env ρ ow G₀ s₀ G s) (xk:env.code= .ref c) (hc:c∉aq) (C:CodeHd H c P) (hP:P∈aq) (hx:sc.names[i]?=some (name,kd)) (hk:kd= .local\/kd= .cell)
 (b7:closureFor scope env=pure (q::cl)) (hw:pos.line=(fZ P).1.line/\pos.col=(fZ P).1.col) (hq:qualnameIn env name name=(fZ P).2) (Bx:docOf body=none) (hd:defaultsOf params env=([],[])) (ha:annTrees params none env=[])
 (k: ∀F c' eN G' s',av X H sc env (dD ρ i (.at F)) ow G₀ s₀ G' s'->dO sc env ow X G s G' s'->s.heap.get? F=none->s'.heap.get? F=some (qT name (fZ P).2 params body scope (q::cl) ((H.nsMap aaI "__name__").getD .none) c' eN)->
  (c'∉aq/\ ∃o b8 t,s'.heap.get? c'=some o/\o.data= .fields b8/\b8[1]?=some (.str (fZ P).2 t))->Q .next s'):Z6 (Z8 PW w) A (exec (.FunctionDef name params body [] none [] scope none name pos) env) Q E s:=by
 rw[exec_def,hd,ha,hq];refine ZO (aaM (ZO (aaV ?_)));refine ZO (ZS (ZO (aaV (ZS (aaV (ZO (ZS ?_)))))));refine Vk b7 I.st.envIs.glob (xT B.ns (by decide) I.st.base) xk (let⟨o,vs,file,tf,flags,tg,TK,text,tt,e,r⟩:=C;⟨o,vs,file,tf,flags,tg,TK,text,tt,I.st.base _ _ e hc,r⟩) hP (by decide) (by decide) (ML B) (I.st.base _ _ (Vx B) (by decide)) I.st.tab hw rfl Bx fun c' eN h' tk' fR hT mG=> ?_
 refine ZO (aaM (ZO ?_));have fU: ∀(ob:Obj) b o,h'.get? b=some o->(h'.push ob).get? b=some o:=fun ob b o e=>Z9 _ e
 have x:ak aq G s G {s with heap:=h'.push (qT name (fZ P).2 params body scope (q::cl) ((H.nsMap aaI "__name__").getD .none) c' eN),toks:=tk'}:=
  ⟨fun j j e=>e,fun j j e=> .inl e,fun a o e=>fU _ _ _ (fR _ _ (I.st.inn a o e) fun ht=>by rw[I.st.gt a ht] at e;cases e),fun b o e hb=>fU _ _ _ (fR _ _ e hb),rfl,rfl,fun j=>hT.keep (fU _),fun j z=>z⟩
 have aE:=I.ext' x;have hF:h'.objs.size∉aq:=fun h=>by
  obtain⟨vs,h1,_⟩:=hT _ h;exact aew _ (aa1 h1)
 have dR:s.heap.get? h'.objs.size=none:=jT fun o e=>by
  have:=aa1 (fR _ _ e hF);exact aew _ this
 have xt:(h'.push (qT name (fZ P).2 params body scope (q::cl) ((H.nsMap aaI "__name__").getD .none) c' eN)).get? h'.objs.size=some _:=aai _ rfl;have IE:h'.objs.size∉bM sc env ow X/\h'.objs.size∉X++aq:=by
  obtain⟨VK,B5,_⟩:=I.st.loc;refine⟨fun fT=> ?_,fun hm=> ?_⟩
  ·rcases qi fT with e|⟨y,h1,_⟩|⟨y,h1⟩|h1
   ·obtain⟨ob,es,ep,ho,_⟩:=B5
    rw[<-e,dR] at ho;cases ho
   ·obtain⟨v,ob,ho,_⟩:=I.cis y _ (I.ckeys y _ h1)
    rw[dR] at ho;cases ho
   ·obtain⟨_,_,_,vs,kk,h4,_⟩:=I.own _ h1
    rw[show s.heap.get? h'.objs.size=none from dR] at h4;cases h4
   ·obtain⟨_,_,vs,kk,h4⟩:=I.xs _ h1
    rw[dR] at h4;cases h4
  ·rcases aaw.mp hm with h1|h1
   ·obtain⟨_,_,vs,kk,h4⟩:=I.xs _ h1
    rw[dR] at h4;cases h4
   ·exact hF h1
 obtain⟨ic,oc,b8,t,jh,gy,kJ⟩:=mG;have Br:=fU (qT name (fZ P).2 params body scope (q::cl) ((H.nsMap aaI "__name__").getD .none) c' eN) _ _ jh;have lQ:c'∉bM sc env ow X/\c'∉X++aq:=by
  refine⟨fun fT=>(aE.mem fT).2.2.2.1 oc b8 Br gy,fun hm=> ?_⟩;rcases aaw.mp hm with h1|h1
  ·obtain⟨_,_,vs,kk,h4⟩:=aE.xs _ h1
   rw[show(h'.push (qT name (fZ P).2 params body scope (q::cl) ((H.nsMap aaI "__name__").getD .none) c' eN)).get? c'=some oc from Br] at h4;cases h4;cases gy
  ·exact ic h1
 refine acL (aE.kept_set hx hk (.at _) fun G' s' I' k'=>ZS ?_);exact k _ c' eN G' s' I' ((I.kept_ext x).trans k') dR (k'.2 _ _ IE.1 IE.2 xt).1 ⟨ic,oc,b8,t,(k'.2 _ _ lQ.1 lQ.2 Br).1,gy,kJ⟩
theorem Uo(B:ai w tk H){tg e:Expr}{p pos:Pos}{x:List V}{i:Nat}(g:bk H "reversed" (.type "reversed"))(hx:sc.names[i]?=some (("reversed" :Str),abo))(ht:ly tg)(h:ah w H l n sc ρ e (.list x))
 (h1:autoParam (∀env,abW pos (aa4 [e] env)=[(false,eval e env)]) au):cI w H l n sc ρ tg (.Call (.Name "reversed" p) [e] [] pos) x.reverse:=fun env A s G r S Q E k=>
 aaZ (eZ B g hx S (by
  rw[h1 env];refine abn rfl (abu (abZ (h.go env A s G r S _ E fun cv s₁ G₁ af aA=>acV ?_)));obtain⟨a,vs,n₁,rfl,ga,ra⟩:=fX aA;refine call_reversed_list (iq af.inn ga) ?_;have bC:a≠s₁.heap.objs.size:=abV (aa1 (af.inn _ _ ga));have ax:=iZ (o:=revObj a ((vs.toArray.size:Int) -1)) af.inn s₁.toks;have hIn:s₁.heap.get? s₁.heap.objs.size=none:=ct (aab _)
  have hit:(s₁.heap.push (revObj a ((vs.toArray.size:Int) -1))).IsRevIter s₁.heap.objs.size a ((vs.toArray.size:Int) -1):=⟨_,aai _ rfl,rfl,rfl⟩;refine wpAny_pyIter_revIter hit ?_;have hlen:=ra.length
  refine k _ [s₁.heap.objs.size] _ _ G₁ (af.trans ax) (sJ (G₁:=G₁) (Walks.listRev r.hd s₁.heap.objs.size a bC vs.toArray) (by simp[hlen]) (fun i cv hp v hv=> ?_) (fun i s' hj b hb=> ?_) (fun b hb hm=> ?_) (fun i s' v cv Q' E' hj hr hv hq=>adI (ht _ _) hq))
   ⟨⟨aav _,by simpa using hit,(iq af.inn ga).push _⟩,fun z z e=>e,ax.inn,fun b hb=> ?_⟩ fun b hb=> ?_
  ·have hi:i<x.length:=by have:=(aa2.mp hv).1;simpa using this
   have nV:x[x.length -1 -i]?=some v:=by rw[List.getElem?_reverse hi] at hv;exact hv
   obtain⟨cu,h1,h2⟩:=ra.at nV;have:vs[vs.length -1 -i]?=some cv:=by simpa using hp
   rw[<-hlen,h1] at this;cases this;exact h2
  ·rw[Z4.mp hb]
   obtain⟨o,ho,hc,hd⟩:=hj.2.1;exact⟨o,_,_,ho,hd,hc,by decide⟩
  ·rcases ZU.mp hb with rfl|hb
   ·exact absurd ZR hm
   ·rw[Z4.mp hb];exact⟨_,ga⟩
  ·rw[Z4.mp hb];exact cY af.inn hIn
  ·rw[Z4.mp hb];exact jA af (S.ext af).tab hIn))
set_option tactic.hygienic true in
theorem Po{a:Addr}{ys:List V}{oe:Expr}{apos pos pos':Pos}(he:ah w H l n sc ρ oe (.at a))(hsz:ys.length<=Z7)(ib:autoParam (∀env,adC oe "reverse" env (eval oe env)=eval oe env) au)(fS:autoParam ((apos.endLine==pos.line)=true) au):
 bV w X H l n sc ρ ((a,ys)::ow) (.Expr (.Call (.Attribute oe "reverse" apos) [] [] pos) pos') (.next ρ ((a,ys.reverse)::ow)):= .mk fun env A G₀ s₀ G s Q E q r I k=>by
 refine adm (Call_method0 (ib env) fS (he.go env A s G r I.st _ E fun cv s₁ G₁ af aA=> ?_)) (by unfold adt;rw[I.st.envIs.kind];rfl) rfl;have aE:=I.ext' af;obtain rfl:=fe aA
 ·
  obtain⟨_,_,_,vs,q',hl,hr⟩:=aE.own _ ZR;have hlen:=hr.length;refine⟨"list","list.reverse",F.plainAttrs_list,F.slot_list_reverse,F.type_list_reverse,⟨_,hl,rfl⟩,fun b e=>by cases e;exact⟨_,hl,rfl⟩,adk rfl (evalArgs_nil3 ?_)⟩
  refine call_meets F.slot_list_reverse ⟨_,hl,rfl⟩ F.entry_list_reverse (F.args_list_reverse_1 _) (AutoListH.list_reverse_list_0 a vs.toArray q' (by simpa [<-hlen] using hsz)) ⟨hl,?_⟩;obtain⟨Kd,hq⟩:=JA vs q' (fun x=>x.reverse);have dB:(s₁.heap.update a (Obj.mapSeq fun x=>x.reverse)).get? a=some (aI vs.reverse Kd):=by
   rw[acY _ hl (by rw[hq];rfl),hq];simp
  exact k .next G₁ _ ⟨rfl,aE.append (zs:=ys.reverse) (cs:=vs.reverse) (k:=Kd) hr.reverse (acP ..) dB (tk':=s₁.toks)⟩
noncomputable def gp(xs:List V):List V:=xs.zipIdx.map fun q=> .tup [.int (q.2:Int),q.1]
theorem wy{xs:List V}:(gp xs).length=xs.length:=by simp[gp]
theorem qX{xs:List V}{i:Nat}{v:V}(h:(gp xs)[i]?=some v): ∃x,xs[i]?=some x/\v= .tup [.int (i:Int),x]:=by
 unfold gp at h;rw[aal,List.getElem?_zipIdx] at h;cases e:xs[i]? with
 |none=>rw[e] at h;cases h
 |some x=>rw[e] at h;simp at h;exact⟨x,rfl,h.symm⟩
set_option tactic.hygienic true in
theorem Y1{A:aaj}{es:List Expr}{kk:Nat}{p:Pos}{e it:Addr}{fp:List Addr}{m:Nat}{P:Nat->ZN->Prop}{Sx:Nat->Heap->Prop}{items:List V}{G₁:GM}
 (D:Draws PW w A.in1 it fp m P Sx) (hn:m=items.length) (RE:e≠it) (xq:e∉fp) (hP: ∀i cv,P i cv-> ∀v,items[i]?=some v->Rd G₁ v cv) (pQ: ∀i (s:ZL),Sx i s.heap->fN s it)
 (t9: ∀b∈fp,b≠it-> ∃o,G₁ b=some o):
 Wk w A (.Tuple es kk p) e [e,it] (gp items) (fun i G s=>(∃old,IsEnum s.heap e it i old)/\Sx i s.heap/\(∀a o,G₁ a=some o->G a=some o)/\bS G s/\G e=none/\G it=none) where
 obj:=fun i G s h b hb=>by
  obtain⟨⟨old,he⟩,dm,_,_,ge,gi⟩:=h;rcases ZU.mp hb with rfl|hb
  ·exact⟨⟨_,_,"enumerate",he,rfl,rfl,by decide⟩,ge⟩
  ·rw[Z4.mp hb];exact⟨pQ i s dm,gi⟩
 stab:=fun i G s G' s' h hs hi hw=>by
  refine gz fun zq zk=> ?_
  obtain⟨⟨old,he⟩,dm,eB,dk,ge,gi⟩:=h;refine zk ?_;refine⟨⟨old,(hw e ZR).1 _ he⟩,D.frame _ _ _ dm fun b hb o y=> ?_,fun a o y=>hs a o (eB a o y),hi,(hw e ZR).2,(hw it (by simp)).2⟩
  by_cases hm:b=it
  ·subst hm;exact(hw b (by simp)).1 o y
  ·obtain⟨q,hq⟩:=t9 b hb hm
   have e1:=dk b q (eB b q hq);rw[y] at e1;cases e1;exact hi b _ (hs b _ (eB b _ hq))
 item:=fun i G s v Q E h hi hv k=>by
  refine gz fun zq zk=> ?_
  obtain⟨⟨old,he⟩,dm,eB,dk,ge,gi⟩:=h;obtain⟨x,hx,rfl⟩:=qX hv;refine zk ?_;have aV:i<m:=by rw[hn];exact(aa2.mp hx).1
  have RF:e<s.heap.objs.size:=aa1 he;have RY:it<s.heap.objs.size:=by obtain⟨_,y⟩:=D.live _ _ dm;exact aa1 y
  refine wpAny_pyNext_enum_itemD D he dm aV RE xq fun cx h' tk' Q5 ho eS hT hsz hk=> ?_
  show Z6 _ _ (aeL (.Tuple es kk p) (.ref e) (.ref s.heap.objs.size)) _ _ _
  refine wpAny_letOwnedTupleGo_enum ho fun jY t5 pU=> ?_
  replace pU:abp e h' jY:=pU
  replace t5:IsEnum jY e it ((i:Int)+1) cx:=t5;have HI:s.heap.objs.size≠e:=acj RF;have Q8:s.heap.objs.size≠it:=acj RY;have Q9:jY.get? s.heap.objs.size=some (iD [.int i tk',cx] 0):=(pU.2 _ HI).trans hT;have Il: ∀b o,b≠e->b≠it->s.heap.get? b=some o->jY.get? b=some o:=fun b o h1 h2 y=>(pU.2 b h1).trans (hk b o h1 h2 y)
  have QY:G s.heap.objs.size=none:=cY hi (ct (aab _));have rP: ∀a o,G a=some o->bN G s.heap.objs.size (iD [.int i tk',cx] 0) a=some o:=fun a o y=>by
   unfold bN;split
   ·rename_i q;rw[q,QY] at y;cases y
   ·exact y
  have ji:bS (bN G s.heap.objs.size (iD [.int i tk',cx] 0)) {s with heap:=jY,toks:=tk'+1}:=fun a o y=>by
   unfold bN at y;split at y
   ·rename_i q;cases y;rw[q];exact Q9
   ·exact Il a o (fun q=>by rw[q,ge] at y;cases y) (fun q=>by rw[q,gi] at y;cases y) (hi a o y)
  have nO: ∀{a},a≠s.heap.objs.size->G a=none->bN G s.heap.objs.size (iD [.int i tk',cx] 0) a=none:=fun{a} h1 h2=>by unfold bN;rw[if_neg h1];exact h2
  refine k _ jY (tk'+1) (bN G s.heap.objs.size (iD [.int i tk',cx] 0)) rP (fun a o y=> ?_) ji (fun b o hb y=>Il b o (fun q=>hb (by simp[q])) (fun q=>hb (by simp[q])) y)
   (.tup iK (.cons (.int _ _) (.cons (cN (fun a o y=>rP a o (eB a o y)) (hP i cx Q5 x hx)) .nil)))
   ⟨⟨cx,t5⟩,?_,fun a o y=>rP a o (eB a o y),ji,nO HI.symm ge,nO Q8.symm gi⟩
  ·unfold bN at y
   split at y
   ·rename_i q;exact .inr (q▸ct (aab _))
   ·exact .inl y
  ·exact D.frame _ _ _ eS fun b hb o y=>(pU.2 b fun q=>xq (q▸hb)).trans y
 done:=fun G s Q E h hi k=>by
  obtain⟨⟨old,he⟩,dm,eB,dk,ge,gi⟩:=h;rw[wy] at he dm;exact wpAny_pyNext_enum_endD D he (hn▸dm) fun h' hx=>⟨rfl,k h' s.toks fun b o hb y=>hx b o (fun q=>hb (by simp[q])) y⟩
 self:=fun i G s Q E h hQ=>by
  obtain⟨⟨old,he⟩,_⟩:=h;exact wpAny_pyIter_enum he hQ
theorem wz{A:aaj}{es:List Expr}{kk:Nat}{p:Pos}{fp:List Addr}{m:Nat}{P:Nat->ZN->Prop}{Sx:Nat->Heap->Prop}{items:List V}{s₁:ZL}{G₁:GM}{h':Heap}
 (af:ak aq G s G₁ s₁) (tb:bY s₁.heap) (D:Draws PW w A.in1 s₁.heap.objs.size fp m P Sx) (hn:m=items.length) (xq:s₁.heap.objs.size+1∉fp) (hP: ∀i cv,P i cv-> ∀v,items[i]?=some v->Rd G₁ v cv) (pQ: ∀i (s:ZL),Sx i s.heap->fN s s₁.heap.objs.size)
 (t9: ∀b∈fp,b≠s₁.heap.objs.size-> ∃o,G₁ b=some o)
 (he:IsEnum h' (s₁.heap.objs.size+1) s₁.heap.objs.size 0 .none) (dm:Sx 0 h') (hk: ∀b o,s₁.heap.get? b=some o->h'.get? b=some o)
 {Q:ZN->ZL->Prop} {E:ZN->ZL->Prop}
 (k: ∀I wr J s' G',ak aq G s G' s'->Wk w A (.Tuple es kk p) I wr (gp items) J->J 0 G' s'->(∀b∈wr,s.heap.get? b=none)->Q (.ref I) s'):
 Z6 (Z8 PW w) A (pyIter (.ref (s₁.heap.objs.size+1))) Q E {s₁ with heap:=h'}:=by
 refine wpAny_pyIter_enum he ?_;have ax:ak aq G₁ s₁ G₁ {s₁ with heap:=h'}:=ak.grown af.inn s₁.toks hk;have f0:s₁.heap.get? s₁.heap.objs.size=none:=ct (aab _);have f1:s₁.heap.get? (s₁.heap.objs.size+1)=none:=ct (acU _);refine k _ [s₁.heap.objs.size+1,s₁.heap.objs.size] _ _ G₁ (af.trans ax) (Y1 (G₁:=G₁) D hn (Nat.succ_ne_self _) xq hP pQ t9)
  ⟨⟨_,he⟩,dm,fun z z y=>y,ax.inn,cY af.inn f1,cY af.inn f0⟩ fun b hb=> ?_
 rcases ZU.mp hb with rfl|hb
 ·exact jA af tb f1
 ·rw[Z4.mp hb];exact jA af tb f0
theorem CK(B:ai w tk H){es:List Expr}{kk:Nat}{tp p pos:Pos}{e:Expr}{x:Str}{i:Nat}(g:bk H "enumerate" (.type "enumerate"))(hx:sc.names[i]?=some (("enumerate" :Str),abo))(h:ah w H l n sc ρ e (.str x))
 (h1:autoParam (∀env,abW pos (aa4 [e] env)=[(false,eval e env)]) au):cI w H l n sc ρ (.Tuple es kk tp) (.Call (.Name "enumerate" p) [e] [] pos) (gp (signs x)):=fun env A s G r S Q E k=>
 aaZ (eZ B g hx S (by
  rw[h1 env];refine abn rfl (abu (abZ (h.go env A s G r S _ E fun cv s₁ G₁ af aA=>acV ?_)));obtain⟨t,rfl⟩:=dC aA;refine call_enumerate_str fun h' he hit hsz hk=> ?_
  have hP: ∀i cv,(∃(c:Nat) (u:Tok),x.cps[i]?=some c/\cv=Value.str ⟨#[c]⟩ u)-> ∀v,(signs x)[i]?=some v->Rd G₁ v cv:=fun i cv hc v hv=>by
   obtain⟨c,u,h1,h2⟩:=hc;unfold signs at hv;rw[aal,ac0,h1] at hv;cases hv;subst h2;exact .str _ _
  have jl: ∀{ty:String} (bC:ty≠ "code") i (s':ZL),s'.heap.IsStrIter s₁.heap.objs.size ty x t i->fN s' s₁.heap.objs.size:=fun{ty} bC i s' ⟨o,ho,hc,hd⟩=>⟨o,_,_,ho,hd,hc,bC⟩
  have hlen:x.cps.size=(signs x).length:=by simp[signs]
  cases ha:x.cps.all (· <128) with
  |false=>
   have nP:h'.IsStrIter s₁.heap.objs.size "str_iterator" x t 0:=by simpa [strIterType,ha] using hit
   exact wz af (S.ext af).tab (Draws.strWide (A:=A.in1) (show A.in1.handled=_ from r.hd) s₁.heap.objs.size x t) hlen (by simp) hP (jl (by decide)) (fun b hb hm=>absurd (Z4.mp hb) hm) he nP hk k
  |true=>
   have nP:h'.IsStrIter s₁.heap.objs.size "str_ascii_iterator" x t 0:=by simpa [strIterType,ha] using hit
   exact wz af (S.ext af).tab (Draws.strAscii (A:=A.in1) (show A.in1.handled=_ from r.hd) s₁.heap.objs.size x t) hlen (by simp) hP (jl (by decide)) (fun b hb hm=>absurd (Z4.mp hb) hm) he nP hk k))
theorem Uk(B:ai w tk H){es:List Expr}{kk:Nat}{tp p pos:Pos}{e:Expr}{x:List V}{i:Nat}(g:bk H "enumerate" (.type "enumerate"))(hx:sc.names[i]?=some (("enumerate" :Str),abo))(h:ah w H l n sc ρ e (.list x))
 (h1:autoParam (∀env,abW pos (aa4 [e] env)=[(false,eval e env)]) au):cI w H l n sc ρ (.Tuple es kk tp) (.Call (.Name "enumerate" p) [e] [] pos) (gp x):=fun env A s G r S Q E k=>
 aaZ (eZ B g hx S (by
  rw[h1 env];refine abn rfl (abu (abZ (h.go env A s G r S _ E fun cv s₁ G₁ af aA=>acV ?_)));obtain⟨a,vs,n₁,rfl,ga,ra⟩:=fX aA;have bC:a≠s₁.heap.objs.size:=abV (aa1 (af.inn _ _ ga));have aV:a<s₁.heap.objs.size:=aa1 (af.inn _ _ ga);refine call_enumerate_list (iq af.inn ga) fun h' he hit hsz hk=> ?_
  refine wz af (S.ext af).tab (Draws.list (A:=A.in1) (show A.in1.handled=_ from r.hd) s₁.heap.objs.size a bC vs.toArray) (by simp[ra.length]) (by simp only[ZU,aaz,or_false,not_or];exact⟨Nat.succ_ne_self _,acj (adG aV)⟩) (fun i cv hp v hv=> ?_) (fun i s' hj=> ?_) (fun b hb hm=> ?_) he ⟨hit,let⟨o,ho,r⟩:=iq af.inn ga;⟨o,hk _ _ ho,r⟩⟩ hk k
  ·obtain⟨cu,h1,h2⟩:=ra.at hv
   have:vs[i]?=some cv:=by simpa using hp
   rw[this] at h1;cases h1;exact h2
  ·obtain⟨o,ho,hc,hd⟩:=hj.1
   exact⟨o,_,_,ho,hd,hc,by decide⟩
  ·rcases ZU.mp hb with rfl|hb
   ·exact absurd rfl hm
   ·rw[Z4.mp hb];exact⟨_,ga⟩))
noncomputable def d9(es:Array abG)(ep:Nat):Obj:={cls:= .type "dict",dict:=none,data:= .dict es ep,slots:= #[]}
section
variable {E:ZN->ZL->Prop}
theorem Oy{d:Addr}{es ep}(hm:s.heap.get? d=some (d9 es ep)):s.TypeIs (.ref d) "dict" :=⟨_,hm,rfl⟩
noncomputable def rS(d:Addr)(n ep:Nat):Obj:={cls:= .type "dict_keyiterator",data:= .fields #[.ref d, .int 0 0, .int n 0, .int ep 0]}
theorem W2{d:Addr}{es:Array abG}{ep:Nat}{Q:ZN->ZL->Prop}(hd:(d==acI)=false)(hm:s.heap.get? d=some (d9 es ep))
 (hQ:Q (.ref s.heap.objs.size) {s with heap:=s.heap.push (rS d es.size ep)}):Z6 (Z8 prog w) A (pyIter (.ref d)) Q E s:=by
 have hT:s.TypeIs (.ref d) "dict" :=Oy hm;refine wpAny_pyIter_slot hT F.slot_dict_iter (aep F.slot_dict_iter hT F.entry_dict_iter ?_ (F.args_dict_iter_1 _));unfold Builtin.«dict.__iter__»;refine ZO ?_;unfold Builtin.Dict.dictSlotNone;refine ZO (wpAny_notOrdered_dict hT ?_);show Z6 _ _ (pure (adf d)) _ _ s
 refine ZS ?_;show Z6 _ _ (Builtin.Dict.showsAll d>>=_) _ _ s
 unfold Builtin.Dict.showsAll;rw[if_neg (by rw[hd];exact aa5)];refine ZO (ZS ?_);refine ZO (aed hm rfl ?_);refine ZO (wpAny_dictEpoch hm rfl ?_);exact ZO (adb (ZS ⟨_,rfl,"dict_keyiterator",_,⟨_,aai _ rfl,rfl⟩,F.slot_dict_keyiterator_next.lookup,hQ⟩))
theorem JL{it d:Addr}{es:Array abG}{i ep:Nat}{X:Option abG}{Q:ZN->ZL->Prop}(hit:s.heap.IsKeyIter it d i es.size ep)(hm:s.heap.get? d=some (d9 es ep))(hx:es[i]?=X)
 (hQ: ∀x,X=some x-> ∀h',h'.IsKeyIter it d (i+1) es.size ep->abp it s.heap h'->Q x.key {s with heap:=h'})
 (hE:X=none->A.handled=none/\ ∀h' e,Heap.ExtBut it s.heap h'->(∃o,h'.get? e=some o/\o.cls= .type "StopIteration")->E (.ref e) {s with heap:=h'}):Z6 (Z8 prog w) A (Builtin.SmallTypes.nextOf (.ref it)) Q E s:=by
 obtain⟨o,ho,hc,hd⟩:=id hit;unfold Builtin.SmallTypes.nextOf;refine ZO (wpAny_callSpecial?_slot (name:=Str.ofString "__next__") hit.typeIs F.slot_dict_keyiterator_next
  (aep F.slot_dict_keyiterator_next hit.typeIs F.entry_dict_keyiterator_next ?_ (F.args_dict_keyiterator_next_1 _)))
 refine ZO (ZS ?_);refine ZO ?_;refine ZO ?_
 first|refine ZO (aeb hit.typeIs (ZS ?_))|refine ZO (aeS hit.typeIs (ZS ?_))
 refine ZO (wpAny_fieldsOf ho hd ?_);show Z6 _ _ (if(adf d==Value.none)=true then _ else _) _ _ s
 rw[if_neg (show¬((adf d==Value.none)=true) from aa5)];refine ZO (ZS ?_);refine ZO (aed hm rfl ?_);rw[if_neg (by simp)];refine ZO (ZS ?_);refine ZO (wpAny_dictEpoch hm rfl ?_);rw[if_neg (by simp)];refine ZS ?_;dsimp only;rw[if_neg (show¬((i:Int)<0) from by exact "!>'A0" ()),aaD,hx];cases X with
 |some x=>
  refine ZO ?_
  first|refine ZO (aeb hit.typeIs (ZS ?_))|refine ZO (aeS hit.typeIs (ZS ?_))
  refine ZO (wpAny_isOneOf_keyiter hit.typeIs ?_);show Z6 _ _ (setField (.ref it) 1 (adO ((i:Int)+1))>>=_) _ _ s
  refine ZO (wpAny_setField ho hd (by simp) ?_);have nP:(s.heap.update it (Obj.mapFields (·.setIfInBounds 1 (adO ((i:Int)+1))))).IsKeyIter it d (i+1) es.size ep:=
   ⟨_,acY _ ho (Obj.isFreed_of_fields (Obj.data_mapFields hd _)),(Obj.cls_mapFields ..).trans hc,by rw[Obj.data_mapFields hd];simp[adO]⟩
  refine ZO (aaV ?_);refine ZO (wpAny_isOneOf_keyiter (s:={s with heap:=s.heap.update it (Obj.mapFields (·.setIfInBounds 1 (adO ((i:Int)+1))))}) nP.typeIs ?_);show Z6 _ _ (pure x.key) _ _ _
  exact ZS (ZS ⟨_,rfl,ZS (hQ x rfl _ nP (acP ..))⟩)
 |none=>
  refine ZO ?_
  first|refine ZO (aeb hit.typeIs (ZS ?_))|refine ZO (aeS hit.typeIs (ZS ?_))
  show Z6 _ _ (setField (.ref it) 0 .none>>=_) _ _ s
  refine ZO (wpAny_setField ho hd (by simp) ?_);show Z6 _ _ (newExc (.type "StopIteration") []>>=_) _ _ _
  refine ZO ?_;simp only[newExc,newTuple];refine ZO (adb ?_ (by size_fits));refine ZO (m:=firstArgMember _ _) (adI (a:=Value.none) (by first|rfl|(simp only[firstArgMember];rfl)) ?_);refine adb ?_ (by size_fits);refine wpAny_raiseNew_none (hE rfl).1 ?_;exact(hE rfl).2 _ _ (((acP ..).extBut.push _).push _) ⟨_,aai _ rfl,rfl⟩
theorem Lg(hh:A.handled=none)(it d:Addr)(bC:d≠it)(es:Array abG)(ep:Nat):
 Draws prog w A it [it,d] es.size (fun i v=> ∃x,es[i]?=some x/\v=x.key) (fun i h=>h.IsKeyIter it d i es.size ep/\h.get? d=some (d9 es ep)) where
 live:=fun z z st=>let⟨o,ho,_⟩:=st.1;⟨o,ho⟩
 frame:=fun z z z st hk=>⟨st.1.at fun o e=>hk it (by simp) o e,hk d (by simp) _ st.2⟩
 item:=fun i s Q E hi st hQ=>by
  refine JL st.1 st.2 (X:=some es[i]) (by simp[hi]) (fun x e h' nP eS=> ?_) fun e=>nomatch e
  obtain rfl:=abM e;exact hQ _ h' s.toks ⟨_,by simp[hi],rfl⟩ ⟨nP,(eS.2 d bC).trans st.2⟩ eS
 done:=fun s Q E st hE=>JL st.1 st.2 (X:=none) (Array.getElem?_eq_none (aab _)) (fun z e=>nomatch e) fun z=>⟨hh,hE⟩
theorem Y3{cls:ZN}{Q:Bool->ZL->Prop}{E:ZN->ZL->Prop}(h: ∀b,Q b s):Z6 (Z8 prog w) A (Builtin.SmallTypes.calledThroughType cls) Q E s:=ZO (wpAny_stack_any fun z=>ZS (h _))
theorem Vw(d:Addr)(es:Array abG)(ep:Nat)(hd:(d==acI)=false):
 Meets (Builtin.«enumerate.__new__» ⟨[.type "enumerate", .ref d],[]⟩) (fun z R s=>s.heap.get? d=some (d9 es ep)/\
  R (.ok (.ret (.ref (s.heap.push (rS d es.size ep)).objs.size)))
   {s with heap:=(s.heap.push (rS d es.size ep)).push {cls:= .type "enumerate",data:= .fields #[.none, .bool false, .ref s.heap.objs.size,adO 0, .none, .none]} }):=
 .of_wp fun prog w A R s h=>by
  obtain⟨hp,g,dr,tk,os⟩:=s;obtain⟨hl,h⟩:=h;have eB:=sub_enumerate
  wp_walk using AutoSeq1.wpAny_loadPart' hl,Y3
  intro b;cases b<;>(wp_walk using AutoSeq1.wpAny_loadPart' hl,W2 hd hl;exact⟨_,rfl,h⟩)
theorem NC{d:Addr}{es:Array abG}{ep:Nat}{Q:ZN->ZL->Prop}(hd:(d==acI)=false)(hL:s.heap.get? d=some (d9 es ep))
 (h: ∀h',IsEnum h' (s.heap.objs.size+1) s.heap.objs.size 0 .none->h'.IsKeyIter s.heap.objs.size d 0 es.size ep->h'.objs.size=s.heap.objs.size+2->
  (∀b o,s.heap.get? b=some o->h'.get? b=some o)->Q (.ref (s.heap.objs.size+1)) {s with heap:=h'}):
 Z6 (Z8 prog w) A (call (.type "enumerate") [.ref d]) Q E s:=by
 refine callType_new F.called_enumerate (by decide) (F.typeCall_enumerate_1 _) (F.newCall_enumerate_1 _) (fun obj=>F.args_object_init_2 obj _) F.entry_enumerate_new
  (Vw d es ep hd) ⟨hL,?_⟩
 have hz:(s.heap.push (rS d es.size ep)).objs.size=s.heap.objs.size+1:=abS ..;show _/\_
 rw[hz];have he:IsEnum ((s.heap.push (rS d es.size ep)).push
  {cls:= .type "enumerate",data:= .fields #[.none, .bool false, .ref s.heap.objs.size,adO 0, .none, .none]}) (s.heap.objs.size+1) s.heap.objs.size 0 .none:=by
  have:=aai (s.heap.push (rS d es.size ep))
   (o:={cls:= .type "enumerate",data:= .fields #[.none, .bool false, .ref s.heap.objs.size,adO 0, .none, .none]}) rfl
  rw[hz] at this;exact this
 refine⟨⟨_,he,rfl⟩,h _ he ⟨_,Z9 _ (aai _ rfl),rfl,rfl⟩ (by rw[abS,hz]) fun b o x=>Z9 _ (Z9 _ x)⟩
end
section
theorem Uj(B:ai w tk H){es:List Expr}{kk:Nat}{tp p pos:Pos}{e:Expr}{ents:Array abG}{ep:Nat}{ks:List Int}{i:Nat}(g:bk H "enumerate" (.type "enumerate"))(hx:sc.names[i]?=some (("enumerate" :Str),abo))(h:ah w H l n sc ρ e (.obj (d9 ents ep)))
 (xv:ents.toList.map (fun x=>match x.key with| .int k _=>some k|_=>none)=ks.map some)
 (h1:autoParam (∀env,abW pos (aa4 [e] env)=[(false,eval e env)]) au):cI w H l n sc ρ (.Tuple es kk tp) (.Call (.Name "enumerate" p) [e] [] pos) (gp (ks.map V.int)):=fun env A s G r S Q E k=>
 aaZ (eZ B g hx S (by
  rw[h1 env];refine abn rfl (abu (abZ (h.go env A s G r S _ E fun cv s₁ G₁ af aA=>acV ?_)));obtain⟨d,rfl,ga,hd⟩: ∃d,cv= .ref d/\G₁ d=some (d9 ents ep)/\(d==acI)=false:=by cases aA with|obj h1 h2=>exact⟨_,rfl,h1,h2⟩
  have hg:=af.inn _ _ ga;have aV:d<s₁.heap.objs.size:=aa1 hg;have hlen:ents.size=ks.length:=by have:=congrArg List.length xv;simpa using this
  refine NC hd hg fun h' he hit hsz hk=> ?_
  refine wz af (S.ext af).tab (Lg (A:=A.in1) (show A.in1.handled=_ from r.hd) s₁.heap.objs.size d (abV aV) ents ep) (by simpa using hlen) (by simp only[ZU,aaz,or_false,not_or];exact⟨Nat.succ_ne_self _,acj (adG aV)⟩) (fun i cv hp v hv=> ?_) (fun i s' hj=> ?_) (fun b hb hm=> ?_) he ⟨hit,hk _ _ hg⟩ hk k
  ·obtain⟨x,h1,rfl⟩:=hp
   rw[aal] at hv;cases e:ks[i]? with
   |none=>rw[e] at hv;cases hv
   |some q=>
    rw[e] at hv;cases hv;have:=congrArg (fun z=>z[i]?) xv;simp only[aal,e,ac0,h1,Option.map_some] at this;cases hk:x.key with
    |int k t=>rw[hk] at this;cases this;exact .int _ _
    |_=>rw[hk] at this;cases this
  ·obtain⟨o,ho,hc,hd⟩:=hj.1
   exact⟨o,_,_,ho,hd,hc,by decide⟩
  ·rcases ZU.mp hb with rfl|hb
   ·exact absurd rfl hm
   ·rw[Z4.mp hb];exact⟨_,ga⟩))
end
noncomputable def TB(kvs:List (Int×ZN))(n:Nat):Prop:= ∀p∈kvs,∃x t,p.2= .str x t/\1<=t/\t<n
theorem TB.le{kvs:List (Int×ZN)}{n m:Nat}(h:TB kvs n)(k:n<=m):TB kvs m:=fun p hp=>by
 obtain⟨x,t,h1,h2,h3⟩:=h p hp;exact⟨x,t,h1,h2,aaa h3 k⟩
theorem TB.append{kvs uG:List (Int×ZN)}{n:Nat}(h:TB kvs n)(k:TB uG n):TB (kvs++uG) n:=fun p hp=>(aaw.mp hp).elim (h p) (k p)
section
variable {E:ZN->ZL->Prop}
theorem XN{pos:Pos}{d:Addr}: ∀(qs P:List (Int×Str)) (kvs:List (Int×ZN)) (s:ZL) (Q:PUnit->ZL->Prop),
 ((P++qs).map (·.1)).Nodup->cC P kvs->TB kvs s.toks->s.heap.DictOf (IK prog w) d kvs->(P++qs).length<=Z7->
 (∀h' t' kQ,cC (P++qs) kQ->TB kQ t'->h'.DictOf (IK prog w) d kQ->abp d s.heap h'->Q adY {s with heap:=h',toks:=t'})->
 Z6 (Z8 prog w) A (forIn (qs.map (tr pos)) adY fun(x:Sem ZN×Sem ZN) (_:PUnit)=>(do
  let kv<-x.1
  let vv<-acA [kv] x.2
  acA [kv,vv] (dictSet d kv vv)
  pure (abN adY):Sem (ForInStep PUnit))) Q E s:=by
 intro rr
 induction rr with
 |nil=>
  exact fun P kvs s Q z hc ht hd z hQ=>by
   rw[List.map_nil,adK];exact ZS (hQ s.heap s.toks kvs (by simpa using hc) ht hd (aee ..))
 |cons p qs ih=>
  exact fun P kvs s Q hn hc ht hd hl hQ=>by
   have gE:kvs.length=P.length:=hc.length;have hsz:kvs.length<=sizeLine:=by rw[aap] at hl;exact "[+ABC=DA[DC" hl gE
   rw[aah,ad0];refine ZO (ZO (DP (ZO (aaV (DQ (ZO (aaV (DD hd (AL hc hn) hsz fun h' cG hs=>ZS ?_))))))));have e:P++p::qs=(P++[p])++qs:=by simp
   rw[e] at hn hl hQ;exact ih (P++[p]) (kvs++[(p.1, .str p.2 _)]) {s with heap:=h',toks:=s.toks+1+1+1} Q hn (hc.append (show cC [p] [(p.1, .str p.2 _)] from rfl))
    (.append (ht.le (show s.toks<=s.toks+1+1+1 by exact "[A+++A1_1_1" ())) fun q hq=>by rw[Z4.mp hq];exact⟨p.2,s.toks+1,rfl,abf 1 _,show s.toks+1<s.toks+1+1+1 by exact acU _⟩) cG hl
    fun dJ lj uA c tb d' sb=>hQ dJ lj uA c tb d' (hs.trans sb)
theorem XR{pos:Pos}{qs:List (Int×Str)}{Q:Addr->ZL->Prop}(hn:(qs.map (·.1)).Nodup)(Zm:15<qs.length)(hl:qs.length<=Z7)
 (hQ: ∀h' t' kvs,cC qs kvs->TB kvs t'->h'.DictOf (IK prog w) s.heap.objs.size kvs->(∀b o,s.heap.get? b=some o->h'.get? b=some o)->Q s.heap.objs.size {s with heap:=h',toks:=t'}):
 Z6 (Z8 prog w) A (subDict (qs.map (tr pos))) Q E s:=by
 unfold subDict;refine ZO (wpAny_alloc ?_);have cw:(s.heap.push {cls:= .type "dict",data:= .dict #[]}).DictOf (IK prog w) s.heap.objs.size []:=Heap.DictOf.new ..;refine ZO (aaV ?_);rw[if_neg (by rw[ZQ];exact Nat.not_le.mpr ‹_›)];refine ZO (wpAny_rule ?_);refine ZO (XN qs [] [] _ _ (by simpa using hn) rfl (fun z h=>nomatch h) cw (by simpa using hl) fun h' lj kvs hc ht hd hs=>ZS (ZS ?_))
 exact hQ h' lj kvs (by simpa using hc) ht hd fun b o e=>(hs.2 b (abV (aa1 e))).trans (Z9 _ e)
theorem Ox{pos:Pos}{qs:List (Int×Str)}{Q:ZN->ZL->Prop}(hn:(qs.map (·.1)).Nodup)(xb:qs.length=16)
 (hQ: ∀h' t' kvs,cC qs kvs->TB kvs t'->h'.DictOf (IK prog w) s.heap.objs.size kvs->(∀b o,s.heap.get? b=some o->h'.get? b=some o)->Q (.ref s.heap.objs.size) {s with heap:=h',toks:=t'}):
 Z6 (Z8 prog w) A (dictDisplay (qs.map (jD pos))) Q E s:=by
 unfold dictDisplay;dsimp only;refine ZO ?_;refine wpAny_forIn_list _ (fun rest b s'=> ∃pend d7,qs=pend++d7/\rest=d7.map (jD pos)/\b=(none,pend.map (tr pos))/\s'=s) _ ?_ ?_ _ _ ⟨[],qs,rfl,rfl,rfl,rfl⟩
 ·rintro x rest ⟨main,run⟩ s' ⟨pend,d7,ik,hr,hb,rfl⟩
  cases d7 with
  |nil=>simp at hr
  |cons p d7=>
   rw[aah] at hr;injection hr with hx uh
   injection hb with iM fE
   subst hx uh iM fE;have ui:(pend.map (tr pos))++[((tr pos p).1,(jD pos p).2)]=(pend++[p]).map (tr pos):=by rw[aaA];rfl
   show Z6 _ _ (if((pend.map (tr pos)++[((tr pos p).1,(jD pos p).2)]).length==17)=true then(do
    let main<-pk none (pend.map (tr pos)++[((tr pos p).1,(jD pos p).2)])
    pure (abN (main,[]))) else pure (abN (none,pend.map (tr pos)++[((tr pos p).1,(jD pos p).2)]))) _ _ _
   rw[ui];have e:qs=(pend++[p])++d7:=by rw[ik];simp
   have hlen:=congrArg List.length e;rw[aap] at hlen;rw[if_neg (by rw[ZQ];intro h;have:=eq_of_beq h;lia)];exact ZS ⟨pend++[p],d7,e,rfl,rfl,rfl⟩
 ·rintro⟨main,run⟩ s' ⟨pend,d7,ik,hr,hb,rfl⟩
  have:d7=[]:=by
   cases d7 with
   |nil=>rfl
   |cons _ _=>simp at hr
  subst this;rw[adZ] at ik;subst ik;injection hb with iM fE
  subst iM fE;show Z6 _ _ (do
   let m<-pk none (qs.map (tr pos))
   match m with
    |some d=>pure (adf d)
    |none=>newDict) _ _ _
  refine ZO ?_;unfold pk;rw[if_neg (by cases qs with|nil=>cases xb|cons _ _=>exact aa5)];exact ZO (XR hn (by simp[*]) (by rw[xb];decide) fun h' t' kvs a b c d=>ZS (ZS (hQ h' t' kvs a b c d)))
end
noncomputable def l5(w:Z2)(o:Obj)(ps:List (Int×Str))(n:Nat):Prop:= ∃es ep kvs,o=d9 es ep/\(d9 es ep).IsDictOf (IK PW w) kvs/\cC ps kvs/\TB kvs n
section
theorem vb{x:Obj}{ca:ZN}(r:Rd G (.obj x) ca): ∃a,ca= .ref a/\G a=some x/\(a==acI)=false:=k7 r
theorem E7{ps:List (Int×Str)}{kvs:List (Int×ZN)}(h:cC ps kvs)(k:Int):(valueAt kvs k).map sv=((ps.find? fun p=>p.1=k).map fun p=>some p.2):=by
 unfold valueAt cC at*;have e:kvs.find? (fun kv=>kv.1=k)=kvs.find? ((fun q:Int×Option Str=>decide (q.1=k))∘fun kv=>(kv.1,sv kv.2)):=rfl;have e':ps.find? (fun kv=>kv.1=k)=ps.find? ((fun q:Int×Option Str=>decide (q.1=k))∘fun p=>(p.1,some p.2)):=rfl;rw[Option.map_map,e,e'];have h1:=congrArg (List.find? fun q:Int×Option Str=>decide (q.1=k)) h;rw[List.find?_map,List.find?_map] at h1
 have h2:=congrArg (Option.map fun q:Int×Option Str=>q.2) h1;rw[Option.map_map,Option.map_map] at h2;exact h2
noncomputable def dG(ps:List (Int×Str))(k:Int):Option Str:=(ps.find? fun p=>p.1=k).map (·.2)
theorem zQ{ps:List (Int×Str)}{kvs:List (Int×ZN)}{m:Nat}(h:cC ps kvs)(hb:TB kvs m)(k:Int):(dG ps k=none/\valueAt kvs k=none)\/ ∃x t,dG ps k=some x/\valueAt kvs k=some (.str x t)/\1<=t/\t<m:=by
 have h1:=E7 h k;unfold dG;cases e:valueAt kvs k with
 |none=>
  rw[e] at h1;cases e':ps.find? (fun p=>p.1=k) with
  |none=>exact .inl ⟨rfl,rfl⟩
  |some p=>rw[e'] at h1;cases h1
 |some v=>
  rw[e] at h1;cases e':ps.find? (fun p=>p.1=k) with
  |none=>rw[e'] at h1;cases h1
  |some p=>
   rw[e'] at h1;unfold valueAt at e;obtain⟨kv,mK,hv⟩:=ad8.mp e;obtain⟨x,t,h2,h3,h4⟩:=hb kv (List.mem_of_find?_eq_some mK);rw[<-hv,h2] at h1⊢;simp only[Option.map_some,sv,adF] at h1;exact .inr ⟨x,t,by rw[h1];rfl,rfl,h3,h4⟩
theorem l5.of{x:Obj}{ps:List (Int×Str)}{m:Nat}(D:l5 w x ps m){G:GM}{s:ZL}(hi:bS G s){a:Addr}(ga:G a=some x): ∃kvs,s.heap.DictOf (IK PW w) a kvs/\cC ps kvs/\TB kvs m:=by
 obtain⟨es,ep,kvs,rfl,h1,h2,h3⟩:=D;exact⟨kvs,Heap.dictOf_iff.mpr ⟨_,hi _ _ ga,h1⟩,h2,h3⟩
theorem MU{x:Obj}{ps:List (Int×Str)}{m:Nat}(D:l5 w x ps m){k:Int}:bO w (abz .In) (.int k) (.obj x) (.bool (dG ps k).isSome):=by
 intro A s G ca cb _ hu hi ra rb Q E' kk;obtain⟨a,rfl,ga,hd⟩:=vb rb;obtain⟨t,rfl⟩:=aZ ra;obtain⟨kvs,h1,h2,h3⟩:=D.of hi ga;refine wpAny_in_of (knd:=IK PW w) (k:=k) (adW ..) hd h1.mapOf ?_;have:(valueAt kvs k).isSome=(dG ps k).isSome:=by
  rcases zQ h2 h3 k with⟨e1,e2⟩|⟨x,t,e1,e2,_⟩<;>rw[e1,e2]<;>rfl
 rw[this];exact kk _ _ G (ak.toks hi _) (.bool _)
theorem Vs{x:Obj}{ps:List (Int×Str)}{m:Nat}(D:l5 w x ps m){k:Int}{y:Str}:jL w H l n "get" (.obj x) [.int k, .str y] (.str ((dG ps k).getD y)):=
 ⟨"dict","dict.get",F.plainAttrs_dict,F.slot_dict_get,F.type_dict_get,fun G s ca hi r=>by
  obtain⟨a,rfl,ga,hd⟩:=vb r;obtain⟨kvs,h1,h2,h3⟩:=D.of hi ga;exact⟨h1.typeIs,h1.mapOf.noDict⟩,by
  constructor;intro A s G cs r bs hi rl Q E kk
  obtain⟨ca,cb,cc,rfl,ra,rb,rc⟩:=yw rl;obtain⟨a,rfl,ga,hd⟩:=vb ra;obtain⟨t,rfl⟩:=aZ rb;obtain⟨u,rfl⟩:=dC rc;obtain⟨kvs,h1,h2,h3⟩:=D.of hi ga;refine call_meetsIn F.slot_dict_get h1.typeIs F.entry_dict_get (F.args_dict_get_3 _ _ _) (meets_dict_get_default (IK PW w) a (adW ..) hd (.str y u)) ⟨_,h1.mapOf,?_⟩;rcases zQ h2 h3 k with⟨e1,e2⟩|⟨z,t,e1,e2,_⟩
  ·rw[e1] at kk;rw[e2];exact kk _ _ G (ak.toks hi _) (.str _ _)
  ·rw[e1] at kk;rw[e2];exact kk _ _ G (ak.toks hi _) (.str _ _)⟩
end
theorem xX{α:Type}{n:Nat}{cs:List α}(h:cs.length=n+1): ∃a t,cs=a::t/\t.length=n:=by
 cases cs with
 |nil=>cases h
 |cons a t=>exact⟨a,t,rfl,Nat.succ.inj h⟩
theorem qg{α:Type}{cs:List α}(h:cs.length=1): ∃a,cs=[a]:=List.length_eq_one_iff.mp h
theorem jw{α:Type}{cs:List α}(h:cs.length=2): ∃a b,cs=[a,b]:=by
 obtain⟨a,t,e,h1⟩:=xX h;obtain⟨b,k⟩:=qg h1;exact⟨a,b,k▸e⟩
theorem kS{α:Type}{cs:List α}(h:cs.length=3): ∃a b c,cs=[a,b,c]:=by
 obtain⟨a,t,e,h1⟩:=xX h;obtain⟨b,c,k⟩:=jw h1;exact⟨a,b,c,k▸e⟩
theorem UY{α:Type}{cs:List α}(h:cs.length=5): ∃a b c d e,cs=[a,b,c,d,e]:=by
 obtain⟨a,t,e,h1⟩:=xX h;obtain⟨b,u,f,h2⟩:=xX h1;obtain⟨c,d,g,k⟩:=kS h2;exact⟨a,b,c,d,g,k▸f▸e⟩
noncomputable def Gu(tk:Nat):FuncData:=bG (ay 3) "_div2n1n" .none .none (.str "cpy313._pylong" 289) (.ref 44)
theorem G7(B:ai w tk H):cD w H 45 (Gu tk) (aT (ay 3)) ["a","b","n"] [0,1,2]:=dc B rfl rfl rfl rfl rfl rfl rfl (by kernel_rfl)
theorem LY{tk:Nat}(cs:List ZN)(hc:cs.length=3):aba (Gu tk) ⟨cs,[]⟩=pure ((["a","b","n"]:List Str).zip cs):=by obtain⟨a,b,c,rfl⟩:=kS hc;rfl
theorem VX:aL (aJ (ay 3)):=by unfold aL;kernel_rfl
theorem Qi(B:ai w tk H):bk H "_div2n1n" (.ref 45):=c5 B (by decide) (by kernel_rfl)
theorem zY(B:ai w tk H):cF H (.ref 45):=fo B (G7 B)
noncomputable def q8(tk:Nat):FuncData:=bG (ay 5) "_int2digits" .none .none (.str "cpy313._pylong" 289) (.ref 58)
theorem Hd(B:ai w tk H):cD w H 59 (q8 tk) (aT (ay 5)) ["a","n"] [0,1]:=dc B rfl rfl rfl rfl rfl rfl rfl (by kernel_rfl)
theorem L5{tk:Nat}(cs:List ZN)(hc:cs.length=2):aba (q8 tk) ⟨cs,[]⟩=pure ((["a","n"]:List Str).zip cs):=by obtain⟨a,b,rfl⟩:=jw hc;rfl
theorem V1:aL (aJ (ay 5)):=by unfold aL;kernel_rfl
theorem Hr(B:ai w tk H):bk H "_int2digits" (.ref 59):=c5 B (by decide) (by kernel_rfl)
theorem Fd(B:ai w tk H):cF H (.ref 59):=fo B (Hd B)
noncomputable def tu(tk:Nat):FuncData:=bG (ay 6) "_digits2int" .none .none (.str "cpy313._pylong" 289) (.ref 65)
theorem He(B:ai w tk H):cD w H 66 (tu tk) (aT (ay 6)) ["digits","n"] [0,1]:=dc B rfl rfl rfl rfl rfl rfl rfl (by kernel_rfl)
theorem L6{tk:Nat}(cs:List ZN)(hc:cs.length=2):aba (tu tk) ⟨cs,[]⟩=pure ((["digits","n"]:List Str).zip cs):=by obtain⟨a,b,rfl⟩:=jw hc;rfl
theorem V2:aL (aJ (ay 6)):=by unfold aL;kernel_rfl
theorem wX(B:ai w tk H):bk H "_digits2int" (.ref 66):=c5 B (by decide) (by kernel_rfl)
theorem wa(B:ai w tk H):cF H (.ref 66):=fo B (He B)
noncomputable def GF(tk:Nat):FuncData:=bG (ay 7) "_divmod_pos" .none .none (.str "cpy313._pylong" 289) (.ref 72)
theorem Hf(B:ai w tk H):cD w H 73 (GF tk) (aT (ay 7)) ["a","b"] [0,1]:=dc B rfl rfl rfl rfl rfl rfl rfl (by kernel_rfl)
theorem L7{tk:Nat}(cs:List ZN)(hc:cs.length=2):aba (GF tk) ⟨cs,[]⟩=pure ((["a","b"]:List Str).zip cs):=by obtain⟨a,b,rfl⟩:=jw hc;rfl
theorem V3:aL (aJ (ay 7)):=by unfold aL;kernel_rfl
theorem Qj(B:ai w tk H):bk H "_divmod_pos" (.ref 73):=c5 B (by decide) (by kernel_rfl)
theorem N1(B:ai w tk H):cF H (.ref 73):=fo B (Hf B)
noncomputable def GG(tk:Nat):FuncData:=bG (ay 8) "int_divmod" .none .none (.str "cpy313._pylong" 289) (.ref 79)
theorem tE(B:ai w tk H):cD w H 80 (GG tk) (aT (ay 8)) ["a","b"] [0,1]:=dc B rfl rfl rfl rfl rfl rfl rfl (by kernel_rfl)
theorem vS{tk:Nat}(cs:List ZN)(hc:cs.length=2):aba (GG tk) ⟨cs,[]⟩=pure ((["a","b"]:List Str).zip cs):=by obtain⟨a,b,rfl⟩:=jw hc;rfl
theorem yi:aL (aJ (ay 8)):=by unfold aL;kernel_rfl
theorem lL(B:ai w tk H):bk H "int_divmod" (.ref 80):=c5 B (by decide) (by kernel_rfl)
theorem lD(B:ai w tk H):cF H (.ref 80):=fo B (tE B)
noncomputable def Gl(tk:Nat):FuncData:=bG (ay 13) "rgb_to_hls" .none .none (.str "cpy313.colorsys" 371) (.ref 86)
theorem GW(B:ai w tk H):cD w H 87 (Gl tk) (aT (ay 13)) ["r","g","b"] [0,1,2]:=dc B rfl rfl rfl rfl rfl rfl rfl (by kernel_rfl)
theorem LQ{tk:Nat}(cs:List ZN)(hc:cs.length=3):aba (Gl tk) ⟨cs,[]⟩=pure ((["r","g","b"]:List Str).zip cs):=by obtain⟨a,b,c,rfl⟩:=kS hc;rfl
theorem VQ:aL (aJ (ay 13)):=by unfold aL;kernel_rfl
theorem Qx(B:ai w tk H):bk H "rgb_to_hls" (.ref 87):=c5 B (by decide) (by kernel_rfl)
theorem NR(B:ai w tk H):cF H (.ref 87):=fo B (GW B)
noncomputable def Gm(tk:Nat):FuncData:=bG (ay 14) "hls_to_rgb" .none .none (.str "cpy313.colorsys" 371) (.ref 93)
theorem GX(B:ai w tk H):cD w H 94 (Gm tk) (aT (ay 14)) ["h","l","s"] [0,1,2]:=dc B rfl rfl rfl rfl rfl rfl rfl (by kernel_rfl)
theorem LR{tk:Nat}(cs:List ZN)(hc:cs.length=3):aba (Gm tk) ⟨cs,[]⟩=pure ((["h","l","s"]:List Str).zip cs):=by obtain⟨a,b,c,rfl⟩:=kS hc;rfl
theorem VR:aL (aJ (ay 14)):=by unfold aL;kernel_rfl
theorem Qs(B:ai w tk H):bk H "hls_to_rgb" (.ref 94):=c5 B (by decide) (by kernel_rfl)
theorem NS(B:ai w tk H):cF H (.ref 94):=fo B (GX B)
noncomputable def Gn(tk:Nat):FuncData:=bG (ay 15) "_v" .none .none (.str "cpy313.colorsys" 371) (.ref 100)
theorem GY(B:ai w tk H):cD w H 101 (Gn tk) (aT (ay 15)) ["m1","m2","hue"] [0,1,2]:=dc B rfl rfl rfl rfl rfl rfl rfl (by kernel_rfl)
theorem LS{tk:Nat}(cs:List ZN)(hc:cs.length=3):aba (Gn tk) ⟨cs,[]⟩=pure ((["m1","m2","hue"]:List Str).zip cs):=by obtain⟨a,b,c,rfl⟩:=kS hc;rfl
theorem VS:aL (aJ (ay 15)):=by unfold aL;kernel_rfl
theorem AO(B:ai w tk H):bk H "_v" (.ref 101):=c5 B (by decide) (by kernel_rfl)
theorem zW(B:ai w tk H):cF H (.ref 101):=fo B (GY B)
noncomputable def Gp(tk:Nat):FuncData:=bG (ay 16) "rgb_to_hsv" .none .none (.str "cpy313.colorsys" 371) (.ref 107)
theorem GZ(B:ai w tk H):cD w H 108 (Gp tk) (aT (ay 16)) ["r","g","b"] [0,1,2]:=dc B rfl rfl rfl rfl rfl rfl rfl (by kernel_rfl)
theorem LU{tk:Nat}(cs:List ZN)(hc:cs.length=3):aba (Gp tk) ⟨cs,[]⟩=pure ((["r","g","b"]:List Str).zip cs):=by obtain⟨a,b,c,rfl⟩:=kS hc;rfl
theorem VT:aL (aJ (ay 16)):=by unfold aL;kernel_rfl
theorem Qy(B:ai w tk H):bk H "rgb_to_hsv" (.ref 108):=c5 B (by decide) (by kernel_rfl)
theorem NT(B:ai w tk H):cF H (.ref 108):=fo B (GZ B)
noncomputable def Gq(tk:Nat):FuncData:=bG (ay 17) "hsv_to_rgb" .none .none (.str "cpy313.colorsys" 371) (.ref 114)
theorem G0(B:ai w tk H):cD w H 115 (Gq tk) (aT (ay 17)) ["h","s","v"] [0,1,2]:=dc B rfl rfl rfl rfl rfl rfl rfl (by kernel_rfl)
theorem LV{tk:Nat}(cs:List ZN)(hc:cs.length=3):aba (Gq tk) ⟨cs,[]⟩=pure ((["h","s","v"]:List Str).zip cs):=by obtain⟨a,b,c,rfl⟩:=kS hc;rfl
theorem VU:aL (aJ (ay 17)):=by unfold aL;kernel_rfl
theorem Qt(B:ai w tk H):bk H "hsv_to_rgb" (.ref 115):=c5 B (by decide) (by kernel_rfl)
theorem NU(B:ai w tk H):cF H (.ref 115):=fo B (G0 B)
noncomputable def Gr(tk:Nat):FuncData:=bG (ay 20) "in_table_b1" .none .none (.str "cpy313.stringprep" 456) (.ref 132)
theorem G5(B:ai w tk H):cD w H 133 (Gr tk) (aT (ay 20)) ["code"] [0]:=dc B rfl rfl rfl rfl rfl rfl rfl (by kernel_rfl)
theorem LW{tk:Nat}(cs:List ZN)(hc:cs.length=1):aba (Gr tk) ⟨cs,[]⟩=pure ((["code"]:List Str).zip cs):=by obtain⟨a,rfl⟩:=qg hc;rfl
theorem VV:aL (aJ (ay 20)):=by unfold aL;kernel_rfl
theorem Qu(B:ai w tk H):bk H "in_table_b1" (.ref 133):=c5 B (by decide) (by kernel_rfl)
theorem NV(B:ai w tk H):cF H (.ref 133):=fo B (G5 B)
noncomputable def Gs(tk:Nat):FuncData:=bG (ay 22) "map_table_b3" .none .none (.str "cpy313.stringprep" 456) (.ref 178)
theorem G6(B:ai w tk H):cD w H 179 (Gs tk) (aT (ay 22)) ["code"] [0]:=dc B rfl rfl rfl rfl rfl rfl rfl (by kernel_rfl)
theorem LX{tk:Nat}(cs:List ZN)(hc:cs.length=1):aba (Gs tk) ⟨cs,[]⟩=pure ((["code"]:List Str).zip cs):=by obtain⟨a,rfl⟩:=qg hc;rfl
theorem VW:aL (aJ (ay 22)):=by unfold aL;kernel_rfl
theorem Qv(B:ai w tk H):bk H "map_table_b3" (.ref 179):=c5 B (by decide) (by kernel_rfl)
theorem NW(B:ai w tk H):cF H (.ref 179):=fo B (G6 B)
noncomputable def Gv(tk:Nat):FuncData:=bG (ay 30) "_law_figures" .none .none (.str "law_ta0133_01" (tk+272)) (.ref 333)
theorem AJ(B:ai w tk H):cD w H 334 (Gv tk) (aT (ay 30)) ["x","bases"] [0,1]:=dc B rfl rfl rfl rfl rfl rfl rfl (by kernel_rfl)
theorem Ex{tk:Nat}(cs:List ZN)(hc:cs.length=2):aba (Gv tk) ⟨cs,[]⟩=pure ((["x","bases"]:List Str).zip cs):=by obtain⟨a,b,rfl⟩:=jw hc;rfl
theorem JF:aL (aJ (ay 30)):=by unfold aL;kernel_rfl
theorem wY(B:ai w tk H):bk H "_law_figures" (.ref 334):=c5 B (by decide) (by kernel_rfl)
theorem v9(B:ai w tk H):cF H (.ref 334):=fo B (AJ B)
noncomputable def Gw(tk:Nat):FuncData:=bG (ay 31) "_law_palette" .none .none (.str "law_ta0133_01" (tk+272)) (.ref 338)
theorem G8(B:ai w tk H):cD w H 339 (Gw tk) (aT (ay 31)) ["x","size"] [0,1]:=dc B rfl rfl rfl rfl rfl rfl rfl (by kernel_rfl)
theorem LZ{tk:Nat}(cs:List ZN)(hc:cs.length=2):aba (Gw tk) ⟨cs,[]⟩=pure ((["x","size"]:List Str).zip cs):=by obtain⟨a,b,rfl⟩:=jw hc;rfl
theorem VY:aL (aJ (ay 31)):=by unfold aL;kernel_rfl
theorem Qk(B:ai w tk H):bk H "_law_palette" (.ref 339):=c5 B (by decide) (by kernel_rfl)
theorem NX(B:ai w tk H):cF H (.ref 339):=fo B (G8 B)
noncomputable def Gx(tk:Nat):FuncData:=bG (ay 32) "_law_typed" .none .none (.str "law_ta0133_01" (tk+272)) (.ref 343)
theorem G9(B:ai w tk H):cD w H 344 (Gx tk) (aT (ay 32)) ["palette","letters","x"] [0,1,2]:=dc B rfl rfl rfl rfl rfl rfl rfl (by kernel_rfl)
theorem L0{tk:Nat}(cs:List ZN)(hc:cs.length=3):aba (Gx tk) ⟨cs,[]⟩=pure ((["palette","letters","x"]:List Str).zip cs):=by obtain⟨a,b,c,rfl⟩:=kS hc;rfl
theorem VZ:aL (aJ (ay 32)):=by unfold aL;kernel_rfl
theorem Qm(B:ai w tk H):bk H "_law_typed" (.ref 344):=c5 B (by decide) (by kernel_rfl)
theorem NY(B:ai w tk H):cF H (.ref 344):=fo B (G9 B)
noncomputable def Gz(tk:Nat):FuncData:=bG (ay 33) "_law_read" .none .none (.str "law_ta0133_01" (tk+272)) (.ref 348)
theorem Ha(B:ai w tk H):cD w H 349 (Gz tk) (aT (ay 33)) ["signs","letters","again"] [0,1,2]:=dc B rfl rfl rfl rfl rfl rfl rfl (by kernel_rfl)
theorem L1{tk:Nat}(cs:List ZN)(hc:cs.length=3):aba (Gz tk) ⟨cs,[]⟩=pure ((["signs","letters","again"]:List Str).zip cs):=by obtain⟨a,b,c,rfl⟩:=kS hc;rfl
theorem V0:aL (aJ (ay 33)):=by unfold aL;kernel_rfl
theorem Ql(B:ai w tk H):bk H "_law_read" (.ref 349):=c5 B (by decide) (by kernel_rfl)
theorem NZ(B:ai w tk H):cF H (.ref 349):=fo B (Ha B)
noncomputable def GA(tk:Nat):FuncData:=bG (ay 34) "_law_cover" .none .none (.str "law_ta0133_01" (tk+272)) (.ref 353)
theorem tD(B:ai w tk H):cD w H 354 (GA tk) (aT (ay 34)) ["left","palette","size"] [0,1,2]:=dc B rfl rfl rfl rfl rfl rfl rfl (by kernel_rfl)
theorem vR{tk:Nat}(cs:List ZN)(hc:cs.length=3):aba (GA tk) ⟨cs,[]⟩=pure ((["left","palette","size"]:List Str).zip cs):=by obtain⟨a,b,c,rfl⟩:=kS hc;rfl
theorem yh:aL (aJ (ay 34)):=by unfold aL;kernel_rfl
theorem AN(B:ai w tk H):bk H "_law_cover" (.ref 354):=c5 B (by decide) (by kernel_rfl)
theorem zZ(B:ai w tk H):cF H (.ref 354):=fo B (tD B)
noncomputable def GB(tk:Nat):FuncData:=bG (ay 35) "_law_values" .none .none (.str "law_ta0133_01" (tk+272)) (.ref 358)
theorem Hb(B:ai w tk H):cD w H 359 (GB tk) (aT (ay 35)) ["size","base"] [0,1]:=dc B rfl rfl rfl rfl rfl rfl rfl (by kernel_rfl)
theorem L2{tk:Nat}(cs:List ZN)(hc:cs.length=2):aba (GB tk) ⟨cs,[]⟩=pure ((["size","base"]:List Str).zip cs):=by obtain⟨a,b,rfl⟩:=jw hc;rfl
theorem JG:aL (aJ (ay 35)):=by unfold aL;kernel_rfl
theorem Qn(B:ai w tk H):bk H "_law_values" (.ref 359):=c5 B (by decide) (by kernel_rfl)
theorem N0(B:ai w tk H):cF H (.ref 359):=fo B (Hb B)
noncomputable def GC(tk:Nat):FuncData:=bG (ay 36) "_law_light" .none .none (.str "law_ta0133_01" (tk+272)) (.ref 363)
theorem Hc(B:ai w tk H):cD w H 364 (GC tk) (aT (ay 36)) ["place","letters","share","value","turns"] [0,1,2,3,4]:=dc B rfl rfl rfl rfl rfl rfl rfl (by kernel_rfl)
theorem L3{tk:Nat}(cs:List ZN)(hc:cs.length=5):aba (GC tk) ⟨cs,[]⟩=pure ((["place","letters","share","value","turns"]:List Str).zip cs):=by obtain⟨a,b,c,d,e,rfl⟩:=UY hc;rfl
theorem JH:aL (aJ (ay 36)):=by unfold aL;kernel_rfl
theorem Hs(B:ai w tk H):bk H "_law_light" (.ref 364):=c5 B (by decide) (by kernel_rfl)
theorem Fc(B:ai w tk H):cF H (.ref 364):=fo B (Hc B)
noncomputable def GD(tk:Nat):FuncData:=bG (ay 37) "law" .none .none (.str "law_ta0133_01" (tk+272)) (.ref 368)
theorem P0(B:ai w tk H):cD w H 369 (GD tk) (aT (ay 37)) ["script"] [0]:=dc B rfl rfl rfl rfl rfl rfl rfl (by kernel_rfl)
theorem L4{tk:Nat}(cs:List ZN)(hc:cs.length=1):aba (GD tk) ⟨cs,[]⟩=pure ((["script"]:List Str).zip cs):=by obtain⟨a,rfl⟩:=qg hc;rfl
theorem j6:aL (aJ (ay 37)):=by unfold aL;kernel_rfl
theorem g9(B:ai w tk H):bk H "range" (.type "range"):=fQ B (by decide) (by kernel_rfl) (by decide) (by decide+kernel)
theorem g8(B:ai w tk H):bk H "len" (.builtin "len"):=fQ B (by decide) (by kernel_rfl) (by decide) (by decide+kernel)
theorem Ht(B:ai w tk H):bk H "max" (.builtin "max"):=fQ B (by decide) (by kernel_rfl) (by decide) (by decide+kernel)
theorem w5(B:ai w tk H):bk H "min" (.builtin "min"):=fQ B (by decide) (by kernel_rfl) (by decide) (by decide+kernel)
theorem wZ(B:ai w tk H):bk H "int" (.type "int"):=fQ B (by decide) (by kernel_rfl) (by decide) (by decide+kernel)
theorem mC(B:ai w tk H):bk H "str" (.type "str"):=fQ B (by decide) (by kernel_rfl) (by decide) (by decide+kernel)
theorem tJ(B:ai w tk H):bk H "ord" (.builtin "ord"):=fQ B (by decide) (by kernel_rfl) (by decide) (by decide+kernel)
theorem tH(B:ai w tk H):bk H "chr" (.builtin "chr"):=fQ B (by decide) (by kernel_rfl) (by decide) (by decide+kernel)
theorem Qz(B:ai w tk H):bk H "sum" (.builtin "sum"):=fQ B (by decide) (by kernel_rfl) (by decide) (by decide+kernel)
theorem Qo(B:ai w tk H):bk H "abs" (.builtin "abs"):=fQ B (by decide) (by kernel_rfl) (by decide) (by decide+kernel)
theorem tI(B:ai w tk H):bk H "enumerate" (.type "enumerate"):=fQ B (by decide) (by kernel_rfl) (by decide) (by decide+kernel)
theorem AP(B:ai w tk H):bk H "list" (.type "list"):=fQ B (by decide) (by kernel_rfl) (by decide) (by decide+kernel)
theorem Qw(B:ai w tk H):bk H "reversed" (.type "reversed"):=fQ B (by decide) (by kernel_rfl) (by decide) (by decide+kernel)
theorem Qr(B:ai w tk H):bk H "divmod" (.builtin "divmod"):=fQ B (by decide) (by kernel_rfl) (by decide) (by decide+kernel)
theorem w6(B:ai w tk H):bk H "type" (.type "type"):=fQ B (by decide) (by kernel_rfl) (by decide) (by decide+kernel)
theorem Hp(B:ai w tk H):bk H "ValueError" (.type "ValueError"):=fQ B (by decide) (by kernel_rfl) (by decide) (by decide+kernel)
theorem Hq(B:ai w tk H):bk H "ZeroDivisionError" (.type "ZeroDivisionError"):=fQ B (by decide) (by kernel_rfl) (by decide) (by decide+kernel)
noncomputable def dw:List Int:=[173,847,6150,6155,6156,6157,8203,8204,8205,8288,65279]++aS 65024 65040
noncomputable def zr(P:abm)(tk:Nat):List (Int×ZN):=match(((KK P tk).lookup 123).getD default).data with
 | .set es _ _=>es.toList
 |_=>[]
noncomputable def Eu(P:abm)(tk:Nat):Obj:=((KK P tk).lookup 123).getD default
theorem zu(B:ai w tk H):H.get? 123=some (Eu w.params tk):=B.frag _ _ (by kernel_rfl)
noncomputable def zt(e:Int×ZN):Bool:=match e.2 with
 | .int k _=>decide (e.1=hashInt k)&&decide (k∈dw)
 |_=>false
theorem Ew(P:abm):(zr P tk).all zt=true:=by kernel_rfl
theorem LJ(P:abm):(dw.all fun k=>(zr P tk).any fun e=>match e.2 with| .int q _=>decide (q=k)|_=>false)=true:=by kernel_rfl
set_option tactic.hygienic true in
theorem LL:(Eu w.params tk).SetObjOf (intKind PW w) (fun k=>decide (k∈dw)) 27:=by
 refine⟨⟨rfl,rfl,rfl⟩,(zr w.params tk).toArray,_,_,rfl,fun e he=> ?_,fun k=> ?_,rfl,rfl⟩
 ·have h:=Z3.mp (Ew (tk:=tk) w.params) e (by simpa using he)
  unfold zt at h;split at h
  ·rename_i k t hk
   simp only[aax,decide_eq_true_eq] at h;refine⟨⟨k,by rw[hk];exact adW ..,?_⟩,by rw[hk];rfl⟩;exact h.1
  ·cases h
 ·rw[decide_eq_true_eq]
  constructor
  ·intro hk
   obtain⟨e,he,h⟩:=List.any_eq_true.mp (Z3.mp (LJ (tk:=tk) w.params) k hk);refine⟨e,by simpa using he,?_⟩;split at h
   ·rename_i q t hq
    rw[hq,<-of_decide_eq_true h];exact adW ..
   ·cases h
  ·rintro⟨e,he,h⟩
   have h':=Z3.mp (Ew (tk:=tk) w.params) e (by simpa using he);unfold zt at h';split at h'
   ·rename_i q t hq
    rw[hq] at h;simp only[aax,decide_eq_true_eq] at h';have:q=k:=by simpa [intKind,Value.isInt] using h
    exact this▸h'.2
   ·cases h'
theorem Qp(B:ai w tk H):bk H "b1_set" (.ref 123):=c5 B (by decide) (by kernel_rfl)
theorem OU(B:ai w tk H)(i:Nat){el:Expr}{p pos:Pos}{k:Int}(hx:sc.names[i]?=some (("b1_set" :Str), .globalImplicit))(ha:ah w H l n sc ρ el (.int k)):
 ah w H l n sc ρ (.Compare el [.In] [.Name "b1_set" p] pos) (.bool (decide (k∈dw))):= .mk fun env A s G r S Q E kk=>
 wpAny_Compare1 (ha.go env A s G r S _ E fun ca s₁ G₁ af aA=>(gY (n:=n) B (Qp B) hx (v:= .at 123) (fun G=> .at 123)).go env A s₁ G₁ r (S.ext af) _ E fun cb ar aB ax bx=>by
  obtain rfl:=fe bx;obtain⟨t,rfl⟩:=aZ aA;have hS:=(S.ext (af.trans ax)).base _ _ (zu B) (by decide);refine wpAny_inSet_of (knd:=intKind PW w) (k:=k) (adW ..) rfl (LL.setOf hS (by decide)) (kk _ _ aB ((af.trans ax).trans (ak.toks ax.inn _)) (.bool _))) rfl
theorem MZ(B:ai w tk H){c:Nat}:aU w H (l+1) n (.ref 133) [.str ⟨#[c]⟩] (.bool (decide ((c:Int)∈dw))):=by
 have nd:=VV
 conv at nd=>arg 1;whnf
 refine dy B (G5 B) LW rfl (ow:=[]) ?_;show aD w [] H l 40 (aJ (ay 20)) [(0, .str ⟨#[c]⟩)] [] (aT (ay 20)) _
 conv=>arg 6;whnf
 conv=>arg 9;whnf
 exact bZ (OU B 2 rfl (aR 1 B (tJ B) (.bi _) rfl (ae (aa 0 nd rfl) ao) ta))
theorem OY{e:Expr}{v:V}(h:ah w H l n sc ρ e v):qH N w H l n sc ρ e v:=(fun env A s G z=>h.go env A s G)
theorem Pl{st:Stmt}(h:bV w X H l n sc ρ ow st o):oE N w X H l n sc ρ ow st o:=(fun env A G₀ s₀ G s Q E z=>h.go env A G₀ s₀ G s Q E)
theorem EM{ss:List Stmt}(h:aD w X H l n sc ρ ow ss o):gT N w X H l n sc ρ ow ss o:=(fun env A G₀ s₀ G s Q E z=>h.go env A G₀ s₀ G s Q E)
set_option tactic.hygienic true in
theorem zy{st:Stmt}{ss:List Stmt}(h:oE N w X H l n sc ρ ow st (.next ρ' ow'))(hr:gT N w X H l n sc ρ' ow' ss o):gT N w X H l n sc ρ ow (st::ss) o:=
 (fun env A G₀ s₀ G s Q E hN q r I k=>aar (jE hN (h env A G₀ s₀ G s _ E hN q r I fun f G' s' ok rz=>by
  obtain⟨rfl,I'⟩:=ok;exact hr env A G₀ s₀ G' s' Q E rz q r I' k)))
set_option tactic.hygienic true in
theorem zG{st:Stmt}{ss:List Stmt}(h:bV w X H l n sc ρ ow st (.next ρ' ow'))(hr:gT N w X H l n sc ρ' ow' ss o):gT N w X H l n sc ρ ow (st::ss) o:=zy (Pl h) hr
set_option tactic.hygienic true in
theorem My{st:Stmt}(h:oE N w X H l n sc ρ ow st (.next ρ' ow')):gT N w X H l n sc ρ ow [st] (.next ρ' ow'):=zy h (EM gk)
set_option tactic.hygienic true in
theorem MK{ss:List Stmt}(h:gT N w X H l n sc ρ ow ss (.next ρ' ow')){i5:aw}{gM:Ow}(h1: ∀p∈i5,p∈ρ')(h2:aeR gM ow'):gT N w X H l n sc ρ ow ss (.next i5 gM):=
 (fun env A G₀ s₀ G s Q E hN q r I k=>h env A G₀ s₀ G s Q E hN q r I fun f G' s' ok=>k f G' s' ⟨ok.1,ok.2.sub h1 h2⟩)
set_option tactic.hygienic true in
theorem Pa(i:Nat){x:Str}{kd:aam}{e:Expr}{p pos:Pos}{v:V}(h:qH N w H l n sc ρ e v)(hx:sc.names[i]?=some (x,kd))(hk:autoParam (kd= .local\/kd= .cell) au)
 (hs:autoParam (abY e (some (.Name x p)) pos.line (da sc)=pure false) au):
 oE N w X H l n sc ρ ow (.Assign [.Name x p] e pos) (.next (dD ρ i v) ow):=(fun env A G₀ s₀ G s Q E hN q r I k=>by
 rw[ab3 _ _ _ _ _ (kj hs q)];refine ZO (aaM (ZO (h env A s G hN r I.st _ E fun cv s' G' x' r'=>ZO (aaM (ZO ?_)))));exact acL ((I.ext' x').kept_set hx hk r' fun jJ s'' kq z=>ZS (k _ jJ s'' ⟨rfl,kq⟩)))
theorem OT{α:Type}{f:α->V}{t e e':Expr}{pos:Pos}{c:Bool}{x y:α}(h:aM w H l n sc ρ t c)(h1:c=true->qH N w H l n sc ρ e (f x))(h2:c=false->qH N w H l n sc ρ e' (f y)):qH N w H l n sc ρ (.IfExp t e e' pos) (f (if c then x else y)):=
 (fun env A s G hN r S Q E k=>wpAny_IfExp (jE hN (h.go env A s G r S _ E fun s₁ G₁ af rz=>by
  cases c with
  |true=>exact(h1 rfl) env A s₁ G₁ rz r (S.ext af) Q E fun cv ar aB ax=>k cv ar aB (af.trans ax)
  |false=>exact(h2 rfl) env A s₁ G₁ rz r (S.ext af) Q E fun cv ar aB ax=>k cv ar aB (af.trans ax))))
theorem O1(B:ai w tk H){oe de ke:Expr}{cx:Expr}{cp p1 p2 apos pos:Pos}{x:Str}{d:Obj}{ps:List (Int×Str)}{k:Int}{y:Str}{i:Nat}(D:l5 w d ps N)
 (ho:ah w H l n sc ρ oe (.str x)) (hd:ah w H l n sc ρ de (.obj d)) (hk:ah w H l n sc ρ ke (.int k)) (fR:ah w H l n sc ρ cx (.int k))
 (hx:sc.names[i]?=some (("chr" :Str), .globalImplicit)) (hy:dG ps k=some y) (h0:0<=k) (h1:k<=1114111) (Tw:(y==⟨#[k.toNat]⟩)=false) (hl:x.length+(x.length+1)<=16777216)
 (ib:autoParam (∀env,adC oe "replace" env (eval oe env)=eval oe env) au) (fS:autoParam ((apos.endLine==pos.line)=true) au) (h2:autoParam (dU [cx]=true) au)
 (dm:autoParam (∀env,aa4 [.Subscript de ke p1, .Call (.Name "chr" cp) [cx] [] p2] env=[(false,eval (.Subscript de ke p1) env),(false,eval (.Call (.Name "chr" cp) [cx] [] p2) env)]) au)
 (hs:autoParam (∀c u,ac4 ke false (.ref c) (.int k u)=operate [.ref c, .int k u] (getItem (.ref c) (.int k u))) au)
 (hg:autoParam (∀o r,letTemporaryGo de o r=pure ()) au):
 qH N w H l n sc ρ (.Call (.Attribute oe "replace" apos) [.Subscript de ke p1, .Call (.Name "chr" cp) [cx] [] p2] [] pos) (.str (aea x y ⟨#[k.toNat]⟩)):=
 (fun env A s G hN r S Q E kk=>Call_method2 (ib env) (dm env) fS (jE hN (ho.go env A s G r S _ E fun ca s₁ G₁ af aA tS=>by
  obtain⟨t,rfl⟩:=dC aA;refine⟨"str","str.replace",F.plainAttrs_str,F.slot_str_replace,F.type_str_replace,typeIs_str _ _ _,(fun b e=>nomatch e),?_⟩;refine adk rfl (abu (abZ (jE tS (ad1 (hd.go env A s₁ G₁ r (S.ext af) _ E fun cd ar aB ax bx=>hk.go env A ar aB r ((S.ext af).ext ax) _ E fun ci bj bI bL dT=> ?_)))));obtain⟨a,rfl,ga,Zr⟩:=vb (cN bL.sub bx);obtain⟨u,rfl⟩:=aZ dT
  obtain⟨kvs,e1,e2,e3⟩:=D.of bL.inn ga;rcases zQ e2 e3 k with⟨q1,q2⟩|⟨z,m,q1,q2,q3,q4⟩
  ·rw[hy] at q1;cases q1
  ·rw[hy] at q1;cases q1
   refine subscriptTail_builtin e1.typeIs slot_dict_getitem.lookup (wpAny_getItem_of (knd:=IK PW w) (k:=k) (adW ..) e1.mapOf q2 ?_) (hs _ _) (hg _);intro xg;have yS:ak aq G s bI {bj with toks:=bj.toks+1}:=((af.trans ax).trans bL).trans (ak.toks bL.inn _)
   refine abZ (jE xg (aaZ (eZ B (tH B) hx (S.ext yS) (ml (H:=H) (.bi _) (dE h2).2 (jB (dE (pos:=p2) (env:=env) h2).1).1 (jE xg ((ae fR ao (hs:=by simp only[dU,qy,acn] at h2;first|exact h2|exact h2.1)).go env A _ bI p2 r (S.ext yS) _ E fun cs dN ko gh Ko rA=>⟨((S.ext yS).ext gh).base,?_⟩))))));obtain⟨ci,rfl,rc⟩:=fI Ko;obtain⟨v,rfl⟩:=aZ rc;refine chr_of_range h0 h1 ?_;intro HH;refine acV ?_
   refine SC.replace (acj q3) (acj (aaa (aaa q3 (abq q4)) rA)) (abV (aaa q4 rA)) Tw (by show _+_*1<=_;simp[*]) fun t' tk'=> ?_
   exact kk _ _ ko (((yS.trans gh).trans (ak.toks gh.inn _))) (.str _ _))))
set_option tactic.hygienic true in
theorem Pd{tg e:Expr}{body:List Stmt}{pos:Pos}{items:List V}{R R':Nat->aw}{O:Nat->Ow}(hit:cI w H l n sc ρ tg e items)(h0: ∀p∈R 0,p∈ρ)(hO:O 0=ow)
 (jr: ∀k v,items[k]?=some v->jM w X H sc tg (R k) v (R' k))
 (hb: ∀k v,items[k]?=some v->gT N w X H l n sc (R' k) (O k) body (.next (R (k+1)) (O (k+1))))
 (hs:autoParam (∀env x,aaN e env x=pure x) au):oE N w X H l n sc ρ ow (.For tg e body [] pos) (.next (R items.length) (O items.length)):=
 F7 hit h0 hO (fun k v z=>jr k v) (fun k v z=>hb k v) (.inl ⟨rfl,rfl⟩) hs
theorem WD{kvs:List (Int×ZN)}: ∀{es:List abG},Pairs (IK PW w) es kvs->es.map (fun x=>match x.key with| .int k _=>some k|_=>none)=kvs.map fun p=>some p.1:=by
 intro es h
 induction h with
 |nil=>rfl
 |cons h1 _ _ ih=>
  rw[aah,aah,ih];obtain⟨t,e⟩:=Value.isInt_shape h1;rw[e]
theorem l5.keys{d:Obj}{ps:List (Int×Str)}(D:l5 w d ps N): ∃ents ep,d=d9 ents ep/\ents.toList.map (fun x=>match x.key with| .int k _=>some k|_=>none)=(ps.map (·.1)).map some:=by
 refine gz fun zq zk=> ?_
 obtain⟨es,ep,kvs,rfl,⟨Zl,Zi,h1,h2,h3,h4,h5⟩,h6,h7⟩:=D;cases h2;refine zk ?_;refine⟨es,ep,rfl,?_⟩;rw[WD h4,<-h6.keys,aaf];rfl
theorem MB(B:ai w tk H){x:Str}{kd:aam}{ks:List (Option Expr)}{vs:List Expr}{pd p pos:Pos}{rest:List Stmt}{ps:List (Int×Str)}(i:Nat)(fw:oZ ks vs=some ps)(eR:(ps.map (·.1)).Nodup)(xb:ps.length=16)
 (hx:sc.names[i]?=some (x,kd)) (h: ∀d N,l5 w d ps N->gT N w X H l n sc (dD ρ i (.obj d)) ow rest o) (hk:autoParam (kd= .local\/kd= .cell) au)
 (hs:autoParam (abY (.Dict ks vs pd) (some (.Name x p)) pos.line (da sc)=pure false) au):
 aD w X H l n sc ρ ow (.Assign [.Name x p] (.Dict ks vs pd) pos::rest) o:= .mk fun env A G₀ s₀ G s Q E q r I k=>by
 refine aar (abJ (Q:=fun f s'=> ∃N d G',l5 w d ps N/\N<=s'.toks/\f= .next/\av X H sc env (dD ρ i (.obj d)) ow G₀ s₀ G' s') ?_ (fun f s' hq=> ?_) fun z z e=>e)
 ·rw[ab3 _ _ _ _ _ (kj hs q)]
  refine ZO (aaM (ZO ?_));rw[arm_eval_Dict,Fu _ _ _ fw];refine ZO (aaM ?_);refine Ox eR xb fun h' t' kvs hc ht hD fR=> ?_
  have xc:=hD;refine gz fun zq zk=> ?_
  obtain⟨⟨c,dd,dt,sl⟩,B7,Ih⟩:=Heap.dictOf_iff.mp xc;obtain⟨es,ep,⟨e1,e2,e3⟩,e4,e5⟩:=id Ih;dsimp only at e1 e2 e3 e4;subst e1 e2 e3 e4;refine zk ?_;have hn:s.heap.get? s.heap.objs.size=none:=ct (aab _);have hg:G s.heap.objs.size=none:=cY I.st.inn hn;have af:ak aq G s (bN G s.heap.objs.size (d9 es ep)) {s with heap:=h',toks:=t'}:=ak.freeze (ak.grown I.st.inn t' fR) B7 (.inl hn) hg (.inl hn)
  have hS:(s.heap.objs.size==acI)=false:=by
   have:=aa1 (I.st.base _ _ (zu B) (by decide));exact beq_false_of_ne (acj (ZY (by decide) this))
  have rd:Rd (bN G s.heap.objs.size (d9 es ep)) (.obj (d9 es ep)) (.ref s.heap.objs.size):= .obj iK hS;refine ZO (aaM (ZO ?_));refine jE (N:=t') (aab _) (acL ((I.ext' af).kept_set hx hk rd fun jJ s'' kq z hN=>ZS ?_));exact⟨t',d9 es ep,jJ,⟨es,ep,kvs,rfl,Ih,hc,ht⟩,hN,rfl,kq⟩
 ·obtain⟨N,d,G',D,hN,rfl,I'⟩:=hq
  exact(h d N D) env A G₀ s₀ G' s' Q E hN q r I' k
noncomputable def l3(w:Z2)(H:Heap):Prop:= ∃kvs,cC lz kvs/\H.DictOf (IK PW w) 134 kvs
noncomputable def Ej(w:Z2)(H:Heap)(l n:Nat)(name:Str)(a:V)(as:List V)(v:V):Prop:=
 ∃(T id:String),PlainAttrs T/\Slot T name id/\typeOf (.builtin id)=pure (.type "method_descriptor")/\
  (∀(G:GM) (s:ZL) (ca:ZN),Bs H G s->bS G s->Rd G a ca->s.TypeIs ca T/\ ∀b,ca= .ref b-> ∃ob,s.heap.get? b=some ob/\ob.dict=none)/\aU w H l n (.builtin id) (a::as) v
noncomputable def i8(c:Nat):Str:=(dG lz (c:Int)).getD (aau ⟨#[c]⟩)
theorem OX{oe:Expr}{name:Str}{apos pos:Pos}{es:List Expr}{a:V}{as:List V}{v:V}(hm:Ej w H l n name a as v)(ho:ah w H l n sc ρ oe a)(ha:dX w H l n sc ρ es as)
 (h1:autoParam (dU es=true) au)
 (ib:autoParam (∀env,adC oe name env (eval oe env)=eval oe env) au) (fS:autoParam ((apos.endLine==pos.line)=true) au)
 (pH:autoParam (decide (es.length<30)=true) au):ah w H l n sc ρ (.Call (.Attribute oe name apos) es [] pos) v:=
 .mk fun env A s G r S Q E k=>wpAny_Call_method_lateS (ib env) (GL h1 pH) fS (ho.go env A s G r S _ E fun ca s₁ G₁ af aA=>by
  obtain⟨T,id,pa,sl,ty,ht,hv⟩:=hm;obtain⟨t1,t2⟩:=ht G₁ s₁ ca (S.ext af).bs af.inn aA;refine⟨T,id,pa,sl,ty,t1,t2,?_⟩;obtain⟨x,rest,he⟩:=(dE (pos:=pos) (env:=env) h1).2;have hp:=(jB (pos:=pos) (env:=env) (dE (pos:=pos) (env:=env) h1).1).1;have hs:=ha.go env A s₁ G₁ pos r (S.ext af) (fun vs s'=>Z6 (Z8 PW w) A (call (.builtin id) (ca::vs)) Q E s') E fun cs ar aB ax bx=>
   hv.go A ar aB (ca::cs) r ((S.ext af).ext ax).bs ax.inn (.cons (cN ax.sub aA) bx) Q E fun cv bj bI bL dT=>k cv bj bI ((af.trans ax).trans bL) dT
  rw[he] at hs hp⊢;exact adk hp (abu hs))
set_option tactic.hygienic true in
theorem NH{ps:List (Int×Str)}{kvs:List (Int×ZN)}(h:cC ps kvs)(k:Int):(dG ps k=none/\valueAt kvs k=none)\/ ∃x t,dG ps k=some x/\valueAt kvs k=some (.str x t):=by
 have h1:=E7 h k;unfold dG;cases e:valueAt kvs k with
 |none=>
  rw[e] at h1;cases e':ps.find? (fun p=>p.1=k) with
  |none=>exact .inl ⟨rfl,rfl⟩
  |some p=>rw[e'] at h1;cases h1
 |some v=>
  rw[e] at h1;cases e':ps.find? (fun p=>p.1=k) with
  |none=>rw[e'] at h1;cases h1
  |some p=>
   rw[e'] at h1;simp only[Option.map_some,adF] at h1;unfold sv at h1;split at h1
   ·rename_i x t;exact .inr ⟨x,t,by injection h1 with h1;rw[h1];rfl,rfl⟩
   ·cases h1
theorem FH{d:Addr}{kvs:List (Int×ZN)}(hd:H.DictOf (IK PW w) d kvs)(ht:d∉aq){G:GM}{s:ZL}(b:Bs H G s):s.heap.DictOf (IK PW w) d kvs:=by
 obtain⟨o,es,ep,ho,r⟩:=hd;exact⟨o,es,ep,b.base _ _ ho ht,r⟩
theorem Vr(B3:l3 w H){k:Int}:Ej w H l n "get" (.at 134) [.int k] (ostr (dG lz k)):=
 ⟨"dict","dict.get",F.plainAttrs_dict,F.slot_dict_get,F.type_dict_get,fun G s ca b hi r=>by
  obtain rfl:=fe r;obtain⟨kvs,h2,h1⟩:=B3;have h1:=FH h1 (by decide) b;exact⟨h1.typeIs,h1.mapOf.noDict⟩,by
  constructor;intro A s G cs r bs hi rl Q E kk
  obtain⟨ca,cb,rfl,ra,rb⟩:=qx rl;obtain rfl:=fe ra;obtain⟨t,rfl⟩:=aZ rb;obtain⟨kvs,h2,h1⟩:=B3;have h1:=FH h1 (by decide) bs;refine call_meetsIn F.slot_dict_get h1.typeIs F.entry_dict_get (F.args_dict_get_2 _ _) (meets_dict_get (IK PW w) 134 (adW ..) (by decide)) ⟨_,h1.mapOf,?_⟩;rcases NH h2 k with⟨e1,e2⟩|⟨z,t,e1,e2⟩
  ·rw[e1] at kk;rw[e2];exact kk _ _ G (ak.toks hi _) .none
  ·rw[e1] at kk;rw[e2];exact kk _ _ G (ak.toks hi _) (.str _ _)⟩
theorem Qq(B:ai w tk H):bk H "b3_exceptions" (.ref 134):=c5 B (by decide) (by kernel_rfl)
theorem M0(B:ai w tk H)(B3:l3 w H){c:Nat}:aU w H (l+1) n (.ref 179) [.str ⟨#[c]⟩] (.str (i8 c)):=by
 have nd:=VW
 conv at nd=>arg 1;whnf
 refine dy B (G6 B) LX rfl (ow:=[]) ?_;show aD w [] H l 40 (aJ (ay 22)) [(0, .str ⟨#[c]⟩)] [] (aT (ay 22)) _
 conv=>arg 6;whnf
 conv=>arg 9;whnf
 refine aH (wG 1 (OX (Vr B3) (gY B (Qq B) rfl (i:=2) (fun G=> .at _)) (ae (aR 3 B (tJ B) (.bi _) rfl (ae (aa 0 nd rfl) ao) ta) ao)) rfl rfl) ?_;unfold i8;cases e:dG lz (c:Int) with
 |none=>exact jP (aF (c:=false) (aa 1 nd rfl) en (mj fun z=>V.noConfusion)) (bZ (gq (nZ (by show 1<=_;decide)) (aa 0 nd rfl)))
 |some x=>exact lB (aF (c:=true) (aa 1 nd rfl) en (mj fun z=>V.noConfusion)) (bZ (aa 1 nd rfl))
namespace Pt
theorem plainAttrs:PlainAttrs "re.Pattern" :=⟨⟨"object.__getattribute__",by rw[adX,acZ];kernel_rfl,by decide+kernel⟩,by rw[adX,acZ];kernel_rfl⟩
theorem slot:Slot "re.Pattern" "search" "re.Pattern.search" :=
 .of (owner:= "re.Pattern") (n:= "search") (by rw[adX,acZ];kernel_rfl) (by decide+kernel) (by decide+kernel) (by decide+kernel)
  (by first|exact .inl (by decide+kernel)|exact .inr (by decide+kernel)) (by rw[isSubtype_type];kernel_rfl)
theorem type:typeOf (.builtin "re.Pattern.search")=pure (.type "method_descriptor"):=by show builtinType _=_;rw[builtinType_eq_fast];kernel_rfl
theorem entry:entryFor table "re.Pattern.search" =some Builtin.«re.Pattern.search»:=entryFor_of_tree (by kernel_rfl)
theorem args(a b:ZN):argsOk "re.Pattern.search" ⟨[a,b],[]⟩:=by unfold argsOk;kernel_rfl
theorem noBool:typeLookup (.type "re.Match") "__bool__" =pure none:=by rw[adX,acZ];kernel_rfl
theorem noLen:typeLookup (.type "re.Match") "__len__" =pure none:=by rw[adX,acZ];kernel_rfl
end Pt
noncomputable def ti:Nat->Sre.M->Option Sre.M
 |0,_=>none
 |k+1,m=>if(m.runFor 4).outcome.isSome then some (m.runFor 4) else ti k (m.runFor 4)
section
variable {E:ZN->ZL->Prop}
theorem Y4{m':Sre.M}{Q:Sre.M->ZL->Prop}(hQ:Q m' s)(k:Nat): ∀(turns:Nat) (m:Sre.M),ti k m=some m'->k<=turns->Z6 (Z8 prog w) A (Builtin.Re.reDrive turns m) Q E s:=by
 induction k with
 |zero=>exact fun z z h z=>fM h
 |succ k ih=>
  intro turns m h hk;cases turns with
  |zero=>exact absurd hk (Nat.not_succ_le_zero _)
  |succ turns=>
   have h:(if(m.runFor 4).outcome.isSome=true then some (m.runFor 4) else ti k (m.runFor 4))=some m':=h;show Z6 _ _ (if(m.runFor 4).outcome.isSome=true then _ else _) _ _ _
   by_cases hs:(m.runFor 4).outcome.isSome=true
   ·rw[if_pos hs] at h⊢;cases gR h;exact ZS hQ
   ·rw[if_neg hs] at h⊢;exact ZO (wpAny_rule (ih turns _ h (Nat.le_of_succ_le_succ hk)))
theorem Y5{k:Nat}{m m':Sre.M}{c:Bool}{Q:Option Sre.M->ZL->Prop}(h:ti k m=some m')(hk:k<=2^64)(ho:m'.outcome=some (if c then .matched else .failed))(hQ:Q (if c then some m' else none) s):
 Z6 (Z8 prog w) A (Builtin.Re.reRunToEnd m) Q E s:=by
 unfold Builtin.Re.reRunToEnd;refine ZO (Y4 ?_ k _ m h hk);refine ZO (wpAny_forIn_list _ (fun z z s'=>s'=s) _ (fun x rest b s' e=> ?_) (fun b s' e=> ?_) _ _ rfl)
 ·subst e
  split
  ·exact ZO (wpAny_rule (ZS rfl))
  ·exact ZS rfl
 ·subst e
  rw[ho];cases c
  ·exact ZS hQ
  ·exact ZS hQ
noncomputable def found(code:List Nat)(x:Str):Option Bool:=(ti 64 (Sre.forSearch code.toArray x.cps 0 0 x.cps.size false)).bind fun m=>m.outcome.bind fun o=>o.rec (some true) (some false) fun z=>none
structure vD(h:Heap)(a:Addr)(code:List Nat):Prop where
 ex: ∃vs c items n,h.get? a=some {cls:= .type "re.Pattern",dict:=none,data:= .fields vs,slots:= #[]}/\Builtin.Re.reRawNat (vs.getD 6 .none)=0/\vs.getD 5 .none= .ref c/\Builtin.Re.reRawNat (vs.getD 2 .none)=0/\
  h.get? c=some {cls:= .type "tuple",dict:=none,data:= .seq items n,slots:= #[]}/\(items.map Builtin.Re.reRawOf).map (·.toNat)=code.toArray
theorem NG{a:Addr}{code:List Nat}{x:Str}{t:Tok}{c:Bool}{Q:ZN->ZL->Prop}(hp:vD s.heap a code)(hf:found code x=some c)(hx:x.cps.size<2^62)
 (h0:c=false->Q .none s) (h1:c=true-> ∀h' r d,(∀b o,s.heap.get? b=some o->h'.get? b=some o)->h'.get? r=some {cls:= .type "re.Match",dict:=none,data:= .fields d,slots:= #[]}->Q (.ref r) {s with heap:=h'}):
 Z6 (Z8 prog w) A (call (.builtin "re.Pattern.search") [.ref a, .str x t]) Q E s:=by
 obtain⟨vs,ca,items,n,e1,e2,e3,e4,e5,e6⟩:=hp.ex;refine aep Pt.slot ⟨_,e1,rfl⟩ Pt.entry ?_ (Pt.args _ _);unfold Builtin.«re.Pattern.search» Builtin.Re.reTarget;refine ZO ?_;dsimp only;refine ZO (m:=Builtin.Re.reNamed _ _ _ _ _ _) (adI (a:=[some (.str x t),none,none]) (by kernel_rfl) ?_);dsimp only;refine ZO (ZS (ZO (ZS (ZO (wpAny_fieldsOf e1 rfl ?_)))))
 refine ZO (m:=Builtin.Re.reTextOf _) (ZO (ZS (ZS ?_)));dsimp only;rw[e2,if_neg (by decide),if_neg (by decide)];refine ZO (m:=Builtin.Re.reNoCollectionInside _ _) (ZS ?_);rw[e3,e4];refine ZO (m:=Builtin.Re.reRawItems _) (ZO (wpAny_seqItems e5 rfl (ZS ?_)));refine ZS ?_;dsimp only;rw[aen,e6];have Sk:min (Int.toNat 0) x.cps.size=0:=by simp
 have Sl:min (2^63 -1:Int).toNat x.cps.size=x.cps.size:=adl (by
  have:(2^63 -1:Int).toNat=9223372036854775807:=by decide
  rw[this];exact ZW (Nat.le_of_lt_succ ‹_›) (by decide))
 rw[Sk,Sl];obtain⟨m,hm,hf⟩:=aaP.mp hf;obtain⟨o,ho,hf⟩:=aaP.mp hf;have SG:m.outcome=some (if c then .matched else .failed):=by
  cases o with
  |matched=>cases gR hf;exact ho
  |failed=>cases gR hf;exact ho
  |stuck=>exact fM hf
 unfold Builtin.Re.reAnswer;refine ZO (Y5 hm (by decide) SG ?_);cases c with
 |false=>exact ZS ⟨_,rfl,h0 rfl⟩
 |true=>
  show Z6 _ _ (Builtin.Re.reNewMatch _ _ _ _ _ _>>=_) _ _ _
  unfold Builtin.Re.reNewMatch;dsimp only;refine ZO (ady rfl ?_);show Z6 _ _ (newTuple [adO _,adO _]>>=_) _ _ _
  unfold newTuple;refine ZO (adb ?_ (by size_fits));refine adb ?_ (by size_fits);exact ZS ⟨_,rfl,h1 rfl _ _ _ (fun b o e=>Z9 _ (Z9 _ e)) (aai _ rfl)⟩
end
noncomputable def gm:List Nat:=[14,10,4,1,1,22,0,31,16,127,0,13,7,22,0,31,16,127,0,1]
noncomputable def oY:List Nat:=[14,14,4,1,1,9,4294966783,0,0,2147483648,0,0,0,0,0,13,11,9,4294966783,0,0,2147483648,0,0,0,0,0,1]
noncomputable def GQ(P:abm)(tk a:Nat):Array Value:=match((KK P tk).lookup a).getD default with
 |⟨_,_, .fields vs,_⟩=>vs
 |_=> #[]
noncomputable def Kt(P:abm)(tk a:Nat):Array Value:=match((KK P tk).lookup a).getD default with
 |⟨_,_, .seq vs _,_⟩=>vs
 |_=> #[]
section
theorem jv(B:ai w tk H){G:GM}{s:ZL}(b:Bs H G s):(KK w.params tk).In s.heap:=fun a o e=>b.base a o (B.frag a o e) fun hm=>by
 have h1:(KK w.params tk).lookup 54=none:=by kernel_rfl
 have h2:(KK w.params tk).lookup 61=none:=by kernel_rfl
 simp only[aq,ZU,aaz,or_false] at hm;rcases hm with rfl|rfl
 ·rw[h1] at e;cases e
 ·rw[h2] at e;cases e
theorem J7{P:abm}{h:Heap}(X:(KK P tk).In h):vD h 189 gm:=
 ⟨⟨GQ P tk 189,188,Kt P tk 188,0,X _ _ (by kernel_rfl),by kernel_rfl,by kernel_rfl,by kernel_rfl,X _ _ (by kernel_rfl),by kernel_rfl⟩⟩
theorem WK{P:abm}{h:Heap}(X:(KK P tk).In h):vD h 194 oY:=
 ⟨⟨GQ P tk 194,193,Kt P tk 193,0,X _ _ (by kernel_rfl),by kernel_rfl,by kernel_rfl,by kernel_rfl,X _ _ (by kernel_rfl),by kernel_rfl⟩⟩
theorem YD{A:aaj}{s:ZL}{r:Addr}{d:Array ZN}{Q:Bool->ZL->Prop}{E:ZN->ZL->Prop}(h:s.heap.get? r=some {cls:= .type "re.Match",dict:=none,data:= .fields d,slots:= #[]})(k:Q true s):
 Z6 (Z8 PW w) A (truthy (.ref r)) Q E s:=by
 have hT:s.TypeIs (.ref r) "re.Match" :=⟨_,h,rfl⟩;unfold truthy;refine ZO ?_;unfold callSpecial?;refine ZO (wpAny_specialOf hT Pt.noBool ?_);refine ZS ?_;refine ZO (wpAny_specialOf hT Pt.noLen ?_);exact ZS k
theorem DR(B:ai w tk H){oe e:Expr}{apos pos:Pos}{a:Addr}{code:List Nat}{x:Str}{c:Bool}(hp: ∀{P:abm} {h:Heap},(KK P tk).In h->vD h a code)(hf:found code x=some c)(hx:x.cps.size<2^62)
 (ho:ah w H l n sc ρ oe (.at a)) (he:ah w H l n sc ρ e (.str x))
 (ib:autoParam (∀env,adC oe "search" env (eval oe env)=eval oe env) au) (fS:autoParam ((apos.endLine==pos.line)=true) au)
 (dm:autoParam (∀env,aa4 [e] env=[(false,eval e env)]) au)
 (dM:autoParam (∀env whole,isTrue (.Call (.Attribute oe "search" apos) [e] [] pos) env whole=(do let v<-whole;ac9 (Expr.Call (.Attribute oe "search" apos) [e] [] pos).pos;acA [v] (truthy v))) au):
 aM w H l n sc ρ (.Call (.Attribute oe "search" apos) [e] [] pos) c:=
 .mk fun env A s G r S Q E k=>isTrue_plain (PySem.Call_method1 (ib env) (dm env) fS (ho.go env A s G r S _ E fun ca s₁ G₁ af aA=>by
  obtain rfl:=fe aA;have Dp:=hp (jv B (S.ext af).bs);obtain⟨vs,c',items,m,e1,_⟩:=Dp.ex;refine⟨"re.Pattern","re.Pattern.search",Pt.plainAttrs,Pt.slot,Pt.type,⟨_,e1,rfl⟩,(fun b e=>by cases e;exact⟨_,e1,rfl⟩),?_⟩;refine adk rfl (abu (abZ (he.go env A s₁ G₁ r (S.ext af) _ E fun cv ar aB ax bx=>acV ?_)));obtain⟨t,rfl⟩:=dC bx
  refine NG (hp (jv B ((S.ext af).ext ax).bs)) hf hx (fun hc=> ?_) (fun hc h' rr d hk hr=> ?_)
  ·exact ZS (by rw[<-hc];exact k _ _ (af.trans ax))
  ·refine YD hr ?_
   rw[<-hc];exact k _ _ ((af.trans ax).trans (ak.grown ax.inn _ hk)))) (dM _ _)
end
noncomputable def V.isRef:V->Bool
 | .at _| .list _=>true
 |_=>false
theorem va{v:V}{ca:ZN}(r:Rd G (.hdr v) ca): ∃a d h t b ep,ca= .ref a/\G a=some (eQ d)/\G d=some (gA h t b ep)/\Rd G v b:=k7 r
theorem xn(hi:bS G s){a d:Addr}{h:Int}{t:Tok}{b:ZN}{ep:Nat}(h1:G a=some (eQ d))(h2:G d=some (gA h t b ep)):InstAt s.heap a (eQ d) 323 (some (gA h t b ep)):=⟨hi _ _ h1,rfl,rfl,hi _ _ h2⟩
theorem By{P:abm}{tk:Nat}:findIn (KK P tk) (.ref 323) "__getattribute__" =some (some (.builtin "object.__getattribute__")):=by kernel_rfl
theorem H7{P:abm}{tk:Nat}:findIn (KK P tk) (.ref 323) "__getattr__" =some none:=by kernel_rfl
theorem Ru{P:abm}{tk:Nat}{h:Int}{t:Tok}{b:ZN}{ep:Nat}:findObj (KK P tk) 323 (some (gA h t b ep)) "_headers" =some (.value b):=by kernel_rfl
theorem Xj{v:V}{b:ZN}(hv:v.isRef=true)(r:Rd G v b): ∃a,b= .ref a:=by cases r<;>first|exact⟨_,rfl⟩|cases hv
theorem qY(B:ai w tk H){x:Str}{p pos:Pos}{v:V}(hv:v.isRef=true)(ho:ah w H l n sc ρ (.Name x p) (.hdr v)):ah w H l n sc ρ (.Attribute (.Name x p) "_headers" pos) v:=
 .mk fun env A s G r S Q E k=>Attribute_name (ho.go env A s G r S _ E fun ca s₁ G₁ af aA=>by
  refine gz fun zq zk=> ?_
  obtain⟨a,d,h,t,b,ep,rfl,h1,h2,h3⟩:=va aA;obtain⟨c,rfl⟩:=Xj hv h3;refine zk ?_;exact get_value (jv B (S.ext af).bs) (xn af.inn h1 h2) By Ru rfl (k _ _ G₁ (af.trans (ak.toks af.inn _)) h3))
structure HM(name:Str)(f:Addr):Prop where
 fnd: ∀P tk,findIn (KK P tk) (.ref 323) name=some (some (.ref f))
 typ: ∀P tk,typeIn (KK P tk) (.ref f)=some (.type "function")
 kep: ∀P tk,keepIn (KK P tk) (.ref f)=true
 own: ∀h t b ep,shadowIn (some (gA h t b ep)) name=some false
theorem pN:HM "_convert_string_type" 224:=⟨fun z z=>by kernel_rfl,fun z z=>by kernel_rfl,fun z z=>by kernel_rfl,fun z z z z=>by kernel_rfl⟩
theorem Iz:HM "get" 270:=⟨fun z z=>by kernel_rfl,fun z z=>by kernel_rfl,fun z z=>by kernel_rfl,fun z z z z=>by kernel_rfl⟩
theorem Sn:HM "get_all" 262:=⟨fun z z=>by kernel_rfl,fun z z=>by kernel_rfl,fun z z=>by kernel_rfl,fun z z z z=>by kernel_rfl⟩
theorem So:HM "items" 287:=⟨fun z z=>by kernel_rfl,fun z z=>by kernel_rfl,fun z z=>by kernel_rfl,fun z z z z=>by kernel_rfl⟩
theorem Sm:HM "add_header" 320:=⟨fun z z=>by kernel_rfl,fun z z=>by kernel_rfl,fun z z=>by kernel_rfl,fun z z z z=>by kernel_rfl⟩
structure sX(w:Z2)(kws:List Keyword)(kw:List (Str×ZN)):Prop where
 all: ∀env pos,(acD pos (abL kws env)).all (·.1.isSome)=true
 any: ∀env pos,(acD pos (abL kws env)).any (·.1.isNone)=false
 go: ∀(env:Env) (pos:Pos) (A:aaj) (s:ZL) (Q:List ZN->ZL->Prop) (E:ZN->ZL->Prop),(∀ks tk,((acD pos (abL kws env)).filterMap (·.1)).zip ks=kw->Q ks {s with toks:=tk})->
  Z6 (Z8 PW w) A (evalAll ((acD pos (abL kws env)).map (·.2))) Q E s
theorem xU:sX w [] []:=⟨fun z z=>rfl,fun z z=>rfl,fun env pos A s Q E k=>ZS (k [] s.toks rfl)⟩
theorem qf{x:Str}{b:Bool}{k:Nat}{p p':Pos}:sX w [⟨some x, .Constant (.bool b) k p,p'⟩] [(x, .bool b)]:=⟨fun z z=>rfl,fun z z=>rfl,fun env pos A s Q E q=>by
 refine wpAny_evalAll_cons (ZO (wpAny_Constant_bool (ZO (aaM (ZS (wpAny_evalAll_nil (q _ s.toks rfl)))))))⟩
theorem tc(B:ai w tk H){name:Str}{f:Addr}(M:HM name f){x:Str}{p apos pos:Pos}{es:List Expr}{kws:List Keyword}{kw:List (Str×ZN)}{as:List V}{v:V}{A:aaj}{Q:ZN->ZL->Prop}{E:ZN->ZL->Prop}
 (hk:sX w kws kw) (ho:ah w H l n sc ρ (.Name x p) (.hdr v)) (ha:dX w H l n sc ρ es as) (h1:dU es=true) (r:bW A l n) (S:St H sc env ρ G s)
 (he:eval (.Call (.Attribute (.Name x p) name apos) es kws pos) env=(do
  let ov<-eval (.Name x p) env
  ac9 apos.atName
  let(f,first)<-acA [ov] (getMethod ov name (do return (<-adu (.Name x p) env).getD true))
  callWith pos f first (abW pos (aa4 es env)) (acD pos (abL kws env))))
 (h: ∀cx cs s' G',ak aq G s G' s'->Rd G' (.hdr v) cx->aP G' as cs->Z6 (Z8 PW w) A (call (.ref f) (cx::cs) kw) Q E s'):
 Z6 (Z8 PW w) A (eval (.Call (.Attribute (.Name x p) name apos) es kws pos) env) Q E s:=by
 refine methodCall_KW (pl:=(do return (<-adu (.Name x p) env).getD true)) (ho.go env A s G r S _ E fun ca s₁ G₁ af aA=> ?_) he;refine gz fun zq zk=> ?_
 obtain⟨a,d,hh,t,b,ep,rfl,AW,h2,h3⟩:=va aA;refine zk ?_;have vM:=jv B (S.ext af).bs;refine method_fn vM (xn af.inn AW h2) By H7 (M.fnd _ _) (M.typ _ _) (M.own _ _ _ _) ?_;dsimp only;refine callWith_of (P:=fun h=>(KK w.params tk).In h) ?_ (keeps_K (M.kep _ _)) ?_
 ·rw[(jB (pos:=pos) (env:=env) (dE (pos:=pos) (env:=env) h1).1).1,hk.any];rfl
 ·obtain⟨y,rest,BF⟩:=(dE (pos:=pos) (env:=env) h1).2
  have hs:=ha.go env A s₁ G₁ pos r (S.ext af) (fun vs s'=>Z6 (Z8 PW w) A (evalAll ((acD pos (abL kws env)).map (·.2))) (fun ks ar=>(KK w.params tk).In ar.heap/\Z6 (Z8 PW w) A (call (.ref f) ([.ref a]++vs) (((acD pos (abL kws env)).filterMap (·.1)).zip ks)) Q E ar) E s') E fun cs ar aB ax bx=>by
   refine hk.go env pos A ar _ E fun ks tk' e=> ?_
   have bL:ak aq aB ar aB {ar with toks:=tk'}:=ak.toks ax.inn tk';rw[e];exact⟨jv B (((S.ext af).ext ax).ext bL).bs,h (.ref a) cs _ aB ((af.trans ax).trans bL) (cN ax.sub aA) bx⟩
  rw[BF] at hs⊢;exact evalArgs_kw (hk.all _ _) hs
theorem ND(B:ai w tk H){name:Str}{f:Addr}(M:HM name f){x:Str}{p apos pos:Pos}{v:V}{A:aaj}{Q:ZN->ZL->Prop}{E:ZN->ZL->Prop}
 (ho:ah w H l n sc ρ (.Name x p) (.hdr v)) (r:bW A l n) (S:St H sc env ρ G s)
 (he:eval (.Call (.Attribute (.Name x p) name apos) [] [] pos) env=(do
  let ov<-eval (.Name x p) env
  ac9 apos.atName
  let(f,first)<-acA [ov] (getMethod ov name (do return (<-adu (.Name x p) env).getD true))
  callWith pos f first (abW pos (aa4 [] env)) (acD pos (abL [] env))))
 (h: ∀cx s' G',ak aq G s G' s'->Rd G' (.hdr v) cx->Z6 (Z8 PW w) A (call (.ref f) [cx]) Q E s'):
 Z6 (Z8 PW w) A (eval (.Call (.Attribute (.Name x p) name apos) [] [] pos) env) Q E s:=by
 refine methodCall_KW (pl:=(do return (<-adu (.Name x p) env).getD true)) (ho.go env A s G r S _ E fun ca s₁ G₁ af aA=> ?_) he;refine gz fun zq zk=> ?_
 obtain⟨a,d,hh,t,b,ep,rfl,AW,h2,h3⟩:=va aA;refine zk ?_;have vM:=jv B (S.ext af).bs;refine method_fn vM (xn af.inn AW h2) By H7 (M.fnd _ _) (M.typ _ _) (M.own _ _ _ _) ?_;exact callWith_K0 vM (M.kep _ _) (h (.ref a) s₁ G₁ af aA)
theorem OR(B:ai w tk H){name:Str}{f:Addr}(M:HM name f){x:Str}{p apos pos:Pos}{es:List Expr}{as:List V}{v u:V}(ho:ah w H l n sc ρ (.Name x p) (.hdr v))(ha:dX w H l n sc ρ es as)(hv:aU w H l n (.ref f) (.hdr v::as) u)
 (h1:autoParam (dU es=true) au)
 (he:autoParam (∀env,eval (.Call (.Attribute (.Name x p) name apos) es [] pos) env=(do
  let ov<-eval (.Name x p) env
  ac9 apos.atName
  let(f,first)<-acA [ov] (getMethod ov name (do return (<-adu (.Name x p) env).getD true))
  callWith pos f first (abW pos (aa4 es env)) (acD pos (abL [] env)))) au):ah w H l n sc ρ (.Call (.Attribute (.Name x p) name apos) es [] pos) u:= .mk fun env A s G r S Q E k=>
 tc B M xU ho ha h1 r S (he env) fun cx cs s' G' x' rx rl=>hv.go A s' G' (cx::cs) r (S.ext x').bs x'.inn (.cons rx rl) Q E fun cv ar aB ax bx=>k cv ar aB (x'.trans ax) bx
theorem OS(B:ai w tk H){name:Str}{f:Addr}(M:HM name f){x:Str}{p apos pos:Pos}{v u:V}(ho:ah w H l n sc ρ (.Name x p) (.hdr v))(hv:aU w H l n (.ref f) [.hdr v] u)
 (he:autoParam (∀env,eval (.Call (.Attribute (.Name x p) name apos) [] [] pos) env=(do
  let ov<-eval (.Name x p) env
  ac9 apos.atName
  let(f,first)<-acA [ov] (getMethod ov name (do return (<-adu (.Name x p) env).getD true))
  callWith pos f first (abW pos (aa4 [] env)) (acD pos (abL [] env)))) au):ah w H l n sc ρ (.Call (.Attribute (.Name x p) name apos) [] [] pos) u:= .mk fun env A s G r S Q E k=>
 ND B M ho r S (he env) fun cx s' G' x' rx=>hv.go A s' G' [cx] r (S.ext x').bs x'.inn (.cons rx .nil) Q E fun cv ar aB ax bx=>k cv ar aB (x'.trans ax) bx
theorem qZ(B:ai w tk H){name:Str}{f:Addr}(M:HM name f){x:Str}{p apos pos:Pos}{es:List Expr}{kws:List Keyword}{kw:List (Str×ZN)}{as:List V}{v u:V}(hk:sX w kws kw)(ho:ah w H l n sc ρ (.Name x p) (.hdr v))(ha:dX w H l n sc ρ es as)(hv:iE w H l n [] (.ref f) kw (.hdr v::as) [] u [])
 (h1:autoParam (dU es=true) au)
 (he:autoParam (∀env,eval (.Call (.Attribute (.Name x p) name apos) es kws pos) env=(do
  let ov<-eval (.Name x p) env
  ac9 apos.atName
  let(f,first)<-acA [ov] (getMethod ov name (do return (<-adu (.Name x p) env).getD true))
  callWith pos f first (abW pos (aa4 es env)) (acD pos (abL kws env)))) au):ah w H l n sc ρ (.Call (.Attribute (.Name x p) name apos) es kws pos) u:= .mk fun env A s G r S Q E k=>
 tc B M hk ho ha h1 r S (he env) fun cx cs s' G' x' rx rl=>ac6 (hv A s' G' (cx::cs) r (S.ext x').bs x'.inn (.cons rx rl) (fun z h=>nomatch h) ⟨fun z h=>(nomatch h),ada⟩ _ fun cv ar aB ax bx z z=>k cv ar aB (x'.trans ax) bx)
set_option tactic.hygienic true in
theorem Pf(B:ai w tk H){name:Str}{f:Addr}(M:HM name f){D:Addr}{ys ys':List V}{x:Str}{p apos pos pos':Pos}{es:List Expr}{as:List V}{u:V}(ho:ah w H l n sc ρ (.Name x p) (.hdr (.at D)))(ha:dX w H l n sc ρ es as)
 (hv:iE w H l n [D] (.ref f) [] (.hdr (.at D)::as) [(D,ys)] u [(D,ys')])
 (h1:autoParam (dU es=true) au)
 (he:autoParam (∀env,eval (.Call (.Attribute (.Name x p) name apos) es [] pos) env=(do
  let ov<-eval (.Name x p) env
  ac9 apos.atName
  let(f,first)<-acA [ov] (getMethod ov name (do return (<-adu (.Name x p) env).getD true))
  callWith pos f first (abW pos (aa4 es env)) (acD pos (abL [] env)))) au):
 bV w X H l n sc ρ ((D,ys)::ow) (.Expr (.Call (.Attribute (.Name x p) name apos) es [] pos) pos') (.next ρ ((D,ys')::ow)):= .mk fun env A G₀ s₀ G s Q E q r I k=>by
 refine adm (tc B M xU ho ha h1 r I.st (he env) fun cx cs s' G' x' rx rl=> ?_) (by unfold adt;rw[I.st.envIs.kind];rfl) rfl;have bf:=I.ext' x';obtain⟨xo,oo⟩:=bf.xok;refine ac6 (hv A s' G' (cx::cs) r bf.st.bs x'.inn (.cons rx rl) xo oo _ fun cv bj bI bL dT vu uZ=> ?_);obtain⟨_,vs,k',hl,hr⟩:=uZ.1 _ ZR;exact k .next bI bj ⟨rfl,bf.extD bL (vu D ZR).2 hl hr⟩
set_option tactic.hygienic true in
theorem F9(B:ai w tk H){name:Str}{f:Addr}(M:HM name f){x:Str}{p apos pos pos':Pos}{es:List Expr}{kws:List Keyword}{kw:List (Str×ZN)}{as:List V}{v u:V}(hk:sX w kws kw)(ho:ah w H l n sc ρ (.Name x p) (.hdr v))(ha:dX w H l n sc ρ es as)(hv:iE w H l n [] (.ref f) kw (.hdr v::as) [] u [])
 (h1:autoParam (dU es=true) au)
 (he:autoParam (∀env,eval (.Call (.Attribute (.Name x p) name apos) es kws pos) env=(do
  let ov<-eval (.Name x p) env
  ac9 apos.atName
  let(f,first)<-acA [ov] (getMethod ov name (do return (<-adu (.Name x p) env).getD true))
  callWith pos f first (abW pos (aa4 es env)) (acD pos (abL kws env)))) au):
 bV w X H l n sc ρ ow (.Expr (.Call (.Attribute (.Name x p) name apos) es kws pos) pos') (.next ρ ow):= .mk fun env A G₀ s₀ G s Q E q r I k=>
 adm ((qZ B M hk ho ha hv h1 he).go env A s G r I.st _ E fun cv s' G' x' r'=>k .next G' s' ⟨rfl,I.ext' x'⟩) (by unfold adt;rw[I.st.envIs.kind];rfl) rfl
set_option tactic.hygienic true in
theorem O8{oe:Expr}{a:Addr}{ys:List V}{v:V}{e:Expr}{apos pos pos':Pos}(ho:ah w H l n sc ρ oe (.at a))(he:ah w H l n sc ρ e v)(hsz:ys.length<=Z7)
 (ib:autoParam (∀env,adC oe "append" env (eval oe env)=eval oe env) au)
 (fS:autoParam ((apos.endLine==pos.line)=true) au)
 (pH:autoParam (∀env,((abW pos (aa4 [e] env)).all (fun x=> !x.1)&&(acD pos (abL [] env)).all (fun x=>x.1.isSome)
  &&decide (([e]:List Expr).length+([]:List Keyword).length+(if([]:List Keyword).isEmpty then 0 else 1)<30))=true) au)
 (ht:autoParam (∀env,abW pos (aa4 [e] env)=[(false,eval e env)]) au):
 bV w X H l n sc ρ ((a,ys)::ow) (.Expr (.Call (.Attribute oe "append" apos) [e] [] pos) pos') (.next ρ ((a,ys++[v])::ow)):= .mk fun env A G₀ s₀ G s Q E q r I k=>by
 refine adm (wpAny_Call_append (ib env) (pH env) fS (ht env) (ho.go env A s G r I.st _ E fun cv s₁ G₁ af aA=> ?_)) (by unfold adt;rw[I.st.envIs.kind];rfl) rfl;have aE:=I.ext' af;obtain rfl:=fe aA
 ·
  refine gz fun zq zk=> ?_
  obtain⟨_,_,_,vs,q',h4,_⟩:=aE.own _ ZR;refine zk ?_;refine⟨a,vs.toArray,rfl,⟨_,q',h4,rfl,rfl,rfl⟩,he.go env A s₁ G₁ r aE.st _ E fun cv ar aB ax bx=> ?_⟩;exact yQ (aE.ext' ax) bx hsz fun bj b0=>k _ aB bj ⟨rfl,b0⟩
theorem tw{a:Addr}{fd:aaL}{body:List Stmt}{pars:List Str}{idx:List Nat}(F:cD w H a fd body pars idx)(hn:fd.scope.names.all (fun p=>p.2 != .cell)=true):jI w H a fd body []:=
 ⟨F.obj,F.cod,F.nt,F.body,F.glob,F.blt,F.co,F.gen,F.kind,F.nd,fun x hx e=>(by have:=Z3.mp hn x hx;rw[e] at this;cases this),
  fun x hx=>(by have:=Z3.mp F.nofr _ hx;cases this),(by rw[F.clo];exact acJ),(by rw[F.clo];exact ada),fun x c h=>(by rw[F.clo] at h;cases h),fun p h=>nomatch h⟩
noncomputable def wM(tk:Nat):FuncData:=bG (bg 0) "Headers.__init__" (.ref 210) .none (.str "cpy313.wsgiref.headers" (tk+9)) (.ref 216)
theorem P6(B:ai w tk H):cD w H 217 (wM tk) (aT (bg 0)) ["self","headers"] [0,1]:=dc B rfl rfl rfl rfl rfl rfl rfl (by kernel_rfl)
theorem Gk(B:ai w tk H):jI w H 217 (wM tk) (aT (bg 0)) []:=tw (P6 B) (by kernel_rfl)
noncomputable def wL(tk:Nat):FuncData:=bG (bg 1) "Headers._convert_string_type" (.none) .none (.str "cpy313.wsgiref.headers" (tk+9)) (.ref 223)
theorem P2(B:ai w tk H):cD w H 224 (wL tk) (aT (bg 1)) ["self","value","name"] [0,1,2]:=dc B rfl rfl rfl rfl rfl rfl rfl (by kernel_rfl)
theorem Gi(B:ai w tk H):jI w H 224 (wL tk) (aT (bg 1)) []:=tw (P2 B) (by kernel_rfl)
theorem JJ:aL (aJ (bg 1)):=by unfold aL;kernel_rfl
noncomputable def GP(tk:Nat):FuncData:=bG (bg 2) "Headers.__len__" (.none) .none (.str "cpy313.wsgiref.headers" (tk+9)) (.ref 230)
theorem P8(B:ai w tk H):cD w H 231 (GP tk) (aT (bg 2)) ["self"] [0]:=dc B rfl rfl rfl rfl rfl rfl rfl (by kernel_rfl)
theorem V9:aL (aJ (bg 2)):=by unfold aL;kernel_rfl
noncomputable def GN(tk:Nat):FuncData:=bG (bg 7) "Headers.get_all" (.none) .none (.str "cpy313.wsgiref.headers" (tk+9)) (.ref 261)
theorem P5(B:ai w tk H):cD w H 262 (GN tk) (aT (bg 7)) ["self","name"] [0,1]:=dc B rfl rfl rfl rfl rfl rfl rfl (by kernel_rfl)
theorem V7:aL (aJ (bg 7)):=by unfold aL;kernel_rfl
noncomputable def Ay(tk:Nat):FuncData:=bG (bg 8) "Headers.get" (.ref 263) .none (.str "cpy313.wsgiref.headers" (tk+9)) (.ref 269)
theorem P4(B:ai w tk H):cD w H 270 (Ay tk) (aT (bg 8)) ["self","name","default"] [0,1,2]:=dc B rfl rfl rfl rfl rfl rfl rfl (by kernel_rfl)
theorem Gj(B:ai w tk H):jI w H 270 (Ay tk) (aT (bg 8)) []:=tw (P4 B) (by kernel_rfl)
theorem JK:aL (aJ (bg 8)):=by unfold aL;kernel_rfl
noncomputable def GO(tk:Nat):FuncData:=bG (bg 11) "Headers.items" (.none) .none (.str "cpy313.wsgiref.headers" (tk+9)) (.ref 286)
theorem P7(B:ai w tk H):cD w H 287 (GO tk) (aT (bg 11)) ["self"] [0]:=dc B rfl rfl rfl rfl rfl rfl rfl (by kernel_rfl)
theorem V8:aL (aJ (bg 11)):=by unfold aL;kernel_rfl
noncomputable def Ax(tk:Nat):FuncData:=bG (bg 16) "Headers.add_header" (.none) .none (.str "cpy313.wsgiref.headers" (tk+9)) (.ref 319)
theorem P1(B:ai w tk H):cD w H 320 (Ax tk) (aT (bg 16)) ["self","_name","_value","_params"] [0,1,2,3]:=dc B rfl rfl rfl rfl rfl rfl rfl (by kernel_rfl)
theorem PA(B:ai w tk H):jI w H 320 (Ax tk) (aT (bg 16)) []:=tw (P1 B) (by kernel_rfl)
theorem V6:aL (aJ (bg 16)):=by unfold aL;kernel_rfl
theorem Me{tk:Nat}(cs:List ZN)(hc:cs.length=1):aba (GP tk) ⟨cs,[]⟩=pure ((["self"]:List Str).zip cs):=by obtain⟨a,rfl⟩:=qg hc;rfl
theorem Md{tk:Nat}(cs:List ZN)(hc:cs.length=1):aba (GO tk) ⟨cs,[]⟩=pure ((["self"]:List Str).zip cs):=by obtain⟨a,rfl⟩:=qg hc;rfl
theorem Mc{tk:Nat}(cs:List ZN)(hc:cs.length=2):aba (GN tk) ⟨cs,[]⟩=pure ((["self","name"]:List Str).zip cs):=by obtain⟨a,b,rfl⟩:=jw hc;rfl
theorem Mb{tk:Nat}(a b c:ZN):aba (wL tk) ⟨[a,b],[("name",c)]⟩=(pure [("self",a),("value",b),("name",c)]:Sem (List (Str×ZN))):=rfl
theorem vT{fd:aaL}{kw:List (Str×ZN)}{pars:List Str}{idx:List Nat}{as ex:List V}{exs:List ZN}(hp:mf sc pars idx)(nd:(sc.names.map (·.1)).Nodup)(lQ: ∀x∈sc.names,x.2≠acm)(Ce:pars.Nodup)
 (fu: ∀(A:aaj) (s:ZL) (G:GM) (cs:List ZN),Bs H G s->cs.length=as.length-> ∀(Q:List (Str×ZN)->ZL->Prop) (E:ZN->ZL->Prop),Q (pars.zip (cs++exs)) s->Z6 (Z8 PW w) A (aba fd ⟨cs,kw⟩) Q E s) (hex: ∀G,aP G ex exs) (hlen:as.length+ex.length=pars.length):i6 w H sc fd kw as (idx.zip (as++ex)):=
 fun A s G cs bs hi Kl Q E k=>by
  have rl:=Kl.append (hex G);have b7:(cs++exs).length=pars.length:=by rw[<-rl.length,aap];exact hlen
  refine fu A s G cs bs Kl.length.symm Q E ?_;refine(k _ s G (ak.refl hi) (fun x hx=> ?_) fun p jm=> ?_)
  ·obtain⟨i,kd,h1,h2⟩:=hp.kinds x hx
   rcases h2 with rfl|rfl
   ·exact gJ h1 nd
   ·exact absurd rfl (lQ _ (aag h1))
  ·obtain⟨x,kd,cv,h1,h2,h3,h4⟩:=hp.get rl b7.symm p jm
   rcases h2 with rfl|rfl
   ·refine⟨x,cv,h1,?_,h4⟩
    have eR:(((pars.zip (cs++exs)).reverse).map (·.1)).Nodup:=by rw[List.map_reverse,List.map_fst_zip (by simp[*])];exact(List.reverse_perm pars).nodup_iff.mpr Ce
    have: ∀{l:List (Str×ZN)} {x:Str} {c:ZN},(l.map (·.1)).Nodup->(x,c)∈l->l.lookup x=some c:=fun{l x c}=>by
     induction l with
     |nil=>intro _ h;cases h
     |cons q r ih=>
      obtain⟨y,d⟩:=q;intro nd h;rw[aah,abC] at nd;rw[acC];rcases ZU.mp h with e|h
      ·cases e;rw[beq_self_eq_true]
      ·rw[beq_eq_false_iff_ne.mpr (fun e:x=y=>nd.1 (e▸Z1.mpr ⟨_,h,rfl⟩))]
       exact ih nd.2 h
    exact this eR (List.mem_reverse.mpr h3)
   ·exact absurd rfl (lQ _ (aag h1))
theorem E6{x:Str}:aU w H l n (.type "type") [.str x] (.ty "str"):=by
 constructor;intro A s G cs r bs hi rl Q E k
 obtain⟨ca,rfl,ra⟩:=fI rl;obtain⟨t,rfl⟩:=dC ra;exact call_type_of (typeIs_str _ _ _) (by decide) (k _ _ G (ak.refl hi) (.ty _))
theorem E5{x:List V}:aU w H l n (.type "type") [.list x] (.ty "list"):=by
 constructor;intro A s G cs r bs hi rl Q E k
 obtain⟨ca,rfl,ra⟩:=fI rl;obtain⟨a,vs,m,rfl,ga,_⟩:=fX ra;exact call_type_of (iq hi ga).typeIs (by decide) (k _ _ G (ak.refl hi) (.ty _))
theorem ES{a b:String}:bO w (abz .Is) (.ty a) (.ty b) (.bool (aeq a==aeq b)):=by
 intro A s G ca cb _ _ hi ra rb Q E k;obtain rfl:=yv ra;obtain rfl:=yv rb;exact ZS (a:=Value.bool (aeq a==aeq b)) (k _ _ G (ak.refl hi) (.bool _))
theorem ET{a b:String}:bO w (abz .IsNot) (.ty a) (.ty b) (.bool (!(aeq a==aeq b))):=by
 intro A s G ca cb _ _ hi ra rb Q E k;obtain rfl:=yv ra;obtain rfl:=yv rb;exact ZS (a:=Value.bool (!(aeq a==aeq b))) (k _ _ G (ak.refl hi) (.bool _))
theorem Hu(B:ai w tk H):bk H "_name_disallowed_re" (.ref 189):=c5 B (by decide) (by kernel_rfl)
theorem QA(B:ai w tk H):bk H "_value_disallowed_re" (.ref 194):=c5 B (by decide) (by kernel_rfl)
noncomputable def N9(b:Bool):List Nat:=if b then gm else oY
theorem Ey{sv:V}{x:Str}{b:Bool}:i6 w H (aJ (bg 1)) (wL tk) [("name", .bool b)] [sv, .str x] [(0,sv),(1, .str x),(2, .bool b)]:=
 vT (pars:=["self","value","name"]) (idx:=[0,1,2]) (as:=[sv, .str x]) (ex:=[.bool b]) (exs:=[.bool b]) ⟨⟨_,rfl, .inl rfl⟩,⟨_,rfl, .inl rfl⟩,⟨_,rfl, .inl rfl⟩,trivial⟩ (by decide+kernel) (by decide+kernel) (by decide) (fun A s G cs bs hc Q E q=>by
  obtain⟨a,c,rfl⟩:=jw hc;rw[Mb];exact ZS q) (fun G=> .cons (.bool b) .nil) rfl
theorem qO(B:ai w tk H){sv:V}{x:Str}{b:Bool}(hf:found (N9 b) x=some false)(hx:x.cps.size<2^62):iE w H (l+1) n [] (.ref 224) [("name", .bool b)] [sv, .str x] [] (.str x) []:=by
 have nd:=JJ
 conv at nd=>arg 1;whnf
 refine oW (o:= .ret (.str x) []) B (Gi B) Ey ?_ (fun z h=>nomatch h);show aD w [] H l 40 (aJ (bg 1)) [(0,sv),(1, .str x),(2, .bool b)] [] (aT (bg 1)) _
 conv=>arg 6;whnf
 conv=>arg 9;whnf
 refine lB (aF (c:=true) (aR 4 B (w6 B) (.ty _) rfl (ae (aa 1 nd rfl) ao) E6) (gY B (mC B) rfl (i:=5) (fun G=> .ty _)) ES) ?_;cases b with
 |true=>
  refine aH (wG 3 (kx (iC (aa 2 nd rfl) oh) (gY B (Hu B) rfl (i:=6) (fun G=> .at 189))) rfl rfl) ?_;exact jP (DR B (fun X=>J7 X) hf hx (aa 3 nd rfl) (aa 1 nd rfl)) (bZ (aa 1 nd rfl))
 |false=>
  refine aH (wG 3 (pe (iC (aa 2 nd rfl) oh) (gY B (QA B) rfl (i:=7) (fun G=> .at 194))) rfl rfl) ?_;exact jP (DR B (fun X=>WK X) hf hx (aa 3 nd rfl) (aa 1 nd rfl)) (bZ (aa 1 nd rfl))
noncomputable def pv(p:Str×Str):V:= .tup [.str p.1, .str p.2]
noncomputable def ia(ps:List (Str×Str))(x:Str):Option Str:=(ps.find? fun p=>aau p.1==aau x).map (·.2)
noncomputable def ru(ps:List (Str×Str))(x:Str):List Str:=(ps.filter fun p=>aau p.1==aau x).map (·.2)
noncomputable def uQ(x:Str):Prop:=x.length<=5592405/\(aau x).cps.size<2^62/\found gm (aau x)=some false
theorem DK{A:aaj}{s:ZL}{value slice:Expr}{o i:ZN}{T id:String}{ops:List ZN}{Q:ZN->ZL->Prop}{E:ZN->ZL->Prop}(hT:s.TypeIs o T)
 (hl:typeLookup (.type T) "__getitem__" =pure (some (.builtin id))) (h:Z6 (Z8 PW w) A (getItem o i) Q E s) (hs:ac4 slice false o i=operate ops (getItem o i)):
 Z6 (Z8 PW w) A (subscriptTail value slice o i) Q E s:=by
 unfold subscriptTail;refine ZO ?_;rw[getitemInPython_of_ne hT.not_modules];refine ZO (wpAny_specialOf hT hl ?_);have fin:Z6 (Z8 PW w) A (ac4 slice false o i) (fun r bj=>Z6 (Z8 PW w) A (letTemporaryGo value o r>>=fun z=>pure r) Q E bj) E s:=by
  rw[hs];exact wpAny_operating (abJ h (fun r bj fH=>ZO (wpAny_letTemporaryGo (ZS fH))) fun z z x=>x)
 first
  |exact ZS (ZO fin)
  |exact ZO (ZS (ZO fin))
  |exact ZO fin
theorem kB{ve:Expr}{lo hi st:Option Expr}{p pos:Pos}{x:List V}{a b c:Option Int}(ha:ah w H l n sc ρ ve (.list x))(h1:me w H l n sc ρ lo a)(h2:me w H l n sc ρ hi b)(h3:me w H l n sc ρ st c)(h0:c≠some 0)(hsz:x.length<=Z7)
 (hs:autoParam (∀c d,∃ops,ac4 (.Slice lo hi st p) false (.ref c) (.ref d)=operate ops (getItem (.ref c) (.ref d))) au):
 ah w H l n sc ρ (.Subscript ve (.Slice lo hi st p) pos) (.list (cm x a b c)):= .mk fun env A s G r S Q E k=>
 ad1 (ha.go env A s G r S _ E fun ca s₁ G₁ af aA=>wpAny_Slice (sN h1 r (S.ext af) fun c1 ar aB ax p1=>sN h2 r ((S.ext af).ext ax) fun c2 bj bI bL p2=>sN h3 r (((S.ext af).ext ax).ext bL) fun c3 dN ko gh p3=>by
  obtain⟨d,vs,q,rfl,gd,rd⟩:=fX (cN gh.sub (cN bL.sub (cN ax.sub aA)));obtain⟨ops,ho⟩:=hs d dN.heap.objs.size;have hl:=iq gh.inn gd;have y:=iZ (o:={cls:= .type "slice",data:= .fields #[c1,c2,c3]}) gh.inn dN.toks;refine DK (s:={dN with heap:=dN.heap.push {cls:= .type "slice",data:= .fields #[c1,c2,c3]} }) (T:= "list") (hl.push _).typeIs list_getitem_lookup
   (wpAny_getItem_list_slice (hl.push _) (Heap.IsSliceOf.new ..) p1 p2 p3 h0 ?_ (by simpa [<-rd.length] using hsz)) ho
  have:=uS y.inn (rd.pick a b c) dN.toks (k:=0);have e:({cls:= .type "list",data:= .seq (slicePick vs.toArray a b c)}:Obj)=aI (slicePick vs.toArray a b c).toList 0:=by simp[aI]
  rw[e];exact k _ _ _ ((((af.trans ax).trans bL).trans gh).trans (y.trans this.1)) this.2))
theorem Nj(B:ai w tk H){xs:List V}(hsz:xs.length<=Z7):aU w H (l+1) n (.ref 287) [.hdr (.list xs)] (.list xs):=by
 have nd:=V8
 conv at nd=>arg 1;whnf
 refine dy B (P7 B) Md rfl (ow:=[]) ?_;show aD w [] H l 40 (aJ (bg 11)) [(0, .hdr (.list xs))] [] (aT (bg 11)) _
 conv=>arg 6;whnf
 conv=>arg 9;whnf
 exact bZ (ah.cast (kB (x:=xs) (a:=none) (b:=none) (c:=none) (qY B rfl (aa 0 nd rfl)) .none .none .none (fun h=>nomatch h) hsz) (congrArg V.list (WN xs)))
theorem Ez{sv nm:V}(B:ai w tk H):i6 w H (aJ (bg 8)) (Ay tk) [] [sv,nm] [(0,sv),(1,nm),(2, .none)]:=
 vT (pars:=["self","name","default"]) (idx:=[0,1,2]) (as:=[sv,nm]) (ex:=[.none]) (exs:=[.none]) ⟨⟨_,rfl, .inl rfl⟩,⟨_,rfl, .inl rfl⟩,⟨_,rfl, .inl rfl⟩,trivial⟩ (by decide+kernel) (by decide+kernel) (by decide) (fun A s G cs bs hc Q E q=>by
  obtain⟨a,c,rfl⟩:=jw hc;have QH:(KK w.params tk).lookup 263=some ⟨.type "tuple",none, .seq #[.none] 0,#[]⟩:=by kernel_rfl
  exact nd_load (a:=263) (p:=none) (bs.base _ _ (B.frag _ _ QH) (by decide)) (ZS q)) (fun G=> .cons .none .nil) rfl
theorem Dn{ps:List (Str×Str)}: ∀v∈ps.map pv,∃y,v= .tup y:=fun v hv=>by
 obtain⟨p,_,rfl⟩:=Z1.mp hv;exact⟨_,rfl⟩
theorem sj{ps:List (Str×Str)}{j:Nat}{v:V}(h:(ps.map pv)[j]?=some v): ∃p,ps[j]?=some p/\v=pv p:=by
 rw[aal] at h;cases e:ps[j]? with
 |none=>rw[e] at h;cases h
 |some p=>rw[e] at h;cases h;exact⟨p,rfl,rfl⟩
theorem M9(B:ai w tk H){ps:List (Str×Str)}{nm:Str}(hn:uQ nm)(fw: ∀p∈ps,p.1.length<=5592405):
 iE w H (l+2) n [] (.ref 270) [] [.hdr (.list (ps.map pv)), .str nm] [] (ostr (ia ps nm)) []:=by
 have nd:=JK
 conv at nd=>arg 1;whnf
 refine oW (o:= .ret (ostr (ia ps nm)) []) B (Gj B) (Ez B) ?_ (fun z h=>nomatch h);show aD w [] H (l+1) 40 (aJ (bg 8)) [(0, .hdr (.list (ps.map pv))),(1, .str nm),(2, .none)] [] (aT (bg 8)) _
 conv=>arg 6;whnf
 conv=>arg 9;whnf
 refine aH (aQ 1 (qZ B pN qf (aa 0 nd rfl) (ae (gq (nZ hn.1) (aa 1 nd rfl)) ao) (qO B hn.2.2 hn.2.1)) rfl) ?_;cases e:ps.find? (fun p=>aau p.1==aau nm) with
 |none=>
  have e':=List.find?_eq_none.mp e;refine aH (kD (items:=ps.map pv) (M:=(ps.map pv).length) (R:=fun z=>[(1, .str (aau nm)),(0, .hdr (.list (ps.map pv))),(2, .none)]) (R':=fun j=>[(4, .str (ps[j]?.getD ("","")).2),(3, .str (ps[j]?.getD ("","")).1),(1, .str (aau nm)),(0, .hdr (.list (ps.map pv))),(2, .none)]) (O:=fun z=>[])
   (cE (.inr ⟨⟨_,_,_,rfl⟩,Dn⟩) (qY B rfl (aa 0 nd rfl))) (fun p hp=>hp) rfl (fun j v z hv=> ?_) (fun j v z hv=> ?_) (.inl ⟨rfl,rfl⟩)) (bZ (ah.cast (aa 2 nd rfl) (by unfold ia;rw[e];rfl)))
  ·obtain⟨p,h1,rfl⟩:=sj hv
   rw[h1];exact m7 rfl (bz 3 rfl (bz 4 rfl eF))
  ·obtain⟨p,h1,rfl⟩:=sj hv
   rw[h1];have hm:=aag h1;refine d8 (bD (jf (c:=false) (aM.cast (aF (gq (nZ (fw p hm)) (aa 3 nd rfl)) (aa 1 nd rfl) s9) (by have:=e' p hm;simpa using this)) (fun h=>nomatch h) (fun z=>gk))) (fun q hq=> ?_) (aae _);exact ZP _ (ZP _ hq)
 |some p=>
  obtain⟨hp,M,hM,SI,aV⟩:=List.find?_eq_some_iff_getElem.mp e;have Bm:ps[M]?=some p:=by rw[aaT hM,SI]
  refine qN (kD (items:=ps.map pv) (M:=M) (R:=fun z=>[(1, .str (aau nm)),(0, .hdr (.list (ps.map pv))),(2, .none)]) (R':=fun j=>[(4, .str (ps[j]?.getD ("","")).2),(3, .str (ps[j]?.getD ("","")).1),(1, .str (aau nm)),(0, .hdr (.list (ps.map pv))),(2, .none)]) (O:=fun z=>[])
   (cE (.inr ⟨⟨_,_,_,rfl⟩,Dn⟩) (qY B rfl (aa 0 nd rfl))) (fun p hp=>hp) rfl (fun j v z hv=> ?_) (fun j v hj hv=> ?_) (.inr ⟨pv p,ostr (ia ps nm),[],by rw[aal,Bm];rfl,?_,rfl⟩))
  ·obtain⟨p,h1,rfl⟩:=sj hv
   rw[h1];exact m7 rfl (bz 3 rfl (bz 4 rfl eF))
  ·obtain⟨q,h1,rfl⟩:=sj hv
   rw[h1];have hm:=aag h1;refine d8 (bD (jf (c:=false) (aM.cast (aF (gq (nZ (fw q hm)) (aa 3 nd rfl)) (aa 1 nd rfl) s9) (by
    have:=aV j hj;rw[aaT (abh hj hM)] at h1;cases h1;simpa using this)) (fun h=>nomatch h) (fun z=>gk))) (fun q hq=> ?_) (aae _)
   exact ZP _ (ZP _ hq)
  ·rw[Bm]
   have hm:=aag Bm;refine lB (aM.cast (aF (gq (nZ (fw p hm)) (aa 3 nd rfl)) (aa 1 nd rfl) s9) hp) (bZ (ah.cast (aa 4 nd rfl) (by unfold ia;rw[e];rfl)))
theorem Nb(B:ai w tk H){ps:List (Str×Str)}{nm:Str}(hn:uQ nm)(fw: ∀p∈ps,p.1.length<=5592405)(hsz:ps.length<=Z7):
 aU w H (l+2) n (.ref 262) [.hdr (.list (ps.map pv)), .str nm] (.list ((ru ps nm).map V.str)):=by
 have nd:=V7
 conv at nd=>arg 1;whnf
 refine dy B (P5 B) Mc rfl (ow:=[]) ?_;show aD w [] H (l+1) 40 (aJ (bg 7)) [(0, .hdr (.list (ps.map pv))),(1, .str nm)] [] (aT (bg 7)) _
 conv=>arg 6;whnf
 conv=>arg 9;whnf
 refine aH (aQ 1 (qZ B pN qf (aa 0 nd rfl) (ae (gq (nZ hn.1) (aa 1 nd rfl)) ao) (qO B hn.2.2 hn.2.1)) rfl) ?_;refine bZ (ah.cast (g0 ps pv (fun p=>aau p.1==aau nm) (fun p=>V.str p.2) (b6 (by kernel_rfl)) (i:=1) rfl (.inl rfl) rfl (bJ 2 1 rfl rfl rfl b5) (cE (.inl bP) (qY B rfl (aa 0 nd rfl)))
  (fun nd a ha=>aF (gq (nZ (fw a ha)) (cZ (aa 1 nd rfl) aj (by decide) (by decide) (j:=0) rfl rfl)) (aa 2 nd rfl) s9) (fun nd a ha z=>cZ (aa 1 nd rfl) aj (by decide) (by decide) (j:=1) rfl rfl) hsz) ?_)
 rw[ru,aaf];rfl
noncomputable abbrev iJ(a b:UInt64):Bool:=aaW a b==some .eq
noncomputable abbrev nI(a b:UInt64):Bool:=aaW a b==some .lt
noncomputable abbrev pg(a b:UInt64):Bool:=aaW a b==some .lt||aaW a b==some .eq
noncomputable def iR(r g b:UInt64):UInt64:=
 let gL:=eD r g b
 let kW:=iy r g b
 let Dq:=aaJ gL kW
 let rc:=acG (aaJ gL r) Dq
 let gc:=acG (aaJ gL g) Dq
 let bc:=acG (aaJ gL b) Dq
 let h:=if iJ r gL then aaJ bc gc else if iJ g gL then aaJ (abE 4611686018427387904 rc) bc else aaJ (abE 4616189618054758400 gc) rc
 (adL (acG h 4618441417868443648) 4607182418800017408).snd
noncomputable def mS(r g b:UInt64):UInt64:=acG (abE (eD r g b) (iy r g b)) 4611686018427387904
noncomputable def vj(r g b:UInt64):UInt64:=
 let gL:=eD r g b
 let kW:=iy r g b
 if pg (mS r g b) 4602678819172646912 then acG (aaJ gL kW) (abE gL kW) else acG (aaJ gL kW) (aaJ (aaJ 4611686018427387904 gL) kW)
noncomputable def r8(r g b:UInt64):Bool:=
 let gL:=eD r g b
 let kW:=iy r g b
 !iJ kW gL&& !abT (aaJ gL kW)&&(if pg (mS r g b) 4602678819172646912 then !abT (abE gL kW) else !abT (aaJ (aaJ 4611686018427387904 gL) kW))
noncomputable def vk(r g b:UInt64):UInt64:=acG (aaJ (eD r g b) (iy r g b)) (eD r g b)
noncomputable def r9(r g b:UInt64):Bool:= !iJ (iy r g b) (eD r g b)&& !abT (aaJ (eD r g b) (iy r g b))&& !abT (eD r g b)
theorem Mj(B:ai w tk H){r g b:UInt64}(cU:r8 r g b=true):aD w [] H l 40 (aJ (ay 13)) [(0, .flt r),(1, .flt g),(2, .flt b)] [] (aT (ay 13)) (.ret (.tup [.flt (iR r g b), .flt (mS r g b), .flt (vj r g b)]) []):=by
 have nd:=VQ
 conv at nd=>arg 1;whnf
 conv=>arg 6;whnf
 conv=>arg 9;whnf
 simp only[r8,aax,abR] at cU;obtain⟨⟨h1,h2⟩,h3⟩:=cU;have Tz:pg (mS r g b) 4602678819172646912=true-> ¬abT (abE (eD r g b) (iy r g b))=true:=fun hc hz=>by
  rw[if_pos hc,hz] at h3;cases h3
 have TA:pg (mS r g b) 4602678819172646912=false-> ¬abT (aaJ (aaJ 4611686018427387904 (eD r g b)) (iy r g b))=true:=fun hc hz=>by
  rw[if_neg (by rw[hc];decide),hz] at h3;cases h3
 refine aH (aQ 3 (aR 13 B (Ht B) (.bi _) rfl (ae (aa 0 nd rfl) (ae (aa 1 nd rfl) (ae (aa 2 nd rfl) ao))) EZ) rfl) ?_;refine aH (aQ 4 (aR 14 B (w5 B) (.bi _) rfl (ae (aa 0 nd rfl) (ae (aa 1 nd rfl) (ae (aa 2 nd rfl) ao))) E3) rfl) ?_;refine aH (aQ 5 (ag (aa 3 nd rfl) (aa 4 nd rfl) lV) rfl) ?_;refine aH (aQ 6 (ag (aa 3 nd rfl) (aa 4 nd rfl) dq) rfl) ?_
 refine aH (aQ 7 (ag (aa 5 nd rfl) di (j7 (by decide+kernel))) rfl) ?_;refine jP (aM.cast (aF (aa 4 nd rfl) (aa 3 nd rfl) nz) h1) ?_;refine aH (pf (f:=V.flt) (aF (aa 7 nd rfl) di EP) (fun hc=>bD (aQ 8 (ag (aa 6 nd rfl) (aa 5 nd rfl) (j7 (Tz hc))) rfl)) (fun hc=>bD (aQ 8 (ag (aa 6 nd rfl) (ag (ag di (aa 3 nd rfl) dq) (aa 4 nd rfl) dq) (j7 (TA hc))) rfl))) ?_
 refine aH (aQ 9 (ag (ag (aa 3 nd rfl) (aa 0 nd rfl) dq) (aa 6 nd rfl) (j7 (by rw[h2];decide))) rfl) ?_;refine aH (aQ 10 (ag (ag (aa 3 nd rfl) (aa 1 nd rfl) dq) (aa 6 nd rfl) (j7 (by rw[h2];decide))) rfl) ?_;refine aH (aQ 11 (ag (ag (aa 3 nd rfl) (aa 2 nd rfl) dq) (aa 6 nd rfl) (j7 (by rw[h2];decide))) rfl) ?_
 refine aH (pf (f:=V.flt) (aF (aa 0 nd rfl) (aa 3 nd rfl) nz) (fun z=>bD (aQ 12 (ag (aa 11 nd rfl) (aa 10 nd rfl) dq) rfl)) (fun z=>bD (pf (f:=V.flt) (aF (aa 1 nd rfl) (aa 3 nd rfl) nz) (fun z=>bD (aQ 12 (ag (ag di (aa 9 nd rfl) lV) (aa 11 nd rfl) dq) rfl)) (fun z=>bD (aQ 12 (ag (ag di (aa 10 nd rfl) lV) (aa 9 nd rfl) dq) rfl))))) ?_
 refine aH (aQ 12 (ag (ag (aa 12 nd rfl) di (j7 (by decide+kernel))) di (Dc (by decide+kernel))) rfl) ?_;exact bZ (bU (ae (aa 12 nd rfl) (ae (aa 7 nd rfl) (ae (aa 8 nd rfl) ao))) (eE rfl))
theorem Mn(B:ai w tk H){r g b:UInt64}(cU:r9 r g b=true):aD w [] H l 40 (aJ (ay 16)) [(0, .flt r),(1, .flt g),(2, .flt b)] [] (aT (ay 16)) (.ret (.tup [.flt (iR r g b), .flt (vk r g b), .flt (eD r g b)]) []):=by
 have nd:=VT
 conv at nd=>arg 1;whnf
 conv=>arg 6;whnf
 conv=>arg 9;whnf
 simp only[r9,aax,abR] at cU;obtain⟨⟨h1,h2⟩,h3⟩:=cU;refine aH (aQ 3 (aR 12 B (Ht B) (.bi _) rfl (ae (aa 0 nd rfl) (ae (aa 1 nd rfl) (ae (aa 2 nd rfl) ao))) EZ) rfl) ?_;refine aH (aQ 4 (aR 13 B (w5 B) (.bi _) rfl (ae (aa 0 nd rfl) (ae (aa 1 nd rfl) (ae (aa 2 nd rfl) ao))) E3) rfl) ?_;refine aH (aQ 5 (ag (aa 3 nd rfl) (aa 4 nd rfl) dq) rfl) ?_;refine aH (aQ 6 (aa 3 nd rfl) rfl) ?_
 refine jP (aM.cast (aF (aa 4 nd rfl) (aa 3 nd rfl) nz) h1) ?_;refine aH (aQ 7 (ag (aa 5 nd rfl) (aa 3 nd rfl) (j7 (by rw[h3];decide))) rfl) ?_;refine aH (aQ 8 (ag (ag (aa 3 nd rfl) (aa 0 nd rfl) dq) (aa 5 nd rfl) (j7 (by rw[h2];decide))) rfl) ?_;refine aH (aQ 9 (ag (ag (aa 3 nd rfl) (aa 1 nd rfl) dq) (aa 5 nd rfl) (j7 (by rw[h2];decide))) rfl) ?_
 refine aH (aQ 10 (ag (ag (aa 3 nd rfl) (aa 2 nd rfl) dq) (aa 5 nd rfl) (j7 (by rw[h2];decide))) rfl) ?_
 refine aH (pf (f:=V.flt) (aF (aa 0 nd rfl) (aa 3 nd rfl) nz) (fun z=>bD (aQ 11 (ag (aa 10 nd rfl) (aa 9 nd rfl) dq) rfl)) (fun z=>bD (pf (f:=V.flt) (aF (aa 1 nd rfl) (aa 3 nd rfl) nz) (fun z=>bD (aQ 11 (ag (ag di (aa 8 nd rfl) lV) (aa 10 nd rfl) dq) rfl)) (fun z=>bD (aQ 11 (ag (ag di (aa 9 nd rfl) lV) (aa 8 nd rfl) dq) rfl))))) ?_
 refine aH (aQ 11 (ag (ag (aa 11 nd rfl) di (j7 (by decide+kernel))) di (Dc (by decide+kernel))) rfl) ?_;exact bZ (bU (ae (aa 11 nd rfl) (ae (aa 7 nd rfl) (ae (aa 6 nd rfl) ao))) (eE rfl))
theorem Nd(B:ai w tk H){r g b:UInt64}(cU:r8 r g b=true):aU w H (l+1) n (.ref 87) [.flt r, .flt g, .flt b] (.tup [.flt (iR r g b), .flt (mS r g b), .flt (vj r g b)]):=dy B (GW B) LQ rfl (Mj B cU)
theorem Ng(B:ai w tk H){r g b:UInt64}(cU:r9 r g b=true):aU w H (l+1) n (.ref 108) [.flt r, .flt g, .flt b] (.tup [.flt (iR r g b), .flt (vk r g b), .flt (eD r g b)]):=dy B (GZ B) LU rfl (Mn B cU)
noncomputable def vF(m1 m2 aN:UInt64):UInt64:=
 let h:=(adL aN 4607182418800017408).snd
 if nI h 4595172819793696085 then abE m1 (aaC (aaC (aaJ m2 m1) h) 4618441417868443648) else if nI h 4602678819172646912 then m2 else if nI h 4604180019048437077 then abE m1 (aaC (aaC (aaJ m2 m1) (aaJ 4604180019048437077 h)) 4618441417868443648) else m1
noncomputable def lX(x:UInt64×UInt64×UInt64):V:= .tup [.flt x.1, .flt x.2.1, .flt x.2.2]
noncomputable def yx(h l s:UInt64):UInt64×UInt64×UInt64:=
 let m2:=if pg l 4602678819172646912 then aaC l (abE 4607182418800017408 s) else aaJ (abE l s) (aaC l s)
 let m1:=aaJ (aaC 4611686018427387904 l) m2
 (vF m1 m2 (abE h 4599676419421066581),vF m1 m2 h,vF m1 m2 (aaJ h 4599676419421066581))
noncomputable def i3(x:UInt64):Int:=match aeg x with
 | .fin sg m e=>Float64.truncOf sg m e
 |_=>0
noncomputable def mz(x:UInt64):Bool:=match aeg x with
 | .fin ..=>true
 |_=>false
noncomputable def sy(h s v:UInt64):UInt64×UInt64×UInt64:=
 let i:=i3 (aaC h 4618441417868443648)
 let f:=aaJ (aaC h 4618441417868443648) (abb i)
 let p:=aaC v (aaJ 4607182418800017408 s)
 let q:=aaC v (aaJ 4607182418800017408 (aaC s f))
 let t:=aaC v (aaJ 4607182418800017408 (aaC s (aaJ 4607182418800017408 f)))
 let j:=i.fmod 6
 if j==0 then(v,t,p) else if j==1 then(q,v,p) else if j==2 then(p,v,t) else if j==3 then(p,q,v) else if j==4 then(t,p,v) else(v,p,q)
noncomputable def r7(h:UInt64):Bool:=mz (aaC h 4618441417868443648)&&decide ((i3 (aaC h 4618441417868443648)).natAbs<2^1023)
theorem Hn(B:ai w tk H):bk H "ONE_THIRD" (.float 4599676419421066581 375):=c5 B (by decide) (by kernel_rfl)
theorem Qg(B:ai w tk H):bk H "ONE_SIXTH" (.float 4595172819793696085 379):=c5 B (by decide) (by kernel_rfl)
theorem Ho(B:ai w tk H):bk H "TWO_THIRD" (.float 4604180019048437077 383):=c5 B (by decide) (by kernel_rfl)
theorem zO{x:UInt64}(h:mz x=true):aU w H l n (.type "int") [.flt x] (.int (i3 x)):=by
 unfold mz at h;cases e:aeg x with
 |fin sg m k=>
  have:=Ni (w:=w) (H:=H) (l:=l) (n:=n) e
  rwa [show i3 x=Float64.truncOf sg m k by unfold i3;rw[e]]
 |_=>rw[e] at h;cases h
theorem Mm(B:ai w tk H){m1 m2 aN:UInt64}:aD w [] H l 40 (aJ (ay 15)) [(0, .flt m1),(1, .flt m2),(2, .flt aN)] [] (aT (ay 15)) (.ret (.flt (vF m1 m2 aN)) []):=by
 have nd:=VS
 conv at nd=>arg 1;whnf
 conv=>arg 6;whnf
 conv=>arg 9;whnf
 refine aH (aQ 2 (ag (aa 2 nd rfl) di (Dc (by decide+kernel))) rfl) ?_;refine ny (f:=V.flt) (aF (aa 2 nd rfl) (gY B (Qg B) (i:=3) rfl (fun z=> .flt _ _)) zK) (fun z=>bZ (ag (aa 0 nd rfl) (ag (ag (ag (aa 1 nd rfl) (aa 0 nd rfl) dq) (aa 2 nd rfl) iX) di iX) lV)) (fun z=> ?_);refine ny (f:=V.flt) (aF (aa 2 nd rfl) di zK) (fun z=>bZ (aa 1 nd rfl)) (fun z=> ?_)
 exact ny (f:=V.flt) (aF (aa 2 nd rfl) (gY B (Ho B) (i:=4) rfl (fun z=> .flt _ _)) zK) (fun z=>bZ (ag (aa 0 nd rfl) (ag (ag (ag (aa 1 nd rfl) (aa 0 nd rfl) dq) (ag (gY B (Ho B) (i:=4) rfl (fun z=> .flt _ _)) (aa 2 nd rfl) dq) iX) di iX) lV)) (fun z=>bZ (aa 0 nd rfl))
theorem zP(B:ai w tk H){m1 m2 aN:UInt64}:aU w H (l+1) n (.ref 101) [.flt m1, .flt m2, .flt aN] (.flt (vF m1 m2 aN)):=dy B (GY B) LS rfl (Mm B)
theorem Ml(B:ai w tk H){h l' s:UInt64}(hs:iJ s 0=false):aD w [] H (l+1) 40 (aJ (ay 14)) [(0, .flt h),(1, .flt l'),(2, .flt s)] [] (aT (ay 14)) (.ret (lX (yx h l' s)) []):=by
 have nd:=VR
 conv at nd=>arg 1;whnf
 conv=>arg 6;whnf
 conv=>arg 9;whnf
 refine jP (aM.cast (aF (aa 2 nd rfl) di nz) hs) ?_;refine aH (pf (f:=V.flt) (aF (aa 1 nd rfl) di EP) (fun z=>bD (aQ 3 (ag (aa 1 nd rfl) (ag di (aa 2 nd rfl) lV) iX) rfl)) (fun z=>bD (aQ 3 (ag (ag (aa 1 nd rfl) (aa 2 nd rfl) lV) (ag (aa 1 nd rfl) (aa 2 nd rfl) iX) dq) rfl))) ?_;refine aH (aQ 4 (ag (ag di (aa 1 nd rfl) iX) (aa 3 nd rfl) dq) rfl) ?_
 exact bZ (bU (ae (aR 5 B (AO B) (zW B) rfl (ae (aa 4 nd rfl) (ae (aa 3 nd rfl) (ae (ag (aa 0 nd rfl) (gY B (Hn B) (i:=6) rfl (fun z=> .flt _ _)) lV) ao))) (zP B)) (ae (aR 5 B (AO B) (zW B) rfl (ae (aa 4 nd rfl) (ae (aa 3 nd rfl) (ae (aa 0 nd rfl) ao))) (zP B)) (ae (aR 5 B (AO B) (zW B) rfl (ae (aa 4 nd rfl) (ae (aa 3 nd rfl) (ae (ag (aa 0 nd rfl) (gY B (Hn B) (i:=6) rfl (fun z=> .flt _ _)) dq) ao))) (zP B)) ao))) (eE rfl))
theorem Nu(B:ai w tk H){h l' s:UInt64}(hs:iJ s 0=false):aU w H (l+2) n (.ref 94) [.flt h, .flt l', .flt s] (lX (yx h l' s)):=dy B (GX B) LR rfl (Ml B hs)
theorem Mo(B:ai w tk H){h s v:UInt64}(hs:iJ s 0=false)(hh:r7 h=true):aD w [] H l 40 (aJ (ay 17)) [(0, .flt h),(1, .flt s),(2, .flt v)] [] (aT (ay 17)) (.ret (lX (sy h s v)) []):=by
 simp only[r7,aax,decide_eq_true_eq] at hh;have nd:=VU
 conv at nd=>arg 1;whnf
 conv=>arg 6;whnf
 conv=>arg 9;whnf
 refine jP (aM.cast (aF (aa 1 nd rfl) di nz) hs) ?_;refine aH (aQ 3 (aR 8 B (wZ B) (.ty _) rfl (ae (ag (aa 0 nd rfl) di iX) ao) (zO hh.1)) rfl) ?_;refine aH (aQ 4 (ag (ag (aa 0 nd rfl) di iX) (aa 3 nd rfl) (Wf hh.2)) rfl) ?_;refine aH (aQ 5 (ag (aa 2 nd rfl) (ag di (aa 1 nd rfl) dq) iX) rfl) ?_;refine aH (aQ 6 (ag (aa 2 nd rfl) (ag di (ag (aa 1 nd rfl) (aa 4 nd rfl) iX) dq) iX) rfl) ?_
 refine aH (aQ 7 (ag (aa 2 nd rfl) (ag di (ag (aa 1 nd rfl) (ag di (aa 4 nd rfl) dq) iX) dq) iX) rfl) ?_;refine aH (aQ 3 (ag (aa 3 nd rfl) aj (cH (by decide))) rfl) ?_;unfold sy;dsimp only;have hj:0<=(i3 (aaC h 4618441417868443648)).fmod 6/\(i3 (aaC h 4618441417868443648)).fmod 6<6:=⟨Int.fmod_nonneg_of_pos _ (by decide),Int.fmod_lt_of_pos _ (by decide)⟩
 generalize (i3 (aaC h 4618441417868443648)).fmod 6=j at*;generalize aaJ (aaC h 4618441417868443648) (abb (i3 (aaC h 4618441417868443648)))=f at*;refine ny (f:=lX) (x:=_) (aF (aa 3 nd rfl) aj cJ) (fun z=>bZ (bU (ae (aa 2 nd rfl) (ae (aa 7 nd rfl) (ae (aa 5 nd rfl) ao))) (eE rfl))) (fun h0=> ?_)
 refine ny (f:=lX) (x:=_) (aF (aa 3 nd rfl) aj cJ) (fun z=>bZ (bU (ae (aa 6 nd rfl) (ae (aa 2 nd rfl) (ae (aa 5 nd rfl) ao))) (eE rfl))) (fun h1=> ?_);refine ny (f:=lX) (x:=_) (aF (aa 3 nd rfl) aj cJ) (fun z=>bZ (bU (ae (aa 5 nd rfl) (ae (aa 2 nd rfl) (ae (aa 7 nd rfl) ao))) (eE rfl))) (fun h2=> ?_)
 refine ny (f:=lX) (x:=_) (aF (aa 3 nd rfl) aj cJ) (fun z=>bZ (bU (ae (aa 5 nd rfl) (ae (aa 6 nd rfl) (ae (aa 2 nd rfl) ao))) (eE rfl))) (fun h3=> ?_);refine ny (f:=lX) (x:=_) (aF (aa 3 nd rfl) aj cJ) (fun z=>bZ (bU (ae (aa 7 nd rfl) (ae (aa 5 nd rfl) (ae (aa 2 nd rfl) ao))) (eE rfl))) (fun h4=> ?_)
 refine lB (aM.cast (aF (aa 3 nd rfl) aj cJ) ?_) (bZ (bU (ae (aa 2 nd rfl) (ae (aa 5 nd rfl) (ae (aa 6 nd rfl) ao))) (eE rfl)));simp only[beq_eq_false_iff_ne,beq_iff_eq,ne_eq] at h0 h1 h2 h3 h4⊢
 lia
theorem Nv(B:ai w tk H){h s v:UInt64}(hs:iJ s 0=false)(hh:r7 h=true):aU w H (l+1) n (.ref 115) [.flt h, .flt s, .flt v] (lX (sy h s v)):=dy B (G0 B) LV rfl (Mo B hs hh)
noncomputable def fB(a b:Int):UInt64:=aef (decide (a<0) !=decide (b<0)) a.natAbs b.natAbs
noncomputable def uL(a b:Int):Int:=if b<a then b else a
noncomputable def yn(size place share value turns:Int):UInt64×UInt64×UInt64:=if turns.fmod 2==0 then sy (fB (place+size*turns) size) (fB share 4) (fB value 8) else yx (fB (place -size*turns) size) (fB value 8) (fB share 4)
noncomputable def ye(share value turns:Int):Int:=if turns.fmod 2==0 then 4*value else 4*value+share*uL value (8 -value)
noncomputable def xW(share value turns:Int):Int:=if turns.fmod 2==0 then(4 -share)*value else 4*value -share*uL value (8 -value)
noncomputable def yt(one:UInt64)(size:Int):UInt64:=abE (aaC (aaC one (abb size)) (abb ((2:Int)^(21:Int).toNat))) (abb 1)
noncomputable def u7(one:UInt64):UInt64:=abE (aaC one (abb ((2:Int)^(21:Int).toNat))) (abb 1)
noncomputable def nK(one:UInt64)(size:Int):Int:=((i3 (yt one size)).fdiv 2).fmod (size*2^(20:Int).toNat)
noncomputable def tx(one:UInt64):Int:=(i3 (u7 one)).fdiv 2
noncomputable def sC(p:UInt64×UInt64×UInt64)(most least:Int):List UInt64:=
 [aaC (vk p.1 p.2.1 p.2.2) (abb most),aaC (eD p.1 p.2.1 p.2.2) (abb 32),aaC (mS p.1 p.2.1 p.2.2) (abb 64),aaC (vj p.1 p.2.1 p.2.2) (abb (uL (most+least) (64 -most -least)))]
noncomputable def vf(size place most least:Int)(p:UInt64×UInt64×UInt64):Bool:=
 r9 p.1 p.2.1 p.2.2&&r8 p.1 p.2.1 p.2.2&&mz (yt (iR p.1 p.2.1 p.2.2) size)&&(nK (iR p.1 p.2.1 p.2.2) size==place.fmod size*2^20)&&((sC p most least).all fun x=>mz (u7 x))&&((sC p most least).map tx==[most -least,most,most+least,most -least].map fun x=>x*2^20)
noncomputable def j3(size place share value turns:Int):Bool:=
 !adB (fB share 4)&& !adB (fB value 8)&& !iJ (fB share 4) 0&&(if turns.fmod 2==0 then !adB (fB (place+size*turns) size)&&r7 (fB (place+size*turns) size) else !adB (fB (place -size*turns) size))&&vf size place (ye share value turns) (xW share value turns) (yn size place share value turns)
theorem Az{a:Int}(h:a.natAbs<2^63):a.natAbs<2^1023:=aaa h (by decide)
theorem VN{a:Int}(h0: -100000<=a)(h1:a<=100000):a.natAbs<2^63:=by exact(Int.le_total (0) (a)).elim (fun x2=> "]a100000#'Aa<A^63" h1 (aas (x2))) (fun x2=> "]~100000a#'A~a<A^63" h0 (aaS (x2)))
set_option tactic.hygienic true in
theorem DF{a:Int}(h:a.natAbs<2^63): ↑(aad a)+(20:Int)<=2^27:=by
 unfold aad;split
 ·decide
 ·rename_i h0
  have h2:a.natAbs≠0:=by simpa using h0
  have:a.natAbs.log2<63:=(ad9 h2).mpr h;exact "<A63]+'+A1_20^27" this
theorem Xp(B:ai w tk H){place size share value turns most least narrow:Int}{letters:Str}{p:UInt64×UInt64×UInt64}{c:Nat}(h0:8<=size)(h1:size<=12)(pK:(letters.length:Int)=size)(hm:0<=most/\most<=64)(hle:0<=least/\least<=64)
 (cU:vf size place most least p=true) (hc:letters.cps[(place.fmod size).toNat]?=some c):
 aD w [] H (l+3) 40 (aJ (ay 36)) [(7,lX p),(8, .int most),(9, .int least),(6, .int narrow),(5, .int size),(0, .int place),(1, .str letters),(2, .int share),(3, .int value),(4, .int turns)] [] ((aT (ay 36)).drop 2) (.ret (.str ⟨#[c]⟩) []):=by
 have nd:=JH
 conv at nd=>arg 1;whnf
 conv=>arg 6;whnf
 conv=>arg 9;whnf
 simp only[vf,aax,beq_iff_eq] at cU;refine gz fun zq zk=> ?_
 obtain⟨⟨⟨⟨⟨k1,k2⟩,k3⟩,k4⟩,k5⟩,k6⟩:=cU;refine zk ?_;have jn:0<=place.fmod size/\place.fmod size<size:=⟨Int.fmod_nonneg_of_pos _ (by exact "]8a>0a" h0),Int.fmod_lt_of_pos _ (by exact "]8a>0a" h0)⟩;have hdiv:(place.fmod size*2^20).fdiv (2^(20:Int).toNat)=place.fmod size:=Int.mul_fdiv_cancel _ (by decide)
 refine aH (je (aR 22 B (Qy B) (NT B) rfl (ae (cZ (aa 7 nd rfl) aj (by decide) (by decide) (j:=0) rfl rfl) (ae (cZ (aa 7 nd rfl) aj (by decide) (by decide) (j:=1) rfl rfl) (ae (cZ (aa 7 nd rfl) aj (by decide) (by decide) (j:=2) rfl rfl) ao))) (Ng (l:=l+2) B k1)) rfl (bz 10 rfl (bz 11 rfl (bz 12 rfl eF))) rfl rfl) ?_
 refine aH (je (aR 23 B (Qx B) (NR B) rfl (ae (cZ (aa 7 nd rfl) aj (by decide) (by decide) (j:=0) rfl rfl) (ae (cZ (aa 7 nd rfl) aj (by decide) (by decide) (j:=1) rfl rfl) (ae (cZ (aa 7 nd rfl) aj (by decide) (by decide) (j:=2) rfl rfl) ao))) (Nd (l:=l+2) B k2)) rfl (bz 13 rfl (bz 14 rfl (bz 15 rfl eF))) rfl rfl) ?_
 refine aH (wJ [iR p.1 p.2.1 p.2.2,iR p.1 p.2.1 p.2.2] V.flt (fun one=>V.int (nK one size)) (b6 (by kernel_rfl)) (i:=1) (j:=16) rfl (.inl rfl) rfl (bJ 3 5 rfl rfl rfl b5) (ux bP (bU (ae (aa 10 nd rfl) (ae (aa 13 nd rfl) ao)) (eE rfl)))
  (fun nd a ha=>(ag (ag (aR 2 B (wZ B) (.ty _) rfl (ae (ag (ag (ag (aa 1 nd rfl) (aa 3 nd rfl) (qk (Az (by exact "]a12#'Aa<A^63" h1 (aas ("]8a]0a" h0)))))) (ag aj aj (j9 (by decide) (by decide))) (qk (by decide))) aj (JR (by decide))) ao) (zO (x:=yt a size) (by simp only[ZU,aaz,or_false] at ha;rcases ha with rfl|rfl<;>exact k3))) aj (n7 (by decide) (PyProof.noPylong_small (by decide)))) (ag (aa 3 nd rfl) aj (r3 (by decide) (DF (by exact "]a12#'Aa<A^63" h1 (aas ("]8a]0a" h0)))))) (cH (by show size*2^20≠0;exact ":1048576]8a!#%a1048576_0" h0)))) (eE rfl) rfl rfl) ?_
 refine aH (wJ (sC p most least) V.flt (fun one=>V.int (tx one)) (b6 (by kernel_rfl)) (i:=1) (j:=17) rfl (.inl rfl) rfl b5 (ux bP (bU (ae (ag (aa 11 nd rfl) (aa 8 nd rfl) (qk (Az (by exact "]a64#'Aa<A^63" hm.2 (aas (hm.1)))))) (ae (ag (aa 12 nd rfl) aj (qk (by decide))) (ae (ag (aa 14 nd rfl) aj (qk (by decide))) (ae (ag (aa 15 nd rfl) (aR 19 B (w5 B) (.bi _) rfl (ae (ag (aa 8 nd rfl) (aa 9 nd rfl) ck) (ae (ag (ag aj (aa 8 nd rfl) d6) (aa 9 nd rfl) d6) ao)) E4) (qk (Az (by split<;>exact VN (by omega) (by omega))))) ao)))) (eE rfl)))
  (fun nd a ha=>(ag (aR 2 B (wZ B) (.ty _) rfl (ae (ag (ag (aa 1 nd rfl) (ag aj aj (j9 (by decide) (by decide))) (qk (by decide))) aj (JR (by decide))) ao) (zO (x:=u7 a) (Z3.mp k5 a ha))) aj (n7 (by decide) (PyProof.noPylong_small (by decide))))) (eE rfl) rfl rfl) ?_
 exact bZ (kx (aM.cast (ot (aM.cast (aF (aa 16 nd rfl) (ag (dA (ae (ag (ag (kz (aa 16 nd rfl) aj (by decide) (by decide) rfl) aj (ql (by decide))) aj (r3 (by decide) (DF (by rw[k4,hdiv];(apply aeM;intro;lia))))) ao) (eE rfl)) aj (JT (by decide) (by decide) (by simp))) (gW (a:=[nK (iR p.1 p.2.1 p.2.2) size,nK (iR p.1 p.2.1 p.2.2) size]) (b:=[(nK (iR p.1 p.2.1 p.2.2) size).fdiv (2^(20:Int).toNat)*2^(20:Int).toNat,(nK (iR p.1 p.2.1 p.2.2) size).fdiv (2^(20:Int).toNat)*2^(20:Int).toNat]) iG (by decide) bR bR)) (decide_eq_true (by rw[k4,hdiv];rfl))) (fun z=>ot (aM.cast (aF (aa 17 nd rfl) (jc [most -least,most,most+least,most -least] V.int (fun one=>V.int (one*2^(20:Int).toNat)) (b6 (by kernel_rfl)) (i:=1) rfl (.inl rfl) rfl b5 (ux bP (bU (ae (ag (aa 8 nd rfl) (aa 9 nd rfl) d6) (ae (aa 8 nd rfl) (ae (ag (aa 8 nd rfl) (aa 9 nd rfl) ck) (ae (ag (aa 8 nd rfl) (aa 9 nd rfl) d6) ao)))) (eE rfl))) (fun nd a ha=>(ag (aa 1 nd rfl) aj (r3 (by decide) (DF (by simp only[ZU,aaz,or_false] at ha;omega))))) (eE rfl)) (gW (a:=(sC p most least).map tx) (b:=[most -least,most,most+least,most -least].map fun one=>one*2^(20:Int).toNat) iG (by decide) bR bR)) (decide_eq_true k6)) (fun z=>yL))) rfl) (Am (aa 1 nd rfl) (ag (kz (aa 16 nd rfl) aj (by decide) (by decide) rfl) aj (ql (by decide))) (by rw[k4,hdiv];simp[*]) (by rw[k4,hdiv];(apply aeM;intro;lia)) (by rw[k4,hdiv];exact hc)))
theorem tn{X:List Addr}{ow:Ow}{t:Expr}{body orelse:List Stmt}{pos:Pos}{o:aW}(h:aM w H l n sc ρ t true)(h1:aD w X H l n sc ρ ow body o):bV w X H l n sc ρ ow (.If t body orelse pos) o:=jf h (fun z=>h1) fun h=>nomatch h
theorem lI{X:List Addr}{ow:Ow}{t:Expr}{body orelse:List Stmt}{pos:Pos}{o:aW}(h:aM w H l n sc ρ t false)(h1:aD w X H l n sc ρ ow orelse o):bV w X H l n sc ρ ow (.If t body orelse pos) o:=jf h (fun h=>nomatch h) fun z=>h1
theorem Mw(B:ai w tk H){place size share value turns:Int}{letters:Str}{c:Nat}(h0:8<=size)(h1:size<=12)(pK:(letters.length:Int)=size)(dM: -(2^20)<=place/\place<=2^20)(eA:1<=share/\share<=4)(gI:1<=value/\value<=7)(nU:0<=turns/\turns<=3)
 (cU:j3 size place share value turns=true) (hc:letters.cps[(place.fmod size).toNat]?=some c):
 aD w [] H (l+3) 40 (aJ (ay 36)) [(0, .int place),(1, .str letters),(2, .int share),(3, .int value),(4, .int turns)] [] (aT (ay 36)) (.ret (.str ⟨#[c]⟩) []):=by
 have a1:(1<=(if 8 -value<value then 8 -value else value)/\(if 8 -value<value then 8 -value else value)<=4)/\(if 8 -value<value then 8 -value else value)<=value:=by
  split
  ·exact⟨⟨by exact "]a7]1-8a" gI.2,by exact ">-8aa:2]-8a4" _⟩,by exact ac7 ‹_›⟩
  ·exact⟨⟨by simp[*],by exact "!>-8aa:2]a4" _⟩,Int.le_refl _⟩
 have nQ:0<=(if 8 -value<value then 8 -value else value):=adx (by decide) a1.1.1;have kN:0<=share:=adx (by decide) eA.1;have hn:0<=share*(if 8 -value<value then 8 -value else value)/\share*(if 8 -value<value then 8 -value else value)<=16:=⟨aeW kN nQ,Int.mul_le_mul eA.2 a1.1.2 nQ (by decide)⟩
 have Sr:share*(if 8 -value<value then 8 -value else value)<=4*value:=Int.mul_le_mul eA.2 a1.2 nQ (by decide);have Ss:0<=(4 -share)*value/\(4 -share)*value<=28:=⟨aeW (Int.sub_nonneg_of_le eA.2) (adx (by decide) gI.1),Int.mul_le_mul (Int.sub_le_self _ kN) gI.2 (adx (by decide) gI.1) (by decide)⟩;simp only[j3,aax,abR] at cU;obtain⟨⟨⟨⟨e2,e3⟩,e4⟩,wu⟩,e6⟩:=cU
 have R:=fun parts most least narrow a b k d=>Xp (l:=l) (p:=parts) (most:=most) (least:=least) (narrow:=narrow) (c:=c) B h0 h1 pK a b k d (place:=place) (share:=share) (value:=value) (turns:=turns)
 subst pK;have nd:=JH
 conv at nd=>arg 1;whnf
 conv=>arg 6;whnf
 conv=>arg 9;whnf
 refine aH (je (bU (ae (aR 18 B (g8 B) (.bi _) rfl (ae (aa 1 nd rfl) ao) (Nm (by exact "]'A12<A^62" h1))) (ae (ag (aa 2 nd rfl) (aR 19 B (w5 B) (.bi _) rfl (ae (aa 3 nd rfl) (ae (ag aj (aa 3 nd rfl) d6) ao)) E4) (d5 (iW (by exact "]1a]~^63a" eA.1) (by exact "]a4>a^63" eA.2)))) ao)) (eE rfl)) rfl (bz 5 rfl (bz 6 rfl eF)) rfl rfl) ?_;cases nS:turns.fmod 2==0 with
 |true=>
  simp only[ye,xW,yn,nS,if_true,aax,abR] at wu e6;obtain⟨e1,e5⟩:=wu
  refine aH (tn (aM.cast (aF (ag (aa 4 nd rfl) aj (cH (by decide))) aj cJ) nS) (bD (Ge (names:=["parts","most","least"]) (bU (ae (aR 20 B (Qt B) (NU B) rfl (ae (ag (ag (aa 0 nd rfl) (ag (aa 5 nd rfl) (aa 4 nd rfl) (d5 (iW (by exact Z0 _) (by exact acf ‹_› (by decide))))) ck) (aa 5 nd rfl) (r0 (by exact "]8'A!#'A0" h0) e1)) (ae (ag (aa 2 nd rfl) aj (r0 (by decide) e2)) (ae (ag (aa 3 nd rfl) aj (r0 (by decide) e3)) ao))) (Nv (l:=l+2) B e4 e5)) (ae (ag aj (aa 3 nd rfl) (d5 (iW (by decide) (by decide)))) (ae (ag (ag aj (aa 2 nd rfl) d6) (aa 3 nd rfl) (d5 (iW (by exact "]a4]~^63-4a" eA.2) (by exact "]1a>-4a^63" eA.1)))) ao))) (eE rfl)) rfl rfl (.cons (i:=9) rfl (.inl rfl) (.cons (i:=8) rfl (.inl rfl) (.cons (i:=7) rfl (.inl rfl) .nil))) (hs:=rfl) rfl))) ?_
  exact R _ _ _ (share*(if 8 -value<value then 8 -value else value)) ⟨by exact ":4]1a]0*4a" gI.1,by exact ":4]a7]*4a64" gI.2⟩ ⟨by simp[*],by exact "]a28]a64" Ss.2⟩ e6 hc
 |false=>
  simp only[ye,xW,yn,nS,abU,if_false,abR] at wu e6;have e1:=wu
  refine aH (lI (aM.cast (aF (ag (aa 4 nd rfl) aj (cH (by decide))) aj cJ) nS) (bD (Ge (names:=["parts","most","least"]) (bU (ae (aR 21 B (Qs B) (NS B) rfl (ae (ag (ag (aa 0 nd rfl) (ag (aa 5 nd rfl) (aa 4 nd rfl) (d5 (iW (by exact Z0 _) (by exact acf ‹_› (by decide))))) d6) (aa 5 nd rfl) (r0 (by exact "]8'A!#'A0" h0) e1)) (ae (ag (aa 3 nd rfl) aj (r0 (by exact "!#8_0" ()) e3)) (ae (ag (aa 2 nd rfl) aj (r0 (by exact "!#4_0" ()) e2)) ao))) (Nu (l:=l+1) B e4)) (ae (ag (ag aj (aa 3 nd rfl) (d5 (iW (by decide) (by decide)))) (aa 6 nd rfl) ck) (ae (ag (ag aj (aa 3 nd rfl) (d5 (iW (by decide) (by decide)))) (aa 6 nd rfl) d6) ao))) (eE rfl)) rfl rfl (.cons (i:=9) rfl (.inl rfl) (.cons (i:=8) rfl (.inl rfl) (.cons (i:=7) rfl (.inl rfl) .nil))) (hs:=rfl) rfl))) ?_
  exact R _ _ _ (share*(if 8 -value<value then 8 -value else value)) ⟨by exact ":2]0a]a*4b]0+*4ba" hn.1 Sr,by exact ":4]a7]b16]+*4ab64" gI.2 hn.2⟩ ⟨by exact Int.sub_nonneg_of_le ‹_›,by exact ":4]a7]0b]-*4ab64" gI.2 hn.1⟩ e6 hc
theorem EY(B:ai w tk H){place size share value turns:Int}{letters:Str}{c:Nat}(h0:8<=size)(h1:size<=12)(pK:(letters.length:Int)=size)(dM: -(2^20)<=place/\place<=2^20)(eA:1<=share/\share<=4)(gI:1<=value/\value<=7)(nU:0<=turns/\turns<=3)
 (cU:j3 size place share value turns=true) (hc:letters.cps[(place.fmod size).toNat]?=some c):aU w H (l+4) n (.ref 364) [.int place, .str letters, .int share, .int value, .int turns] (.str ⟨#[c]⟩):=
 dy B (Hc B) L3 rfl (Mw B h0 h1 pK dM eA gI nU cU hc)
theorem OE:entryFor table "dict_itemiterator.__iter__" =some Builtin.«dict_keyiterator.__iter__»:=
 entryFor_alias (id':= "dict_keyiterator.__iter__") (by kernel_rfl) rfl (by decide+kernel) (by kernel_rfl)
noncomputable abbrev CM(d:Addr):Obj:={cls:= .type "dict_itemiterator",data:= .fields #[.none, .bool false, .ref d, .int 0 0, .int (([]:List (Str×ZN)).length:Nat) 0, .int ((0:Nat):Int) 0, .none, .none]}
noncomputable def nH:Obj:=d9 #[] 0
theorem Ae(hi:bS G s){d:Addr}(h:G d=some nH):s.heap.DictAt (strKind PW w) d [] 0:=⟨_,#[],hi _ _ h,⟨rfl,rfl,rfl⟩,rfl,fun e he=>by simp at he, .nil,acJ⟩
theorem Ul{tg oe:Expr}{apos pos:Pos}(h:ah w H l n sc ρ oe (.obj nH))(ib:autoParam (∀env,adC oe "items" env (eval oe env)=eval oe env) au)(fS:autoParam ((apos.endLine==pos.line)=true) au):
 cI w H l n sc ρ tg (.Call (.Attribute oe "items" apos) [] [] pos) []:=fun env A s G r S Q E k=>by
 refine wpAny_Call_method (T:= "dict") (id:= "dict.items") (ib env) rfl fS F.plainAttrs_dict F.slot_dict_items F.type_dict_items (h.go env A s G r S _ E fun cv s₁ G₁ af aA=> ?_);obtain⟨d,rfl,ga,hd⟩:=vb aA;have hD:=Ae (w:=w) af.inn ga;refine⟨hD.dictOf.typeIs,hD.dictOf.mapOf.noDict,?_⟩;show Z6 _ _ (callWith pos (.builtin "dict.items") [.ref d] [] []) _ E _
 refine method_meetsIn F.slot_dict_items F.entry_dict_items rfl (PySem.evalArgs_none ⟨rfl,hD.dictOf.typeIs,F.args_dict_items_1 _,_,meets_dict_items (strKind PW w) d hd,⟨[],hD.dictOf⟩,?_⟩);have hIn:s₁.heap.get? s₁.heap.objs.size=none:=ct (aab _);have qE:ak aq G₁ s₁ G₁ {s₁ with heap:=s₁.heap.push {cls:= .type "dict_items",data:= .fields #[.ref d]} }:=iZ af.inn s₁.toks;have QV:=Ae (w:=w) qE.inn ga
 refine wpAny_pyIter_items (knd:=strKind PW w) (s:={s₁ with heap:=s₁.heap.push {cls:= .type "dict_items",data:= .fields #[.ref d]} }) (d:=d) (kvs:=[]) (ep:=0) ⟨_,aai _ rfl,rfl,rfl⟩ QV ?_;have Zf:=iZ (s:={s₁ with heap:=s₁.heap.push {cls:= .type "dict_items",data:= .fields #[.ref d]} }) (o:=CM d) qE.inn s₁.toks
 have tQ:(s₁.heap.push {cls:= .type "dict_items",data:= .fields #[.ref d]}).get? (s₁.heap.push {cls:= .type "dict_items",data:= .fields #[.ref d]}).objs.size=none:=ct (aab _);generalize hI:(s₁.heap.push {cls:= .type "dict_items",data:= .fields #[.ref d]}).objs.size=It at tQ;have bC:d≠It:=fun e=>by rw[<-e,qE.inn _ _ ga] at tQ;cases tQ
 have pQ:((s₁.heap.push {cls:= .type "dict_items",data:= .fields #[.ref d]}).push (CM d)).get? It=some (CM d):=by rw[<-hI];exact aai _ rfl
 refine k It [It] (fun i G s=>IsItemIter s.heap It d 0 0 0 .none .none/\G It=none/\G d=some nH) _ G₁ ((af.trans qE).trans Zf) ⟨fun i G s h b hb=> ?_,fun i G s G' s' h hs hi hw=> ?_,fun i G s v Q E h hi hv=>(by cases hv),fun G s Q E h hi kk=> ?_,fun i G s Q E h hQ=> ?_⟩ ⟨pQ,cY qE.inn tQ,ga⟩ fun b hb=> ?_
 ·rw[Z4.mp hb];exact⟨⟨_,_,_,h.1,rfl,rfl,by decide⟩,h.2.1⟩
 ·exact⟨(hw It (ach _)).1 _ h.1,(hw It (ach _)).2,hs _ _ h.2.2⟩
 ·have cG:=Ae (w:=w) hi h.2.2
  exact wpAny_pyNext_items_end (knd:=strKind PW w) (kvs:=[]) r.hd h.1 cG rfl fun h' RC=>⟨rfl,kk h' s.toks fun b o hb e=>RC b o (fun q=>hb (by rw[q];exact ach _)) e⟩
 ·have hT:s.TypeIs (.ref It) "dict_itemiterator" :=⟨_,h.1,rfl⟩
  refine wpAny_pyIter_slot hT F.slot_dict_itemiterator_iter (aep F.slot_dict_itemiterator_iter hT OE ?_ (F.args_dict_itemiterator_iter_1 _));show Z6 _ _ (ret (.ref It)) _ _ s
  exact ZS ⟨_,rfl,"dict_itemiterator",_,hT,F.slot_dict_itemiterator_next.lookup,hQ⟩
 ·rw[Z4.mp hb]
  exact jA (af.trans qE) ((S.ext af).ext qE).tab tQ
theorem MD{i:Nat}{a:Addr}{ys:List V}{ss:List Stmt}(hm:(i, .at a)∈ρ)(hX: ∀x∈X,x∈ow.map (·.1))(h:aD w X H l n sc ((i, .list ys)::ρ) ow ss o):aD w X H l n sc ρ ((a,ys)::ow) ss o:= .mk fun env A G₀ s₀ G s Q E q r I k=>by
 obtain⟨_,_,_,vs,k',hl,hr⟩:=I.own _ ZR;obtain⟨I',mO⟩:=I.freezeX (fun hx=>by
  obtain⟨p,hp,e⟩:=Z1.mp (hX a hx);exact(abi.mp I.dis).1 p hp e.symm) hl hr
 exact h.go env A G₀ s₀ _ s Q E q r (I'.named hm mO) k
theorem L8(B:ai w tk H){a b c:V}:i6 w H (aJ (bg 16)) (Ax tk) [] [a,b,c] [(0,a),(1,b),(2,c),(3, .obj nH)]:=fun A s G cs bs hi rl Q E k=>by
 obtain⟨ca,cb,cc,rfl,ra,rb,rc⟩:=yw rl;refine nd_alloc ?_;have x:=ak.alloc (o:=nH) (X:=aq) hi rfl s.toks;have hS:(s.heap.objs.size==acI)=false:=by
  have:=aa1 (bs.base _ _ (zu B) (by decide));exact beq_false_of_ne (acj (ZY (by decide) this))
 refine ZS (k [("self",ca),("_name",cb),("_value",cc),("_params", .ref s.heap.objs.size)] _ (bN G s.heap.objs.size nH) x (fun y hy=> ?_) fun p hp=> ?_)
 ·simp only[ZU,aaz,or_false] at hy
  rcases hy with rfl|rfl|rfl|rfl<;>rfl
 ·simp only[ZU,aaz,or_false] at hp
  rcases hp with rfl|rfl|rfl|rfl
  ·exact⟨_,ca,rfl,rfl,cN x.sub ra⟩
  ·exact⟨_,cb,rfl,rfl,cN x.sub rb⟩
  ·exact⟨_,cc,rfl,rfl,cN x.sub rc⟩
  ·exact⟨_,_,rfl,rfl, .obj iK hS⟩
theorem Ut(x y:Str):Txt.join x [y]=y:=rfl
theorem Us{x y:Str}(h:y.length+x.length<=1000):JoinOk x [y]=true:=by
 have:([y]:List Str).toArray.foldl (fun a z=>a+z.length+x.length) 0=0+y.length+x.length:=rfl;unfold JoinOk Builtin.Str.tooLong;rw[this];have:Z7=16777216:=sizeLine_eq;simp only[abR,decide_eq_false_iff_not];exact "[+AB1000;1=C16777216!<C++0AB" h this
set_option tactic.hygienic true in
theorem MY(B:ai w tk H){D:Addr}{ys:List V}{nm vl:Str}(h1:found gm nm=some false)(h2:nm.cps.size<2^62)(h3:found oY vl=some false)(h4:vl.length<=900)(hsz:ys.length<=Z7):
 iE w H (l+2) n [D] (.ref 320) [] [.hdr (.at D), .str nm, .str vl] [(D,ys)] .none [(D,ys++[pv (nm,vl)])]:=by
 have nd:=V6
 conv at nd=>arg 1;whnf
 refine oW (o:= .next [] [(D,ys++[pv (nm,vl)])]) B (PA B) (L8 B) ?_ (fun p hp=>by rw[Z4.mp hp];exact ach _);show aD w [D] H (l+1) 40 (aJ (bg 16)) [(0, .hdr (.at D)),(1, .str nm),(2, .str vl),(3, .obj nH)] [(D,ys)] (aT (bg 16)) _
 conv=>arg 6;whnf
 conv=>arg 9;whnf
 refine vX (i:=4) ?nx (.inl rfl) ?nr (h:=fun P=> ?_)
 case nx=>rfl
 case nr=>rfl
 refine aH (tn (aF (c:=true) (aa 2 nd rfl) en (mj fun z=>V.noConfusion)) (aH (aQ 2 (qZ B pN qf (aa 0 nd rfl) (ae (aa 2 nd rfl) ao) (qO B h3 (by have:vl.cps.size=vl.length:=rfl;exact ZY ‹_› (by decide)))) rfl) (bD (q0 (i:=4) rfl (bw rfl) (aa 2 nd rfl) (aav _) (nd.at rfl (i:=4)).1 (nd.at rfl (i:=4)).2)))) ?_
 refine aH (kD (items:=[]) (M:=0) (R:=fun z=>[(2, .str vl),(4, .at P),(0, .hdr (.at D)),(1, .str nm),(3, .obj nH)]) (R':=fun z=>[]) (O:=fun z=>[(P,[.str vl]),(D,ys)]) (Ul (aa 3 nd rfl)) (fun p hp=>hp) rfl (fun j v z hv=>by cases hv) (fun j v hj z=>absurd hj (Nat.not_lt_zero _)) (.inl ⟨rfl,rfl⟩)) ?_;refine MD (i:=4) (bw rfl) (fun x hx=>hx) ?_
 refine d8 (bD (O8 (v:=pv (nm,vl)) ?ea ?eb hsz)) (fun p hp=>nomatch hp) (aae _)
 case ea=>exact qY B rfl (aa 0 nd rfl)
 case eb=>
  refine bU (ae ?_ (ae ?_ ao)) (aca rfl)
  ·exact qZ B pN qf (aa 0 nd rfl) (ae (aa 1 nd rfl) ao) (qO B h1 h2)
  ·exact ah.cast (kA (yb (x:= "; ") (xs:=[vl]) (Us (by show _+2<=_;exact "[A900[+A2_1000" h4))) kC (ae (aa 4 nd rfl) ao)) (congrArg V.str (Ut _ _))
theorem Nc(B:ai w tk H){xs:List V}(h:xs.length<2^62):aU w H (l+1) n (.ref 231) [.hdr (.list xs)] (.int xs.length):=by
 have nd:=V9
 conv at nd=>arg 1;whnf
 refine dy B (P8 B) Me rfl (ow:=[]) ?_;show aD w [] H l 40 (aJ (bg 2)) [(0, .hdr (.list xs))] [] (aT (bg 2)) _
 conv=>arg 6;whnf
 conv=>arg 9;whnf
 exact bZ (aR 1 B (g8 B) (.bi _) rfl (ae (qY B rfl (aa 0 nd rfl)) ao) (i9 h))
theorem Rw{P:abm}{tk:Nat}:findIn (KK P tk) (.ref 323) "__len__" =some (some (.ref 231)):=by kernel_rfl
theorem Rx{P:abm}{tk:Nat}:typeIn (KK P tk) (.ref 231)=some (.type "function"):=by kernel_rfl
theorem Nl(B:ai w tk H){xs:List V}(h:xs.length<2^62):aU w H (l+1) (n+1) (.builtin "len") [.hdr (.list xs)] (.int xs.length):=by
 constructor;intro A s G cs r bs hi rl Q E k
 obtain⟨ca,rfl,ra⟩:=fI rl;obtain⟨a,d,hh,t,b,ep,rfl,h1,h2,h3⟩:=va ra;refine Calls.call_function_entry kind_len plain_len entry_len (args_len1 _) ?_;unfold Builtin.«len»;refine ZO (m:=oneArg "len" _) (ZS ?_);refine ZO (m:=callSpecial? (.ref a) (Str.ofString "__len__")) (special_fn (jv B bs) (xn hi h1 h2) Rw Rx ((Nc B h).go A.in1 s G [.ref a] r.in1 bs hi rl _ _ fun cv s₁ G₁ af aA=> ?_))
 obtain⟨u,rfl⟩:=aZ aA;refine ZO (aaV (ZS ?_));refine ZO (wpAny_letGo ?_);show Z6 _ _ (if((xs.length:Nat):Int)<0 then _ else _) _ _ _
 rw[if_neg (by exact abK.mpr (Z0 _))];show Z6 _ _ (if((xs.length:Nat):Int)>=2^63 then _ else _) _ _ _
 rw[if_neg (by exact "<A^62!]^63'A" h)];exact ZO (wpAny_mkInt (ZS ⟨_,rfl,k _ _ G₁ (af.trans (ak.toks af.inn _)) (.int _ _)⟩))
noncomputable def FL(l:List Env):List Addr:=l.filterMap (·.frame)
noncomputable def eJ(h:Heap)(l:List Env):Prop:= ∀env∈l,env.scope.kind≠ .module/\ ∃L o,env.frame=some L/\h.get? L=some o/\ ∀vs,o.data≠ .fields vs
theorem eJ.funf{h base:Heap}: ∀{l:List Env},eJ h l->(∀L∈FL l,base.get? L=none)->h.FunFrames base l:=by
 intro rr
 induction rr with
 |nil=>
  exact fun z z=>trivial
 |cons env l ih=>
  exact fun f hb=>by
   obtain⟨h1,L,o,h2,h3,h4⟩:=f env ZR;exact⟨h1,⟨L,o,h2,hb L (ad4.mpr ⟨env,ZR,h2⟩),h3,h4⟩,ih (fun e he=>f e (ZP _ he)) fun L' hL=>hb L' (by
    obtain⟨e,he,h⟩:=ad4.mp hL;exact ad4.mpr ⟨e,ZP _ he,h⟩)⟩
theorem eJ.mem{h:Heap}{l:List Env}(f:eJ h l){L:Addr}(hL:L∈FL l): ∃o,h.get? L=some o/\ ∀vs,o.data≠ .fields vs:=by
 obtain⟨e,he,h'⟩:=ad4.mp hL;obtain⟨_,L',o,h2,h3,h4⟩:=f e he;have dJ:e.frame=some L:=h';rw[h2] at dJ;cases dJ;exact⟨o,h3,h4⟩
theorem eJ.on{h h':Heap}{l:List Env}(f:eJ h l)(k: ∀b o,h.get? b=some o->(∀vs,o.data≠ .fields vs)->h'.get? b=some o):eJ h' l:=fun e he=>(f e he).imp id (ac5 fun L=>ac5 fun o z=>⟨z.1,k L o z.2.1 z.2.2,z.2.2⟩)
theorem m5{h:Heap}(t:bY h){p:Addr}(hp:p∈aq){o:Obj}(ho:h.get? p=some o)(hn: ∀vs,o.data≠ .fields vs):False:=let⟨_,vs,e⟩:=t.fld hp ho;hn vs e
theorem eJ.to{h h':Heap}{l:List Env}(f:eJ h l)(t:bY h)(k: ∀b o,h.get? b=some o->b∉aq->h'.get? b=some o):eJ h' l:=f.on fun b o e hn=>k b o e fun hm=>m5 t hm e hn
theorem eJ.own{h:Heap}{env:Env}{l:List Env}(f:eJ h l)(hL:env.frame=some env.locals)(hk:env.scope.kind≠ .module){sc:ZZ}{ρ:aw}{G:GM}(hn:ni env sc ρ G h):eJ h (env::l):=fun e he=>(ZU.mp he).elim (fun q=>by
 obtain⟨m,⟨o,es,ep,ho,hd,_⟩,_⟩:=hn;exact q▸⟨hk,_,o,hL,ho,fun vs q=>by cases hd.symm.trans q⟩) (f e)
theorem GR{env:Env}{l:List Env}{L b:Addr}(hL:env.frame=some L)(hm:b∈FL (env::l)):b=L\/b∈FL l:=by
 unfold FL at hm;rw[adi,hL] at hm;exact ZU.mp hm
structure Ed(AG:ZN->Heap->Prop)(H0:Heap)(fr:List Env)(cls:String)(e:Addr)(h':Heap):Prop where
 ex: ∃base a0,Heap.FlyingW base fr e (.type cls) a0 h'/\AG a0 h'/\(∀b o,H0.get? b=some o->b∉aq->b∉FL fr->base.get? b=some o)/\bY base
 slots:H0.UpToSlots h'
structure Mk(AG:ZN->Heap->Prop)(h h':Heap)(cls:String)(e:Addr):Prop where
 keeps: ∀b o,h.get? b=some o->h'.get? b=some o
 new:h.get? e=none
 ex: ∃oe vs a0,h'.get? e=some oe/\oe.cls= .type cls/\oe.data= .fields vs/\vs[1]?=some .none/\vs[0]?=some a0/\AG a0 h'
noncomputable def yW(AG:ZN->Heap->Prop):Prop:= ∀a h h',AG a h->h.UpToSlots h'->AG a h'
noncomputable def qM(AG:ZN->Heap->Prop)(w:Z2)(H:Heap)(l n:Nat)(f:ZN)(kw:List (Str×ZN))(as:List V)(cls:String):Prop:=
 ∀(A:aaj) (s:ZL) (G:GM) (cs:List ZN) (fr:List Env),A.frames=some fr->eJ s.heap fr->bW A l n->Bs H G s->bS G s->aP G as cs->
  ∀(R:adE->ZL->Prop),(∀e s',Ed AG s.heap fr cls e s'.heap->s'.gens=s.gens->s'.os=s.os->R (.error (.ref e)) s')->codeAny (Z8 PW w) A (.call f ⟨cs,kw⟩) R s
noncomputable def l4(AG:ZN->Heap->Prop)(w:Z2)(X:List Addr)(H:Heap)(l n:Nat)(sc:ZZ)(ρ:aw)(ow:Ow)(ss:List Stmt)(cls:String):Prop:=
 ∀(env:Env) (A:aaj) (G₀:GM) (s₀:ZL) (G:GM) (s:ZL) (Q:Flow->ZL->Prop) (E:ZN->ZL->Prop),env.scope=sc->bW A l n->av X H sc env ρ ow G₀ s₀ G s->
  (∀e h' s₁ G₁ yV Wv,av X H sc env yV Wv G₀ s₀ G₁ s₁->Mk AG s₁.heap h' cls e->E (.ref e) {s₁ with heap:=h'})->Z6 (Z8 PW w) A (ac3 ss env) Q E s
section
variable {AG:ZN->Heap->Prop}{cls:String}
set_option tactic.hygienic true in
theorem VD{st:Stmt}{ss:List Stmt}(h:bV w X H l n sc ρ ow st (.next ρ' ow'))(hr:l4 AG w X H l n sc ρ' ow' ss cls):l4 AG w X H l n sc ρ ow (st::ss) cls:=
 (fun env A G₀ s₀ G s Q E q r I k=>aar (h.go env A G₀ s₀ G s _ E q r I fun f G' s' ok=>by
  obtain⟨rfl,I'⟩:=ok;exact hr env A G₀ s₀ G' s' Q E q r I' k))
theorem C0{t:Expr}{body orelse rest:List Stmt}{pos:Pos}(h:aM w H l n sc ρ t true)(h1:l4 AG w X H l n sc ρ ow body cls):l4 AG w X H l n sc ρ ow (.If t body orelse pos::rest) cls:=
 (fun env A G₀ s₀ G s Q E q r I k=>aar (wpAny_If (h.go env A s G r I.st _ E fun s₁ G₁ af=>h1 env A G₀ s₀ G₁ s₁ _ E q r (I.ext' af) k)))
theorem VF(B:ai w tk H){newId TM:String}(FC:ExcCallFacts cls newId TM)(FR:ExcRaiseFacts cls){x:Str}{np nF pos:Pos}{my:Expr}{v:V}{rest:List Stmt}{i:Nat}(g:bk H x (.type cls))(hx:sc.names[i]?=some (x, .globalImplicit))(he:ah w H l n sc ρ my v)
 (QO: ∀G t cv h,Rd G v cv->h.TupAt t [cv]->AG (.ref t) h)
 (dm:autoParam (∀env,aa4 [my] env=(false,eval my env)::aa4 [] env) au):
 l4 AG w X H l n sc ρ ow (.Raise (some (.Call (.Name x np) [my] [] nF)) none pos::rest) cls:=
 (fun env A G₀ s₀ G s Q E q r I k=>aar (Raise_madeB FC FR r.hd (eZ B g hx I.st ⟨rfl,by
  rw[show aa4 [my] env=(false,eval my env)::aa4 [] env from dm env];refine abZ (he.go env A s G r I.st _ E fun cv s₁ G₁ af aA=>acV ⟨by show 1<=Z7;exact aca rfl,fun h' e hm=> ?_⟩);obtain⟨t,h1,h2,h3⟩:=hm.there;exact k e h' s₁ G₁ ρ ow (I.ext' af) ⟨hm.keeps,hm.new,_,_, .ref t,h1,rfl,rfl,rfl,rfl,QO G₁ t cv h' aA ⟨_,_,h3,rfl,rfl⟩⟩⟩) (dm env) rfl))
theorem wx{A:aaj}{cs:List ZN}{R:adE->ZL->Prop}{a:Addr}{fd:aaL}{body:List Stmt}{kw:List (Str×ZN)}{as:List V}{jG:aw}(B:ai w tk H)(F:jI w H a fd body [])(fu:i6 w H fd.scope fd kw as jG)
 (r:bW A (l+1) n) (bs:Bs H G s) (hi:bS G s) (rl:aP G as cs)
 (k: ∀env G₁ s₁,env.scope=fd.scope->env.frame=some env.locals->ak aq G s G₁ s₁->av [] H fd.scope env jG [] G s G₁ s₁->bW (A.deeper env) l 40->
  Z6 (Z8 PW w) (A.deeper env) (ac3 body env) (fun f s'=>R (.ok (.ret (match f with| .ret v=>v|_=> .none))) s') (fun e s'=>Z6 (Z8 PW w) (A.deeper env) (leaving env e) (fun z s''=>R (.error e) s'') (fun e' s''=>R (.error e') s'') s') s₁):
 codeAny (Z8 PW w) A (.call (.ref a) ⟨cs,kw⟩) R s:=by
 refine gz fun zq zk=> ?_
 obtain⟨ob,jl,pD⟩:=F.obj;obtain⟨c,oc,vs,t,ic,jh,gy,kJ,mE⟩:=F.cod;refine zk ?_;refine codeAny_call_function (fd:=fd) (by have:=r.depth;show A.depth<1000;exact "[+A+B1_600<A1000" this) (bs.base _ _ jl F.nt) pD F.co F.gen F.body ⟨c,oc,vs,t,ic,bs.base _ _ gy jh,kJ,mE⟩ ?_;refine fu A.in1 s G cs bs hi rl _ _ fun binds s₁ G₁ af BQ dZ=> ?_
 have ku:Bs H G₁ s₁:=⟨fun b o e hb=>af.keep _ _ (bs.base _ _ e hb) hb,af.tab bs.tab,af.gt bs.tab bs.gt,fun a vs k e=>af.sub _ _ (bs.hl a vs k e)⟩;refine wpAny_newFunctionEnv F.noc BQ (fun h' gF fG=> ?_) F.kind;have cO: ∀b o,s₁.heap.get? b=some o->h'.get? b=some o:=fun b o e=>fG.extBut b o (abV (aa1 e)) (Z9 _ e)
 have ax:ak aq G₁ s₁ G₁ {s₁ with heap:=h',toks:=s₁.toks+binds.length}:=ak.grown af.inn _ cO;have lY:=ku.tab;have x:=af.trans ax;refine⟨uy B.nolimit fun b o e hb=>cO _ _ (ku.base _ _ e hb),codeAny_func ?_⟩;have Bk:s.heap.get? s₁.heap.objs.size=none:=jA af lY (ct (aab _));have Bj:G₁ s₁.heap.objs.size=none:=cY af.inn (ct (aab _))
 have b7: ∀y d,fd.closure.lookup y=some d->d∉aq/\ ∃v,H.IsCell d v:=fun y d h=>F.cells y d (mem_of_lookup h)
 have jU: ∀y d,fd.closure.lookup y=some d-> ∃v,h'.IsCell d v:=fun y d h=>by
  obtain⟨h1,v,q,h2,h3⟩:=b7 y d h;exact⟨v,q,cO _ _ (ku.base _ _ h2 h1),h3⟩
 have mr:qG (callEnv fd s₁.heap.objs.size a) fd.scope:=⟨F.kind,fun z h=>h,fun z h=>h,fun z h=>h,fun z h=> .inr h,F.glob,F.blt,F.nd,
  fun x h=>h.elim (fun h=>absurd rfl (F.noc _ (mem_of_lookup h))) fun h=>F.free x (mem_of_lookup h),F.apart,fun x c h=>j5 F.ckeys h⟩
 refine k (callEnv fd s₁.heap.objs.size a) G₁ _ rfl rfl x ?_ ⟨r.hd,by have:=r.depth;show A.depth+1+l<=600;exact "[+A+B1_600[++A1B600" this,by have:=r.units;show A.units+3+100*l+2*40<=9000;exact "[++A*100+B1*2C9000[+++A3*100B80_9000" this⟩;refine⟨⟨fun b q e hb=>cO _ _ (ku.base b q e hb),x.inn,mr,⟨_,gF,fun p hp=> ?_⟩,jU,x.tab bs.tab,x.gt bs.tab bs.gt,fun a vs k e=>x.sub _ _ (bs.hl a vs k e)⟩,
  x.wide fun a h=>abP _ h,bs.base,Bk,Bj,fun y d h1 h2=>absurd rfl (F.noc _ (mem_of_lookup h2)),jU,fun{i y kd} h1 h2=>absurd h2 (F.noc _ (aag h1)),fun y d h=>j5 F.ckeys h,
  (fun z h=>nomatch h),F.apart,(fun z h=>nomatch h),ada⟩
 obtain⟨y,cv,h1,h2,h3⟩:=dZ p hp;exact⟨y,_,h1, .loc (gJ h1 F.nd) cv h2 h3⟩
theorem LP{H0 h:Heap}{env:Env}{fr:List Env}{L:Addr}(hL:env.frame=some L)(hk: ∀b o,H0.get? b=some o->b∉aq->h.get? b=some o)(h0:H0.get? L=none):
 ∀b o,H0.get? b=some o->b∉aq->b∉FL fr->(without h (FL (env::fr))).get? b=some o:=fun b o e hb hf=>by
 refine(dv _ _ _ fun hm=> ?_).trans (hk b o e hb);exact(GR hL hm).elim (fun q=>sO e (q▸h0)) hf
theorem Ke(hA:yW AG){a:Addr}{fd:aaL}{body:List Stmt}{kw:List (Str×ZN)}{as:List V}{jG:aw}(B:ai w tk H)(F:jI w H a fd body [])(fu:i6 w H fd.scope fd kw as jG)
 (hb:l4 AG w [] H l 40 fd.scope jG [] body cls):qM AG w H (l+1) n (.ref a) kw as cls:=fun A s G cs fr dR t8 r bs hi rl R k=>by
 refine wx B F fu r bs hi rl fun env G₁ s₁ hq hL x I r'=> ?_
 refine hb env (A.deeper env) G s G₁ s₁ _ _ hq r' I fun e h' ar aB sQ ZG bf M=> ?_
 have gC: ∀b o,s.heap.get? b=some o->b∉aq->ar.heap.get? b=some o:=fun b o e hb=>bf.ext.keep b o e (by simpa using hb)
 have fD:eJ ar.heap (env::fr):=(t8.to bs.tab gC).own hL (by rw[hq,F.kind];decide) bf.st.loc;refine gz fun zq zk=> ?_
 obtain⟨oe,vs,a0,q1,q2,q3,q4,q5,q6⟩:=M.ex;refine zk ?_;have H9:(without ar.heap (FL (env::fr))).get? e=none:=by
  by_cases hm:e∈FL (env::fr)
  ·exact eG _ _ _ hm
  ·exact(dv _ _ _ hm).trans M.new
 refine wpAny_leaving_firstW (base:=without ar.heap (FL (env::fr))) (outer:=fr) (a0:=a0) (aer dR) ((fD.funf fun L hl=>eG _ _ _ hl).of_keeps fun b o hb z=>⟨o,M.keeps b o hb,rfl⟩) hL q1
  (fun b o hb=>M.keeps b o (by
   by_cases hm:b∈FL (env::fr)
   ·rw[eG _ _ _ hm] at hb;cases hb
   ·exact(dv _ _ _ hm).symm.trans hb)) H9 q3 q4 q5 fun dJ Bi=> ?_
 obtain⟨k1,⟨_,_,k2⟩,k3,k4⟩:=Bi;have sl:h'.UpToSlots dJ:=k4;have XG:ar.heap.UpToSlots dJ:=(Heap.UpToSlots.of_keeps M.keeps).trans sl;exact k e {ar with heap:=dJ} ⟨⟨without ar.heap (FL (env::fr)),a0,⟨k1,H9,k2,by rw[<-q2];exact k3⟩,hA _ _ _ q6 sl,LP hL gC bf.lnew,bf.st.tab.without fun L hl=>fD.mem hl⟩,
  fun b o hb hn=>XG b o (gC b o hb fun hm=>m5 bs.tab hm hb hn) hn⟩ bf.ext.gens bf.ext.os
noncomputable def D9(AG:ZN->Heap->Prop)(w:Z2)(H:Heap)(l n:Nat)(sc:ZZ)(ρ:aw)(ss:List Stmt)(cls:String):Prop:=
 ∀(env:Env) (A:aaj) (fr:List Env) (G₀:GM) (s₀:ZL) (G:GM) (s:ZL) (Q:Flow->ZL->Prop) (E:ZN->ZL->Prop),env.scope=sc->env.frame=some env.locals->A.frames=some (env::fr)->eJ s.heap (env::fr)->bW A l n->av [] H sc env ρ [] G₀ s₀ G s->
  (∀e G₁ s₁ s',ak aq G s G₁ s₁->Ed AG s₁.heap (env::fr) cls e s'.heap->s'.gens=s₁.gens->s'.os=s₁.os->E (.ref e) s')->Z6 (Z8 PW w) A (ac3 ss env) Q E s
theorem W8(hA:yW AG){a:Addr}{fd:aaL}{body:List Stmt}{kw:List (Str×ZN)}{as:List V}{jG:aw}(B:ai w tk H)(F:jI w H a fd body [])(fu:i6 w H fd.scope fd kw as jG)
 (hb:D9 AG w H l 40 fd.scope jG body cls):qM AG w H (l+1) n (.ref a) kw as cls:=fun A s G cs fr dR t8 r bs hi rl R k=>by
 refine wx B F fu r bs hi rl fun env G₁ s₁ hq hL x I r'=> ?_
 have fD:eJ s₁.heap (env::fr):=(t8.to bs.tab x.keep).own hL (by rw[hq,F.kind];decide) I.st.loc;refine hb env (A.deeper env) fr G s G₁ s₁ _ _ hq hL (aer dR) fD r' I fun e aB ar s' ax Fl hg ho=> ?_
 have x':=x.trans ax;refine gz fun zq zk=> ?_
 obtain⟨⟨base,a0,⟨f1,f2,f3,f4⟩,f5,f6,f7⟩,f8⟩:=Fl;refine zk ?_;refine wpAny_leaves_onW (base:=base) (outer:=fr) (cls:= .type cls) (a0:=a0) (aer dR) hL ⟨f1,f2,f3,f4⟩ fun dJ g1 g2=> ?_
 have gC: ∀b o,s.heap.get? b=some o->b∉aq->ar.heap.get? b=some o:=fun b o e hb=>x'.keep b o e hb
 refine k e {s' with heap:=dJ} ⟨⟨base,a0,g1,hA _ _ _ f5 g2,fun b o e hb hf=>f6 b o (gC b o e hb) hb fun hm=> ?_,f7⟩,fun b o hb hn=> ?_⟩ (hg.trans x'.gens) (ho.trans x'.os)
 ·exact(GR hL hm).elim (fun q=>sO e (q▸I.lnew)) hf
 ·exact(f8.trans g2) b o (gC b o hb fun hm=>m5 bs.tab hm hb hn) hn
end
noncomputable def zm(msg:Str)(a:ZN)(h:Heap):Prop:= ∃t u,a= .ref t/\h.TupAt t [.str msg u]
theorem Eo(msg:Str):yW (zm msg):=fun a h h' ⟨t,u,e,x⟩ k=>⟨t,u,e,x.of_slots k⟩
noncomputable def jb:Str:= "Control characters not allowed in headers"
theorem W6(B:ai w tk H){sv:V}{x:Str}(hf:found gm x=some true)(hx:x.cps.size<2^62):qM (zm jb) w H (l+1) n (.ref 224) [("name", .bool true)] [sv, .str x] "ValueError" :=by
 have nd:=JJ
 conv at nd=>arg 1;whnf
 refine Ke (Eo _) B (Gi B) Ey ?_;show l4 _ w [] H l 40 (aJ (bg 1)) [(0,sv),(1, .str x),(2, .bool true)] [] (aT (bg 1)) _
 conv=>arg 7;whnf
 conv=>arg 10;whnf
 refine C0 (aF (c:=true) (aR 4 B (w6 B) (.ty _) rfl (ae (aa 1 nd rfl) ao) E6) (gY B (mC B) rfl (i:=5) (fun G=> .ty _)) ES) ?_;refine VD (wG 3 (kx (iC (aa 2 nd rfl) oh) (gY B (Hu B) rfl (i:=6) (fun G=> .at 189))) rfl rfl) ?_;refine C0 (DR B (fun X=>J7 X) hf hx (aa 3 nd rfl) (aa 1 nd rfl)) ?_
 exact VF B F.excCall_ValueError F.excRaise_ValueError (Hp B) (i:=8) rfl (v:= .str jb) kC (fun G t cv h r ht=>by obtain⟨u,rfl⟩:=dC r;exact⟨t,u,rfl,ht⟩)
theorem W9(B:ai w tk H){v:V}{nm:Str}(h1:nm.length<=5592405)(hf:found gm (aau nm)=some true)(hx:(aau nm).cps.size<2^62):
 qM (zm jb) w H (l+2) n (.ref 270) [] [.hdr v, .str nm] "ValueError" :=by
 have nd:=JK
 conv at nd=>arg 1;whnf
 refine W8 (Eo _) B (Gj B) (Ez B) ?_;show D9 _ w H (l+1) 40 (aJ (bg 8)) [(0, .hdr v),(1, .str nm),(2, .none)] (aT (bg 8)) _
 conv=>arg 6;whnf
 conv=>arg 8;whnf
 refine(fun env A fr G₀ s₀ G s Q E hq hL dR t8 r I k=>aar ?_);rw[ab3 _ _ _ _ _ (by cases env;cases hq;rfl)];refine ZO (aaM (ZO (tc B pN qf (aa (l:=l+1) (n:=40) 0 nd rfl) (ae (gq (nZ h1) (aa 1 nd rfl)) ao) rfl r I.st rfl fun cx cs s' G' x' rx rl=> ?_)));have RO:eJ s'.heap (env::fr):=fun e' he=>by
  obtain⟨q1,L,o,q2,q3,q4⟩:=t8 e' he;exact⟨q1,L,o,q2,x'.keep _ _ q3 fun hm=>m5 I.st.tab hm q3 q4,q4⟩
 exact ac6 ((W6 B hf hx) A s' G' (cx::cs) (env::fr) dR RO r (I.st.ext x').bs x'.inn (.cons rx rl) _ fun e ar fl hg ho=>k e G' s' ar x' fl hg ho)
variable{fr:List Env}
variable{ms:l7}
noncomputable abbrev l7:=List (Addr×(Str->Option ZN))
noncomputable def KF(ms:l7)(G:GM)(h:Heap):Prop:= ∀p∈ms,h.Ns p.1 p.2/\G p.1=none
structure nh(fr:List Env)(ms:l7)(env:Env)(A:aaj)(s₀:ZL):Prop where
 frames:A.frames=some (env::fr)
 frame:env.frame=some env.locals
 frs: ∀e∈fr,e.scope.kind≠ .module/\ ∃L,e.frame=some L/\L∈ms.map (·.1)
 new: ∀p∈ms,s₀.heap.get? p.1=none/\p.1≠env.locals
noncomputable def eI(w:Z2)(X:List Addr)(H:Heap)(l n:Nat)(sc:ZZ)(ρ:aw)(ow:Ow)(ss:List Stmt)(o:aW):Prop:=
 ∀(fr:List Env) (ms:l7) (env:Env) (A:aaj) (G₀:GM) (s₀:ZL) (G:GM) (s:ZL) (Q:Flow->ZL->Prop) (E:ZN->ZL->Prop),nh fr ms env A s₀->KF ms G s.heap->env.scope=sc->bW A l n->av X H sc env ρ ow G₀ s₀ G s->
  (∀f G' s',lx X H sc env G₀ s₀ o f G' s'->KF ms G' s'.heap->Q f s')->Z6 (Z8 PW w) A (ac3 ss env) Q E s
noncomputable def oD(w:Z2)(X:List Addr)(H:Heap)(l n:Nat)(sc:ZZ)(ρ:aw)(ow:Ow)(st:Stmt)(o:aW):Prop:=
 ∀(fr:List Env) (ms:l7) (env:Env) (A:aaj) (G₀:GM) (s₀:ZL) (G:GM) (s:ZL) (Q:Flow->ZL->Prop) (E:ZN->ZL->Prop),nh fr ms env A s₀->KF ms G s.heap->env.scope=sc->bW A l n->av X H sc env ρ ow G₀ s₀ G s->
  (∀f G' s',lx X H sc env G₀ s₀ o f G' s'->KF ms G' s'.heap->Q f s')->Z6 (Z8 PW w) A (exec st env) Q E s
theorem av.ms_out(I:av X H sc env ρ ow G₀ s₀ G s){a:Addr}{m:Str->Option ZN}(h:s.heap.Ns a m)(bC:a≠env.locals):a∉bM sc env ow X/\a∉X++aq:=by
 refine⟨fun hm=> ?_,fun hm=> ?_⟩
 ·rcases qi hm with h1|⟨x,h1,h2⟩|⟨x,h1⟩|h1
  ·exact bC h1
  ·obtain⟨v,hv⟩:=I.cis x a (I.ckeys x a h1)
   exact mU h hv
  ·obtain⟨_,_,_,vs,k,h4,_⟩:=I.own _ h1
   exact iS h4 h
  ·obtain⟨_,_,vs,k,h4⟩:=I.xs a h1
   exact iS h4 h
 ·rcases aaw.mp hm with h1|h1
  ·obtain⟨_,_,vs,k,h4⟩:=I.xs a h1
   exact iS h4 h
  ·exact jz I.st.tab h h1
theorem KF.kept{A:aaj}(K:KF ms G s.heap)(C:nh fr ms env A s₀)(I:av X H sc env ρ ow G₀ s₀ G s)(k:dO sc env ow X G s G' s'):KF ms G' s'.heap:=fun p hp=>by
 obtain⟨h1,h2⟩:=K p hp;obtain⟨h3,h4⟩:=I.ms_out h1 (C.new p hp).2;obtain⟨o,es,ep,ho,r⟩:=h1;obtain⟨h5,h6⟩:=k.2 _ _ h3 h4 ho;exact⟨⟨o,es,ep,h5,r⟩,h6 h2⟩
set_option tactic.hygienic true in
theorem Aq{st:Stmt}(h:bV w X H l n sc ρ ow st o){A:aaj}{Q:Flow->ZL->Prop}{E:ZN->ZL->Prop}(q:env.scope=sc)(r:bW A l n)(I:av X H sc env ρ ow G₀ s₀ G s)
 (k: ∀f G' s',lx X H sc env G₀ s₀ o f G' s'->dO sc env ow X G s G' s'->Q f s'):Z6 (Z8 PW w) A (exec st env) Q E s:=
 h.go env A G _ G s Q E q r I.anchor fun f G' s' ok=>by
  cases o with
  |next ρ' ow'=>exact k f G' s' ⟨ok.1,I.back ok.2⟩ (I.kept ok.2)
  |ret v ow'=>
   obtain⟨cv,h1,h2,h3⟩:=ok;exact k f G' s' ⟨cv,h1,h2,I.back h3⟩ (I.kept h3)
theorem oR{ss:List Stmt}(h:aD w X H l n sc ρ ow ss o):eI w X H l n sc ρ ow ss o:=(fun fr ms env A G₀ s₀ G s Q E C K q r I k=>zE h q r I fun f G' s' ok kk=>k f G' s' ok (K.kept C I kk))
theorem Pk{st:Stmt}(h:bV w X H l n sc ρ ow st o):oD w X H l n sc ρ ow st o:=(fun fr ms env A G₀ s₀ G s Q E C K q r I k=>Aq h q r I fun f G' s' ok kk=>k f G' s' ok (K.kept C I kk))
set_option tactic.hygienic true in
theorem zx{st:Stmt}{ss:List Stmt}(h:oD w X H l n sc ρ ow st (.next ρ' ow'))(hr:eI w X H l n sc ρ' ow' ss o):eI w X H l n sc ρ ow (st::ss) o:=
 (fun fr ms env A G₀ s₀ G s Q E C K q r I k=>aar (h fr ms env A G₀ s₀ G s _ E C K q r I fun f G' s' ok K'=>by
  obtain⟨rfl,I'⟩:=ok;exact hr fr ms env A G₀ s₀ G' s' Q E C K' q r I' k))
set_option tactic.hygienic true in
theorem oS{st:Stmt}{ss:List Stmt}(h:bV w X H l n sc ρ ow st (.next ρ' ow'))(hr:eI w X H l n sc ρ' ow' ss o):eI w X H l n sc ρ ow (st::ss) o:=zx (Pk h) hr
set_option tactic.hygienic true in
theorem zw{st:Stmt}(h:oD w X H l n sc ρ ow st (.next ρ' ow')):eI w X H l n sc ρ ow [st] (.next ρ' ow'):=zx h (oR gk)
set_option tactic.hygienic true in
theorem EN{ss:List Stmt}(h:eI w X H l n sc ρ ow ss (.next ρ' ow')){i5:aw}{gM:Ow}(h1: ∀p∈i5,p∈ρ')(h2:aeR gM ow'):eI w X H l n sc ρ ow ss (.next i5 gM):=
 (fun fr ms env A G₀ s₀ G s Q E C K q r I k=>h fr ms env A G₀ s₀ G s Q E C K q r I fun f G' s' ok=>k f G' s' ⟨ok.1,ok.2.sub h1 h2⟩)
theorem MH{i:Nat}{x:Str}{kd:aam}{p lp pos:Pos}{rest:List Stmt}(hx:sc.names[i]?=some (x,kd))(hk:kd= .local\/kd= .cell)(dZ:(ρ.map (·.1)).contains i=false)
 (hs:autoParam (abY (.List [] lp) (some (.Name x p)) pos.line (da sc)=pure false) au)
 (h: ∀a,eI w X H l n sc ((i, .at a)::ρ) ((a,[])::ow) rest o):eI w X H l n sc ρ ow (.Assign [.Name x p] (.List [] lp) pos::rest) o:=fun fr ms env A G₀ s₀ G s Q E C K q r I k=>by
 refine aar (abJ (Q:=fun f s'=> ∃a G',f= .next/\av X H sc env ((i, .at a)::ρ) ((a,[])::ow) G₀ s₀ G' s'/\KF ms G' s'.heap) ?_ (fun f s' hq=> ?_) fun z z e=>e)
 ·refine wpAny_Assign_Name (wpAny_List (aeK ⟨aav _,?_⟩)) (kj hs q)
  have e:ak aq G s G {s with heap:=s.heap.push (aI [] 0),toks:=s.toks}:=ak.grown I.st.inn _ fun b y e=>Z9 _ e
  have aE:=I.ext' e;have hn:s.heap.get? s.heap.objs.size=none:=ct (aab _);have hg:G s.heap.objs.size=none:=cY I.st.inn hn;have hl:(s.heap.push (aI [] 0)).get? s.heap.objs.size=some (aI [] 0):=aai _ rfl;have bf:av X H sc env ρ ((s.heap.objs.size,[])::ow) G₀ s₀ G {s with heap:=s.heap.push (aI [] 0)}:=by
   refine⟨aE.st,aE.ext,aE.base₀,aE.lnew,aE.lG,aE.cnew,aE.cis,aE.cell,aE.ckeys,aE.xs,aE.apart,fun p hp=> ?_,abi.mpr ⟨fun p hp e'=> ?_,aE.dis⟩⟩
   ·rcases ZU.mp hp with rfl|hp
    ·refine⟨hg,fun o e'=> ?_, .inl (I.fresh hn),[],0,hl, .nil⟩
     have:=I.st.base _ o e' (ir aE.st.tab hl);rw[hn] at this;cases this
    ·exact aE.own p hp
   ·obtain⟨_,_,_,vs,k',h4,_⟩:=I.own p hp
    have o8:s.heap.objs.size=p.1:=e';rw[<-o8,hn] at h4;cases h4
  have md:KF ms G (s.heap.push (aI [] 0)):=fun p hp=>⟨let⟨o,es,ep,ho,r⟩:=(K p hp).1;⟨o,es,ep,Z9 _ ho,r⟩,(K p hp).2⟩
  exact bf.kept_store hx hk (.at _) dZ fun G' s' b0 kk=>⟨_,G',rfl,b0,md.kept C bf kk⟩
 ·obtain⟨a,G',rfl,I',K'⟩:=hq
  exact(h a) fr ms env A G₀ s₀ G' s' Q E C K' q r I' k
theorem av.anchorF(I:av X H sc env ρ ow G₀ s₀ G s){D:List Addr}(hD: ∀d∈D,s₀.heap.get? d=none/\d∉bM sc env ow X):av X H sc env ρ ow G (df s (bM sc env ow X++D)) G s:=by
 have out: ∀b o,(df s (bM sc env ow X++D)).heap.get? b=some o->b∉bM sc env ow X++D/\s.heap.get? b=some o:=fun b o e=>by
  by_cases hb:b∈bM sc env ow X++D
  ·rw[show(df s (bM sc env ow X++D)).heap.get? b=none from eG _ _ _ hb] at e;cases e
  ·exact⟨hb,(dv _ _ _ hb).symm.trans e⟩
 have inl: ∀{b},b∈bM sc env ow X->b∈bM sc env ow X++D:=fun h=>abX _ h
 refine⟨I.st,⟨fun y y e=>e,fun y y e=> .inl e,I.st.inn,fun b o e y=>(out b o e).2,rfl,rfl,fun y=>I.st.tab,fun y z=>z⟩,fun b o e ht=> ?_,eG _ _ _ (inl CY),I.lG,
  fun x c h1 h2=>⟨eG _ _ _ (inl (JB h1 h2)),(I.cnew x c h1 h2).2⟩,I.cis,I.cell,I.ckeys,I.xs,I.apart,fun p hp=> ?_,I.dis⟩
 ·have:b∉bM sc env ow X++D:=fun hm=>by
   rcases aaw.mp hm with hm|hm
   ·exact(I.mem hm).2.2.2.2 o e
   ·have:=I.base₀ b o e ht
    rw[(hD b hm).1] at this;cases this
  exact(dv _ _ _ this).trans (I.st.base b o e ht)
 ·obtain⟨h1,h2,h3,vs,k,h4,h5⟩:=I.own p hp
  exact⟨h1,h2, .inl (eG _ _ _ (inl (JC hp))),vs,k,h4,h5⟩
theorem av.none₀F(I:av X H sc env ρ ow G₀ s₀ G s){D:List Addr}(hD: ∀d∈D,s₀.heap.get? d=none/\d∉bM sc env ow X){a:Addr}(h:(df s (bM sc env ow X++D)).heap.get? a=none):s₀.heap.get? a=none\/a∈X++aq:=by
 by_cases hd:a∈D
 ·exact .inl (hD a hd).1
 ·by_cases hm:a∈bM sc env ow X
  ·exact(I.mem hm).1.imp id fun h=>abX _ h
  ·rw[show(df s (bM sc env ow X++D)).heap.get? a=s.heap.get? a from dv _ _ _ (fun h=>(aaw.mp h).elim hm hd)] at h
   by_cases hX:a∈X++aq
   ·exact .inr hX
   ·refine .inl (jT fun o e=> ?_)
    rw[I.ext.keep a o e hX] at h;cases h
theorem av.backF(I:av X H sc env ρ ow G₀ s₀ G s){D:List Addr}(hD: ∀d∈D,s₀.heap.get? d=none/\d∉bM sc env ow X)(I':av X H sc env ρ' ow' G (df s (bM sc env ow X++D)) G' s'):av X H sc env ρ' ow' G₀ s₀ G' s':=by
 refine⟨I'.st,⟨fun a o e=>I'.ext.sub a o (I.ext.sub a o e),fun a o e=> ?_,I'.ext.inn,fun b o e hb=> ?_,I'.ext.gens.trans I.ext.gens,I'.ext.os.trans I.ext.os,fun z=>I'.st.tab,fun z z=>I'.st.gt⟩,I.base₀,I.lnew,I'.lG,
  fun x c h1 h2=>⟨(I.cnew x c h1 h2).1,(I'.cnew x c h1 h2).2⟩,I'.cis,I.cell,I.ckeys,I'.xs,I.apart,fun p hp=> ?_,I'.dis⟩
 ·rcases I'.ext.new a o e with h|h|h
  ·exact I.ext.new a o h
  ·rcases I.none₀F hD h with h|h
   ·exact .inr (.inl h)
   ·exact .inr (.inr h)
  ·exact .inr (.inr h)
 ·refine I'.ext.keep b o ((dv _ _ _ fun hm=> ?_).trans (I.ext.keep b o e hb)) hb
  rcases aaw.mp hm with hm|hm
  ·rcases (I.mem hm).1 with h|h
   ·rw[h] at e;cases e
   ·exact hb (abX _ h)
  ·rw[(hD b hm).1] at e;cases e
 ·obtain⟨h1,h2,h3,vs,k,h4,h5⟩:=I'.own p hp
  refine⟨h1,h2,?_,vs,k,h4,h5⟩;rcases h3 with h|h
  ·rcases I.none₀F hD h with h|h
   ·exact .inl h
   ·rcases aaw.mp h with h|h
    ·exact .inr h
    ·exact absurd h (ir I'.st.tab h4)
  ·exact .inr h
theorem VJ{A:aaj}(C:nh fr ms env A s₀)(K:KF ms G s.heap)(I:av X H sc env ρ ow G₀ s₀ G s): ∀d∈ms.map (·.1),s₀.heap.get? d=none/\d∉bM sc env ow X:=fun d hd=>by
 obtain⟨p,hp,rfl⟩:=Z1.mp hd;exact⟨(C.new p hp).1,(I.ms_out (K p hp).1 (C.new p hp).2).1⟩
set_option tactic.hygienic true in
theorem MG{ss:List Stmt}(h:eI w X H l n sc ρ ow ss (.next ρ' ow')){A:aaj}{Q:Flow->ZL->Prop}{E:ZN->ZL->Prop}(C:nh fr ms env A s₀)(K:KF ms G s.heap)(q:env.scope=sc)(r:bW A l n)(I:av X H sc env ρ ow G₀ s₀ G s)
 (k: ∀G' s',av X H sc env ρ' ow' G₀ s₀ G' s'->KF ms G' s'.heap->(∀a o,G a=some o->G' a=some o)->(∀b o,b∉bM sc env ow X->b∉ms.map (·.1)->b∉X++aq->s.heap.get? b=some o->s'.heap.get? b=some o/\(G b=none->G' b=none))->Q .next s'):Z6 (Z8 PW w) A (ac3 ss env) Q E s:=by
 have hD:=VJ C K I;refine h fr ms env A G (df s (bM sc env ow X++ms.map (·.1))) G s Q E ⟨C.frames,C.frame,C.frs,fun p hp=>⟨eG _ _ _ (abP _ (Z1.mpr ⟨p,hp,rfl⟩)),(C.new p hp).2⟩⟩ K q r (I.anchorF hD) fun f G' s' ok K'=> ?_
 obtain⟨rfl,I'⟩:=ok;refine k G' s' (I.backF hD I') K' I'.ext.sub fun b o h1 h2 h3 e=> ?_
 have e':(df s (bM sc env ow X++ms.map (·.1))).heap.get? b=some o:=(dv _ _ _ fun hm=>(aaw.mp hm).elim h1 h2).trans e;exact⟨I'.ext.keep b o e' h3,fun hg=>I'.ext.none hg e' h3⟩
set_option tactic.hygienic true in
theorem Pc{tg e:Expr}{body:List Stmt}{pos:Pos}{items:List V}{R R':Nat->aw}{O:Nat->Ow}(hit:cI w H l n sc ρ tg e items)(h0: ∀p∈R 0,p∈ρ)(hO:O 0=ow)
 (jr: ∀k v,items[k]?=some v->jM w X H sc tg (R k) v (R' k))
 (hb: ∀k v,items[k]?=some v->eI w X H l n sc (R' k) (O k) body (.next (R (k+1)) (O (k+1))))
 (hs:autoParam (∀env x,aaN e env x=pure x) au):oD w X H l n sc ρ ow (.For tg e body [] pos) (.next (R items.length) (O items.length)):=fun fr ms env A G₀ s₀ G s Q E C K q r I k=>by
 refine wpAny_For (hit env A s G r I.st _ E fun It wr J s₁ G₁ af W hJ hw=> ?_) (hs env);have aE:av X H sc env (R 0) (O 0) G₀ s₀ G₁ s₁:=by rw[hO];exact(I.ext' af).sub h0 (aae _)
 have jK:KF ms G₁ s₁.heap:=K.kept C I (I.kept_ext af);have pX: ∀b∈wr,s₀.heap.get? b=none:=fun b hb=>I.fresh (hw b hb)
 refine codeAny_forLoop_any (fun m s'=> ∃i G',m+i=items.length+1/\i<=items.length/\av X H sc env (R i) (O i) G₀ s₀ G' s'/\J i G' s'/\KF ms G' s'.heap) ?_ (items.length+1) ⟨0,G₁,rfl,aav _,aE,hJ,jK⟩
 rintro m ar ⟨i,aB,hm,mI,bf,iL,md⟩;have jX: ∀b∈wr,fN ar b/\aB b=none/\s₀.heap.get? b=none:=fun b hb=>⟨(W.obj i aB ar iL b hb).1,(W.obj i aB ar iL b hb).2,pX b hb⟩
 have mM: ∀p∈ms,p.1∉wr:=fun p hp hm=>by
  obtain⟨⟨o',vs,T,e1,e2,_⟩,_⟩:=jX _ hm;obtain⟨⟨ZF,es,ep,e3,e4,_⟩,_⟩:=md p hp;rw[e3] at e1;cases e1;rw[e4] at e2;cases e2
 by_cases pG:i=items.length
 ·subst pG
  refine abJ (W.done aB ar (fun bj=> ∃bI,av X H sc env (R items.length) (O items.length) G₀ s₀ bI bj/\KF ms bI bj.heap) _ iL bf.st.inn fun h' tk' hk=>⟨aB,bf.wr hk jX (fun z z e=>e) (fun z z e=> .inl e) fun a q' e=>hk a q' (fun hm=>by rw[(jX a hm).2.1] at e;cases e) (bf.st.inn a q' e),fun p hp=>⟨let⟨o,es,ep,ho,r⟩:=(md p hp).1;⟨o,es,ep,hk _ _ (mM p hp) ho,r⟩,(md p hp).2⟩⟩) (fun rr bj fH=> ?_) fun z z e=>e
  obtain⟨rfl,bI,b0,y8⟩:=fH;exact ace (k .next bI bj ⟨rfl,b0⟩ y8)
 ·have hi:i<items.length:=by exact(aa8 pG).elim (fun x2=>x2) (fun x2=> "[AB<BA:0<AB" mI x2)
  obtain⟨v,hv⟩: ∃v,items[i]?=some v:=⟨_,aaT hi⟩;refine abJ (W.item i aB ar v (fun cv bj=>Z6 (Z8 PW w) A (assign tg env cv) (fun z dN=>Z6 (Z8 PW w) A (ac3 body env) (fun f fJ=>match f with
   | .next| .cont=> ∃m',m'<m/\ ∃i G',m'+i=items.length+1/\i<=items.length/\av X H sc env (R i) (O i) G₀ s₀ G' fJ/\J i G' fJ/\KF ms G' fJ.heap
   | .brk=>Q .next fJ
   | .ret v=>Q (.ret v) fJ) _ dN) _ bj) _ iL bf.st.inn hv fun cv h' tk' bI eB dB ji hk hr tR=> ?_) (fun rr bj fH=>by
   cases rr with
   |none=>exact fH.elim
   |some cv=>exact fH) fun z z e=>e
  have b0:=bf.wr hk jX eB dB ji;have y8:KF ms bI h':=fun p hp=>by
   obtain⟨⟨o,es,ep,ho,r⟩,hg⟩:=md p hp;refine⟨⟨o,es,ep,hk _ _ (mM p hp) ho,r⟩,?_⟩;cases e:bI p.1 with
   |none=>rfl
   |some x=>
    rcases dB _ _ e with h|h
    ·rw[hg] at h;cases h
    ·rw[ho] at h;cases h
  refine(jr i v hv) env A G₀ s₀ bI _ (O i) cv _ _ r.hd b0 hr fun ko dN eK rT=> ?_
  have lM:=uz W tR b0 rT eK.st.inn;have Lm:KF ms ko dN.heap:=KF.kept (s:={ar with heap:=h',toks:=tk'}) y8 C b0 rT;refine MG (hb i v hv) C Lm q r eK fun l8 fJ fm y9 S8 Im=> ?_
  refine⟨m -1,by exact "=+A1B<AB" (ZM (";1=+AB+C1<BC[1A" hm hi)),i+1,l8,by exact Z5 ("=+AB+C1=+D1A[+D+B1+C1" hm (ZM (";1=+AB+C1<BC[1A" hm hi))) (";1=+AB+C1;1=+D1A[+C1+D+B1" hm (ZM (";1=+AB+C1<BC[1A" hm hi))),hi,fm,?_,y9⟩;refine W.stab (i+1) ko dN l8 fJ lM S8 fm.st.inn fun b hb=> ?_
  obtain⟨h1,h2⟩:=W.obj (i+1) ko dN lM b hb;have hX:b∉X++aq:=fun hm=>by
   rcases aaw.mp hm with hm|hm
   ·obtain⟨_,_,vs,k,e⟩:=eK.xs b hm
    exact h1.nl e
   ·exact h1.tab eK.st.tab hm
  have IA:b∉ms.map (·.1):=fun hm=>by
   obtain⟨p,hp,rfl⟩:=Z1.mp hm;exact mM p hp hb
  obtain⟨o,_,_,e1,_⟩:=id h1;exact⟨fun o e=>(Im b o (eK.apartI h1) IA hX e).1,(Im b o (eK.apartI h1) IA hX e1).2 h2⟩
section
variable {AG:ZN->Heap->Prop}
theorem av.extL(I:av X H sc env ρ ow G₀ s₀ G s){D:List Addr}(hD: ∀d∈D,s₀.heap.get? d=none/\ ∃m,s.heap.Ns d m)(x:ak aq G (df s (env.locals::D)) G' s')(hn: ∀m,s.heap.Ns env.locals m->s'.heap.Ns env.locals m)(hg:G' env.locals=none):av X H sc env ρ ow G₀ s₀ G' s':=by
 obtain⟨m,kL,hv⟩:=I.st.loc;have ht:=I.st.tab;have gF: ∀b∈env.locals::D,∃m,s.heap.Ns b m:=fun b hb=>(ZU.mp hb).elim (fun e=>⟨m,e▸kL⟩) fun h=>(hD b h).2
 have dk: ∀b∈env.locals::D,s₀.heap.get? b=none:=fun b hb=>(ZU.mp hb).elim (fun e=>e▸I.lnew) fun h=>(hD b h).1
 have Hy: ∀b o,s.heap.get? b=some o->b∉env.locals::D->(df s (env.locals::D)).heap.get? b=some o:=fun b o e h=>(dv _ _ _ h).trans e
 have kp: ∀b o,s.heap.get? b=some o->b∉env.locals::D->b∉aq->s'.heap.get? b=some o/\(G b=none->G' b=none):=fun b o e h h'=>⟨x.keep b o (Hy b o e h) h',fun hg=>x.none hg (Hy b o e h) h'⟩
 have fF: ∀c u,s.heap.IsCell c u->c∉env.locals::D:=fun c u y hm=>let⟨_,h⟩:=gF c hm;mU h y
 have ud: ∀c us k,s.heap.get? c=some (aI us k)->c∉env.locals::D:=fun c us k y hm=>let⟨_,h⟩:=gF c hm;iS y h
 have tg:bY (df s (env.locals::D)).heap:=ht.without fun L hL=>by
  obtain⟨m,o,es,ep,ho,hd,_⟩:=gF L hL;exact⟨o,ho,fun vs q=>by cases hd.symm.trans q⟩
 refine I.re (D:=fun b=>b∈env.locals::D) (fun b hb=> .inl (dk b hb)) kp x.sub (fun a o e=>(x.new a o e).imp id fun h=> ?_) x.inn x.gens x.os (x.tab tg) (x.gt tg I.st.gt) ?_ hg (fun c v y h=>(fF c v y h).elim) (fun a vs k e h z=>(ud a vs k e h).elim) (fun p hp=> .inl ⟨hp,ud p.1⟩) I.dis
 ·by_cases hm:a∈env.locals::D
  ·exact .inr (.inl (dk a hm))
  ·exact h.imp (fun h=>(dv _ _ _ hm).symm.trans h) fun h=> .inr (abP _ h)
 ·obtain⟨m,a,b⟩:=I.st.loc
  exact⟨m,hn m a,fun p hp=>(b p hp).mono x.sub fun c u y=>v7 (fun o e=>(kp c o e (fF c u y) (nD ht y)).1) y⟩
theorem Hi{A:aaj}(C:nh fr ms env A s₀)(K:KF ms G s.heap)(I:av X H sc env ρ ow G₀ s₀ G s):eJ s.heap (env::fr):=eJ.own (fun e he=>by
 refine gz fun zq zk=> ?_
 obtain⟨h1,L,h2,h3⟩:=C.frs e he;obtain⟨p,hp,rfl⟩:=Z1.mp h3;obtain⟨o,es,ep,ho,hd,_⟩:=(K p hp).1;refine zk ?_;exact⟨h1,_,o,h2,ho,fun vs q=>by cases hd.symm.trans q⟩) C.frame (by rw[I.st.envIs.kind];decide) I.st.loc
theorem PN{A:aaj}(C:nh fr ms env A s₀): ∀L∈FL (env::fr),L∈env.locals::ms.map (·.1):=fun L hL=>by
 obtain⟨e,he,h⟩:=ad4.mp hL;rcases ZU.mp he with rfl|he
 ·have h':e.frame=some L:=h
  rw[C.frame] at h';cases h';exact ZR
 ·obtain⟨_,L',h2,h3⟩:=C.frs e he
  have h':e.frame=some L:=h;rw[h2] at h';cases h';exact ZP _ h3
theorem av.flown{A:aaj}(C:nh fr ms env A s₀)(K:KF ms G s.heap)(I:av X H sc env ρ ow G₀ s₀ G s){base h':Heap}(hb: ∀b o,s.heap.get? b=some o->b∉aq->b∉FL (env::fr)->base.get? b=some o)(ht:bY base)(hs:base.StaysIn h')(iQ:s.heap.UpToSlots h')
 {s'':ZL} (e1:s''.heap=h') (e2:s''.gens=s.gens) (e3:s''.os=s.os):av X H sc env ρ ow G₀ s₀ G s''/\KF ms G h':=by
 have hD: ∀d∈ms.map (·.1),s₀.heap.get? d=none/\ ∃m,s.heap.Ns d m:=fun d hd=>by
  obtain⟨p,hp,rfl⟩:=Z1.mp hd;exact⟨(C.new p hp).1,_,(K p hp).1⟩
 have out: ∀b o,(df s (env.locals::ms.map (·.1))).heap.get? b=some o->b∉env.locals::ms.map (·.1)/\s.heap.get? b=some o:=fun b o e=>by
  by_cases hm:b∈env.locals::ms.map (·.1)
  ·rw[show(df s (env.locals::ms.map (·.1))).heap.get? b=none from eG _ _ _ hm] at e;cases e
  ·exact⟨hm,(dv _ _ _ hm).symm.trans e⟩
 have kp: ∀b o,s.heap.get? b=some o->b∉env.locals::ms.map (·.1)->b∉aq->h'.get? b=some o:=fun b o e hm jo=>hs b o (hb b o e jo fun hf=>hm (PN C b hf))
 have x:ak aq G (df s (env.locals::ms.map (·.1))) G s'':=by
  refine⟨fun y y e=>e,fun y y e=> .inl e,fun a o e=> ?_,fun b o e cL=> ?_,e2,e3,fun y=> ?_,fun y z=>z⟩
  ·rw[e1]
   refine kp a o (I.st.inn a o e) (fun hm=> ?_) fun hm=>by rw[I.st.gt a hm] at e;cases e
   rcases ZU.mp hm with h|h
   ·rw[h,I.lG] at e;cases e
   ·obtain⟨p,hp,h⟩:=Z1.mp h
    have:=(K p hp).2;rw[h,e] at this;cases this
  ·rw[e1];exact kp b o (out b o e).2 (out b o e).1 cL
  ·rw[e1];exact ht.keep hs
 exact⟨I.extL hD x (fun m h=>by rw[e1];exact iQ.ns h) I.lG,fun p hp=>⟨iQ.ns (K p hp).1,(K p hp).2⟩⟩
end
theorem av.relocal(I:av X H sc env ρ ow G₀ s₀ G s){i:Nat}{x:Str}(hx:sc.names[i]?=some (x, .local))(dZ: ∀p∈ρ',p∈ρ/\p.1≠i){h':Heap}{tk':Nat}(eS:abp env.locals s.heap h')
 (hm: ∀m,s.heap.Ns env.locals m-> ∃m',h'.Ns env.locals m'/\ ∀y,y≠x->m' y=m y):av X H sc env ρ' ow G₀ s₀ G {s with heap:=h',toks:=tk'}:=by
 obtain⟨m,hn,hv⟩:=I.st.loc;obtain⟨m',mN,Rf⟩:=hm m hn;refine I.but eS I.lG (.inl I.lnew) (jz I.st.tab hn) (uU hn) ⟨_,mN,fun p hp=> ?_⟩ (fun z y=>(mU hn y).elim) (fun z z e=>(iS e hn).elim) (fun p hp=> .inl ⟨hp,fun z z e q=>iS e (q▸hn)⟩) I.dis;obtain⟨h1,h2⟩:=dZ p hp;obtain⟨y,ky,hy,hh⟩:=hv p h1;refine⟨y,ky,hy,?_⟩;rcases hh with⟨h3,cu,h4,h5⟩|⟨h3,c,cu,h4,h5,h6⟩
 ·exact .loc h3 cu ((Rf y fun e=>h2 (AS I.st.envIs.nd (e▸hy) hx)).trans h4) h5
 ·exact .cel h3 c cu h4 (h5.sameBut eS fun q=>mU hn (q▸h5)) h6
theorem av.apartT(I:av X H sc env ρ ow G₀ s₀ G s){t:Addr}{vs:List ZN}(h:s.heap.TupAt t vs):t∉bM sc env ow X/\t∉X++aq:=by
 obtain⟨o,k,ho,hc,hd⟩:=h;have hl: ∀us q,s.heap.get? t=some (aI us q)->False:=fun us q e=>by rw[e] at ho;cases ho;simp[aI] at hc
 refine⟨fun hm=> ?_,fun hm=> ?_⟩
 ·rcases qi hm with rfl|⟨x,h1,_⟩|⟨x,h1⟩|h1
  ·obtain⟨m,⟨o',es,ep,e1,e2,_⟩,_⟩:=I.st.loc
   rw[e1] at ho;cases ho;rw[e2] at hd;cases hd
  ·obtain⟨v,o',e1,e2⟩:=I.cis x t (I.ckeys x t h1)
   rw[e1] at ho;cases ho;rw[e2] at hd;cases hd
  ·obtain⟨_,_,_,us,q,h4,_⟩:=I.own _ h1;exact hl _ _ h4
  ·obtain⟨_,_,us,q,h4⟩:=I.xs t h1;exact hl _ _ h4
 ·rcases aaw.mp hm with h1|h1
  ·obtain⟨_,_,us,q,h4⟩:=I.xs t h1;exact hl _ _ h4
  ·exact m5 I.st.tab h1 ho fun fs q=>by rw[hd] at q;cases q
theorem av.apartX(I:av X H sc env ρ ow G₀ s₀ G s){b:Addr}(h:fN s b):b∉bM sc env ow X/\b∉X++aq:=⟨I.apartI h,fun hm=>by
 rcases aaw.mp hm with h1|h1
 ·obtain⟨_,_,vs,k,e⟩:=I.xs b h1
  exact h.nl e
 ·exact h.tab I.st.tab h1⟩
set_option tactic.hygienic true in
theorem Gf{body:List Stmt}{h₀:ExceptHandler}{hs:List ExceptHandler}{pos:Pos}(h:aD w X H l n sc ρ ow body (.next ρ' ow')):bV w X H l n sc ρ ow (.Try body (h₀::hs) [] [] pos) (.next ρ' ow'):= .mk fun env A G₀ s₀ G s Q E q r I k=>
 wpAny_Try_except (h.go env A G₀ s₀ G s _ _ q r I fun f G' s' ok=>by
  obtain⟨rfl,I'⟩:=ok;exact ace (k .next G' s' ⟨rfl,I'⟩))
theorem XQ:isSubtype (.type "ValueError") (.type "ValueError")=pure true:=by rw[isSubtype_type];kernel_rfl
set_option tactic.hygienic true in
theorem Pp(B:ai w tk H){D:Addr}{ys:List V}{v:V}{nm pre:Str}{it iw ie iv js:Nat}{told nc err:Str}{k:Nat}{le:Expr}{p1 p2 p3 Es nu Et wk o6 Fy OF OG np jn nF sp ep Xz bp pos:Pos}
 (ht:sc.names[it]?=some (told, .local)) (Cj:(it, .at D)∈ρ) (hw:ah w H (l+2) (n+1) sc ρ (.Name nc p2) (.hdr v)) (hle:ah w H (l+2) (n+1) sc ρ le (.str nm)) (nd:aL sc)
 (he:sc.names[ie]?=some (err, .local)) (nT: ∀p∈ρ,p.1≠ie) (hv:sc.names[iv]?=some (("ValueError" :Str), .globalImplicit)) (hs:sc.names[js]?=some (("str" :Str), .globalImplicit))
 (h1:nm.length<=5592405) (hf:found gm (aau nm)=some true) (hx:(aau nm).cps.size<2^62) (hsz:ys.length<=Z7) (Cf:pre.length<=1000)
 (dm:autoParam (dU [le]=true) au)
 (RR:autoParam (∀env,((abW wk (aa4 [.Call (.Attribute (.Name nc p2) "get" nu) [le] [] o6] env)).all (fun x=> !x.1)&&(acD wk (abL [] env)).all (fun x=>x.1.isSome)
  &&decide (([.Call (.Attribute (.Name nc p2) "get" nu) [le] [] o6]:List Expr).length+([]:List Keyword).length+(if([]:List Keyword).isEmpty then 0 else 1)<30))=true) au)
 (pL:autoParam ((Es.endLine==wk.line)=true) au) (Sh:autoParam ((Et.endLine==Fy.line)=true) au)
 (nO:autoParam (∀env,eval (.Call (.Attribute (.Name nc p2) "get" nu) [le] [] o6) env=(do
  let ov<-eval (.Name nc p2) env
  ac9 nu.atName
  let(f,first)<-acA [ov] (getMethod ov "get" (do return (<-adu (.Name nc p2) env).getD true))
  callWith o6 f first (abW o6 (aa4 [le] env)) (acD o6 (abL [] env)))) au):
 oD w X H (l+2) (n+1) sc ρ ((D,ys)::ow) (.Try [.Expr (.Call (.Attribute (.Name told p1) "append" Es) [.Call (.Attribute (.Name nc p2) "get" nu) [le] [] o6] [] wk) OF]
  [.ExceptHandler (some (.Name "ValueError" np)) (some err) [.Expr (.Call (.Attribute (.Name told p3) "append" Et) [.BinOp (.Constant (.str pre) k nF) .Add (.Call (.Name "str" sp) [.Name err ep] [] Xz) bp] [] Fy) OG] jn] [] [] pos) (.next ρ ((D,ys++[.str (pre++jb)])::ow)):=fun fr ms env A G₀ s₀ G s Q E C K q r I kk=>by
 refine wpAny_Try_except (aar (adm (wpAny_Call_append rfl (RR env) pL rfl (n6 I.st ht Cj (nd.at ht).1 (nd.at ht).2 fun cv rt=> ?_)) (by unfold adt;rw[I.st.envIs.kind];rfl) rfl));refine gz fun zq zk=> ?_
 obtain rfl:=fe rt;obtain⟨_,_,_,vs,q',h4,_⟩:=I.own _ ZR;refine zk ?_;refine⟨D,vs.toArray,rfl,⟨_,q',h4,rfl,rfl,rfl⟩,?_⟩;refine tc B Iz xU hw (ae hle ao (hs:=by simp only[dU,qy,acn] at dm;first|exact dm|exact dm.1)) dm r I.st (nO env) fun cx cs s₁ G₁ af rx rl=> ?_
 have aE:=I.ext' af;have jK:KF ms G₁ s₁.heap:=K.kept C I (I.kept_ext af);refine ac6 ((W9 B h1 hf hx) A s₁ G₁ (cx::cs) (env::fr) C.frames (Hi C jK aE) r aE.st.bs af.inn (.cons rx rl) _ fun e ar fl hg ho=> ?_);refine gz fun zq zk=> ?_
 obtain⟨⟨base,a0,AF,⟨t,u,rfl,tup⟩,tT,jo⟩,iQ⟩:=fl;refine zk ?_;show Z6 _ A (noteFrame (.ref e) env) _ E ar
 refine wpAny_looks_onW C.frames C.frame AF fun TF BG yB=> ?_
 refine wpAny_landsW (L:=env.locals) BG fun rQ pn yC=> ?_
 have vq:s₁.heap.UpToSlots rQ:=iQ.trans (yB.trans yC);obtain⟨fm,y9⟩:=aE.flown C jK tT jo pn.1 vq (s'':={ar with heap:=rQ}) rfl hg ho;refine wpAny_handleBy_builtin_as (X:= "ValueError") (T:= "ValueError") (b:=true) F.isExc_ValueError F.notTuple_ValueError XQ (eZ B (Hp B) hv fm.st ⟨rfl,?_,?_⟩)
 ·obtain⟨ob,h6,h7⟩:=pn.there;exact⟨ob,h6,h7⟩
 show Z6 _ _ (setFlight (.ref e) none) _ _ _
 refine lands_againW pn fun kP wO yD=> ?_
 have DI:s₁.heap.UpToSlots kP:=vq.trans yD;refine gz fun zq zk=> ?_
 obtain⟨fO,za⟩:=aE.flown C jK tT jo wO.1 DI (s'':={ar with heap:=kP}) rfl hg ho;have DS:kP.TupAt t [.str jb u]:=tup.of_slots ((yB.trans yC).trans yD);obtain⟨oe,F5,T,oT,ts,e1,⟨e2,e3⟩,e4,_⟩:=wO.2.2.2;refine zk ?_;have HE:fN {ar with heap:=kP} e:=⟨oe,F5,"ValueError",e1,e4,e2,by decide⟩;refine fO.kept_set he (.inl rfl) (v:= .at e) (.at e) fun l9 lh qK uC=> ?_
 have Ln:KF ms l9 lh.heap:=KF.kept (s:={ar with heap:=kP}) za C fO uC;have OA:=(uC.2 e oe (fO.apartX HE).1 (fO.apartX HE).2 e1).1;have YH:lh.heap.TupAt t [.str jb u]:=by
  obtain⟨o',k',q1,q2,q3⟩:=id DS;exact⟨o',k',(uC.2 t o' (fO.apartT (s:={ar with heap:=kP}) DS).1 (fO.apartT (s:={ar with heap:=kP}) DS).2 q1).1,q2,q3⟩
 have SY:(it,V.at D)∈dD ρ ie (.at e):=ZP _ (aaQ.mpr ⟨Cj,by simpa using nT _ Cj⟩);refine aar (adm (wpAny_Call_append rfl rfl Sh rfl (n6 qK.st ht SY (nd.at ht).1 (nd.at ht).2 fun cv rt=> ?_)) (by unfold adt;rw[I.st.envIs.kind];rfl) rfl);refine gz fun zq zk=> ?_
 obtain rfl:=fe rt;obtain⟨_,_,_,YZ,W5,QK,_⟩:=qK.own _ ZR;refine zk ?_;refine⟨D,YZ.toArray,rfl,⟨_,W5,QK,rfl,rfl,rfl⟩,?_⟩;refine wpAny_BinOp (wpAny_Constant_str ?_);have Ze:ak aq l9 lh l9 {lh with toks:=lh.toks+1}:=ak.toks qK.st.inn _;have sW:=qK.ext' Ze
 refine aaZ (eZ B (mC B) hs sW.st (ml (H:=H) (.ty _) ⟨_,_,rfl⟩ rfl (abZ (n6 sW.st he (v:= .at e) ZR (nd.at he).1 (nd.at he).2 fun cv rt=>acV ⟨sW.st.base,?_⟩))));obtain rfl:=fe rt;refine P.str_of_exc_one F.excStr_ValueError (by have:=r.units;show A.units+2<9900;exact "[++A*100+B2*2+C1_9000<+A2_9900" this) ⟨oe,F5,OA,e2,e4,e3⟩ YH ?_
 refine PyProof.Rows.add_str (fun t' tk'=> ?_) (by show _+41<=_;rw[sizeLine_eq];exact "[A1000[+A41_16777216" Cf);have vz:=sW.ext' (ak.toks (s:={lh with toks:=lh.toks+1}) sW.st.inn tk');refine yQ vz.anchor (.str _ t') hsz fun DN Ef=> ?_
 have Ee:=vz.back Ef;have Lo:KF ms l9 lh.heap:=Ln;have Ei:KF ms l9 DN.heap:=KF.kept (s:={lh with toks:=tk'}) Lo C vz (vz.kept Ef);refine ace ?_;obtain⟨m,hm,_⟩:=Ee.st.loc;refine wpAny_nameGoes_keeps (I.st.envIs.loc _ (gJ he I.st.envIs.nd)) hm (by rw[I.st.envIs.kind];rfl) fun h' vv mN fG=> ?_
 have Li:av X H sc env ρ ((D,ys++[.str (pre++jb)])::ow) G₀ s₀ l9 {DN with heap:=h',toks:=DN.toks+1}:=Ee.relocal he (fun p hp=>⟨ZP _ (aaQ.mpr ⟨hp,by simpa using nT p hp⟩),nT p hp⟩) fG fun m₁ Sq=>⟨fun x=>if x=err then vv else m₁ x,?_,fun y hy=>if_neg hy⟩
 ·exact kk .next l9 _ ⟨rfl,Li⟩ fun p hp=>⟨((Ei p hp).1).sameBut fG (C.new p hp).2,(Ei p hp).2⟩
 ·rw[Sq.eq_nsMap,<-hm.eq_nsMap];exact mN
section
open PySem PySem.W PySem.Calls PyProof.Rows Builtin Builtin.ObjectAttr Builtin.Getset_descriptor
section
theorem Ry{P:abm}{tk:Nat}:findIn (KK P tk) (.ref 323) "__setattr__" =some (some (.builtin "object.__setattr__")):=by kernel_rfl
theorem Rz{P:abm}{tk:Nat}:plainOver (KK P tk) 323=true:=by kernel_rfl
theorem RA{P:abm}{tk:Nat}:takerIn (KK P tk) 323 "_headers" =some none:=by kernel_rfl
theorem Rv{P:abm}{tk:Nat}:(clsIn (KK P tk) 323).any (·.hasDict)=true:=by kernel_rfl
theorem H6{P:abm}{tk:Nat}:makesIn (KK P tk) 323=true:=by kernel_rfl
theorem H4{P:abm}{tk:Nat}:findIn (KK P tk) (.ref 323) "__init__" =some (some (.ref 217)):=by kernel_rfl
theorem H5{P:abm}{tk:Nat}:typeIn (KK P tk) (.ref 217)=some (.type "function"):=by kernel_rfl
theorem WX(hh:Int)(t:Tok)(v:ZN):Obj.putName "_headers" hh (.str "_headers" t) v ab8=gA hh t v 1:=by
 show Obj.putName "_headers" hh (.str "_headers" t) v ⟨.type "dict",none, .dict ([]:List abG).toArray 0,#[]⟩=_
 rw[putName_eq];rfl
theorem Ku{A:aaj}{Q:Unit->ZL->Prop}{E:ZN->ZL->Prop}{x dx:Addr}{v:ZN}(K:(KK w.params tk).In s.heap)(hx:s.heap.get? x=some (eQ dx))(hd:s.heap.get? dx=some ab8)
 (q: ∀h' tk' hh t,h'.get? dx=some (gA hh t v 1)->abp dx s.heap h'->Q () {s with heap:=h',toks:=tk'}):Z6 (Z8 PW w) A (setAttr (.ref x) "_headers" v) Q E s:=by
 obtain⟨hp,gg,dd,tt,os⟩:=s;have I:InstAt hp x (eQ dx) 323 (some ab8):=⟨hx,rfl,rfl,hd⟩;refine set_plain (s:=⟨hp,gg,dd,tt,os⟩) K I Ry ?_;refine osa_open (s:=⟨hp,gg,dd,tt+1,os⟩) K I Rz RA fun b=> ?_
 obtain⟨cd,hc,cG⟩:=any_some (Rv (P:=w.params) (tk:=tk));refine ZO (ZS (ZO (ZO (wpAny_loadPart hx (ZO ((looks_clsIn (M:=Z8 PW w) K hc).at ?_))))));rw[cG];refine ZS (a:=some dx) (ZO (ZS (ZO ?_)));unfold nsSet;refine ZO (ZO (wpAny_askSetting (ZS (ZO (wpAny_mkText (ZO (wpAny_loadPart hd ?_)))))));rw[show emptyDict.data= .dict #[] 0 from rfl];dsimp only;rw[aRefKeyMayBeTheName_at,if_neg (by simp)]
 refine wpAny_updatePart (s:=⟨hp,gg,dd,tt+1+1,os⟩) hd ?_;have IU:=WX (ZX w.params "_headers") (tt+1) v;have dB:=acY (Obj.putName "_headers" (ZX w.params "_headers") (.str "_headers" (tt+1)) v) hd (by rw[IU];rfl);rw[IU] at dB;refine ZO (wpAny_lookBehind dB (pastItsLine_dict (by rw[sizeLine_eq];exact aca rfl)) ?_);exact ZS (q _ _ _ _ dB (acP ..))
theorem av.earlier{G₁:GM}{s₁:ZL}(I:av [] H sc env ρ [] G₁ s₁ G s)(x:ak aq G₀ s₀ G₁ s₁)(hb: ∀b o,H.get? b=some o->b∉aq->s₀.heap.get? b=some o):av [] H sc env ρ [] G₀ s₀ G s:=by
 obtain⟨m,hn,_⟩:=I.st.loc;have none: ∀{b},b∉aq->s₁.heap.get? b=none->s₀.heap.get? b=none:=fun{b} ht h=>jT fun o e=>by rw[x.keep b o e ht] at h;cases h
 exact⟨I.st,x.trans I.ext|>.wide fun a h=>h,hb,none (jz I.st.tab hn) I.lnew,I.lG,fun y c h1 h2=>by
  obtain⟨v,hv⟩:=I.cis y c h1;exact⟨none (nD I.st.tab hv) (I.cnew y c h1 h2).1,(I.cnew y c h1 h2).2⟩,I.cis,I.cell,I.ckeys,(fun z h=>nomatch h),I.apart,(fun z h=>nomatch h),ada⟩
theorem av.freezeO{a:Addr}{ob:Obj}(I:av X H sc env ρ ow G₀ s₀ G s)(ha:s.heap.get? a=some ob)(h0:s₀.heap.get? a=none)(hg:G a=none)(hl:a≠env.locals)(fF: ∀v,¬s.heap.IsCell a v)(ud: ∀vs k,ob≠aI vs k)(ht:a∉aq):
 av X H sc env ρ ow G₀ s₀ (bN G a ob) s:=
 I.frz ha h0 (fun hX=>let⟨_,_,vs,k,e⟩:=I.xs a hX;ud vs k (gS ha e)) hg hl fF (fun p hp=>⟨hp,fun q=>let⟨_,_,_,vs,k,e,_⟩:=I.own p hp;ud vs k (gS ha (q▸e))⟩) I.dis ht
theorem L9{sv hv:V}(B:ai w tk H):i6 w H (aJ (bg 0)) (wM tk) [] [sv,hv] [(0,sv),(1,hv)]:=
 vT (pars:=["self","headers"]) (idx:=[0,1]) (as:=[sv,hv]) (ex:=[]) (exs:=[]) ⟨⟨_,rfl, .inl rfl⟩,⟨_,rfl, .inl rfl⟩,trivial⟩ (by decide+kernel) (by decide+kernel) (by decide) (fun A s G cs bs hc Q E q=>by
  obtain⟨a,c,rfl⟩:=jw hc;have AY:(KK w.params tk).lookup 210=some ⟨.type "tuple",none, .seq #[.none] 0,#[]⟩:=by kernel_rfl
  exact nd_load (a:=210) (p:=none) (bs.base _ _ (B.frag _ _ AY) (by decide)) (ZS q)) (fun G=> .nil) rfl
theorem Ma{sv:V}(B:ai w tk H):i6 w H (aJ (bg 0)) (wM tk) [] [sv] [(0,sv),(1, .none)]:=
 vT (pars:=["self","headers"]) (idx:=[0,1]) (as:=[sv]) (ex:=[.none]) (exs:=[.none]) ⟨⟨_,rfl, .inl rfl⟩,⟨_,rfl, .inl rfl⟩,trivial⟩ (by decide+kernel) (by decide+kernel) (by decide) (fun A s G cs bs hc Q E q=>by
  obtain⟨a,rfl⟩:=qg hc;have AY:(KK w.params tk).lookup 210=some ⟨.type "tuple",none, .seq #[.none] 0,#[]⟩:=by kernel_rfl
  exact nd_load (a:=210) (p:=none) (bs.base _ _ (B.frag _ _ AY) (by decide)) (ZS q)) (fun G=> .cons .none .nil) rfl
end
end
theorem vP{A:aaj}{Bs:List Stmt}{Q:Flow->ZL->Prop}{E:ZN->ZL->Prop}(As:List Stmt){s:ZL}
 (h:Z6 (Z8 PW w) A (ac3 As env) (fun f s'=>f= .next/\Z6 (Z8 PW w) A (ac3 Bs env) Q E s') E s):Z6 (Z8 PW w) A (ac3 (As++Bs) env) Q E s:=
 fun Γ p Jc=>K7 As p s (aeE _ Γ _ (fun f p' s' q=>⟨q.1,q.2 Γ p' Jc⟩) (fun z z z q=>q) _ _ (h Γ p Jc))
noncomputable def qr(p:Str×Str):Prop:=(found gm p.1=some false/\p.1.cps.size<2^62)/\found oY p.2=some false/\p.2.cps.size<2^62
noncomputable def gO(i:Nat):Stmt:=((aT (bg 0))[i]?).getD default
theorem MM:aT (bg 0)=[gO 0,gO 1]++([gO 2]++[gO 3]):=by with_unfolding_all rfl
set_option tactic.hygienic true in
theorem TQ(B:ai w tk H){x:Addr}{xs:List V}:aD w [] H (l+1) 40 (aJ (bg 0)) [(0, .at x),(1, .list xs)] [] [gO 0,gO 1] (.next [(1, .list xs),(0, .at x)] []):=by
 conv=>arg 6;whnf
 conv=>arg 9;arg 1;whnf
 conv=>arg 9;arg 2;arg 1;whnf
 refine aH (aQ 1 (kx (aF (c:=true) (jd (i:=1) rfl (bw rfl) (by decide) (by decide)) en (mj fun z=>V.noConfusion)) (jd (i:=1) rfl (bw rfl) (by decide) (by decide))) rfl) ?_;exact bD (lI (aF (c:=false) (aR 4 B (w6 B) (.ty _) rfl (ae (jd (i:=1) rfl (bw rfl) (by decide) (by decide)) ao) E5) (gY B (AP B) rfl (i:=5) (fun G=> .ty _)) ET) gk)
set_option tactic.hygienic true in
theorem TR(B:ai w tk H){ps:List (Str×Str)}(fw: ∀p∈ps,qr p):aD w [] H (l+1) 40 (aJ (bg 0)) [(0, .hdr (.list (ps.map pv))),(1, .list (ps.map pv))] [] [gO 3] (.next [] []):=by
 conv=>arg 6;whnf
 conv=>arg 9;arg 1;whnf
 refine bD (tn (iC Ak oh) ?_);refine d8 (bD (kD (items:=ps.map pv) (M:=(ps.map pv).length) (R:=fun z=>[(0, .hdr (.list (ps.map pv))),(1, .list (ps.map pv))]) (R':=fun j=>[(3, .str (ps[j]?.getD ("","")).2),(2, .str (ps[j]?.getD ("","")).1),(0, .hdr (.list (ps.map pv))),(1, .list (ps.map pv))]) (O:=fun z=>[])
  (cE (.inr ⟨⟨_,_,_,rfl⟩,Dn⟩) ?it) (fun p hp=>hp) rfl (fun j v z hv=> ?_) (fun j v z hv=> ?_) (.inl ⟨rfl,rfl⟩))) (fun p hp=>nomatch hp) (aae _)
 case it=>exact jd (i:=1) rfl (bw rfl) (by decide) (by decide)
 ·obtain⟨p,h1,rfl⟩:=sj hv
  rw[h1];exact m7 rfl (bz 2 rfl (bz 3 rfl eF))
 ·obtain⟨p,h1,rfl⟩:=sj hv
  rw[h1];obtain⟨⟨a1,a2⟩,a3,a4⟩:=fw p (aag h1);refine d8 (aH (F9 B pN qf (jd (i:=0) rfl (bw rfl) (by decide) (by decide)) (ae (jd (i:=2) rfl (bw rfl) (by decide) (by decide)) ao) (qO (b:=true) B a1 a2))
   (bD (F9 B pN qf (jd (i:=0) rfl (bw rfl) (by decide) (by decide)) (ae (jd (i:=3) rfl (bw rfl) (by decide) (by decide)) ao) (qO (b:=false) B a3 a4)))) (fun q hq=>ZP _ (ZP _ hq)) (aae _)
theorem TS(B:ai w tk H){ps:List (Str×Str)}(fw: ∀p∈ps,qr p){A:aaj}{x dx:Addr}{cv:ZN}{R:adE->ZL->Prop}(r:bW A (l+2) n)(jF:ak aq G₀ s₀ G s)(bs:Bs H G s)(zI: ∀b o,H.get? b=some o->b∉aq->s₀.heap.get? b=some o)
 (hx:s.heap.get? x=some (eQ dx)) (hd:s.heap.get? dx=some ab8) (gx:G x=none) (gd:G dx=none) (nx:s₀.heap.get? x=none) (uR:s₀.heap.get? dx=none) (rc:Rd G (.list (ps.map pv)) cv)
 (k: ∀s' G',ak aq G₀ s₀ G' s'->Rd G' (.hdr (.list (ps.map pv))) (.ref x)->R (.ok (.ret .none)) s'):codeAny (Z8 PW w) A (.call (.ref 217) ⟨[.ref x,cv],[]⟩) R s:=by
 refine wx B (Gk B) (L9 B (sv:= .at x) (hv:= .list (ps.map pv))) r bs jF.inn (.cons (.at x) (.cons rc .nil)) fun env G₁ s₁ hq hL af I r'=> ?_
 have pM:x≠env.locals:=fun e=>by have:=I.lnew;rw[<-e,hx] at this;cases this
 have mL:dx≠env.locals:=fun e=>by have:=I.lnew;rw[<-e,hd] at this;cases this
 have kO:x∉aq:=fun h=>m5 bs.tab h hx fun vs q=>by cases q
 have kK:dx∉aq:=fun h=>m5 bs.tab h hd fun vs q=>by cases q
 have I:=I.earlier jF zI;have mQ:=af.keep _ _ hx kO;have mH:=af.keep _ _ hd kK;have AU:=af.none gx hx kO;have AQ:=af.none gd hd kK;have q':env.scope=aJ (bg 0):=hq;have I:av [] H (aJ (bg 0)) env [(0, .at x),(1, .list (ps.map pv))] [] G₀ s₀ G₁ s₁:=I;rw[MM];refine vP _ (zE (TQ B) q' r' I fun f aB ar ok k₂=> ?_);obtain⟨rfl,bf⟩:=ok;refine⟨rfl,vP _ ?_⟩
 have mT: ∀{b:Addr} {ob:Obj},s₁.heap.get? b=some ob->b≠env.locals->(∀v,¬s₁.heap.IsCell b v)->b∉aq->b∉bM (aJ (bg 0)) env [] []/\b∉[]++aq:=fun{b ob} h1 h2 h3 h4=>⟨fun hm=>(by
  rcases qi hm with h|⟨y,h,_⟩|⟨y,h⟩|h
  ·exact h2 h
  ·obtain⟨v,hv⟩:=I.cis y b (I.ckeys y b h)
   exact h3 v hv
  ·cases h
  ·cases h),by simpa using h4⟩
 have cx: ∀v,¬s₁.heap.IsCell x v:=fun v ⟨o',e1,e2⟩=>by rw[mQ] at e1;cases e1;cases e2
 have cd: ∀v,¬s₁.heap.IsCell dx v:=fun v ⟨o',e1,e2⟩=>by rw[mH] at e1;cases e1;cases e2
 obtain⟨mR,AV⟩:=k₂.2 x _ (mT mQ pM cx kO).1 (mT mQ pM cx kO).2 mQ;obtain⟨pF,AR⟩:=k₂.2 dx _ (mT mH mL cd kK).1 (mT mH mL cd kK).2 mH;have tL:=AV AU;have rq:=AR AQ;have e2:gO 2= .Assign [.Attribute (.Name "self" ⟨194,8,194,12⟩) "_headers" ⟨194,8,194,21⟩] (.Name "headers" ⟨194,24,194,31⟩) ⟨194,8,194,31⟩:=by kernel_rfl
 rw[e2];refine aar (plainObj_wpAny_Assign_Attribute (n6 bf.st (i:=1) rfl (v:= .list (ps.map pv)) (bw rfl) (by decide) (by decide) fun o7 Dr=>n6 bf.st (i:=0) rfl (v:= .at x) (bw rfl) (by decide) (by decide) fun Ot Dy=> ?_) rfl);obtain rfl:=fe Dy;refine Ku (jv B bf.st.bs) mR pF fun h' tk' hh t dB fG=> ?_
 have gF:ar.heap.Ns dx (fun z=>none):=⟨ab8,#[],0,pF,rfl,fun e he=>by simp at he,fun y=>rfl⟩;have b0:av [] H (aJ (bg 0)) env [(1, .list (ps.map pv)),(0, .at x)] [] G₀ s₀ aB {ar with heap:=h',toks:=tk'}:=by
  have:=bf.other gF mL uR rq fG;exact this.ext' (ak.toks this.st.inn tk')
 have pY:x≠dx:=fun e=>by rw[e,pF] at mR;cases mR
 have ur:h'.get? x=some (eQ dx):=(fG.2 x pY).trans mR;have zT: ∀v,¬h'.IsCell dx v:=fun v ⟨o',e1,e2⟩=>by rw[dB] at e1;cases e1;cases e2
 have z8: ∀v,¬h'.IsCell x v:=fun v ⟨o',e1,e2⟩=>by rw[ur] at e1;cases e1;cases e2
 have eK:=(b0.freezeO (a:=dx) dB uR rq mL zT (fun vs k e=>by simp[aI,gA] at e) kK).freezeO (a:=x) (ob:=eQ dx) ur nx (by unfold bN;rw[if_neg pY];exact tL) pM z8 (fun vs k e=>by simp[aI,eQ] at e) kO;have xa:bN aB dx (gA hh t o7 1) x=none:=by unfold bN;rw[if_neg pY];exact tL
 have eB: ∀b o,aB b=some o->bN (bN aB dx (gA hh t o7 1)) x (eQ dx) b=some o:=fun b o e=>lK xa b o (lK rq b o e)
 have rd:Rd (bN (bN aB dx (gA hh t o7 1)) x (eQ dx)) (.hdr (.list (ps.map pv))) (.ref x):= .hdr iK (lK xa _ _ iK) (cN eB Dr);have fm:=eK.named (i:=0) (bw rfl) rd;refine ace ⟨rfl,?_⟩;refine zE (TR B fw) q' r' (fm.sub (ρ':=[(0, .hdr (.list (ps.map pv))),(1, .list (ps.map pv))]) (fun p hp=>by
  simp only[ZU,aaz,or_false] at hp;rcases hp with rfl|rfl
  ·exact bw rfl
  ·exact bw rfl) (aae _)) fun f sU yH ok uB=> ?_
 obtain⟨rfl,fO⟩:=ok;exact k yH sU fO.ext (cN uB.1 rd)
theorem KR{A:aaj}{rest:List ZN}(r:bW A (l+1) n):bW (A.under (.builtin "type.__call__" ⟨.ref 323::rest,[]⟩)) l n:=by
 have hd:(A.under (.builtin "type.__call__" ⟨.ref 323::rest,[]⟩)).depth=A.depth+1:=rfl;have hu:(A.under (.builtin "type.__call__" ⟨.ref 323::rest,[]⟩)).units=A.units+1:=by kernel_rfl
 have h1:=r.depth;have h2:=r.units;exact⟨r.hd,by rw[hd];exact "[+A+B1_600[++A1B600" h1,by rw[hu];exact "[++A*100+B1*2C9000[+++A1*100B*2C9000" h2⟩
theorem Nf(B:ai w tk H){ps:List (Str×Str)}(fw: ∀p∈ps,qr p):aU w H (l+3) n (.ref 323) [.list (ps.map pv)] (.hdr (.list (ps.map pv))):=by
 constructor;intro A s G cs r bs hi rl Q E k
 obtain⟨cv,rfl,rc⟩:=fI rl;have K:=jv B bs;obtain⟨h,g,d,t,os⟩:=s;have pP:h.get? h.objs.size=none:=ct (aab _);have ue:h.get? (h.objs.size+1)=none:=ct (acU _);refine ac6 (make_core (makes_of K H6) (looks_findIn K H4) (fun self=>bind_fn K self H5) (.inl rfl) ?_);have jF:ak aq G ⟨h,g,d,t,os⟩ G ⟨(h.push ab8).push (instObj 323 h.objs.size),g,d,t,os⟩:=ak.grown hi t fun b o e=>Z9 _ (Z9 _ e)
 have zH:Bs H G ⟨(h.push ab8).push (instObj 323 h.objs.size),g,d,t,os⟩:=⟨fun b o e hb=>jF.keep _ _ (bs.base _ _ e hb) hb,jF.tab bs.tab,bs.gt,bs.hl⟩;have hx:((h.push ab8).push (instObj 323 h.objs.size)).get? (h.objs.size+1)=some (eQ h.objs.size):=by
  have:=aai (h.push ab8) (o:=instObj 323 h.objs.size) rfl;rw[abS] at this;exact this
 have hd:((h.push ab8).push (instObj 323 h.objs.size)).get? h.objs.size=some emptyDict:=Z9 _ (aai _ rfl);refine TS (n:=n) B fw (KR r) jF zH bs.base hx hd (cY (s:=⟨h,g,d,t,os⟩) hi ue) (cY (s:=⟨h,g,d,t,os⟩) hi pP) ue pP rc fun s' G' x' rd=> ?_
 exact⟨rfl,k _ s' G' x' rd⟩
theorem Hm(B:ai w tk H):bk H "Headers" (.ref 323):=c5 B (by decide) (by kernel_rfl)
theorem Jm{P:abm}{tk:Nat}:keepIn (KK P tk) (.ref 323)=true:=by kernel_rfl
theorem OP(B:ai w tk H)(i:Nat){p pos:Pos}{es:List Expr}{as:List V}{v:V}(hx:sc.names[i]?=some (("Headers" :Str), .globalImplicit))(ha:dX w H l n sc ρ es as)(hv:aU w H l n (.ref 323) as v)
 (h1:autoParam (dU es=true) au):ah w H l n sc ρ (.Call (.Name "Headers" p) es [] pos) v:=
 .mk fun env A s G r S Q E k=>aaZ (eZ B (Hm B) hx S (by
  refine callWith_of (P:=fun h=>(KK w.params tk).In h) ?_ (keeps_K Jm) ?_
  ·rw[(jB (pos:=pos) (env:=env) (dE (pos:=pos) (env:=env) h1).1).1];rfl
  ·obtain⟨y,rest,BF⟩:=(dE (pos:=pos) (env:=env) h1).2
   have hs:=ha.go env A s G pos r S (fun vs s'=>(KK w.params tk).In s'.heap/\Z6 (Z8 PW w) A (call (.ref 323) ([]++vs)) Q E s') E fun cs s₁ G₁ af aA=>⟨jv B (S.ext af).bs,hv.go A s₁ G₁ cs r (S.ext af).bs af.inn aA Q E fun cv ar aB ax bx=>k cv ar aB (af.trans ax) bx⟩
   rw[BF] at hs⊢;exact abu hs))
noncomputable def sR(w:Z2)(H:Heap)(l n:Nat)(f:ZN)(as:List V)(v:V):Prop:=
 ∀(A:aaj) (s:ZL) (G:GM) (cs:List ZN) (fr:List Env) (ms:l7),A.frames=some fr->(∀e∈fr,e.scope.kind≠ .module/\ ∃L,e.frame=some L/\L∈ms.map (·.1))->KF ms G s.heap->(∀d∈ms.map (·.1),∀o,H.get? d≠some o)->
  bW A l n->Bs H G s->bS G s->aP G as cs-> ∀(Q:ZN->ZL->Prop) (E:ZN->ZL->Prop),
  (∀cv s' G',ak aq G (df s (ms.map (·.1))) G' s'->KF ms G' s'.heap->Rd G' v cv->Q cv s')->Z6 (Z8 PW w) A (call f cs) Q E s
theorem EU{a:Addr}{fd:aaL}{body:List Stmt}{pars:List Str}{idx:List Nat}{as:List V}{v:V}{ow:Ow}(B:ai w tk H)(F:cD w H a fd body pars idx)
 (fu: ∀cs:List ZN,cs.length=pars.length->aba fd ⟨cs,[]⟩=pure (pars.zip cs)) (hlen:as.length=pars.length)
 (hb:eI w [] H l 40 fd.scope (idx.zip as) [] body (.ret v ow)):sR w H (l+1) n (.ref a) as v:=fun A s G cs fr ms dR RQ K hH r bs hi rl Q E k=>by
 obtain⟨ob,jl,pD⟩:=F.obj;obtain⟨c,oc,vs,t,ic,jh,gy,kJ,mE⟩:=F.cod;have b7:cs.length=pars.length:=rl.length.symm.trans hlen;refine ac6 (codeAny_call_cells (fd:=fd) (binds:=pars.zip cs) (by have:=r.depth;show A.depth<1000;exact "[+A+B1_600<A1000" this) (bs.base _ _ jl F.nt) pD (uy B.nolimit bs.base) ⟨c,oc,vs,t,ic,bs.base _ _ gy jh,kJ,mE⟩ F.body (fu cs b7) F.clo
  (fun x hx=> ?_) (fun s₁ I=> ?_) F.co F.gen F.kind)
 ·obtain⟨i,kd,h1,h2⟩:=F.par.kinds x hx
  have h3:=gJ h1 F.nd;rcases h2 with rfl|rfl
  ·exact .inl h3
  ·exact .inr ⟨h3,lC _ _ _ _ (aag h1)⟩
 ·obtain⟨eU,Yy,rfl⟩:=I.toInCall.same
  have cO:=I.toInCall.keep;have lN:s.heap.get? s.heap.objs.size=none:=ct (aab _);have hG: ∀a o,G a=some o->eU.get? a=some o:=fun a o e=>cO a o (hi a o e)
  have mr:qG (acv fd s.heap.objs.size a) fd.scope:=⟨F.kind,fun j h=>h,fun j h=>h,fun j h=>h,fun j h=> .inr h,F.glob,F.blt,F.nd,fun x h=>(h.elim (fun h=>lC _ _ _ _ (mem_of_lookup h)) fun h=>by have:=Z3.mp F.nofr _ (mem_of_lookup h);cases this),I.apart,fun x c h=>j5 (v8 _ _ _ F.nd acJ fun j h=>(nomatch h)) h⟩
  have tW: ∀y d,(acv fd s.heap.objs.size a).cells.lookup y=some d->s.heap.get? d=none:=fun y d h=>ct (ZW (abq (acB _)) (I.above y d (mem_of_lookup h)))
  have cY: ∀{d:Addr},s.heap.get? d=none->G d=none:=fun{d} h=>by
   cases e:G d with
   |none=>rfl
   |some q=>rw[hi d q e] at h;cases h
  have hD: ∀d∈ms.map (·.1),∃m,s.heap.Ns d m:=fun d hd=>by
   obtain⟨p,hp,rfl⟩:=Z1.mp hd;exact⟨_,(K p hp).1⟩
  have gn: ∀{d:Addr},s.heap.get? d=none->(df s (ms.map (·.1))).heap.get? d=none:=fun{d} h=>by
   by_cases hm:d∈ms.map (·.1)
   ·exact eG _ _ _ hm
   ·exact(dv _ _ _ hm).trans h
  have out: ∀b o,(df s (ms.map (·.1))).heap.get? b=some o->s.heap.get? b=some o:=fun b o e=>by
   by_cases hm:b∈ms.map (·.1)
   ·rw[show(df s (ms.map (·.1))).heap.get? b=none from eG _ _ _ hm] at e;cases e
   ·exact(dv _ _ _ hm).symm.trans e
  refine hb fr ms (acv fd s.heap.objs.size a) _ G (df s (ms.map (·.1))) G _ _ _ ⟨aer dR,rfl,RQ,fun p hp=>⟨eG _ _ _ (Z1.mpr ⟨p,hp,rfl⟩),fun e=> ?_⟩⟩ (fun p hp=>⟨let⟨o,es,ep,ho,r⟩:=(K p hp).1;⟨o,es,ep,cO _ _ ho,r⟩,(K p hp).2⟩) rfl
   ⟨r.hd,by have:=r.depth;show A.depth+1+l<=600;exact "[+A+B1_600[++A1B600" this,by have:=r.units;show A.units+3+100*l+2*40<=9000;exact "[++A*100+B1*2C9000[+++A3*100B80_9000" this⟩
   ⟨⟨fun b q e hb=>cO _ _ (bs.base b q e hb),hG,mr,⟨_,I.toInCall.ns,fun p hp=> ?_⟩,fun y d h1=>⟨_,I.cell y d h1⟩,bs.tab.keep cO,bs.gt,bs.hl⟩,
    ⟨fun j j e=>e,fun j j e=> .inl e,hG,fun b o e j=>cO b o (out b o e),rfl,rfl,fun j=>bs.tab.keep cO,fun j z=>z⟩,fun b o e hb=>(dv _ _ _ fun hm=>hH b hm o e).trans (bs.base b o e hb),gn lN,cY lN,fun y d h1 j=>⟨gn (tW y d h1),cY (tW y d h1)⟩,fun y d h1=>⟨_,I.cell y d h1⟩,fun{i x kd} h1 h2=> ?_,fun x c h=>j5 (v8 _ _ _ F.nd acJ fun j h=>(nomatch h)) h,fun j h=>(nomatch h),I.apart,fun j h=>(nomatch h),ada⟩ fun f G' s' ok K'=> ?_
  ·obtain⟨o,es,ep,ho,_⟩:=(K p hp).1
   rw[e] at ho;rw[show s.heap.get? (acv fd s.heap.objs.size a).locals=none from lN] at ho;cases ho
  ·obtain⟨x,kd,cv,h1,h2,h3,h4⟩:=F.par.get rl b7.symm p hp
   have h5:=gJ h1 F.nd;have eR:((pars.zip cs).map (·.1)).Nodup:=by rw[List.map_fst_zip (by simp[*])];exact F.pnd
   refine⟨x,kd,h1,?_⟩;rcases h2 with rfl|rfl
   ·exact .loc h5 cv (EH _ _ eR h3 h5) h4
   ·obtain⟨d,hd⟩:=abO.mp (lC fd.scope.names (s.heap.objs.size+1) [] x (aag h1))
    refine .cel (.inl h5) d cv hd ?_ h4;have:=I.cell x d hd
    rwa [EG _ _ eR h3 (by rw[show(acv fd s.heap.objs.size a).kindOf x=some .cell from h5];decide)] at this
  ·subst h2;exact lC _ _ _ _ (aag h1)
  ·obtain⟨cv,rfl,h1,I'⟩:=ok
   exact k cv s' G' I'.ext K' h1
set_option tactic.hygienic true in
theorem O9(B:ai w tk H)(i j:Nat){x f:Str}{kd:aam}{p q pos nF:Pos}{es:List Expr}{fv:ZN}{as:List V}{v:V}(g:bk H f fv)(hc:cF H fv)(hf:sc.names[j]?=some (f, .globalImplicit))(hv:sR w H l n fv as v)(ha:dX w H l n sc ρ es as)
 (hx:sc.names[i]?=some (x,kd)) (hk:autoParam (kd= .local\/kd= .cell) au) (h1:autoParam (dU es=true) au)
 (hs:autoParam (abY (.Call (.Name f q) es [] nF) (some (.Name x p)) pos.line (da sc)=pure false) au):
 oD w X H l n sc ρ ow (.Assign [.Name x p] (.Call (.Name f q) es [] nF) pos) (.next (dD ρ i v) ow):=fun fr ms env A G₀ s₀ G s Q E C K q r I k=>by
 rw[ab3 _ _ _ _ _ (kj hs q)];refine ZO (aaM (ZO (aaZ (eZ B g hf I.st (ml hc (dE h1).2 (jB (dE (pos:=nF) (env:=env) h1).1).1 (ha.go env A s G nF r I.st _ E fun cs s₁ G₁ af aA=>⟨(I.st.ext af).base,?_⟩))))));have aE:=I.ext' af;have jK:KF ms G₁ s₁.heap:=K.kept C I (I.kept_ext af);obtain⟨m,hm,_⟩:=aE.st.loc;have mM: ∀d∈ms.map (·.1),s₀.heap.get? d=none/\ ∃m,s₁.heap.Ns d m:=fun d hd=>by
  obtain⟨p,hp,rfl⟩:=Z1.mp hd;exact⟨(C.new p hp).1,_,(jK p hp).1⟩
 refine hv A s₁ G₁ cs (env::fr) ((env.locals,m)::ms) C.frames (fun e he=> ?_) (fun p hp=> ?_) (fun d hd o e=> ?_) r aE.st.bs af.inn aA _ E fun cv ar aB ax md bx=> ?_
 ·rcases ZU.mp he with rfl|he
  ·exact⟨by rw[I.st.envIs.kind];decide,_,C.frame,ZR⟩
  ·obtain⟨h1,L,h2,h3⟩:=C.frs e he
   exact⟨h1,L,h2,ZP _ h3⟩
 ·rcases ZU.mp hp with rfl|hp
  ·exact⟨hm,aE.lG⟩
  ·exact jK p hp
 ·have ht:d∉aq:=by
   rcases ZU.mp hd with rfl|hd
   ·exact jz aE.st.tab hm
   ·obtain⟨_,m,h⟩:=mM d hd;exact jz aE.st.tab h
  have:=I.base₀ d o e ht;rcases ZU.mp hd with rfl|hd
  ·rw[I.lnew] at this;cases this
  ·rw[(mM d hd).1] at this;cases this
 ·have nR:=md _ ZR
  have bf:av X H sc env ρ ow G₀ s₀ aB ar:=aE.extL mM ax (fun m' h'=>by
   rw[h'.eq_nsMap,<-hm.eq_nsMap];exact nR.1) nR.2
  have Ll:KF ms aB ar.heap:=fun p hp=>md p (ZP _ hp)
  exact ZO (aaM (ZO (acL (bf.kept_set hx hk bx fun jJ s'' kq kk=>ZS (k _ jJ s'' ⟨rfl,kq⟩ (Ll.kept C bf kk))))))
theorem T5(G:GM)(m:Nat): ∀(a:Int) (vs:List ZN),vs.length=m->(∀(j:Nat) (v:ZN),vs[j]?=some v-> ∃t,v=Value.int (a+(j:Int)) t)->aP G (((aac m).map fun(i:Nat)=>a+(i:Int)).map V.int) vs:=by
 induction m with
 |zero=>intro a vs hm _;rw[aeX.mp hm];exact .nil
 |succ m ih=>
  intro a vs hm h;cases vs with
  |nil=>cases hm
  |cons v vs=>
   obtain⟨t,rfl⟩:=h 0 v rfl;have hf: ∀i:Nat,a+((i+1:Nat):Int)=a+1+(i:Int):=fun i=>by push_cast;exact "@#+a+'A1++a1'A" ()
   have:=ih (a+1) vs (Nat.succ.inj hm) fun j v hj=>by
    obtain⟨t,e⟩:=h (j+1) v hj;exact⟨t,hf j▸e⟩
   have e:((aac m).map adN).map (fun i:Nat=>a+(i:Int))=(aac m).map fun i:Nat=>a+1+(i:Int):=by
    rw[aaf];exact congrArg (fun f=>(aac m).map f) (funext hf)
   rw[List.range_succ_eq_map,aah,aah,e];exact .cons (.int _ _) this
theorem OW(B:ai w tk H){e f:Expr}{p q pos pos':Pos}{a b:Int}{i j:Nat}(gl:bk H "list" (.type "list"))(gr:bk H "range" (.type "range"))(hx:sc.names[i]?=some (("list" :Str),abo))(hy:sc.names[j]?=some (("range" :Str),abo))
 (h:ah w H l n sc ρ e (.int a)) (h':ah w H l n sc ρ f (.int b)) (ha: -(2^62)<=a) (lO:a<2^62) (hb: -(2^62)<=b) (cL:b<2^62) (hlen:(b -a).toNat<=2^24)
 (h1:autoParam (∀env,abW pos (aa4 [e,f] env)=[(false,eval e env),(false,eval f env)]) au)
 (h2:autoParam (∀env,abW pos' (aa4 [.Call (.Name "range" p) [e,f] [] pos] env)=[(false,eval (.Call (.Name "range" p) [e,f] [] pos) env)]) au):
 ah w H l n sc ρ (.Call (.Name "list" q) [.Call (.Name "range" p) [e,f] [] pos] [] pos') (.list ((aS a b).map V.int)):= .mk fun env A s G r S Q E k=>
 aaZ (eZ B gl hx S (by
  rw[h2 env];refine abn rfl (abu (abZ (aaZ (eZ B gr hy S ?_))));rw[h1 env];refine abn rfl (abu (abZ (h.go env A s G r S _ E fun cv s₁ G₁ af aA=>abZ (h'.go env A s₁ G₁ r (S.ext af) _ E fun o7 ar aB ax bx=>acV ?_))));obtain⟨t,rfl⟩:=aZ aA;obtain⟨u,rfl⟩:=aZ bx;refine call_range_2 (acV ?_);have hsz:adS a b 1=((b -a).toNat:Int):=by rw[rangeSize_one];split<;>grind
  refine call_list_range r.hd (IsRange.new ..) (small_one ha lO hb cL) hsz hlen fun h' tk' acc c hk hl hi=> ?_
  have bL:=(af.trans ax).trans (iZ (o:={cls:= .type "range",data:= .fields #[.int a t, .int b u, .int 1 ar.toks]}) ax.inn (ar.toks+1));have hn:(ar.heap.push {cls:= .type "range",data:= .fields #[.int a t, .int b u, .int 1 ar.toks]}).get? (ar.heap.push {cls:= .type "range",data:= .fields #[.int a t, .int b u, .int 1 ar.toks]}).objs.size=none:=ct (aab _);have hg:=cY bL.inn hn
  have tb:=(S.ext (af.trans ax)).tab;have gF:=jA bL (S.ext bL).tab hn;have gh:ak aq G s aB {ar with heap:=h',toks:=tk'}:=bL.trans (ak.grown bL.inn _ hk);have qD:=ak.freeze gh (o:=aI acc.toList c) hl (.inl gF) hg (.inl gF);refine k _ _ _ qD (.list iK ?_);exact T5 _ _ _ _ (by rw[abr];exact hi.1) fun j v hj=>by
   obtain⟨t,e⟩:=hi.2 j v (by simpa using hj);exact⟨t,by rw[e,Int.mul_one]⟩))
theorem WR{α:Type}(x:List α)(a b:Nat)(h:a<=b):cm x (some (a:Int)) (some (b:Int)) none=(x.drop a).take (b -a):=by
 have e:ab4 (some (a:Int)) (some (b:Int)) none x.length=(((min a x.length:Nat):Int),((min b x.length:Nat):Int),1):=by
  simp only[ab4,Option.getD_none];have h1: ¬((a:Int)<0):=by exact abK.mpr (Z0 _)
  have h2: ¬((b:Int)<0):=by exact abK.mpr (Z0 _)
  simp only[h1,h2,if_false,show(1:Int)>0 by decide,if_true];rw[wc,wc]
 unfold cm;rw[e];simp only[sliceRange_one,u5];rcases Nat.le_total a x.length with h1|h1
 ·rw[abB h1]
  rcases Nat.le_total b x.length with h2|h2
  ·rw[abB h2]
  ·rw[adl h2,aaX (by rw[abk];exact aab _),aaX (by rw[abk];simp[*])]
 ·rw[adl h1,acW h1,acW (aab _)];simp
theorem WQ{α:Type}(x:List α):cm x none none (some (-1))=x.reverse:=by
 have e:ab4 none none (some (-1)) x.length=((x.length:Int) -1,-1,-1):=by
  simp[ab4]
 unfold cm;rw[e];have e2:sliceRange ((x.length:Int) -1) (-1) (-1)=(aac x.length).map fun k=>x.length -1 -k:=by
  unfold sliceRange;simp only[show¬((-1:Int)>0) by decide,if_false];have hc:(if(x.length:Int) -1> -1 then((x.length:Int) -1 - -1 - -1 -1)/(- -1) else 0).toNat=x.length:=by
   split<;>simp<;>exact Z5 ("[0A" ()) ("!>~1-'A1[A0" _)
  rw[hc];refine aa0 fun k hk=> ?_
  have h1:=aaq.mp hk;have e:(x.length:Int) -1+ -1*(k:Int)=((x.length -1 -k:Nat):Int):=by omega
  rw[e];exact aaD _
 simp only[e2];refine List.ext_getElem? fun i=> ?_
 rcases Nat.lt_or_ge i x.length with h|h
 ·have h3:((aac x.length).map fun k=>x.length -1 -k).filterMap (x[·]?)=(aac x.length).pmap (fun k (hk:k<x.length)=>x[x.length -1 -k]) (fun k hk=>aaq.mp hk):=by
   rw[List.filterMap_map];have: ∀l:List Nat,∀hl: ∀k∈l,k<x.length,l.filterMap ((x[·]?)∘fun k=>x.length -1 -k)=l.pmap (fun k (hk:k<x.length)=>x[x.length -1 -k]) hl:=fun l=>by
    induction l with
    |nil=>intro _;rfl
    |cons a l ih=>
     intro hl;rw[adi,List.pmap_cons,<-ih];have ha:=hl a ZR;simp only[aaF];rw[aaT (ZY (ad5 _ _) (Nat.sub_lt (ZY (aav _) ha) Nat.one_pos))]
   exact this _ _
  rw[h3,List.getElem?_pmap,List.getElem?_reverse h];simp[h]
 ·rw[ac2 (by
   refine ZW (List.length_filterMap_le _ _) (by simpa using h)),ac2 (by simpa using h)]
theorem Xn{x y z:Str}(h:z.length<=y.length):(aea x y z).length<=x.length:=by
 unfold aea;split
 ·exact aab _
 ·have hy:(acO y (Builtin.Str.partsBetween x (abH x y 0 x.length (x.length+1)) y.length)).length=x.length:=by rw[aez]
  rw[size_glued] at hy⊢;have:=adR ((Builtin.Str.partsBetween x (abH x y 0 x.length (x.length+1)) y.length).length -1) h;exact "=+ABC[DB[+ADC" hy this
set_option tactic.hygienic true in
theorem Pe{w:Z2}{X:List Addr}{H:Heap}{l n N:Nat}{sc:ZZ}{ρ:aw}{ow:Ow}{tg e:Expr}{body:List Stmt}{pos:Pos}{items:List V}{R R':Nat->aw}{O:Nat->Ow}{M:Nat}(hM:items.length=M)(hit:cI w H l n sc ρ tg e items)(h0: ∀p∈R 0,p∈ρ)(hO:O 0=ow)
 (jr: ∀k v,items[k]?=some v->jM w X H sc tg (R k) v (R' k))
 (hb: ∀k v,items[k]?=some v->gT N w X H l n sc (R' k) (O k) body (.next (R (k+1)) (O (k+1))))
 (hs:autoParam (∀env x,aaN e env x=pure x) au):oE N w X H l n sc ρ ow (.For tg e body [] pos) (.next (R M) (O M)):=hM▸Pd hit h0 hO jr hb hs
set_option tactic.hygienic true in
theorem wH{w:Z2}{X:List Addr}{H:Heap}{l n:Nat}{sc:ZZ}{ρ:aw}{ow:Ow}{tg e:Expr}{body:List Stmt}{pos:Pos}{items:List V}{R R':Nat->aw}{O:Nat->Ow}{M:Nat}(hM:items.length=M)(hit:cI w H l n sc ρ tg e items)(h0: ∀p∈R 0,p∈ρ)(hO:O 0=ow)
 (jr: ∀k v,items[k]?=some v->jM w X H sc tg (R k) v (R' k))
 (hb: ∀k v,items[k]?=some v->aD w X H l n sc (R' k) (O k) body (.next (R (k+1)) (O (k+1))))
 (hs:autoParam (∀env x,aaN e env x=pure x) au):bV w X H l n sc ρ ow (.For tg e body [] pos) (.next (R M) (O M)):=kD hit h0 hO (fun k v z=>jr k v) (fun k v z=>hb k v) (.inl ⟨hM.symm,rfl⟩) hs
theorem Kn{ρ:aw}{i:Nat}{v:V}(h:(ρ.map (·.1)).contains i=false):dD ρ i v=(i,v)::ρ:=by
 unfold dD;rw[List.filter_eq_self.mpr];intro p hp;rw[aem,decide_eq_false_iff_not] at h;have:p.1≠i:=fun e=>h (Z1.mpr ⟨p,hp,e⟩)
 simpa using this
theorem CN{bo:aw}{x y:Str}{k1 k2:aam}{p q tp:Pos}{kk i j:Nat}{scope:ZZ}{v1 v2:V}(hx:scope.names[i]?=some (x,k1))(hy:scope.names[j]?=some (y,k2))(hi:(bo.map (·.1)).contains i=false)(hj:((i::bo.map (·.1))).contains j=false)
 (iN:k1= .local\/k1= .cell) (gC:k2= .local\/k2= .cell):jM w X H scope (.Tuple [.Name x p, .Name y q] kk tp) bo (.tup [v1,v2]) ((j,v2)::(i,v1)::bo):=by
 have e2:dD (dD bo i v1) j v2=(j,v2)::(i,v1)::bo:=by rw[Kn hi,Kn (by simpa using hj)]
 rw[<-e2];exact m7 rfl (bz i hx (bz j hy eF gC) iN)
theorem wC{α:Type}(ls:List α)(f1 f2:α->V)(g:α->V){elt iter:Expr}{x y:Str}{k1 k2:aam}{p q tp:Pos}{kk:Nat}{scope:ZZ}{pos:Pos}{i j:Nat}{bo:aw}
 (C:jH sc scope/\aL scope) (hx:scope.names[i]?=some (x,k1)) (hy:scope.names[j]?=some (y,k2)) (iN:k1= .local\/k1= .cell) (gC:k2= .local\/k2= .cell) (hi:(bo.map (·.1)).contains i=false) (hj:((i::bo.map (·.1))).contains j=false)
 (eo:kl sc scope ρ bo)
 (hit:cI w H l n sc ρ (.Tuple [.Name x p, .Name y q] kk tp) iter (ls.map fun a=> .tup [f1 a,f2 a])) (h:aL scope-> ∀a∈ls,ah w H l n scope ((j,f2 a)::(i,f1 a)::bo) elt (g a)) (hsz:ls.length<=Z7)
 (hs:autoParam (∀env x,aaN iter env x=pure x) au):ah w H l n sc ρ (.ListComp elt [⟨.Tuple [.Name x p, .Name y q] kk tp,iter,[],0⟩] scope pos) (.list (ls.map g)):=by
 have e:ls.flatMap (fun a=>[g a])=ls.map g:=adQ.symm;rw[<-e];exact wD C.1 (fun g h=>nomatch h) eo hit (fun a ha=>⟨_,true,CN hx hy hi hj iN gC,fun q hq=>ZP _ (ZP _ hq), .nil,fun z=>mu rfl (h C.2 a ha),fun h=>nomatch h⟩) (by rw[e];simpa using hsz) hs
theorem OV{α:Type}(ls:List α)(f1 f2:α->V)(c:α->Bool)(g:α->V){elt iter t:Expr}{x y:Str}{k1 k2:aam}{p q tp:Pos}{kk:Nat}{scope:ZZ}{pos:Pos}{i j:Nat}{bo:aw}
 (C:jH sc scope/\aL scope) (hx:scope.names[i]?=some (x,k1)) (hy:scope.names[j]?=some (y,k2)) (iN:k1= .local\/k1= .cell) (gC:k2= .local\/k2= .cell) (hi:(bo.map (·.1)).contains i=false) (hj:((i::bo.map (·.1))).contains j=false)
 (eo:kl sc scope ρ bo)
 (hit:cI w H l n sc ρ (.Tuple [.Name x p, .Name y q] kk tp) iter (ls.map fun a=> .tup [f1 a,f2 a])) (ht:aL scope-> ∀a∈ls,aM w H l n scope ((j,f2 a)::(i,f1 a)::bo) t (c a)) (h:aL scope-> ∀a∈ls,c a=true->ah w H l n scope ((j,f2 a)::(i,f1 a)::bo) elt (g a)) (hsz:ls.length<=Z7)
 (hs:autoParam (∀env x,aaN iter env x=pure x) au):ah w H l n sc ρ (.ListComp elt [⟨.Tuple [.Name x p, .Name y q] kk tp,iter,[t],0⟩] scope pos) (.list ((ls.filter c).map g)):=by
 rw[<-rj];refine wD C.1 (fun g h=>nomatch h) eo hit (fun a ha=>⟨_,c a,CN hx hy hi hj iN gC,fun q hq=>ZP _ (ZP _ hq),?_,fun hc=> ?_,fun hc=>by simp[hc]⟩) ?_ hs
 ·have:=iF.cons (ht C.2 a ha) fun z=>iF.nil
  rwa [acn] at this
 ·rw[if_pos hc];exact mu rfl (h C.2 a ha hc)
 ·rw[rj]
  have:=aaE c ls;simp only[ZQ];exact ZW ‹_› ‹_›
theorem Vt{x y:Str}{i:Nat}{rest:List Nat}(ho:abH x y 0 x.length 1=i::rest):jL w H l n "index" (.str x) [.str y] (.int i):=yc F.slot_str_index F.type_str_index (by
 constructor;intro A s G cs r bs hi rl Q E k
 obtain⟨ca,cb,rfl,ra,rb⟩:=qx rl;obtain⟨t,rfl⟩:=dC ra;obtain⟨u,rfl⟩:=dC rb;exact SC.index ho (k _ _ G (ak.toks hi _) (.int _ _)))
noncomputable def qS(c:Nat):Str:=⟨#[c]⟩
noncomputable def ig(letters again:Str):List (Str×Str):=(letters.cps.toList.zipIdx.map fun p=>(if((p.2:Int).fmod 2 !=0) then abA ⟨#[p.1]⟩ else⟨#[p.1]⟩,((toString (p.2:Int):String):Str)))++[(again,("again" :Str))]
noncomputable def vc(sg:List (Nat×Str)):Str:=Txt.join "" ((sg.filter fun p=> !decide ((p.1:Int)∈dw)).map fun p=>i8 p.1)
noncomputable def cB(sg:List (Nat×Str)):Str:=Txt.join "" (sg.map (·.2))
noncomputable def FA:Str:= "ValueError: Control characters not allowed in headers"
noncomputable def cS(letters:Str)(c:Nat):Option Str:=match abH letters ⟨#[c]⟩ 0 letters.length 1 with
 |i::_=>some ((toString (i:Int):String):Str)
 |[]=>if decide ((⟨#[c]⟩:Str).cps.toList<(" " :Str).cps.toList)||((⟨#[c]⟩:Str)== "\x7f") then some FA else none
noncomputable def ip(c:Nat):Option Bool:=found gm (aau ⟨#[c]⟩)
noncomputable def fC(ps:List (Str×Str))(c:Nat):Option Str:=if ip c=some true then some (("ValueError: " :Str)++jb) else ia ps ⟨#[c]⟩
theorem FU(x:Str):gp (signs x)=x.cps.toList.zipIdx.map fun p=>V.tup [.int (p.2:Int), .str ⟨#[p.1]⟩]:=by
 unfold gp signs;rw[List.zipIdx_map,aaf];rfl
theorem nk{ρ:aw}{i:Nat}(h:(ρ.map (·.1)).contains i=false): ∀p∈ρ,p.1≠i:=fun p hp e=>by
 rw[aem,decide_eq_false_iff_not] at h;exact h (Z1.mpr ⟨p,hp,e⟩)
theorem Na(B:ai w tk H){ps:List (Str×Str)}{c:Nat}(hc:ip c=some false)(hs:(aau ⟨#[c]⟩).cps.size<2^62)(fw: ∀p∈ps,p.1.length<=5592405):iE w H (l+2) n [] (.ref 270) [] [.hdr (.list (ps.map pv)), .str ⟨#[c]⟩] [] (ostr (fC ps c)) []:=by
 have:fC ps c=ia ps ⟨#[c]⟩:=by unfold fC;rw[if_neg (by rw[hc];simp)]
 rw[this];exact M9 B ⟨by show 1<=_;decide,hs,hc⟩ fw
theorem Mt(B:ai w tk H)(B3:l3 w H){sg:List (Nat×Str)}{letters again:Str}(hl:letters.length<=12)(iQ:sg.length<=100)
 (rL: ∀p∈ig letters again,qr p) (dM: ∀p∈ig letters again,p.1.length<=5592405)
 (BL:JoinOk "" ((sg.filter fun p=> !decide ((p.1:Int)∈dw)).map fun p=>i8 p.1)=true) (mJ:JoinOk "" (sg.map (·.2))=true) (hw:(cB sg).length<=1000)
 (Ck:vc sg=cB sg) (jq: ∀c∈(cB sg).cps.toList,fC (ig letters again) c=cS letters c)
 (rF: ∀c∈(cB sg).cps.toList,(ip c=some true\/ip c=some false)/\(aau ⟨#[c]⟩).cps.size<2^62/\(aau ⟨#[c]⟩).length<=5592405/\c<0x110000)
 (BK: ∀c∈(cB sg).cps.toList,∀i rest,abH letters ⟨#[c]⟩ 0 letters.length 1=i::rest->i<12)
 (pT: ∀c∈(cB sg).cps.toList,∀x,cS letters c=some x->aa6 x=true):
 eI w [] H (l+3) 40 (aJ (ay 33)) [(0, .list ((sg.map fun p=>((⟨#[p.1]⟩:Str),p.2)).map pv)),(1, .str letters),(2, .str again)] [] (aT (ay 33)) (.ret (.list ((cB sg).cps.toList.map fun c=>ostr (cS letters c))) []):=by
 have nd:=V0
 conv at nd=>arg 1;whnf
 conv=>arg 6;whnf
 conv=>arg 9;whnf
 have hlen:letters.cps.toList.zipIdx.length<=12:=by rw[List.length_zipIdx,abr];exact hl
 have BI: ∀p∈letters.cps.toList.zipIdx,p.2<12:=fun p hp=>by
  have:=List.snd_lt_of_mem_zipIdx hp;simp at this;have h2:letters.length=letters.cps.size:=rfl;exact aaa ‹_› ‹_›
 refine oS (aQ 4 (OP B 10 rfl (ae (ah.cast (ag (wC letters.cps.toList.zipIdx (fun p=> .int (p.2:Int)) (fun p=> .str ⟨#[p.1]⟩) (fun p=>pv (if((p.2:Int).fmod 2 !=0) then abA ⟨#[p.1]⟩ else⟨#[p.1]⟩,((toString (p.2:Int):String):Str)))
  (b6 (by kernel_rfl)) (i:=1) (j:=2) rfl rfl (.inl rfl) (.inl rfl) rfl rfl b5 (by rw[<-FU];exact CK (i:=11) B (tI B) rfl (aa 1 nd rfl))
  (fun nd a ha=>bU (ae (mv (f:=V.str) (iC (ag (aa 1 nd rfl) aj (cH (by decide))) oi) (fun z=>gq (uK (by show 1<=_;decide)) (aa 2 nd rfl)) (fun z=>aa 2 nd rfl)) (ae (aR 3 B (mC B) (.ty _) rfl (ae (aa 1 nd rfl) ao) (qP ?ea)) ao)) (show 2<=Z7 by decide)) (ZW hlen (by decide)))
  (dA (ae (bU (ae (aa 2 nd rfl) (ae kC ao)) (show 2<=Z7 by decide)) ao) (show 1<=Z7 by decide)) (j8 ?eb)) (show _=V.list ((ig letters again).map pv) by unfold ig;rw[aaA,aaf];rfl)) ao) (Nf B rL)) rfl) ?_
 case ea=>
  have:=BI a ha;have h3: ∀m<12,((m:Nat):Int).natAbs.log2<1920:=by decide+kernel
  exact h3 _ this
 case eb=>rw[ZQ];show _+1<=2^24;exact ZY ‹_› (by decide)
 have hsz:sg.length<=sizeLine:=ZW iQ (by decide);have BX:(sg.map fun p=>((⟨#[p.1]⟩:Str),p.2)).map pv=sg.map fun p=>V.tup [.str ⟨#[p.1]⟩, .str p.2]:=by rw[aaf];rfl
 have um: ∀v∈sg.map (fun p=>V.tup [.str ⟨#[p.1]⟩, .str p.2]),∃y,v= .tup y:=fun v hv=>by
  obtain⟨p,_,rfl⟩:=Z1.mp hv;exact⟨_,rfl⟩
 rw[BX];refine oS (aQ (v:= .str (cB sg)) 5 (ah.cast (kA (yb BL) kC (ae (ah.cast (OV sg (fun p=> .str ⟨#[p.1]⟩) (fun p=> .str p.2) (fun p=> !decide ((p.1:Int)∈dw)) (fun p=> .str (i8 p.1))
  (b6 (by kernel_rfl)) (i:=1) (j:=2) rfl rfl (.inl rfl) (.inl rfl) rfl rfl b5 (cE (.inr ⟨⟨_,_,_,rfl⟩,um⟩) (aa 0 nd rfl))
  (fun nd a ha=>YF (iC (aR 3 B (Qu B) (NV B) rfl (ae (aa 1 nd rfl) ao) (MZ B)) oh))
  (fun nd a ha z=>aR 4 B (Qv B) (NW B) rfl (ae (aa 1 nd rfl) ao) (M0 B B3)) hsz) (by rw[aaf];rfl)) ao)) (congrArg V.str Ck)) rfl) ?_
 refine MH (i:=6) rfl (.inl rfl) rfl rfl (fun D=> ?_);have fx:(gp (signs (cB sg))).length=(gp (signs (cB sg))).length:=rfl;have S3:(signs (cB sg)).length=(cB sg).cps.toList.length:=by simp[signs]
 have jW:(cB sg).cps.toList.length<=1000:=by rw[abr];exact hw
 have To:Txt.join "" (sg.map (·.2))=cB sg:=rfl;generalize cB sg=word at*;generalize ig letters again=ps at*;refine zx (Pc (items:=signs word)
  (R:=fun k=>[(6, .at D),(5, .str word),(4, .hdr (.list (ps.map pv))),(0, .list (sg.map fun p:Nat×Str=>V.tup [.str ⟨#[p.1]⟩, .str p.2])),(1, .str letters),(2, .str again)])
  (R':=fun k=>[(3,(signs word).getD k default),(6, .at D),(5, .str word),(4, .hdr (.list (ps.map pv))),(0, .list (sg.map fun p:Nat×Str=>V.tup [.str ⟨#[p.1]⟩, .str p.2])),(1, .str letters),(2, .str again)])
  (O:=fun k=>[(D,((word.cps.toList.take k).map fun c=>ostr (fC ps c)))]) (CL bP (aa 5 nd rfl)) (fun p hp=>hp) rfl ?ha ?hb) ?hc
 case ha=>
  intro k v hv;have eT:(signs word).getD k default=v:=by rw[aaG,hv];rfl
  rw[eT];exact m6 3 rfl
 case hb=>
  intro k v hv;obtain⟨c,ic,rfl⟩: ∃c,word.cps.toList[k]?=some c/\v= .str ⟨#[c]⟩:=by
   unfold signs at hv;rw[aal] at hv;cases e:word.cps.toList[k]? with
   |none=>rw[e] at hv;cases hv
   |some c=>rw[e] at hv;cases hv;exact⟨c,rfl,rfl⟩
  have eT:(signs word).getD k default= .str ⟨#[c]⟩:=by rw[aaG,hv];rfl
  rw[eT];have xj:c∈word.cps.toList:=aag ic;obtain⟨q1,q2,q3,q4⟩:=rF c xj;have pV:((word.cps.toList.take (k+1)).map fun c=>ostr (fC ps c))=((word.cps.toList.take k).map fun c=>ostr (fC ps c))++[ostr (fC ps c)]:=by
   rw[ab9,ic,aaA];rfl
  rw[pV];have IY:((word.cps.toList.take k).map fun c=>ostr (fC ps c)).length<=sizeLine:=by
   rw[ZQ,aaU];show _<=2^24;exact "[A1000[BA[B^24" jW (abj _ _)
  rcases q1 with q1|q1
  ·have e:ostr (fC ps c)= .str (("ValueError: " :Str)++jb):=by unfold fC;rw[if_pos q1];rfl
   rw[e];exact EN (zw (Pp (l:=l+1) (n:=39) (v:= .list (ps.map pv)) (nm:=⟨#[c]⟩) (it:=6) (iw:=4) (ie:=7) (iv:=12) (js:=13) B rfl (bw rfl) (aa 4 nd rfl) (aa 3 nd rfl) nd rfl (nk rfl) rfl rfl (by show 1<=_;decide) q1 q2 IY (by decide))) (fun p hp=>ZP _ hp) (aae _)
  ·exact EN (oR (bD (Gf (bD (q0 (i:=6) rfl (bw rfl) (qZ B Iz xU (aa 4 nd rfl) (ae (aa 3 nd rfl) ao) (Na B q1 q2 dM)) IY (by decide) (by decide)))))) (fun p hp=>ZP _ hp) (aae _)
 case hc=>
  rw[S3,show word.cps.toList.take word.cps.toList.length=word.cps.toList from adj];have Tc:(word.cps.toList.map fun c=>ostr (fC ps c))=(word.cps.toList.map fun c=>cS letters c).map ostr:=by
   rw[aaf];exact aa0 fun c hc=>congrArg ostr (jq c hc)
  have Td:(word.cps.toList.map fun c=>ostr (cS letters c))=(word.cps.toList.map fun c=>cS letters c).map ostr:=by rw[aaf];rfl
  rw[Tc,Td];refine oR (aH (aQ (v:= .str word) 8 (ah.cast (kA (yb mJ) kC (ae (ah.cast (wC sg (fun p=> .str ⟨#[p.1]⟩) (fun p=> .str p.2) (fun p=> .str p.2)
   (b6 (by kernel_rfl)) (i:=1) (j:=2) rfl rfl (.inl rfl) (.inl rfl) rfl rfl b5 (cE (.inr ⟨⟨_,_,_,rfl⟩,um⟩) (aa 0 nd rfl))
   (fun nd a ha=>aa 2 nd rfl) hsz) (by rw[aaf];rfl)) ao)) (congrArg V.str To)) rfl) ?_)
  refine oQ (i:=6) (bw rfl) ?_;have Cm:word.cps.toList.length<=sizeLine:=ZW jW (by decide);refine aH (wJ (j:=9) word.cps.toList (fun c=> .str ⟨#[c]⟩) (fun c=>ostr (cS letters c)) (b6 (by kernel_rfl)) (i:=1) rfl (.inl rfl) rfl (bJ 3 1 rfl rfl rfl b5)
   (CL bP (aa 8 nd rfl)) (fun nd c hc=> ?ga) Cm rfl rfl) ?gz
  case gz=>
   rw[show(word.cps.toList.map fun c=>ostr (cS letters c))=(word.cps.toList.map fun c=>cS letters c).map ostr by rw[aaf];rfl];refine bZ (kx (aM.cast (aF (bU (ae (aa 5 nd rfl) (ae (aa 6 nd rfl) ao)) (show 2<=Z7 by decide)) (bU (ae (aa 8 nd rfl) (ae (aa 9 nd rfl) ao)) (show 2<=Z7 by decide))
    (gW (a:=(word,word.cps.toList.map fun c=>cS letters c)) (b:=(word,word.cps.toList.map fun c=>cS letters c)) (bu.pair bu.str bu.ostr.list) (by decide) ?gb ?gb)) (decide_eq_true rfl)) (aa 6 nd rfl))
   case gb=>
    refine⟨?_,fun x hx=> ?_⟩
    ·show word.cps.all (· <0x110000)=true
     rw[<-Array.all_toList,Z3];exact fun c hc=>decide_eq_true (rF c hc).2.2.2
    ·obtain⟨c,hc,rfl⟩:=Z1.mp hx
     exact pT c hc
  case ga=>
   cases ho:abH letters ⟨#[c]⟩ 0 letters.length 1 with
   |cons i rest=>
    have e:cS letters c=some ((toString (i:Int):String):Str):=by unfold cS;rw[ho]
    rw[e];have hi:((i:Int)).natAbs.log2<1920:=by
     have:=BK c hc i rest ho;have h3: ∀m<12,((m:Nat):Int).natAbs.log2<1920:=by decide+kernel
     exact h3 _ this
    exact kx (aM.cast (aF (aa 1 nd rfl) (aa 3 nd rfl) ER) (by rw[ho];rfl)) (aR 2 B (mC B) (.ty _) rfl (ae (kA (Vt ho) (aa 3 nd rfl) (ae (aa 1 nd rfl) ao)) ao) (qP hi))
   |nil=>
    have e:cS letters c=if decide ((⟨#[c]⟩:Str).cps.toList<(" " :Str).cps.toList)||((⟨#[c]⟩:Str)== "\x7f") then some FA else none:=by unfold cS;rw[ho]
    rw[e];exact pe (aM.cast (aF (aa 1 nd rfl) (aa 3 nd rfl) ER) (by rw[ho];rfl)) (mv (f:=ostr) (aM.cast (f9 (aF (aa 1 nd rfl) kC MW) fun z=>f9 (aF (aa 1 nd rfl) kC s9) fun z=>qC) (by rw[Bool.or_false])) (fun z=>kC) (fun z=>en))
theorem Nq(B:ai w tk H)(B3:l3 w H){sg:List (Nat×Str)}{letters again:Str}(hl:letters.length<=12)(iQ:sg.length<=100)
 (rL: ∀p∈ig letters again,qr p) (dM: ∀p∈ig letters again,p.1.length<=5592405)
 (BL:JoinOk "" ((sg.filter fun p=> !decide ((p.1:Int)∈dw)).map fun p=>i8 p.1)=true) (mJ:JoinOk "" (sg.map (·.2))=true) (hw:(cB sg).length<=1000)
 (Ck:vc sg=cB sg) (jq: ∀c∈(cB sg).cps.toList,fC (ig letters again) c=cS letters c)
 (rF: ∀c∈(cB sg).cps.toList,(ip c=some true\/ip c=some false)/\(aau ⟨#[c]⟩).cps.size<2^62/\(aau ⟨#[c]⟩).length<=5592405/\c<0x110000)
 (BK: ∀c∈(cB sg).cps.toList,∀i rest,abH letters ⟨#[c]⟩ 0 letters.length 1=i::rest->i<12)
 (pT: ∀c∈(cB sg).cps.toList,∀x,cS letters c=some x->aa6 x=true):
 sR w H (l+4) n (.ref 349) [.list ((sg.map fun p=>((⟨#[p.1]⟩:Str),p.2)).map pv), .str letters, .str again] (.list ((cB sg).cps.toList.map fun c=>ostr (cS letters c))):=
 EU B (Ha B) L1 rfl (Mt B B3 hl iQ rL dM BL mJ hw Ck jq rF BK pT)
noncomputable def jg(x:Int):List Int->List Int
 |[]=>[]
 |b::bs=>x.fmod b::jg (x.fdiv b) bs
theorem PH(x b:Int)(bs:List Int):jg x (b::bs)=x.fmod b::jg (x.fdiv b) bs:=rfl
noncomputable def vI(b:Int):Prop:=b≠0/\b.natAbs.log2<9000
theorem DG{bs:List Int}(h:(bs.all fun b=>b !=0&&decide (b.natAbs.log2<9000))=true): ∀b∈bs,vI b:=fun b hb=>by
 have:=Z3.mp h b hb
 simpa [vI] using this
theorem PI: ∀(x:Int) (bs:List Int),(jg x bs).length=bs.length:=by
 intro x rr
 induction rr generalizing x with
 |nil=>exact rfl
 |cons b bs ih=>exact by simp[PH,ih]
theorem Ks{k:Nat}:ad2 0 (k+1)=some 0:=by
 simp[ad2]
theorem Mp{x:Int}:aD w [] H l 40 (aJ (ay 30)) [(0, .int x),(1,lq [])] [] (aT (ay 30)) (.ret (aO []) []):=by
 have nd:=JF
 conv at nd=>arg 1;whnf
 conv=>arg 6;whnf
 conv=>arg 9;whnf
 exact bZ (kx (aF (aa 1 nd rfl) (bU ao (by decide)) (gW (a:=[]) (b:=[]) Af (by decide) bR bR)) (dA ao (by decide)))
theorem Mq(B:ai w tk H){x b:Int}{bs:List Int}(hs:bs.length<100)(hb:vI b)(hr: ∀n,aU w H l n (.ref 334) [.int (x.fdiv b),lq bs] (aO (jg (x.fdiv b) bs))):aD w [] H l 40 (aJ (ay 30)) [(0, .int x),(1,lq (b::bs))] [] (aT (ay 30)) (.ret (aO (jg x (b::bs))) []):=by
 have nd:=JF
 conv at nd=>arg 1;whnf
 conv=>arg 6;whnf
 conv=>arg 9;whnf
 have h1:(jg (x.fdiv b) bs).length=bs.length:=PI _ _;exact bZ (pe (aF (aa 1 nd rfl) (bU ao (by decide)) (gW (a:=b::bs) (b:=[]) Af (by decide) bR bR))
  (ag (dA (ae (ag (aa 0 nd rfl) (cZ (aa 1 nd rfl) aj (by decide) (by decide) (j:=0) Ks rfl) (cH hb.1)) ao) (eE rfl))
   (aR 2 B (wY B) (v9 B) rfl (ae (ag (aa 0 nd rfl) (cZ (aa 1 nd rfl) aj (by decide) (by decide) (j:=0) Ks rfl) (n7 hb.1 (acE hb.2))) (ae (O4 (a:=1) (aa 1 nd rfl) aj (by decide) (by simp) (by show _<=2^24;simp;exact "<A100[A16777215" hs)) ao)) (hr _))
   (j8 (by show _<=2^24;simp;exact "<A100=BA[+1B16777216" hs h1))))
theorem zN(B:ai w tk H): ∀(bs:List Int) (x:Int) (l n:Nat),bs.length<100->(∀b∈bs,vI b)->aU w H (l+bs.length+1) n (.ref 334) [.int x,lq bs] (aO (jg x bs)):=by
 intro rr
 induction rr with
 |nil=>
  exact fun x l n z z=>dy B (AJ B) Ex rfl Mp
 |cons b bs ih=>
  exact fun x l n hl hb=>dy B (AJ B) Ex rfl (Mq B (by simp at hl;exact Nat.lt_of_succ_lt ‹_›) (hb b ZR) fun n=>ih _ l n (by simp at hl;exact Nat.lt_of_succ_lt ‹_›) fun c hc=>hb c (ZP _ hc))
noncomputable def n9(size kind p q u v ahead moved free:Int):List Int:=
 let drawn:=if kind==1 then(((aS 0 (p+1)).flatMap fun j=>(aS 0 (q+1)).map fun k=>j*u+k*v).drop 1++[if decide (moved<size) then moved else 0]) else 0::(aS 0 12).filter fun place=>acK (free.fdiv (2^place.toNat)) 1 !=0
 let places:=drawn.map fun one=>(one+ahead).fmod size
 (aS 0 size).filter fun place=>decide (place∈places)
theorem Mr(B:ai w tk H){x size kind p q u v ahead moved free:Int}(h0:8<=size)(h1:size<=12)(hp:0<=p/\p<3)(hq:0<=q/\q<3)(hu:0<=u/\u<12)(hv:0<=v/\v<12)
 (hr: ∀n,aU w H l n (.ref 334) [.int x,lq [2,3,3,12,12,12,24,4096]] (aO [kind,p,q,u,v,ahead,moved,free])):aD w [] H l 40 (aJ (ay 31)) [(0, .int x),(1, .int size)] [] (aT (ay 31)) (.ret (aO (n9 size kind p q u v ahead moved free)) []):=by
 have nd:=VY
 conv at nd=>arg 1;whnf
 conv=>arg 6;whnf
 conv=>arg 9;whnf
 have hlen:((aS 0 (p+1)).flatMap fun j=>(aS 0 (q+1)).map fun k=>V.int (j*u+k*v)).length<=9:=by
  rw[List.length_flatMap];simp only[ZQ,fb];have h1:(p+1 -0).toNat<=3:=by(simp at*;exact(aej ‹_›))
  have h2:(q+1 -0).toNat<=3:=by(simp at*;exact(aej ‹_›))
  rw[List.map_const',List.sum_replicate_nat,fb];exact Nat.mul_le_mul h1 h2
 have hsz:((aS 0 (p+1)).flatMap fun j=>(aS 0 (q+1)).map fun k=>V.int (j*u+k*v)).length<=sizeLine:=ZW hlen (by decide);have H8:cm ((aS 0 (p+1)).flatMap fun j=>(aS 0 (q+1)).map fun k=>V.int (j*u+k*v)) (some 1) none none=((aS 0 (p+1)).flatMap fun j=>(aS 0 (q+1)).map fun k=>V.int (j*u+k*v)).drop 1:=sf _ 1
 have Ta:(cm ((aS 0 (p+1)).flatMap fun j=>(aS 0 (q+1)).map fun k=>V.int (j*u+k*v)) (some 1) none none).length+[V.int (if decide (moved<size) then moved else 0)].length<=sizeLine:=by
  rw[H8,abk,List.length_singleton];show _<=2^24;(simp at*;trivial)
 have uo:V.list (cm ((aS 0 (p+1)).flatMap fun j=>(aS 0 (q+1)).map fun k=>V.int (j*u+k*v)) (some 1) none none++[V.int (if decide (moved<size) then moved else 0)])=aO (((aS 0 (p+1)).flatMap fun j=>(aS 0 (q+1)).map fun k=>j*u+k*v).drop 1++[if decide (moved<size) then moved else 0]):=by
  rw[H8];unfold aO;rw[aaA,aeA,aes];simp[aaf,aaF]
 refine aH (je (aR 12 B (wY B) (v9 B) rfl (ae (aa 0 nd rfl) (ae (bU (ae aj (ae aj (ae aj (ae aj (ae aj (ae aj (ae aj (ae aj ao)))))))) (by decide)) ao)) (hr _)) rfl
  (bz 2 rfl (bz 3 rfl (bz 4 rfl (bz 5 rfl (bz 6 rfl (bz 7 rfl (bz 8 rfl (bz 9 rfl eF)))))))) rfl rfl) ?_
 refine aH (aQ 10 (ag (dA (ae aj ao) (by decide)) (g0 (aS 0 12) V.int (fun place=>acK (free.fdiv (2^place.toNat)) 1 !=0) V.int (b6 (by kernel_rfl)) (i:=1) rfl (.inl rfl) rfl (bJ 2 9 rfl rfl rfl b5)
  (lT B (g9 B) (i:=13) rfl bP aj (by decide) (by decide))
  (fun nd a ha=>iC (ag (ag (aa 2 nd rfl) (aa 1 nd rfl) (ql (fc.mp ha).1)) aj JS) oi)
  (fun nd a ha z=>aa 1 nd rfl) (by decide)) (j8 (ZW (Nat.add_le_add_left (XW (by rw[fb];exact aab _)) _) (by decide)))) rfl) ?_
 refine aH (pf (i:=10) (f:=aO) (x:=((aS 0 (p+1)).flatMap fun j=>(aS 0 (q+1)).map fun k=>j*u+k*v).drop 1++[if decide (moved<size) then moved else 0]) (y:=0::(aS 0 12).filter fun place=>acK (free.fdiv (2^place.toNat)) 1 !=0) (aF (aa 2 nd rfl) aj cJ) (fun z=> ?_) (fun z=>zF fun p hp=>hp)) ?_
 ·refine aH (wK (aS 0 (p+1)) V.int (fun j=>(aS 0 (q+1)).map fun k=>V.int (j*u+k*v)) (b6 (by kernel_rfl)) (fun g hg=>by cases hg;rfl) (i:=1) (j:=10) rfl (.inl rfl) rfl (bJ 4 4 rfl rfl rfl (bJ 5 5 rfl rfl rfl (bJ 6 6 rfl rfl rfl b5)))
   (lT B (g9 B) (i:=13) rfl bP (ag (aa 3 nd rfl) aj ck) (by exact "]0a]~^62+a1" hp.1) (by exact ">a3>+a1^62" hp.2)) (fun nd a ha=>FO (aS 0 (q+1)) V.int (fun k=>V.int (a*u+k*v)) rfl rfl (i:=2) rfl (.inl rfl) rfl
    (lT B (g9 B) (i:=3) rfl bP (ag (aa 4 nd rfl) aj ck) (by exact "]0a]~^62+a1" hq.1) (by exact ">a3>+a1^62" hq.2))
    (fun b hb=>ag (ag (aa 1 nd rfl) (aa 5 nd rfl) (d5 (iW (by have:=fc.mp ha;exact "]0a]~^63a" this.1) (by have:=fc.mp ha;exact ">a3>b+a1>b^63" hp.2 this.2)))) (ag (aa 2 nd rfl) (aa 6 nd rfl) (d5 (iW (by have:=fc.mp hb;exact "]0a]~^63a" this.1) (by have:=fc.mp hb;exact ">a3>b+a1>b^63" hq.2 this.2)))) ck)) hsz rfl rfl) ?_
  exact bD (aQ 10 (ah.cast (ag (O2 (aa 10 nd rfl) (.some aj) .none .none (by decide) hsz) (dA (ae (mv (f:=V.int) (aF (aa 8 nd rfl) (aa 1 nd rfl) oU) (fun z=>aa 8 nd rfl) (fun z=>aj)) ao) (eE rfl)) (j8 Ta)) uo) rfl)
 unfold n9;dsimp only;have hX:(if(kind==1)=true then List.drop 1 ((aS 0 (p+1)).flatMap fun j=>(aS 0 (q+1)).map fun k=>j*u+k*v)++[if decide (moved<size)=true then moved else 0] else 0::(aS 0 12).filter fun place=>acK (free.fdiv (2^place.toNat)) 1 !=0).length<=sizeLine:=by
  split
  ·rw[aap,abk,List.length_singleton]
   have:=hlen;rw[List.length_flatMap] at this⊢;simp only[ZQ] at this⊢;show _<=2^24;exact "[A9[BA[+B1^24" this (ad5 _ _)
  ·rw[aaY]
   have:=aaE (fun place:Int=>acK (free.fdiv (2^place.toNat)) 1 !=0) (aS 0 12);rw[fb] at this;show _<=2^24;exact ZY ‹_› (by decide)
 revert hX;generalize (if(kind==1)=true then List.drop 1 ((aS 0 (p+1)).flatMap fun j=>(aS 0 (q+1)).map fun k=>j*u+k*v)++[if decide (moved<size)=true then moved else 0] else 0::(aS 0 12).filter fun place=>acK (free.fdiv (2^place.toNat)) 1 !=0)=drawn;intro hX
 refine aH (aQ 11 (ah.cast (jc drawn V.int (fun one=>V.int ((one+ahead).fmod size)) (b6 (by kernel_rfl)) (i:=1) rfl (.inl rfl) rfl (bJ 2 7 rfl rfl rfl (bJ 3 1 rfl rfl rfl b5)) (cE (.inl bP) (aa 10 nd rfl))
  (fun nd a ha=>ag (ag (aa 1 nd rfl) (aa 2 nd rfl) ck) (aa 3 nd rfl) (cH (by exact "]8a!#a0" h0))) hX) (show _=aO (drawn.map fun one=>(one+ahead).fmod size) by simp[aO,aaf,aaF])) rfl (hs:=rfl)) ?_
 exact bZ (g0 (aS 0 size) V.int (fun place=>decide (place∈drawn.map fun one=>(one+ahead).fmod size)) V.int (b6 (by kernel_rfl)) (i:=1) rfl (.inl rfl) rfl (bJ 2 11 rfl rfl rfl b5)
  (lT B (g9 B) (i:=13) rfl bP (aa 1 nd rfl) (by exact "]8a]~^62a" h0) (by exact acf ‹_› (by decide))) (fun nd a ha=>aF (aa 1 nd rfl) (aa 2 nd rfl) (vZ bu.int (by decide) trivial bR)) (fun nd a ha z=>aa 1 nd rfl) (by rw[fb];show _<=2^24;exact "]a12#'A-a0[A^24" h1 (ZV ("]8a]0-a0" h0))))
noncomputable def J2:List Int:=[2,3,3,12,12,12,24,4096]
noncomputable def qt(x size:Int):List Int:=match jg x J2 with
 |[kind,p,q,u,v,ahead,moved,free]=>n9 size kind p q u v ahead moved free
 |_=>[]
theorem cj{a b:Int}(h:0<b):0<=a.fmod b/\a.fmod b<b:=⟨Int.fmod_nonneg_of_pos a h,Int.fmod_lt_of_pos a h⟩
theorem Np(B:ai w tk H){x size:Int}(h0:8<=size)(h1:size<=12):aU w H (l+10) n (.ref 339) [.int x, .int size] (aO (qt x size)):=
 dy B (G8 B) LZ rfl (Mr B h0 h1 (cj (by decide)) (cj (by decide)) (cj (by decide)) (cj (by decide)) fun n=>zN B J2 x l n (by decide) (DG (by decide+kernel)))
noncomputable def w9:List Int:=[0,1,2,4,7,8,9,10,11,12]
noncomputable def iU:List Int:=[0,9,31,127,32,172,174,846,848,6149,6151,6154,6158,8202,8206,8287,8289,65023,65040,65278,65280]
noncomputable def cV:List (Int×Str):=[(64257,"fi"),(64258,"fl"),(64262,"st"),(13259,"hp"),(13184,"pa"),(13187,"ma"),(13188,"ka"),(13246,"kw"),(13245,"mw"),(13277,"wb"),(13189,"kb"),(13190,"mb"),(13262,"km"),(8482,"tm"),(8480,"sm"),(13271,"ph")]
noncomputable def DU:List Int:=[12,2,28,12,42,65536,248832]
noncomputable def tK(gw:Int):Int:=w9.getD (if gw<2 then gw.toNat+8 else gw.toNat -2) 0
noncomputable def Hx(gw:Int)(c:Nat):Str:=⟨#[(119808+52*tK gw+(c:Int).fmod 32 -1).toNat]⟩
noncomputable def mY(gw:Int)(c:Nat):Str:=if gw==0||(dG cV c).isSome then⟨#[c]⟩ else if gw==1 then abA ⟨#[c]⟩ else Hx gw c
noncomputable def mB(dress:Int)(k:Nat):Int:=(dress.fdiv (12^(k % 5))).fmod 12
noncomputable def mZ(dress:Int)(c k:Nat):Str×Str:=(mY (mB dress k) c,(dG cV c).getD ⟨#[c]⟩)
noncomputable def eH(chosen:Int)(w0:Str):Nat->Str
 |0=>w0
 |k+1=>if acK (chosen.fdiv (2^k)) 1 !=0 then aea (eH chosen w0 k) (cV.getD k default).2 ⟨#[(cV.getD k default).1.toNat]⟩ else eH chosen w0 k
noncomputable def bQ(letters:Str)(p:Int):Str:=⟨#[letters.cps.getD p.toNat 0]⟩
noncomputable def cM(az:List Int)(first back:Int):List Int:=
 let places:=((az++az).drop (first.fmod az.length).toNat).take az.length
 if back==1 then places.reverse else places
noncomputable def fk(letters:Str)(places:List Int):Str:=Txt.join "" (places.map (bQ letters))
noncomputable def k0(strewn mark:Int):List (Str×Str):=((dw.drop strewn.toNat).take 1).map (fun c=>(⟨#[c.toNat]⟩,(("" :Str))))++((iU.drop mark.toNat).take 1).map fun c=>(⟨#[c.toNat]⟩,⟨#[c.toNat]⟩)
noncomputable def fj(dress:Int)(word:Str):List (Str×Str):=word.cps.toList.zipIdx.map fun p=>mZ dress p.1 p.2
noncomputable def i4(az:List Int)(letters:Str)(first back strewn spot mark chosen dress:Int):List (Str×Str):=
 let word:=eH chosen (fk letters (cM az first back)) 16
 let typed:=fj dress word
 typed.take spot.toNat++k0 strewn mark++typed.drop spot.toNat
noncomputable def vt(az:List Int)(letters:Str)(x:Int):List (Str×Str):=match jg x DU with
 |[first,back,strewn,spot,mark,chosen,dress]=>i4 az letters first back strewn spot mark chosen dress
 |_=>[]
theorem DY(chosen:Int)(w0:Str): ∀k,k<=16->(eH chosen w0 k).length<=w0.length:=by
 intro rr
 induction rr with
 |zero=>
  exact fun z=>aab _
 |succ k ih=>
  exact fun h=>by
   unfold eH;split
   ·refine ZW (Xn ?_) (ih (by exact abq ‹_›))
    have: ∀k<16,(cV.getD k default).2.length=2:=by decide+kernel
    rw[this k (by trivial)];show 1<=2;decide
   ·exact ih (by exact abq ‹_›)
theorem CO{texts:List Str}{b:Nat}(h: ∀y∈texts,y.length<=b)(hl:texts.length*b<=16777216):JoinOk "" texts=true:=by
 unfold JoinOk;rw[StrLaws.joinTotal,show("" :Str).length=0 from rfl,Nat.mul_zero,adw];have:=StrLaws.sumLen_le texts h;unfold Builtin.Str.tooLong;have e:Z7=16777216:=sizeLine_eq;simp only[abR,decide_eq_false_iff_not];exact "[A16777216[BA;1=C16777216!<CB" hl this e
theorem wQ(k b:Nat):(k:Int).fmod (b:Int)=((k % b:Nat):Int):=by
 rw[aco _ (Z0 b)];rfl
theorem WE: ∀k<16,dG cV (cV.getD k default).1=some (cV.getD k default).2/\0<=(cV.getD k default).1/\(cV.getD k default).1<=1114111/\((cV.getD k default).2==(⟨#[(cV.getD k default).1.toNat]⟩:Str))=false:=by decide+kernel
theorem QG: ∀f<12,ad2 ((f:Nat) -2:Int) 10=some (if(f:Int)<2 then(f:Int).toNat+8 else(f:Int).toNat -2)/\w9[if(f:Int)<2 then(f:Int).toNat+8 else(f:Int).toNat -2]?=some (tK f)/\0<=tK f/\tK f<=12:=by decide+kernel
theorem YJ{dress:Int}{word:Str}{k:Nat}{v:V}(h:(signs word)[k]?=some v): ∃c,v= .str ⟨#[c]⟩/\(fj dress word)[k]?=some (mZ dress c k):=by
 unfold signs at h;unfold fj;rw[aal] at h;rw[aal,List.getElem?_zipIdx];cases e:word.cps.toList[k]? with
 |none=>rw[e] at h;cases h
 |some c=>rw[e] at h;cases h;exact⟨c,rfl,by simp⟩
noncomputable def sS(vp:V)(dress chosen mark spot strewn back first:Int)(d:Obj)(az:List Int)(letters:Str)(x:Int):aw:=[(13,vp),(12, .int dress),(11, .int chosen),(10, .int mark),(9, .int spot),(8, .int strewn),(7, .int back),(6, .int first),(5, .obj d),(4,aO iU),(3,aO dw),(0,aO az),(1, .str letters),(2, .int x)]
theorem Ms(B:ai w tk H){az:List Int}{letters:Str}{x first back strewn spot mark chosen dress:Int}(iP:az≠[])(rJ:az.length<=12)(dY: ∀p∈az,0<=p/\p<letters.length)(hl:letters.length<=12)
 (h0:0<=first) (h1:0<=strewn/\strewn<28) (h2:0<=spot/\spot<12) (h3:0<=mark/\mark<42)
 (hr: ∀n,aU w H l n (.ref 334) [.int x,lq DU] (aO [first,back,strewn,spot,mark,chosen,dress])):
 aD w [] H l 40 (aJ (ay 32)) [(0,aO az),(1, .str letters),(2, .int x)] [] (aT (ay 32)) (.ret (.list ((i4 az letters first back strewn spot mark chosen dress).map pv)) []):=by
 have nd:=VZ
 conv at nd=>arg 1;whnf
 conv=>arg 6;whnf
 conv=>arg 9;whnf
 refine aH (aQ 3 (ag (dA (An (xs:=dw.take 11) (by kernel_rfl)) (by decide)) (OW (i:=23) (j:=24) B (AP B) (g9 B) rfl rfl aj aj (by decide) (by decide) (by decide) (by decide) (by decide)) (j8 (by decide+kernel))) rfl) ?_;refine aH (aQ 4 (dA (An (xs:=iU) (by kernel_rfl)) (by decide)) rfl) ?_;refine MB (ps:=cV) B 5 rfl (by decide+kernel) rfl rfl (fun d N D=> ?_)
 refine zG (je (aR 25 B (wY B) (v9 B) rfl (ae (aa 2 nd rfl) (ae (bU (ae aj (ae aj (ae aj (ae aj (ae aj (ae aj (ae (ah.cast (ag aj aj (j9 (by decide) (by decide))) (show _=V.int 248832 from congrArg V.int (by decide))) ao))))))) (by decide)) ao)) (hr _)) rfl
  (bz 6 rfl (bz 7 rfl (bz 8 rfl (bz 9 rfl (bz 10 rfl (bz 11 rfl (bz 12 rfl eF))))))) rfl rfl) ?_
 have dM:az.length<2^62:=by exact "[A12<A^62" rJ
 have IL:(az.length:Int)≠0:=by have:=acu.mpr iP;exact "<0A!#'A0" this
 have dK:=cj (a:=first) (b:=az.length) (by exact(aeT IL).elim (fun x2=> ">'A0:0>0'A" x2) (fun x2=>x2));have S6:cm (cm ((az++az).map V.int) (some (first.fmod az.length)) none none) none (some (az.length:Int)) none=(((az++az).drop (first.fmod az.length).toNat).take az.length).map V.int:=by
  obtain⟨m,hm⟩: ∃m:Nat,first.fmod az.length=m:=⟨(first.fmod az.length).toNat,by exact(ZV (adn ‹_›)).symm⟩;rw[hm,sf,yo,List.map_take,aeA];rfl
 refine zG (aQ 13 (ah.cast (kB (kB (ah.cast (ag (aa 0 nd rfl) (aa 0 nd rfl) (j8 (by simp only[ZQ];show _<=2^24;exact ":2[A12[+AA^24" rJ))) (show _=V.list ((az++az).map V.int) by rw[aaA])) (.some (ag (aa 6 nd rfl) (aR 26 B (g8 B) (.bi _) rfl (ae (aa 0 nd rfl) ao) (aU.cast (i9 (by simpa using dM)) (show _=V.int az.length by simp))) (cH IL))) .none .none (fun h=>nomatch h) (by simp only[ZQ,aap];show _<=2^24;exact ":2[A12[+AA^24" rJ)) .none (.some (aR 26 B (g8 B) (.bi _) rfl (ae (aa 0 nd rfl) ao) (aU.cast (i9 (by simpa using dM)) (show _=V.int az.length by simp)))) .none (fun h=>nomatch h) ?ea) (congrArg V.list S6)) rfl) ?_
 case ea=>
  obtain⟨m,hm⟩: ∃m:Nat,first.fmod az.length=m:=⟨(first.fmod az.length).toNat,by exact(ZV (adn ‹_›)).symm⟩;rw[hm,sf,abk,ZQ,aap];show _<=2^24;exact ":2[A12=+BC+AA[B^24" rJ (ZM (":2>a'A;2#a'B[B+AA" dK.2 hm))
 have Iq:(((az++az).drop (first.fmod az.length).toNat).take az.length).length<=12:=by rw[aaU];exact ZW (abD _ _) ‹_›
 have IB: ∀p∈((az++az).drop (first.fmod az.length).toNat).take az.length,p∈az:=fun p hp=>by
  have:=abx (abl hp)
  simpa using this
 have SK:(if back==1 then(((az++az).drop (first.fmod az.length).toNat).take az.length).reverse else(((az++az).drop (first.fmod az.length).toNat).take az.length))=cM az first back:=rfl;have Ir:(cM az first back).length<=12:=by unfold cM;dsimp only;split<;>simpa using Iq
 have BW: ∀p∈cM az first back,p∈az:=fun p hp=>by
  unfold cM at hp;dsimp only at hp;split at hp
  ·exact IB p (List.mem_reverse.mp hp)
  ·exact IB p hp
 have Co:(cM az first back).length<=sizeLine:=ZW Ir (by decide);have hj:JoinOk "" ((cM az first back).map (bQ letters))=true:=by
  refine CO (b:=1) (fun y hy=> ?_) (by rw[ZQ];omega);obtain⟨p,_,rfl⟩:=Z1.mp hy;exact aab 1
 refine zG (aQ 14 (kA (yb hj) kC (ae (ah.cast (jc (cM az first back) V.int (fun p=> .str (bQ letters p)) (b6 (by kernel_rfl)) (i:=1) rfl (.inl rfl) rfl (bJ 2 1 rfl rfl rfl b5)
  (cE (.inl bP) (ah.cast (mv (f:=aO) (aF (aa 7 nd rfl) aj cJ) (fun u=>ah.cast (kB (c:=some (-1)) (aa 13 nd rfl) .none .none (.some (jR aj mV)) (by decide) (by simpa using ZW Iq (by decide:12<=Z7))) (by rw[WQ,<-List.map_reverse];rfl)) (fun u=>aa 13 nd rfl)) (by rw[<-SK];rfl)))
  (fun nd a ha=>Am (aa 2 nd rfl) (aa 1 nd rfl) (dY a (BW a ha)).1 ?eb ?ec) Co) ?ed) ao)) rfl) ?_
 case eb=>have:=(dY a (BW a ha)).2;exact "[A12>a'A>a^62" hl this
 case ec=>
  have:=(dY a (BW a ha));have h5:a.toNat<letters.cps.size:=by show _<letters.length;exact ">a'A#'Ba<BA" this.2 (ZV (this.1))
  rw[acw h5];simp[Array.getD,h5]
 case ed=>rw[aaf];rfl
 have jV:(fk letters (cM az first back)).length<=12:=by
  show(acO "" ((cM az first back).map (bQ letters))).length<=12
  rw[size_glued];have h6:=StrLaws.sumLen_le (B:=1) ((cM az first back).map (bQ letters)) (fun y hy=>by
   obtain⟨p,_,rfl⟩:=Z1.mp hy;exact aab 1)
  rw[ZQ] at h6;rw[show("" :Str).length=0 from rfl];exact "[A12[B%A1[+B%C0_12" Ir h6
 obtain⟨ents,ep,rfl,xv⟩:=D.keys
 change gT N w [] H l 40 _ ((14, .str (fk letters (cM az first back)))::sS (aO (((az++az).drop (first.fmod az.length).toNat).take az.length)) dress chosen mark spot strewn back first (d9 ents ep) az letters x) [] _ _
 have hG:i4 az letters first back strewn spot mark chosen dress=(fj dress (eH chosen (fk letters (cM az first back)) 16)).take spot.toNat++k0 strewn mark++(fj dress (eH chosen (fk letters (cM az first back)) 16)).drop spot.toNat:=rfl;rw[hG];clear hG;generalize fk letters (cM az first back)=w0 at jV;have Se:(gp ((cV.map (·.1)).map V.int)).length=16:=by rw[wy];rfl
 generalize aO (((az++az).drop (first.fmod az.length).toNat).take az.length)=vp;refine zy (Pe Se
  (R:=fun k=>(14, .str (eH chosen w0 k))::sS vp dress chosen mark spot strewn back first (d9 ents ep) az letters x)
  (R':=fun k=>(16, .int (cV.getD k default).1)::(15, .int k)::(14, .str (eH chosen w0 k))::sS vp dress chosen mark spot strewn back first (d9 ents ep) az letters x)
  (O:=fun u=>[]) (Uj (i:=27) B (tI B) (by exact rfl) (aa 5 nd rfl) xv) (fun p hp=>hp) rfl ?ha ?hb) ?hc
 case ha=>
  intro k v hv;obtain⟨z,hz,rfl⟩:=qX hv;rw[aal,aal] at hz;have eT:z= .int (cV.getD k default).1:=by
   rw[aaG];cases e:cV[k]? with
   |none=>rw[e] at hz;cases hz
   |some q=>rw[e] at hz;cases hz;rfl
  subst eT;exact m7 rfl (bz 15 rfl (bz 16 rfl eF))
 case hb=>
  intro k v hv;have hk:k<16:=by have:=(aa2.mp hv).1;trivial
  obtain⟨q1,q2,q3,q4⟩:=WE k hk;refine MK (My (Pa 14 (OT (f:=V.str) (iC (ag (ag (aa 11 nd rfl) (aa 15 nd rfl) (ql (Z0 k))) aj JS) oi) (fun u=>O1 (i:=28) B D (aa 14 nd rfl) (aa 5 nd rfl) (aa 16 nd rfl) (aa 16 nd rfl) rfl q1 q2 q3 q4 ?hl) (fun u=>OY (aa 14 nd rfl))) rfl)) ?hm (aae _)
  case hl=>have:=DY chosen w0 k (by exact abq ‹_›);exact ":2[A12:2[BA[+B+B1_16777216" jV this
  case hm=>
   intro p hp;rcases ZU.mp hp with h|h
   ·exact h▸ZR
   ·exact ZP _ (ZP _ (ZP _ h))
 case hc=>
  have jW:=ZW (DY chosen w0 16 (aab _)) jV;generalize eH chosen w0 16=word at jW;refine EM (vX (i:=17) rfl (.inl rfl) rfl rfl (fun a=> ?_));have Iu:(gp (signs word)).length=word.length:=by rw[wy];simp[signs];rfl
  have jt:(fj dress word).length=word.length:=by simp[fj];rfl
  refine aH (wH Iu
   (R:=fun k=>(17, .at a)::(14, .str word)::sS vp dress chosen mark spot strewn back first (d9 ents ep) az letters x)
   (R':=fun k=>(18,(signs word).getD k default)::(15, .int k)::(17, .at a)::(14, .str word)::sS vp dress chosen mark spot strewn back first (d9 ents ep) az letters x)
   (O:=fun k=>[(a,((fj dress word).take k).map pv)]) (CK (i:=27) B (tI B) (by exact rfl) (aa 14 nd rfl)) (fun p hp=>hp) rfl ?hd ?he) ?hf
  case hd=>
   intro k v hv;obtain⟨z,hz,rfl⟩:=qX hv;have eT:(signs word).getD k default=z:=by rw[aaG,hz];rfl
   rw[eT];exact m7 rfl (bz 15 rfl (bz 18 rfl eF))
  case he=>
   intro k v hv;obtain⟨z,hz,rfl⟩:=qX hv;obtain⟨c,rfl,Cq⟩:=YJ (dress:=dress) hz;have eT:(signs word).getD k default= .str ⟨#[c]⟩:=by rw[aaG,hz];rfl
   rw[eT];have hk:k<word.length:=by have:=(aa2.mp hv).1;exact "=AB<CA<CB" Iu this
   have pV:((fj dress word).take (k+1)).map pv=((fj dress word).take k).map pv++[pv (mZ dress c k)]:=by
    rw[ab9,Cq,aaA];rfl
   rw[pV];have R4:k % 5<5:=aaR _ (by decide);have pR: ∀m:Nat,m<5->((12:Int)^m)≠0/\((12:Int)^m).natAbs.log2<9000/\((aad 12:Nat):Int)*(m:Int)<=2^27:=by decide+kernel
   obtain⟨w1,w2,w3⟩:=pR _ R4;have Ie:=cj (a:=dress.fdiv (12^(k % 5))) (b:=12) (by decide);obtain⟨f,hf⟩: ∃f:Nat,mB dress k=f:=⟨(mB dress k).toNat,by have:0<=mB dress k:=Ie.1;exact(ZV ‹_›).symm⟩;have Ia:f<12:=by have:mB dress k<12:=Ie.2;exact ";1#a'A>a12<A12" hf this
   obtain⟨g1,g2,g3,g4⟩:=QG f Ia;have HT:=cj (a:=(c:Int)) (b:=32) (by decide);refine aH (aQ 19 (ah.cast (ag (ag (aa 12 nd rfl) (ag aj (ah.cast (ag (aa 15 nd rfl) aj (cH (by decide))) (congrArg V.int (wQ k 5))) (j9 (Z0 _) w3)) (n7 w1 (acE w2))) aj (cH (by decide))) (show _=V.int f from hf▸rfl)) rfl) ?_
   refine aH (aQ 20 (ah.cast (aR 28 B (tH B) (.bi _) rfl (ae (ag (ag (ag aj (ag aj (cZ (x:=w9.map V.int) (v:= .int (tK f)) (bU (An (xs:=w9) (by kernel_rfl)) (by decide)) (ag (aa 19 nd rfl) aj d6) (by exact "]~^63-'A2" ()) (by exact "<A12>-'A2^63" Ia) g1 (by rw[aal,g2];rfl)) (d5 (iW (by decide) (by decide)))) ck) (ag (aR 29 B (tJ B) (.bi _) rfl (ae (aa 18 nd rfl) ao) ta) aj (cH (by decide))) ck) aj d6) ao) (v3 (by exact ":52]0a]0b]0-++119808*52ab1" g3 HT.1) (by exact ":52]a12>b32]-++119808*52ab1_1114111" g4 HT.2))) (show _=V.str (Hx f c) from rfl)) rfl) ?_
   refine aH (aQ 21 (ah.cast (mv (f:=V.str) (aM.cast (f9 (aF (aa 19 nd rfl) aj cJ) fun u=>f9 (aF (aR 29 B (tJ B) (.bi _) rfl (ae (aa 18 nd rfl) ao) ta) (aa 5 nd rfl) (MU D)) fun u=>qC) (by rw[Bool.or_false])) (fun u=>aa 18 nd rfl) (fun u=>mv (f:=V.str) (aF (aa 19 nd rfl) aj cJ) (fun u=>gq (uK (by show 1<=_;decide)) (aa 18 nd rfl)) (fun u=>aa 20 nd rfl))) (show _=V.str (mY f c) from rfl)) rfl) ?_
   refine d8 (bD (q0 (v:=pv (mZ dress c k)) (i:=17) rfl (bw rfl) (ah.cast (bU (ae (aa 21 nd rfl) (ae (kA (Vs D) (aa 5 nd rfl) (ae (aR 29 B (tJ B) (.bi _) rfl (ae (aa 18 nd rfl) ao) ta) (ae (aa 18 nd rfl) ao))) ao)) (show 2<=Z7 by decide)) (by unfold pv mZ;rw[hf])) (by rw[ZQ,aaU];show _<=2^24;exact "[A12<BA=CB[C^24" jW hk (abB (";1=AB<CB[CA" jt hk))) (by decide) (by decide))) ?_ (aae _);intro p hp
   exact ZP _ (ZP _ (ZP _ (ZP _ (ZP _ hp))))
  case hf=>
   rw[show(fj dress word).take word.length=fj dress word from aaX (by exact "=AB[AB" jt)];refine oQ (i:=17) (bw rfl) ?_;obtain⟨st,rfl⟩: ∃m:Nat,strewn=m:=⟨strewn.toNat,by exact(ZV (adn ‹_›)).symm⟩;obtain⟨mk,rfl⟩: ∃m:Nat,mark=m:=⟨mark.toNat,by exact(ZV (adn ‹_›)).symm⟩;obtain⟨sp,rfl⟩: ∃m:Nat,spot=m:=⟨spot.toNat,by exact(ZV (adn ‹_›)).symm⟩
   have xE: ∀(x:List Int) (a:Nat),cm (x.map V.int) (some (a:Int)) (some ((a:Int)+1)) none=((x.drop a).take 1).map V.int:=fun x a=>by
    have:=WR (x.map V.int) a (a+1) (acU _);rw[show((a+1:Nat):Int)=(a:Int)+1 by push_cast;rfl] at this;rw[this,List.map_take,aeA,Nat.add_sub_cancel_left]
   have iM: ∀c∈dw,0<=c/\c<=1114111:=by decide+kernel
   have xA: ∀c∈iU,0<=c/\c<=1114111:=by decide+kernel
   have XT:((dw.drop st).take 1).length<=sizeLine:=by rw[aaU];show _<=2^24;exact ZW (abD _ _) (by decide)
   have XU:((iU.drop mk).take 1).length<=sizeLine:=by rw[aaU];show _<=2^24;exact ZW (abD _ _) (by decide)
   refine aH (aQ (v:= .list ((k0 st mk).map pv)) 22 (ah.cast (ag (jc ((dw.drop st).take 1) V.int (fun c=>pv (⟨#[c.toNat]⟩,"")) (b6 (by kernel_rfl)) (i:=1) rfl (.inl rfl) rfl b5
    (cE (.inl bP) (ah.cast (kB (c:=none) (aa 3 nd rfl) (.some (aa 8 nd rfl)) (.some (ag (aa 8 nd rfl) aj ck)) .none (fun h=>nomatch h) (by decide+kernel)) (congrArg V.list (xE dw st))))
    (fun nd a ha=>bU (ae (aR 2 B (tH B) (.bi _) rfl (ae (aa 1 nd rfl) ao) (v3 (iM a (abx (abl ha))).1 (iM a (abx (abl ha))).2)) (ae kC ao)) (show 2<=Z7 by decide)) XT)
    (jc ((iU.drop mk).take 1) V.int (fun c=>pv (⟨#[c.toNat]⟩,⟨#[c.toNat]⟩)) (b6 (by kernel_rfl)) (i:=1) rfl (.inl rfl) rfl b5
     (cE (.inl bP) (ah.cast (kB (c:=none) (aa 4 nd rfl) (.some (aa 10 nd rfl)) (.some (ag (aa 10 nd rfl) aj ck)) .none (fun h=>nomatch h) (by decide+kernel)) (congrArg V.list (xE iU mk))))
     (fun nd a ha=>bU (ae (aR 2 B (tH B) (.bi _) rfl (ae (aa 1 nd rfl) ao) (v3 (xA a (abx (abl ha))).1 (xA a (abx (abl ha))).2)) (ae (aR 2 B (tH B) (.bi _) rfl (ae (aa 1 nd rfl) ao) (v3 (xA a (abx (abl ha))).1 (xA a (abx (abl ha))).2)) ao)) (show 2<=Z7 by decide)) XU)
    (j8 (by rw[ZQ,ZQ,aaU,aaU];show _<=2^24;exact "[A1[B1[+AB^24" (abD _ _) (abD _ _)))) (by unfold k0;rw[aaA,aaf,aaf];rfl)) rfl) ?_
   have IS:(k0 st mk).length<=2:=by
    unfold k0;rw[aap,ZQ,ZQ,aaU,aaU];exact "[A1[B1[+AB2" (abD _ _) (abD _ _)
   refine bZ (ah.cast (ag (ag (kB (c:=none) (aa 17 nd rfl) .none (.some (aa 9 nd rfl)) .none (fun h=>nomatch h) ?ex) (aa 22 nd rfl) (j8 ?ey)) (kB (c:=none) (aa 17 nd rfl) (.some (aa 9 nd rfl)) .none .none (fun h=>nomatch h) ?ez) (j8 ?ew)) ?ev)
   all_goals first
    |(rw[yo,sf,aap,aaU,abk,ZQ,ZQ];show _<=2^24;exact ":2[A12:2=BA[C2[DB[EB[++DCE^24" jW jt IS (abj _ _) (ad5 _ _))
    |(rw[yo,aaU,ZQ,ZQ];show _<=2^24;exact ">'A12[B2[CA[+CB^24" h2.2 IS (abD _ _))
    |(rw[ZQ];show _<=2^24;exact "[A12=BA[B^24" jW jt)
    |(rw[yo,sf,aaA,aaA,List.map_take,aeA];rfl)
theorem Nx(B:ai w tk H){az:List Int}{letters:Str}{x:Int}(iP:az≠[])(rJ:az.length<=12)(dY: ∀p∈az,0<=p/\p<letters.length)(hl:letters.length<=12):
 aU w H (l+9) n (.ref 344) [aO az, .str letters, .int x] (.list ((vt az letters x).map pv)):=
 dy B (G9 B) L0 rfl (Ms B iP rJ dY hl (cj (by decide)).1 (cj (by decide)) (cj (by decide)) (cj (by decide)) fun n=>zN B DU x l n (by decide) (DG (by decide+kernel)))
theorem VO(x k:Nat):(x|||(x>>>k)<<<k) -(x&&&(x>>>k)<<<k)=x % 2^k:=by
 have h1:x|||(x>>>k)<<<k=x:=by
  apply Nat.eq_of_testBit_eq;intro i;rw[Nat.testBit_or,Nat.testBit_shiftLeft,Nat.testBit_shiftRight]
  by_cases h:i>=k
  ·simp[h,show k+(i -k)=i by simp[*]]
  ·simp[h]
 have h2:x&&&(x>>>k)<<<k=(x>>>k)<<<k:=by
  apply Nat.eq_of_testBit_eq;intro i;rw[Nat.testBit_and,Nat.testBit_shiftLeft,Nat.testBit_shiftRight]
  by_cases h:i>=k
  ·simp[h,show k+(i -k)=i by simp[*]]
  ·simp[h]
 rw[h1,h2,abe,adH];have:=aan x (2^k);rw[ab1] at this;exact Z5 (";1=+ABC=+DAC[DB" this (ZM ("=+ABC[AC" this))) ("=+ABC;1=+DAC[BD" this (ZM ("=+ABC[AC" this)))
theorem Zd(x y:Nat):Builtin.bitXor (x:Int) (y:Int)=(((x|||y) -(x&&&y):Nat):Int):=by
 have h1: ¬(0:Int)<=acb (x:Int):=by unfold acb;exact "!]0-~'A1" ()
 have h2: ¬(0:Int)<=acb (y:Int):=by unfold acb;exact "!]0-~'A1" ()
 unfold Builtin.bitXor Builtin.bitOr;rw[PyProof.Rows.bitAnd_nn h1 h2,aeB,aeB,aeB,PyProof.Rows.bitAnd_pp (by exact Z0 _) (by exact Z0 _)];simp only[aaD];have:x&&&y<=x|||y:=ZW Nat.and_le_left Nat.left_le_or
 exact ab0 (";1=+ABC]-'C'B'A" (ZM (this))) ("=+ABC]'A-'C'B" (ZM (this)))
theorem Zc(x k:Nat):Builtin.bitXor (x:Int) (((x/2^k:Nat):Int)*((2^k:Nat):Int))=((x % 2^k:Nat):Int):=by
 have e:((x/2^k:Nat):Int)*((2^k:Nat):Int)=(((x>>>k)<<<k:Nat):Int):=by
  rw[abe,adH];push_cast;rfl
 rw[e,Zd,VO]
noncomputable def ej(n len x:Nat):List Nat:=
 if h:len<=1 then[x] else ej n (len/2) (x % 2^(len/2*n))++ej n (len -len/2) (x/2^(len/2*n))
termination_by len
theorem wm(n x:Nat):ej n 1 x=[x]:=by rw[ej,dif_pos (aab _)]
theorem wo(n len x:Nat)(h:2<=len):ej n len x=ej n (len/2) (x % 2^(len/2*n))++ej n (len -len/2) (x/2^(len/2*n)):=by
 rw[ej,dif_neg (by exact Nat.not_le.mpr ‹_›)]
theorem wq(n:Nat): ∀(len x:Nat),1<=len->(ej n len x).length=len:=by
 intro len
 induction len using Nat.strongRecOn with
 |_ len ih=>
  intro x h
  by_cases h2:2<=len
  ·rw[wo n len x h2,aap,ih (len/2) (by exact "[2A=+*2BCA:2<BA" h2 (aan _ _)) _ (by exact "[2A;1=+*2BCA<C2:2[1B" h2 (aan _ _) (aaR _ (by decide))),ih (len -len/2) (by exact "[2A:2=+BCA;1=+*2CDA<D2:2<BA" h2 (ZM ("[AB[AB" (aao _ _))) (aan _ _) (aaR _ (by decide))) _ (by exact "[2A;2=+BCA=+*2CDA:2[1B" h2 (ZM ("[AB[AB" (aao _ _))) (aan _ _))]
   exact Z5 ("=+ABC[+BAC" (ZM ("[AB[AB" (aao _ _)))) (";1=+ABC[C+BA" (ZM ("[AB[AB" (aao _ _))))
  ·have:len=1:=by exact Z5 ("![2A[A1" h2) (h)
   subst this;rw[wm];rfl
noncomputable def bb(n:Nat):List Nat->Nat
 |[]=>0
 |d::ds=>d+2^n*bb n ds
theorem lZ(n:Nat):bb n []=0:=rfl
theorem fA(n d:Nat)(ds:List Nat):bb n (d::ds)=d+2^n*bb n ds:=rfl
theorem sL(n:Nat): ∀(a b:List Nat),bb n (a++b)=bb n a+2^(a.length*n)*bb n b:=by
 intro rr
 induction rr with
 |nil=>
  exact fun b=>by simp[lZ,fA]
 |cons d a ih=>
  exact fun b=>by
   rw[List.cons_append,fA,fA,ih b,aaY,acH,<-Nat.mul_assoc,<-ab5,Nat.add_assoc]
   congr 3
   rw[acq,acX,acT]
theorem FK(n:Nat): ∀(len x:Nat),1<=len->bb n (ej n len x)=x:=by
 intro len
 induction len using Nat.strongRecOn with
 |_ len ih=>
  intro x h
  by_cases h2:2<=len
  ·rw[wo n len x h2,sL,ih (len/2) (by exact "[2A=+*2BCA:2<BA" h2 (aan _ _)) _ (by exact "[2A;1=+*2BCA<C2:2[1B" h2 (aan _ _) (aaR _ (by decide))),ih (len -len/2) (by exact "[2A:2=+BCA;1=+*2CDA<D2:2<BA" h2 (ZM ("[AB[AB" (aao _ _))) (aan _ _) (aaR _ (by decide))) _ (by exact "[2A;2=+BCA=+*2CDA:2[1B" h2 (ZM ("[AB[AB" (aao _ _))) (aan _ _)),wq n _ _ (by exact "[2A;1=+*2BCA<C2:2[1B" h2 (aan _ _) (aaR _ (by decide)))]
   exact Nat.mod_add_div x _
  ·have:len=1:=by exact Z5 ("![2A[A1" h2) (h)
   subst this;rw[wm];simp[lZ,fA]
theorem FJ(n:Nat): ∀(len x:Nat),1<=len->x<2^(len*n)-> ∀d∈ej n len x,d<2^n:=by
 intro len
 induction len using Nat.strongRecOn with
 |_ len ih=>
  intro x h hx d hd
  by_cases h2:2<=len
  ·rw[wo n len x h2] at hd
   rcases aaw.mp hd with hd|hd
   ·exact ih _ (by exact "[2A=+*2BCA:2<BA" h2 (aan _ _)) _ (by exact "[2A;1=+*2BCA<C2:2[1B" h2 (aan _ _) (aaR _ (by decide))) (aaR _ (ab2 _)) d hd
   ·refine ih _ (by exact "[2A:2=+BCA;1=+*2CDA<D2:2<BA" h2 (ZM ("[AB[AB" (aao _ _))) (aan _ _) (aaR _ (by decide))) _ (by exact "[2A;2=+BCA=+*2CDA:2[1B" h2 (ZM ("[AB[AB" (aao _ _))) (aan _ _)) ?_ d hd
    rw[aeh (ab2 _),<-ab5,<-acq]
    rwa [show len -len/2+len/2=len by exact Z5 ("=+ABC[+ABC" (ZM ("[AB[AB" (aao _ _)))) (";1=+ABC[C+AB" (ZM ("[AB[AB" (aao _ _))))]
  ·have:len=1:=by exact Z5 ("![2A[A1" h2) (h)
   subst this;rw[wm] at hd;rw[Z4.mp hd];simpa using hx
noncomputable def eW(i:Nat):Stmt:=((aT (ay i)).find? fun st=>aak st.ctorIdx 0).getD default
theorem V4:aL (aJ (eW 5)):=by unfold aL;kernel_rfl
theorem V5:aL (aJ (eW 6)):=by unfold aL;kernel_rfl
theorem MJ{pos:Pos}{ss:List Stmt}:aD w X H l n sc ρ ow (.Return none pos::ss) (.ret .none ow):=qN (.mk fun env A G₀ s₀ G s Q E q r I k=>wpAny_Return_none (k _ G s ⟨.none,rfl, .none,I.sub (fun z h=>nomatch h) (aae _)⟩))
noncomputable def bF(l:List Nat):List V:=l.map fun(i:Nat)=>V.int i
theorem ai.grow{H':Heap}(B:ai w tk H)(k: ∀b o,H.get? b=some o->b∉aq->H'.get? b=some o)(t:bY H'):ai w tk H':=by
 have same: ∀{a:Addr},H.isNs a=true->a∉aq->H'.get? a=H.get? a:=fun{a} h ha=>by
  unfold Heap.isNs at h;cases e:H.get? a with
  |none=>rw[e] at h;cases h
  |some o=>exact k _ _ e ha
 have e3:=same B.ns (by decide);have e0:=same B.blt (by decide);refine⟨?_,?_,fun x hx=> ?_,uy B.nolimit k,fun a o e=> ?_,t⟩
 ·have:=B.ns;unfold Heap.isNs at this⊢;rwa [e3]
 ·have:=B.blt;unfold Heap.isNs at this⊢;rwa [e0]
 ·have:=B.blts x hx;unfold Heap.nsMap at this⊢;rwa [e0]
 ·refine k _ _ (B.frag a o e) fun ha=> ?_
  have AZ:(KK w.params tk).lookup 54=none:=by kernel_rfl
  have Bc:(KK w.params tk).lookup 61=none:=by kernel_rfl
  rcases ZU.mp ha with rfl|ha
  ·rw[AZ] at e;cases e
  ·rw[Z4.mp ha,Bc] at e;cases e
set_option tactic.hygienic true in
theorem vU{x k:Nat}(h:x<2^k):aad (x:Int)<=k:=by
 unfold aad;split
 ·exact aav _
 ·rename_i h0
  have h1:x≠0:=by simpa using h0
  have:x.log2<k:=(ad9 h1).mpr h;rw[aaK];assumption
theorem HN(L len:Nat):((L:Int)+((L+len:Nat):Int)).fdiv (2^(1:Int).toNat)=((L+len/2:Nat):Int):=by
 rw[acp _ (by decide),show(L:Int)+((L+len:Nat):Int)=((len+L*2:Nat):Int) by exact "@#+'A'+AB'+B%A2" ()];exact congrArg acs ((Nat.add_mul_div_right len L (by decide)).trans (acT _ _))
set_option tactic.hygienic true in
theorem TV(B:ai w tk H){F D:Addr}{fd:aaL}{m c:Nat}(hc:c<=2^20)(hm:m<2^12)(il:fd.scope=aJ (eW 5))(nS: ∀cs:List ZN,cs.length=3->aba fd ⟨cs,[]⟩=pure ((["x","L","R"]:List Str).zip cs))
 (C:jI w H F fd (aT (eW 5)) [(7, .at D),(8, .at F),(9, .int m)]): ∀(K len x L:Nat) (ys:List V) (l n:Nat),1<=len->len<=2^K->L+len<=ys.length->ys.length<2^12->x<2^c->
 iE w H (l+K+1) n [D] (.ref F) [] [.int x, .int L, .int ((L+len:Nat):Int)] [(D,ys)] .none [(D,ys.take L++bF (ej m len x)++ys.drop (L+len))]:=by
 have tV: ∀{as:List V},as.length=3->i6 w H fd.scope fd [] as ([0,1,2].zip as):=fun{as} h=>zv (pars:=["x","L","R"]) (by rw[il];exact⟨⟨_,rfl, .inl rfl⟩,⟨_,rfl, .inl rfl⟩,⟨_,rfl, .inl rfl⟩,trivial⟩) C.nd C.noc (by decide) nS h
 have nd:=V4
 conv at nd=>arg 1;whnf
 have base: ∀(x L:Nat) (ys:List V) (l n:Nat),L+1<=ys.length->ys.length<2^12->iE w H (l+1) n [D] (.ref F) [] [.int x, .int L, .int ((L+1:Nat):Int)] [(D,ys)] .none [(D,ys.take L++bF (ej m 1 x)++ys.drop (L+1))]:=by
  intro x L ys l n h3 h4;have hb:aD w [D] H l 40 (aJ (eW 5)) [(0, .int x),(1, .int L),(2, .int ((L+1:Nat):Int)),(7, .at D),(8, .at F),(9, .int m)] [(D,ys)] (aT (eW 5)) (.ret .none [(D,ys.set (L:Int).toNat (.int x))]):=by
   conv=>arg 6;whnf
   conv=>arg 9;whnf
   refine lB (aM.cast (aF (ag (aa 1 nd rfl) aj ck) (aa 2 nd rfl) cJ) (by simp)) (aH (Pm (aa 0 nd rfl) (aa 7 nd rfl) (aa 1 nd rfl) (by exact Z0 _) (by exact acd.mpr ‹_›) (by exact "[+A1B<B^12>'A^63" h3 h4)) MJ)
  have e:ys.set (L:Int).toNat (.int x)=ys.take L++bF (ej m 1 x)++ys.drop (L+1):=by
   rw[aaD,List.set_eq_take_append_cons_drop,if_pos ‹_›,wm];simp[bF]
  rw[<-e];exact oW B C (tV rfl) (o:= .ret .none _) (by rw[il];exact hb) (fun p hp=>by simp only[ym,Z4] at hp;rw[hp];exact ach _)
 intro K
 induction K with
 |zero=>
  intro len x L ys l n h1 h2 h3 h4 h5;have hl:len=1:=by simp at h2;exact Z5 ‹_› ‹_›
  subst hl;exact base x L ys l n h3 h4
 |succ K ih=>
  intro len x L ys l n h1 h2 h3 h4 h5
  by_cases h6:len=1
  ·subst h6
   exact(base x L ys (l+K+1) n h3 h4)
  ·have hp:2^(K+1)=2^K+2^K:=by rw[Nat.pow_succ];exact "@=%A2+AA" ()
   have ha:=fun l n=>ih (len/2) (x % 2^(len/2*m)) L ys l n (by exact(aa8 h6).elim (fun x2=> "[1A<A1:0[1B" h1 x2) (fun x2=> "<1A;1=+*2BCA<C2:2[1B" x2 (aan _ _) (aaR _ (by decide)))) (by exact "[AB=B+CC=+*2DEA:2[DC" h2 hp (aan _ _)) (by exact "[+ABC[DB[+ADC" h3 (aao _ _)) h4 (ZY (Nat.mod_le _ _) h5)
   generalize HY:ej m (len/2) (x % 2^(len/2*m))=d1 at ha;have Io:d1.length=len/2:=by rw[<-HY];exact wq _ _ _ (by exact(aa8 h6).elim (fun x2=> "[1A<A1:0[1B" h1 x2) (fun x2=> "<1A;1=+*2BCA<C2:2[1B" x2 (aan _ _) (aaR _ (by decide))))
   have hy:(ys.take L++bF d1++ys.drop (L+len/2)).length=ys.length:=by
    simp only[aap,aaU,abk,bF,ZQ,Io];exact Z5 ("=AB=+C+BDE[++ADCE" (abB ("[+ABC[AC" h3)) (ZM ("[+ABC[DB[+ADC" h3 (aao _ _)))) (";1=AB;1=+C+BDE[E++ADC" (abB ("[+ABC[AC" h3)) (ZM ("[+ABC[DB[+ADC" h3 (aao _ _))))
   have cL:=fun l n=>ih (len -len/2) (x/2^(len/2*m)) (L+len/2) (ys.take L++bF d1++ys.drop (L+len/2)) l n (by exact "[1A;2=+BCA=+*2CDA:2[1B" h1 (ZM ("[AB[AB" (aao _ _))) (aan _ _)) (by(simp at*;exact "[AB=B+CC;1=+*2DEA<E2:2[A+CD" h2 hp (aan _ _) (aaR _ (by decide)))) (by rw[hy];exact "[+ABC=+DEB[++AEDC" h3 (ZM ("[AB[AB" (aao _ _)))) (by rw[hy];exact h4) (ZY (aao _ _) h5)
   rw[show L+len/2+(len -len/2)=L+len by exact Z5 ("=+ABC[++DBA+DC" (ZM ("[AB[AB" (aao _ _)))) (";1=+ABC[+DC++DBA" (ZM ("[AB[AB" (aao _ _))))] at cL;have he:(ys.take L++bF d1++ys.drop (L+len/2)).take (L+len/2)++bF (ej m (len -len/2) (x/2^(len/2*m)))++(ys.take L++bF d1++ys.drop (L+len/2)).drop (L+len)=ys.take L++bF (ej m len x)++ys.drop (L+len):=by
    have ht:(ys.take L++bF d1).length=L+len/2:=by simp[bF,Io];exact Z5 ("=AB[AB" (abB ("[+ABC[AC" h3))) (";1=AB[BA" (abB ("[+ABC[AC" h3)))
    rw[wo m len x (by exact(aa8 h6).elim (fun x2=> "[1A<A1:0[2A" h1 x2) (fun x2=> "<1A[2A" x2)),HY,List.take_append_of_le_length (by simp[*]),aaX (by simp[*]),List.drop_append,acW (by exact "=A+BC[CD[A+BD" ht (aao _ _)),List.drop_drop,ht];simp only[bF,aaA,List.append_assoc,List.nil_append]
    congr 4
    exact Z5 ("=+A+BC+BD[++BCA+BD" (ZM ("[AB[+CA+CB" (aao _ _)))) (";1=+A+BC+BD[+BD++BCA" (ZM ("[AB[+CA+CB" (aao _ _))))
   rw[he] at cL;have e1:=HN L len;have e2:(((L+len/2:Nat):Int) -(L:Int))*(m:Int)=((len/2*m:Nat):Int):=by
    rw[show((L+len/2:Nat):Int) -(L:Int)=((len/2:Nat):Int) by exact "@#-'+AB'A'B" ()];push_cast;rfl
   have e3:(x:Int).fdiv (2^((len/2*m:Nat):Int).toNat)=((x/2^(len/2*m):Nat):Int):=by
    rw[acp _ (Int.pow_nonneg (by decide)),aaD];push_cast;rfl
   have e4:Builtin.bitXor (x:Int) (((x/2^(len/2*m):Nat):Int)*2^((len/2*m:Nat):Int).toNat)=((x % 2^(len/2*m):Nat):Int):=by
    rw[aaD,<-Zc];push_cast;rfl
   have eA:len/2*m<2^24:=by
    have h7:len/2<2^12:=by exact "[+ABC<C^12[DB<D^12" h3 h4 (aao _ _)
    have:=aet h7 hm
    simpa [<-ab5] using this
   have Cu:x/2^(len/2*m)<2^c:=ZY (aao _ _) h5;have hb:aD w [D] H (l+K+1) 40 (aJ (eW 5)) [(0, .int x),(1, .int L),(2, .int ((L+len:Nat):Int)),(7, .at D),(8, .at F),(9, .int m)] [(D,ys)] (aT (eW 5)) (.next [] [(D,ys.take L++bF (ej m len x)++ys.drop (L+len))]):=by
    conv=>arg 6;whnf
    conv=>arg 9;whnf
    refine jP (aM.cast (aF (ag (aa 1 nd rfl) aj ck) (aa 2 nd rfl) cJ) (by rw[beq_eq_false_iff_ne];lia)) ?_;refine aH (aQ 3 (ah.cast (ag (ag (aa 1 nd rfl) (aa 2 nd rfl) ck) aj (ql (by decide))) (congrArg V.int e1)) rfl) ?_
    refine aH (aQ 4 (ah.cast (ag (ag (aa 3 nd rfl) (aa 1 nd rfl) d6) (aa 9 nd rfl) (d5 (iW (by exact "]~^63-'+AB'A" ()) (by exact "[+ABC<C^12[DB>-'+AD'A^63" h3 h4 (aao _ _))))) (congrArg V.int e2)) rfl) ?_;refine aH (aQ 5 (ah.cast (ag (aa 0 nd rfl) (aa 4 nd rfl) (ql (by exact Z0 _))) (congrArg V.int e3)) rfl) ?_
    refine aH (aQ 6 (ah.cast (ag (aa 0 nd rfl) (ag (aa 5 nd rfl) (aa 4 nd rfl) (r3 (by exact Z0 _) (by have:=vU Cu;exact "[A^20<B^24[CA]+'C'B^27" hc eA this))) Wh) (congrArg V.int e4)) rfl) ?_;refine aH (F6 (aa 8 nd rfl) (let⟨o,h7,h8⟩:=C.obj; .fn h7 C.nt h8) (ae (aa 6 nd rfl) (ae (aa 1 nd rfl) (ae (aa 3 nd rfl) ao))) (ha l _)) ?_
    exact d8 (bD (F6 (aa 8 nd rfl) (let⟨o,h7,h8⟩:=C.obj; .fn h7 C.nt h8) (ae (aa 5 nd rfl) (ae (aa 3 nd rfl) (ae (aa 2 nd rfl) ao))) (cL l _))) (fun z h=>nomatch h) (aae _)
   exact oW B C (tV rfl) (o:= .next _ _) (by rw[il];exact hb) (fun p hp=>by simp only[ym,Z4] at hp;rw[hp];exact ach _)
theorem av.push_own{ys:List V}{vs:List ZN}{k:Nat}(I:av X H sc env ρ ow G₀ s₀ G s)(hr:aP G ys vs)(t:Nat):av X H sc env ρ ((s.heap.objs.size,ys)::ow) G₀ s₀ G {s with heap:=s.heap.push (aI vs k),toks:=t}:=by
 have e:ak aq G s G {s with heap:=s.heap.push (aI vs k),toks:=t}:=ak.grown I.st.inn _ fun b y e=>Z9 _ e
 have aE:=I.ext' e;have hn:s.heap.get? s.heap.objs.size=none:=ct (aab _);have hg:G s.heap.objs.size=none:=cY I.st.inn hn;have hl:(s.heap.push (aI vs k)).get? s.heap.objs.size=some (aI vs k):=aai _ rfl;refine⟨aE.st,aE.ext,aE.base₀,aE.lnew,aE.lG,aE.cnew,aE.cis,aE.cell,aE.ckeys,aE.xs,aE.apart,fun p hp=> ?_,abi.mpr ⟨fun p hp e'=> ?_,aE.dis⟩⟩
 ·rcases ZU.mp hp with rfl|hp
  ·refine⟨hg,fun o e'=> ?_, .inl (I.fresh hn),vs,k,hl,hr⟩
   have:=I.st.base _ o e' (ir aE.st.tab hl);rw[hn] at this;cases this
  ·exact aE.own p hp
 ·obtain⟨_,_,_,YY,k',h4,_⟩:=I.own p hp
  have o8:s.heap.objs.size=p.1:=e';rw[<-o8,hn] at h4;cases h4
theorem U6{A:aaj}{E:ZN->ZL->Prop}{Q:ZN->ZL->Prop}{a:Addr}{vs:List ZN}{n₁:Nat}{m:Int}{u:Tok}(hl:s.heap.get? a=some (aI vs n₁))(h0:m<2^62)(h1: -(2^62)<m)(h:vs.length*m.toNat<=2^24)
 (k:Q (.ref s.heap.objs.size) {s with heap:=s.heap.push (aI (aaB m.toNat vs).flatten 0)}):Z6 (Z8 PW w) A (abI .Mult (.ref a) (.int m u)) Q E s:=by
 have hsz:vs.toArray.size*m.toNat<=2^24:=by simpa using h
 refine wpAny_binaryOp_repeat_ref (T:= "list") (U:= "int") (by decide) ⟨_,hl,rfl⟩ (fun s'=>typeIs_int s' m u) noFill_list_mul F.fills_int_mul F.slot_int_rmul repeat_list F.slot_int_index.lookup
  (call_meets F.slot_int_rmul (typeIs_int s m u) F.entry_int_rmul (F.args_int_rmul_2 _ _) (int___rmul___int_list m u a vs.toArray n₁)
   ⟨hl,rfl,⟨_,hl,rfl⟩,call_meets F.slot_list_mul ⟨_,hl,rfl⟩ F.entry_list_mul (F.args_list_mul_2 _ _)
    (ae1 a vs.toArray n₁ m u (by simp[Builtin.List.listFitsIndex];exact⟨">~^62a]~9223372036854775808a" h1,">a^62>a9223372036854775808" h0⟩) (by exact ":8[A^24;1=+*8BC9223372036854775807<C8:8!<BA" hsz (aan _ _) (aaR _ (by decide))) (by simp[Builtin.List.listTooLong,Z7];omega)) ⟨hl,?_⟩⟩)
 have e:List.foldl (fun x1 x2=>x1++x2) #[] (aaB (if vs.toArray.isEmpty=true then 0 else m.toNat) vs.toArray)=(aaB m.toNat vs).flatten.toArray:=by
  rw[show(#[]:Array ZN)=([]:List ZN).toArray from rfl,Hg]
  by_cases hv:vs=[]
  ·subst hv
   have: ∀q:Nat,(aaB q ([]:List ZN)).flatten=[]:=fun q=>by induction q with
    |zero=>rfl
    |succ q ih=>simp[ab7]
   simp[this]
  ·simp[hv]
 rw[e];exact k
set_option tactic.hygienic true in
theorem Pj{i:Nat}{x:Str}{kd:aam}{es:List Expr}{e:Expr}{ys:List V}{m:Int}{p lp bp pos:Pos}{Q:Flow->ZL->Prop}{E:ZN->ZL->Prop}{A:aaj}(I:av X H sc env ρ ow G₀ s₀ G s)(r:bW A l (n+1))(hx:sc.names[i]?=some (x,kd))(hk:kd= .local\/kd= .cell)
 (hl:ah w H l (n+1) sc ρ (.List es lp) (.list ys)) (he:ah w H l (n+1) sc ρ e (.int m)) (h0:m<2^62) (h1: -(2^62)<m) (hsz:ys.length*m.toNat<=2^24)
 (hs:abY (.BinOp (.List es lp) .Mult e bp) (some (.Name x p)) pos.line env=pure false)
 (k: ∀D G' s',av X H sc env (dD ρ i (.at D)) ((D,(aaB m.toNat ys).flatten)::ow) G₀ s₀ G' s'->Q .next s'):Z6 (Z8 PW w) A (exec (.Assign [.Name x p] (.BinOp (.List es lp) .Mult e bp) pos) env) Q E s:=by
 rw[ab3 _ _ _ _ _ hs];refine ZO (aaM (ZO (wpAny_BinOp (hl.go env A s G r I.st _ E fun ca s₁ G₁ af aA=>he.go env A s₁ G₁ r (I.st.ext af) _ E fun cb ar aB ax bx=> ?_))));obtain⟨a,vs,q,rfl,ga,ra⟩:=fX (cN ax.sub aA);obtain⟨u,rfl⟩:=aZ bx;have bf:=(I.ext' af).ext' ax;refine U6 (ax.inn _ _ ga) h0 h1 (by rw[<-ra.length];exact hsz) (ZO (aaM (ZO ?_)));have b0:=bf.push_own (k:=0) (ra.rep m.toNat) ar.toks
 exact acL (b0.kept_set hx hk (.at _) fun G' s' I' z=>ZS (k _ G' s' I'))
theorem Ki: ∀{as:List V} {cs:List ZN},as.all V.scal=true->aP G as cs->aP G' as cs
 |[],_,_,q=>by rw[q.inv0];exact .nil
 |a::as,_,h,q=>by
  obtain⟨c,r,rfl,h1,hr⟩:=q.inv;rw[List.all_cons,aax] at h;exact .cons (sr h.1 h1) (Ki h.2 hr)
set_option tactic.hygienic true in
theorem NA{A:aaj}{E:ZN->ZL->Prop}{Q:Flow->ZL->Prop}{H':Heap}{i:Nat}{D:Addr}{ys ys':List V}{x:Str}{p pos pos':Pos}{es:List Expr}{F:Addr}{as:List V}{v:V}
 (I:av [] H sc env ρ [(D,ys)] G₀ s₀ G s) (r:bW A l n) (hm:(i, .at D)∈ρ) (hs:ρ.all (fun p=>p.2.scal)=true) (has:as.all V.scal=true)
 (hf:ah w H l n sc ((i, .list ys)::ρ) (.Name x p) (.at F)) (hc:cF H' (.ref F)) (ha:dX w H l n sc ((i, .list ys)::ρ) es as) (hv:iE w H' l n [D] (.ref F) [] as [(D,ys)] v [(D,ys')])
 (hD: ∀o,H'.get? D≠some o) (nL: ∀b o,H'.get? b=some o->b∉aq->s.heap.get? b=some o) (Bf:Hl H' G) (h1:dU es=true)
 (k: ∀G' s',av [] H sc env ρ [(D,ys')] G₀ s₀ G' s'->Q .next s'):Z6 (Z8 PW w) A (exec (.Expr (.Call (.Name x p) es [] pos) pos') env) Q E s:=by
 obtain⟨ga,hH,h3,vs,k',hl,hr⟩:=I.own _ ZR;have kN:s₀.heap.get? D=none:=h3.resolve_right (fun h=>nomatch h);have tP:G₀ D=none:=by
  cases e:G₀ D with
  |none=>rfl
  |some x=>rw[I.ext.sub D x e] at ga;cases ga
 obtain⟨I',mO⟩:=I.freeze hl hr;have aE:=I'.named hm mO;refine adm (aaZ (hf.go env A s _ r aE.st _ E fun cf s₁ G₁ af aA=> ?_)) (by unfold adt;rw[I.st.envIs.kind];rfl) rfl;obtain rfl:=fe aA
 ·
  refine ml hc (dE h1).2 (jB (dE (pos:=pos) (env:=env) h1).1).1 (ha.go env A s₁ G₁ pos r (aE.ext' af).st _ E fun cs ar aB ax bx=> ?_);have x:=af.trans ax;have bf:=(aE.ext' x).sub (ρ':=ρ) (fun p hp=>ZP _ hp) (aae _);have hg:aB D=some (aI vs k'):=x.sub _ _ iK;have b0:=bf.thaw hg tP hH kN hs rfl hr (fun b z e=>x.sub b z (lK ga b z e)) ga
  have cO: ∀b o,H'.get? b=some o->b∉aq->ar.heap.get? b=some o:=fun b o e hb=>x.keep _ _ (nL b o e hb) hb
  obtain⟨xo,oo⟩:=b0.xok;refine⟨cO,ac6 (hv A ar _ cs r ⟨cO,b0.st.tab,b0.st.gt,fun b us q' e'=>by unfold kH;rw[if_neg (fun q=>hD _ (q▸e'))];exact x.sub _ _ (lK ga _ _ (Bf b us q' e'))⟩ b0.st.inn (Ki has bx) (fun a ha=>by
   obtain⟨_,h5,us,q,h6⟩:=xo a ha;exact⟨fun o=>(Z4.mp ha).symm▸hD o,h5,us,q,h6⟩) oo _ fun cv dN ko gh Ko vu uZ=> ?_)⟩
  obtain⟨_,YY,q',iO,SR⟩:=uZ.1 _ ZR;exact k ko dN (b0.extD gh (vu D ZR).2 iO SR)
noncomputable def iu(s:ZL)(G:GM):List Addr:=(aac s.heap.objs.size).filter fun b=> @decide ((∃vs k,s.heap.get? b=some (aI vs k))/\G b=none) (ae0 _)
theorem n5{b:Addr}:b∈iu s G↔(∃vs k,s.heap.get? b=some (aI vs k))/\G b=none:=by
 unfold iu;rw[aaQ];exact⟨fun h=> @of_decide_eq_true _ (ae0 _) h.2,fun h=>⟨aaq.mpr (let⟨⟨_,_,e⟩,_⟩:=h;aa1 e),@decide_eq_true _ (ae0 _) h⟩⟩
theorem Ip(hi:bS G s):Hl (without s.heap (iu s G)) G:=fun a vs k e=>by
 by_cases h:a∈iu s G
 ·rw[eG _ _ _ h] at e;cases e
 ·rw[dv _ _ _ h] at e
  cases e':G a with
  |none=>exact absurd (n5.mpr ⟨⟨vs,k,e⟩,e'⟩) h
  |some o=>rw[hi a o e'] at e;exact e
theorem BP(h:Hl H G)(hs: ∀a o,G a=some o->G' a=some o):Hl H G':=fun a vs k e=>hs _ _ (h a vs k e)
theorem Jn(I:av X H sc env ρ ow G₀ s₀ G s): ∀b o,H.get? b=some o->b∉aq->(without s.heap (iu s G)).get? b=some o:=fun b o e hb=>by
 rw[dv _ _ _ fun h=> ?_]
 ·exact I.st.base b o e hb
 ·obtain⟨⟨vs,k,h1⟩,h2⟩:=n5.mp h
  rw[I.st.base b o e hb] at h1;cases h1;rw[I.st.hl b _ _ e] at h2;cases h2
theorem Fe{F c':Addr}{name qual:Str}{params:Arguments}{body:List Stmt}{scope:ZZ}{pm eN:ZN}{ρf:aw}{Ds:List Addr}(I:av X H sc env ρ ow G₀ s₀ G s)
 (hF:s.heap.get? F=some (qT name qual params body scope (c9 env scope.names []) pm c' eN)) (mG:c'∉aq/\ ∃o b8 t,s.heap.get? c'=some o/\o.data= .fields b8/\b8[1]?=some (.str qual t))
 (QU: ∀D∈Ds,∃vs k,s.heap.get? D=some (aI vs k))
 (il:scope.isCoroutine=false/\scope.isGenerator=false/\scope.kind= .function/\(scope.names.map (·.1)).Nodup/\(∀x∈scope.names,x.2≠ .cell)/\ ∀x,(x,abd)∈scope.names->(env.cells.lookup x).isSome=true)
 (SW: ∀p∈ρf,∃(i:Nat) (x:Str) (k:aam),scope.names[p.1]?=some (x, .free)/\sc.names[i]?=some (x,k)/\k= .cell/\(i,p.2)∈ρ) (Q0: ∀p∈ρf,∀cv,Rd G p.2 cv-> ∀G',Hl (without s.heap Ds) G'->Rd G' p.2 cv):
 jI w (without s.heap Ds) F (fnX name qual params body scope (c9 env scope.names []) .none .none .none pm none (.ref c') eN) body ρf:=by
 refine gz fun zq zk=> ?_
 obtain⟨h1,h2,h3,h4,h5,h6⟩:=il;obtain⟨ic,oc,b8,t,jh,gy,kJ⟩:=mG;refine zk ?_;have Di: ∀b o,s.heap.get? b=some o->(∀vs k,o.data≠ .seq vs k)->(without s.heap Ds).get? b=some o:=fun b o e bC=>by
  rw[dv _ _ _ fun hm=> ?_]
  ·exact e
  ·obtain⟨vs,k,h⟩:=QU b hm
   rw[h] at e;cases e;exact bC _ _ rfl
 have QX:F∉aq:=fun h=>by
  obtain⟨vs,h7,_⟩:=I.st.tab F h;rw[hF] at h7;cases h7
 have rE:((c9 env scope.names []).map (·.1)).Nodup:=Fh env _ _ h4 acJ fun z h=>(nomatch h)
 have pJ: ∀x c,(x,c)∈c9 env scope.names []->(x,abd)∈scope.names/\env.cells.lookup x=some c:=fun x c h=>by
  rcases Ff env _ _ x c h with h|⟨h7,h8⟩
  ·cases h
  ·obtain⟨d,hd⟩:=abO.mp (h6 x h7)
   rw[hd] at h8;exact⟨h7,by rw[hd,h8];rfl⟩
 have gE: ∀x c,(x,abd)∈scope.names->env.cells.lookup x=some c->(c9 env scope.names []).lookup x=some c:=fun x c h7 h8=>by
  have:=wd env scope.names [] x h7;rw[h8] at this;exact j5 rE this
 have fF: ∀{c v},s.heap.IsCell c v->(without s.heap Ds).IsCell c v:=fun{c v} y=>by
  obtain⟨ob,e1,e2⟩:=y;exact⟨ob,Di _ _ e1 (fun vs k h=>by rw[e2] at h;cases h),e2⟩
 refine⟨⟨_,Di _ _ hF (fun vs k h=>by cases h),rfl⟩,⟨c',oc,b8,t,rfl,ic,Di _ _ jh (fun vs k h=>by rw[gy] at h;cases h),gy,kJ⟩,QX,rfl,rfl,rfl,h1,h2,h3,h4,h5,
  fun x hx=> ?_,rE,?_,fun x c hx=> ?_,fun p hp=> ?_⟩
 ·obtain⟨d,hd⟩:=abO.mp (h6 x hx)
  show((c9 env scope.names []).lookup x).isSome=true
  rw[gE x d hx hd];rfl
 ·exact J1 rE fun x y c e1 e2=>name_of_addr I.apart (mem_of_lookup (pJ x c e1).2) (mem_of_lookup (pJ y c e2).2)
 ·obtain⟨e1,e2⟩:=pJ x c hx
  obtain⟨v,hv⟩:=I.cis x c e2;exact⟨nD I.st.tab hv,v,fF hv⟩
 ·refine gz fun zq zk=> ?_
  obtain⟨i,x,k,e1,e2,e3,e4⟩:=SW p hp;subst e3;obtain⟨m,hn,hv⟩:=I.st.loc;obtain⟨y,k',e5,e6⟩:=hv _ e4;refine zk ?_;rw[e2] at e5;cases e5;rcases e6 with⟨e7,_⟩|⟨_,c,cv,e7,e8,e9⟩
  ·rw[I.st.envIs.cel _ (gJ e2 I.st.envIs.nd)] at e7;cases e7
  ·exact⟨x,c,cv,e1,gE x c (aag e1) e7,fF e8,Q0 p hp cv e9⟩
noncomputable def eV(m a:Nat):List Nat:=if a=0 then[] else ej m ((a.log2+m)/m) a
theorem N7(B:ai w tk H):CodeHd H 58 54:=⟨_,_,_,_,_,_,_,_,_,B.frag 58 _ rfl,rfl,rfl,rfl,rfl,rfl,rfl,rfl,rfl,by decide⟩
theorem N8(B:ai w tk H):CodeHd H 65 61:=⟨_,_,_,_,_,_,_,_,_,B.frag 65 _ rfl,rfl,rfl,rfl,rfl,rfl,rfl,rfl,rfl,by decide⟩
noncomputable def Qc(sc scope:ZZ):Bool:=decide (∀p∈scope.names,p.2= .free->sc.names.lookup p.1=some .cell)
theorem Hj{sc scope:ZZ}(h:Qc sc scope=true): ∀x,(x,abd)∈scope.names->sc.names.lookup x=some .cell:=fun x hx=>of_decide_eq_true h (x, .free) hx rfl
theorem K2{h:Heap}{Ds:List Addr}(t:bY h)(hD: ∀d∈Ds,∃vs k,h.get? d=some (aI vs k)):bY (without h Ds):=t.without fun d hd=>let⟨_,_,h⟩:=hD d hd;⟨_,h,fun z q=>nomatch q⟩
theorem EX(B:ai w tk H){a m c:Nat}(hc:c<=2^20)(nQ:1<=m)(hm:m<2^12)(ha:a<2^c)(hlen:(a.log2+m)/m<=2^7):aU w H (l+9) n (.ref 59) [.int a, .int m] (.list (bF (eV m a))):=by
 refine zM B (Hd B) L5 rfl (o:= .ret (.list (bF (eV m a))) []) fun L A G₀ s₀ G s Q E r I k=> ?_
 have nd:=V1
 conv at nd=>arg 1;whnf
 conv at I=>arg 3;whnf
 conv in aT (ay 5)=>whnf
 obtain⟨N,hN⟩: ∃N:Nat,N=if a=0 then 0 else(a.log2+m)/m:=⟨_,rfl⟩
 have xe:N<=2^7:=by rw[hN];split<;>simp[*]
 have Sg:((aad (a:Int):Int)+(m:Int) -1).fdiv (m:Int)=(N:Int):=by
  rw[acp _ (by exact Z0 _),hN];unfold aad
  by_cases h:a=0
  ·subst h
   simp only[Int.natCast_zero,beq_self_eq_true,if_true];exact Int.ediv_eq_zero_of_lt (by exact "[1A]0-+0'A1" nQ) (by exact ">-+0'A1'A" ())
  ·have h':((a:Int)==0)=false:=by simpa using h
   rw[h',if_neg h];simp only[abU,if_false,aaK]
   push_cast
   congr 1
   exact "@#-++'A1'B1+'A'B" ()
 refine aar (Pj (i:=2) (n:=39) I r rfl (.inr rfl) (dA (ae aj ao) (by decide))
  (ah.cast (ag (ag (ag (gq CX (aa 0 nd rfl)) (aa 1 nd rfl) ck) aj d6) (aa 1 nd rfl) (n7 (by exact "[1A!#'A0" nQ) (PyProof.noPylong_small (by exact aaa ‹_› (abf _ _))))) (congrArg V.int Sg)) (by exact "[A^7>'A^62" xe) (by exact Z0 _) (by simp;exact ZW ‹_› (abf _ _)) rfl fun D G1 s1 I1=> ?_)
 have ua: ∀x,(x,abd)∈(aJ (eW 5)).names->((acv (q8 tk) L 59).cells.lookup x).isSome=true:=fun x hx=>I1.st.envIs.has x (.inl (Hj (sc:=aJ (ay 5)) (by kernel_rfl) x hx))
 refine aar (FD (c:=58) (P:=54) (i:=3) B I1 rfl (by decide) (N7 B) (by decide) rfl (.inr rfl) ((z3 _ _ ua).trans rfl) ⟨rfl,rfl⟩ (by kernel_rfl) rfl rfl rfl fun F c' eN G2 s2 I2 k2 dR hF mG=> ?_);have QS: ∃vs k,s2.heap.get? D=some (aI vs k):=let⟨_,_,_,vs,q,h,_⟩:=I2.own _ ZR;⟨vs,q,h⟩
 have Zn: ∀o,H.get? D≠some o:=(I2.own _ ZR).2;have C:=Fe (w:=w) (Ds:=iu s2 G2) (ρf:=[(7, .at D),(8, .at F),(9, .int m)]) (scope:=aJ (eW 5)) (body:=aT (eW 5)) I2 hF mG (fun d hd=>(n5.mp hd).1)
  ⟨rfl,rfl,rfl,by decide+kernel,by decide+kernel,ua⟩ (fun p hp=>by
   simp only[ZU,aaz,or_false] at hp;rcases hp with rfl|rfl|rfl
   ·exact⟨2,_,_,rfl,rfl,rfl,bw rfl⟩
   ·exact⟨3,_,_,rfl,rfl,rfl,bw rfl⟩
   ·exact⟨1,_,_,rfl,rfl,rfl,bw rfl⟩) (fun p hp cv hr G' j=>by
   simp only[ZU,aaz,or_false] at hp;rcases hp with rfl|rfl|rfl<;>exact sr rfl hr)
 have QT:D∈iu s2 G2:=n5.mpr ⟨QS,(I2.own _ ZR).1⟩;have B':=B.grow (H':=without s2.heap (iu s2 G2)) (Jn I2) (K2 I2.st.tab fun d hd=>(n5.mp hd).1);have nW:(aaB (N:Int).toNat [V.int 0]).flatten.length=N:=by simp
 generalize (aaB (N:Int).toNat [V.int 0]).flatten=ys at I2 nW;refine aar (wpAny_If ((iC (aa 0 nd rfl) oi).go (acv (q8 tk) L 59) A s2 G2 r I2.st _ E fun s3 G3 x3=> ?_));have I3:=I2.ext' x3
 by_cases rB:a=0
 ·have h1:((a:Int) !=0)=false:=by simp[rB]
  have Tu:ys=bF (eV m a):=by
   have:N=0:=by rw[hN,if_pos rB]
   rw[this] at nW;rw[List.eq_nil_of_length_eq_zero nW];unfold eV;rw[if_pos rB];rfl
  rw[Tu] at I3;rw[h1];exact ace ((oQ (i:=2) (bw rfl) (bZ (aa 2 nd rfl))).go (acv (q8 tk) L 59) A G₀ s₀ G3 s3 Q E rfl r I3 k)
 ·have h1:((a:Int) !=0)=true:=by simp[rB]
  have HG:N=(a.log2+m)/m:=by rw[hN,if_neg rB]
  have Q2:1<=N:=by
   rw[HG];exact(Nat.one_le_div_iff ‹_›).mpr (by exact abf _ _)
  have dk:=TV B' (F:=F) (D:=D) hc hm rfl (fun cs jU=>by obtain⟨x,y,z,rfl⟩:=kS jU;rfl) C 7 N a 0 ys l 40 Q2 xe (by simp[*]) (by exact "[A^7=BA<B^12" xe nW) ha;have hz:ys.take 0++bF (ej m N a)++ys.drop (0+N)=bF (eV m a):=by
   rw[acW (by simp[*])];unfold eV;rw[if_neg rB,<-HG];simp
  rw[hz] at dk;rw[h1];refine aar (NA (H':=without s2.heap (iu s2 G2)) (i:=2) I3 r (bw rfl) rfl rfl (aa 3 nd rfl) (let⟨o,h7,h8⟩:=C.obj; .fn h7 C.nt h8) (ae (aa 0 nd rfl) (ae aj (ae (ah.cast (aR 4 B (g8 B) (.bi _) rfl (ae (aa 2 nd rfl) ao) (i9 (by exact "[A^7=BA<B^62" xe nW))) (show _=V.int ((0+N:Nat):Int) by rw[nW];simp)) ao))) dk
   (fun o e=>by rw[eG _ _ _ QT] at e;cases e) (fun b o e hb=>x3.keep _ _ (by
    by_cases h:b∈iu s2 G2
    ·rw[eG _ _ _ h] at e;cases e
    ·rwa [dv _ _ _ h] at e) hb) (BP (Ip I2.st.inn) x3.sub) rfl fun G4 s4 I4=> ?_)
  exact ace ((oQ (i:=2) (bw rfl) (bZ (aa 2 nd rfl))).go (acv (q8 tk) L 59) A G₀ s₀ G4 s4 Q E rfl r I4 k)
theorem Y2(m c:Nat): ∀ds:List Nat,(∀d∈ds,d<2^c)->bb m ds<2^(c+ds.length*(m+1)):=by
 intro rr
 induction rr with
 |nil=>
  exact fun z=>by simp[lZ,fA];exact ab2 _
 |cons d ds ih=>
  exact fun h=>by
   have h1:=h d ZR;have h2:=ih fun e he=>h e (ZP _ he)
   have e1:c+(d::ds).length*(m+1)=1+(m+(c+ds.length*(m+1))):=by rw[aaY,acq];exact "@=+A+B*1+C1+1+C+AB" ()
   rw[fA,e1,ab5,ab5 2 m];have h3:2^m*bb m ds+2^m<=2^m*2^(c+ds.length*(m+1)):=by
    rw[<-Nat.mul_succ];exact adR _ h2
   have h4:2^c<=2^m*2^(c+ds.length*(m+1)):=by
    rw[<-ab5];exact aat (by decide) (by exact "[A+B+AC" ())
   have h5:=ab2 m;exact "<AB[+CDE[BE<+AC*2E" h1 h3 h4
theorem NB{A:aaj}{H':Heap}{x:Str}{p pos:Pos}{es:List Expr}{F:Addr}{as:List V}{v:V}(S:St H sc env ρ G s)(r:bW A l n)
 (hf:ah w H l n sc ρ (.Name x p) (.at F)) (hc:cF H' (.ref F)) (ha:dX w H l n sc ρ es as) (hv:aU w H' l n (.ref F) as v)
 (nL: ∀b o,H'.get? b=some o->b∉aq->s.heap.get? b=some o) (Bf:Hl H' G) (h1:autoParam (dU es=true) au):qI w A (eval (.Call (.Name x p) es [] pos) env) G s v:=fun Q E k=>
 aaZ (hf.go env A s G r S _ E fun cf s₁ G₁ af aA=>by
  obtain rfl:=fe aA
  ·exact ml hc (dE h1).2 (jB (dE (pos:=pos) (env:=env) h1).1).1 (ha.go env A s₁ G₁ pos r (S.ext af) _ E fun cs ar aB ax bx=>by
    have x:=af.trans ax;have Ek:=S.ext x;have hk: ∀b o,H'.get? b=some o->b∉aq->ar.heap.get? b=some o:=fun b o e hb=>x.keep _ _ (nL b o e hb) hb
    exact⟨hk,hv.go A ar aB cs r ⟨hk,Ek.tab,Ek.gt,BP Bf x.sub⟩ ax.inn bx Q E fun cv bj bI bL dT=>k cv bj bI (x.trans bL) dT⟩))
theorem TX(B:ai w tk H){F:Addr}{fd:aaL}{m c:Nat}{ds:List Nat}(hc:c<=2^20)(hm:m<2^12)(lP:ds.length<2^12)(hd: ∀d∈ds,d<2^c)(il:fd.scope=aJ (eW 6))(nS: ∀cs:List ZN,cs.length=2->aba fd ⟨cs,[]⟩=pure ((["L","R"]:List Str).zip cs))
 (C:jI w H F fd (aT (eW 6)) [(4, .list (bF ds)),(5, .at F),(6, .int m)]): ∀(K len L:Nat) (l n:Nat),1<=len->len<=2^K->L+len<=ds.length->
 aU w H (l+K+1) n (.ref F) [.int L, .int ((L+len:Nat):Int)] (.int (bb m ((ds.drop L).take len):Nat)):=by
 have tV: ∀{as:List V},as.length=2->i6 w H fd.scope fd [] as ([0,1].zip as):=fun{as} h=>zv (pars:=["L","R"]) (by rw[il];exact⟨⟨_,rfl, .inl rfl⟩,⟨_,rfl, .inl rfl⟩,trivial⟩) C.nd C.noc (by decide) nS h
 have nd:=V5
 conv at nd=>arg 1;whnf
 have base: ∀(L:Nat) (l n:Nat),L+1<=ds.length->aU w H (l+1) n (.ref F) [.int L, .int ((L+1:Nat):Int)] (.int (bb m ((ds.drop L).take 1):Nat)):=by
  intro L l n h3;have hv:(bF ds)[(L:Int).toNat]?=some (.int ((bb m ((ds.drop L).take 1):Nat):Int)):=by
   have h:(ds.drop L).take 1=[ds[L]'‹_›]:=by rw[aeJ ‹_›];rfl
   rw[aaD,bF,aal,aaT ‹_›,h];simp[lZ,fA]
  have hb:aD w [] H l 40 (aJ (eW 6)) [(0, .int L),(1, .int ((L+1:Nat):Int)),(4, .list (bF ds)),(5, .at F),(6, .int m)] [] (aT (eW 6)) (.ret (.int (bb m ((ds.drop L).take 1):Nat)) []):=by
   conv=>arg 6;whnf
   conv=>arg 9;whnf
   exact lB (aM.cast (aF (ag (aa 0 nd rfl) aj ck) (aa 1 nd rfl) cJ) (by simp)) (bZ (kz (aa 4 nd rfl) (aa 0 nd rfl) (by exact Z0 _) (by exact "<A^12[+B1A>'B^63" lP h3) hv))
  exact(oW B C (tV rfl) (o:= .ret _ []) (by rw[il];exact hb) (fun p hp=>nomatch hp)).ca
 intro K
 induction K with
 |zero=>
  intro len L l n h1 h2 h3;have hl:len=1:=by simp at h2;exact Z5 (h2) (h1)
  subst hl;exact base L l n h3
 |succ K ih=>
  intro len L l n h1 h2 h3
  by_cases h6:len=1
  ·subst h6
   exact(base L (l+K+1) n h3)
  ·have hp:2^(K+1)=2^K+2^K:=by rw[Nat.pow_succ];exact "@=%A2+AA" ()
   have ha:=fun l n=>ih (len/2) L l n (by exact(aa8 h6).elim (fun x2=> "[1A<A1:0[1B" h1 x2) (fun x2=> "<1A;1=+*2BCA<C2:2[1B" x2 (aan _ _) (aaR _ (by decide)))) (by exact "[AB=B+CC=+*2DEA:2[DC" h2 hp (aan _ _)) (by exact "[+ABC[DB[+ADC" h3 (aao _ _))
   have cL:=fun l n=>ih (len -len/2) (L+len/2) l n (by exact "[1A;2=+BCA=+*2CDA:2[1B" h1 (ZM ("[AB[AB" (aao _ _))) (aan _ _)) (by(simp;exact "[AB=B+CC;1=+*2DEA<E2:2[A+CD" h2 hp (aan _ _) (aaR _ (by decide)))) (by exact "[+ABC=+DEB[++AEDC" h3 (ZM ("[AB[AB" (aao _ _))))
   rw[show L+len/2+(len -len/2)=L+len by exact Z5 ("=+ABC[++DBA+DC" (ZM ("[AB[AB" (aao _ _)))) (";1=+ABC[+DC++DBA" (ZM ("[AB[AB" (aao _ _))))] at cL;have e1:=HN L len;have e2:(((L+len/2:Nat):Int) -(L:Int))*(m:Int)=((len/2*m:Nat):Int):=by
    rw[show((L+len/2:Nat):Int) -(L:Int)=((len/2:Nat):Int) by(simp;exact "@#-+'Aa'Aa" ())];push_cast;rfl
   have eA:len/2*m<2^24:=by
    have h7:len/2<2^12:=by exact "<A^12[+BCA[DC<D^12" lP h3 (aao _ _)
    have:=aet h7 hm
    simpa [<-ab5] using this
   have hw:bb m ((ds.drop (L+len/2)).take (len -len/2))<2^(c+2^12*2^12):=by
    refine aaa (Y2 m c _ fun d h=>hd d (abx (abl h))) (aat (by decide) ?_);have:((ds.drop (L+len/2)).take (len -len/2)).length<=2^12:=by rw[aaU,abk];exact "<A^12[BC[CA[B^12" lP (abj _ _) (ad5 _ _)
    have:=Nat.mul_le_mul this (show m+1<=2^12 by assumption);exact Nat.add_le_add_left ‹_› _
   have e5:((bb m ((ds.drop (L+len/2)).take (len -len/2)):Nat):Int)*2^((len/2*m:Nat):Int).toNat+((bb m ((ds.drop L).take (len/2)):Nat):Int)=((bb m ((ds.drop L).take len):Nat):Int):=by
    have h8:(ds.drop L).take len=(ds.drop L).take (len/2)++(ds.drop (L+len/2)).take (len -len/2):=by
     rw[<-List.drop_drop,<-List.take_add];congr 1;exact Z5 (";1=+ABC[C+BA" (ZM ("[AB[AB" (aao _ _)))) ("=+ABC[+BAC" (ZM ("[AB[AB" (aao _ _))))
    rw[h8,sL,aaU,abk,abB (by exact "[+ABC[DB;1=+EAC[DE" h3 (aao _ _) (ZM ("[+ABC[AC" h3))),aaD]
    push_cast;rw[Int.mul_comm,Int.add_comm]
   have hb:aD w [] H (l+K+1) 40 (aJ (eW 6)) [(0, .int L),(1, .int ((L+len:Nat):Int)),(4, .list (bF ds)),(5, .at F),(6, .int m)] [] (aT (eW 6)) (.ret (.int (bb m ((ds.drop L).take len):Nat)) []):=by
    conv=>arg 6;whnf
    conv=>arg 9;whnf
    refine jP (aM.cast (aF (ag (aa 0 nd rfl) aj ck) (aa 1 nd rfl) cJ) (by rw[beq_eq_false_iff_ne];(simp;lia))) ?_;refine aH (aQ 2 (ah.cast (ag (ag (aa 0 nd rfl) (aa 1 nd rfl) ck) aj (ql (by decide))) (congrArg V.int e1)) rfl) ?_
    refine aH (aQ 3 (ah.cast (ag (ag (aa 2 nd rfl) (aa 0 nd rfl) d6) (aa 6 nd rfl) (d5 (iW (by(simp;lia)) (by(simp;exact "<A^12[+BCA#+*2ab'C]0b:2>-+'Ba'B9223372036854775808" lP h3 (Int.mul_ediv_add_emod _ _) (Int.emod_nonneg _ (by decide))))))) (congrArg V.int e2)) rfl) ?_;have HV:cF H (.ref F):=let⟨o,h7,h8⟩:=C.obj; .fn h7 C.nt h8
    exact bZ (ah.cast (ag (ag (F3 (aa 5 nd rfl) HV (ae (aa 2 nd rfl) (ae (aa 1 nd rfl) ao)) (cL l _)) (aa 3 nd rfl) (r3 (by exact Z0 _) (by have:=vU hw;exact "[A^20<B^24[C+A16777216]+'C'B^27" hc eA this))) (F3 (aa 5 nd rfl) HV (ae (aa 0 nd rfl) (ae (aa 2 nd rfl) ao)) (ha l _)) ck) (congrArg V.int e5))
   exact(oW B C (tV rfl) (o:= .ret _ []) (by rw[il];exact hb) (fun p hp=>nomatch hp)).ca
theorem KZ{G':GM}: ∀{ds:List Nat} {cs:List ZN},aP G (bF ds) cs->aP G' (bF ds) cs
 |[],_,h=>by rw[aP.inv0 h];exact .nil
 |d::ds,_,h=>by
  obtain⟨c,r,rfl,h1,hr⟩:=aP.inv h;obtain⟨t,rfl⟩:=aZ h1;exact .cons (.int _ t) (KZ hr)
theorem v5(B:ai w tk H){ds:List Nat}{m c K:Nat}(hc:c<=2^20)(hm:m<2^12)(lP:ds.length<2^12)(hK:ds.length<=2^K)(hd: ∀d∈ds,d<2^c):aU w H (l+K+2) n (.ref 66) [.list (bF ds), .int m] (.int (bb m ds:Nat)):=by
 refine zM B (He B) L6 rfl (o:= .ret (.int (bb m ds:Nat)) []) fun L A G₀ s₀ G s Q E r I k=> ?_
 have nd:=V2
 conv at nd=>arg 1;whnf
 conv at I=>arg 3;whnf
 conv in aT (ay 6)=>whnf
 have ua: ∀x,(x,abd)∈(aJ (eW 6)).names->((acv (tu tk) L 66).cells.lookup x).isSome=true:=fun x hx=>I.st.envIs.has x (.inl (Hj (sc:=aJ (ay 6)) (by kernel_rfl) x hx))
 refine aar (FD (c:=65) (P:=61) (i:=2) B I rfl (by decide) (N8 B) (by decide) rfl (.inr rfl) ((z3 _ _ ua).trans rfl) ⟨rfl,rfl⟩ (by kernel_rfl) rfl rfl rfl fun F c' eN G2 s2 I2 k2 dR hF mG=> ?_);have C:=Fe (w:=w) (Ds:=iu s2 G2) (ρf:=[(4, .list (bF ds)),(5, .at F),(6, .int m)]) (scope:=aJ (eW 6)) (body:=aT (eW 6)) I2 hF mG (fun d hd=>(n5.mp hd).1)
  ⟨rfl,rfl,rfl,by decide+kernel,by decide+kernel,ua⟩ (fun p hp=>by
   simp only[ZU,aaz,or_false] at hp;rcases hp with rfl|rfl|rfl
   ·exact⟨0,_,_,rfl,rfl,rfl,bw rfl⟩
   ·exact⟨2,_,_,rfl,rfl,rfl,bw rfl⟩
   ·exact⟨1,_,_,rfl,rfl,rfl,bw rfl⟩) (fun p hp cv hr G' hl=>by
   simp only[ZU,aaz,or_false] at hp;rcases hp with rfl|rfl|rfl
   ·obtain⟨la,vs,q,rfl,ga,ra⟩:=fX hr
    refine .list (hl la vs q ?_) (KZ ra);rw[dv _ _ _ fun h=>by rw[(n5.mp h).2] at ga;cases ga];exact I2.st.inn _ _ ga
   ·exact sr rfl hr
   ·exact sr rfl hr)
 have B':=B.grow (H':=without s2.heap (iu s2 G2)) (Jn I2) (K2 I2.st.tab fun d hd=>(n5.mp hd).1);have nL: ∀b o,(without s2.heap (iu s2 G2)).get? b=some o->b∉aq->s2.heap.get? b=some o:=fun b o e hb=>by
  by_cases h:b∈iu s2 G2
  ·rw[eG _ _ _ h] at e;cases e
  ·rwa [dv _ _ _ h] at e
 refine aar (wpAny_Return_some (wpAny_IfExp ((iC (aa 0 nd rfl) (Yn (x:=bF ds) (by simp[bF];exact aaa ‹_› (abf _ _)))).go (acv (tu tk) L 66) A s2 G2 r I2.st _ E fun s3 G3 x3=> ?_)));have I3:=I2.ext' x3;cases ds with
 |nil=>exact aj.go (l:=l+K+1) (n:=40) (sc:=aJ (ay 6)) (ρ:=[]) (H:=H) (acv (tu tk) L 66) A s3 G3 r (I3.st.sub fun z h=>nomatch h) _ E fun cv s4 G4 x4 r4=>k (.ret cv) G4 s4 ⟨cv,rfl,r4,(I3.ext' x4).sub (fun z h=>nomatch h) (aae _)⟩
 |cons d ds=>
  have dk:=TX B' (F:=F) hc hm lP hd rfl (fun cs jU=>by obtain⟨x,y,rfl⟩:=jw jU;rfl) C K (d::ds).length 0 l 40 (by simp) hK (by simp);rw[List.drop_zero,aaX (aab _)] at dk
  exact NB (H':=without s2.heap (iu s2 G2)) (l:=l+K+1) (n:=40) I3.st r (aa 2 nd rfl) (let⟨o,h7,h8⟩:=C.obj; .fn h7 C.nt h8) (ae aj (ae (ah.cast (aR 3 B (g8 B) (.bi _) rfl (ae (aa 0 nd rfl) ao) (i9 (by simp[bF] at lP⊢;exact aaa ‹_› (abf _ _)))) (show _=V.int ((0+(d::ds).length:Nat):Int) by simp[bF])) ao)) dk
   (fun b o e hb=>x3.keep _ _ (nL b o e hb) hb) (BP (Ip I2.st.inn) x3.sub) rfl _ E fun cv s4 G4 x4 r4=>k (.ret cv) G4 s4 ⟨cv,rfl,r4,(I3.ext' x4).sub (fun z h=>nomatch h) (aae _)⟩
noncomputable def c7(b m:Nat):Nat->List Nat->List Nat×Nat
 |r,[]=>([],r)
 |r,d::ds=>((r*2^m+d)/b::(c7 b m ((r*2^m+d)% b) ds).1,(c7 b m ((r*2^m+d)% b) ds).2)
theorem CV(b m r:Nat):c7 b m r []=([],r):=rfl
theorem uE(b m r d:Nat)(ds:List Nat):c7 b m r (d::ds)=((r*2^m+d)/b::(c7 b m ((r*2^m+d)% b) ds).1,(c7 b m ((r*2^m+d)% b) ds).2):=rfl
theorem Vb(b m:Nat): ∀(ds:List Nat) (r d:Nat),c7 b m r (ds++[d])=((c7 b m r ds).1++[((c7 b m r ds).2*2^m+d)/b],((c7 b m r ds).2*2^m+d)% b):=by
 intro rr
 induction rr with
 |nil=>
  exact fun r d=>rfl
 |cons e ds ih=>
  exact fun r d=>by
   rw[List.cons_append,uE,ih];simp[CV,uE]
theorem Jv{b:Nat}(m:Nat)(hb:0<b): ∀(ds:List Nat) (r:Nat),r<b->(c7 b m r ds).2<b:=by
 intro rr
 induction rr with
 |nil=>
  exact fun r h=>h
 |cons d ds ih=>
  exact fun r h=>ih _ (aaR _ hb)
theorem CU(b m:Nat): ∀(ds:List Nat) (r:Nat),(c7 b m r ds).1.length=ds.length:=by
 intro rr
 induction rr with
 |nil=>
  exact fun r=>rfl
 |cons d ds ih=>
  exact fun r=>by simp[CV,uE,ih]
theorem Va{b m:Nat}(hb:0<b): ∀(ds:List Nat) (r:Nat),r<b->(∀d∈ds,d<2^m)-> ∀q∈(c7 b m r ds).1,q<2^m:=by
 intro rr
 induction rr with
 |nil=>
  exact fun r z z q hq=>nomatch hq
 |cons d ds ih=>
  exact fun r h hd q hq=>by
   rcases ZU.mp hq with rfl|hq
   ·rw[aeh hb]
    have h1:=hd d ZR;have h2:(r+1)*2^m<=b*2^m:=acM _ h;rw[acq,acX,ab1 b] at h2;exact "<AB[+CBD<+CAD" h1 h2
   ·exact ih _ (aaR _ hb) (fun e he=>hd e (ZP _ he)) q hq
theorem Vc{b:Nat}(m:Nat)(hb:0<b): ∀(ds:List Nat) (r:Nat),bb m (c7 b m r ds).1.reverse*b+(c7 b m r ds).2=r*2^(ds.length*m)+bb m ds.reverse:=by
 intro rr
 induction rr with
 |nil=>
  exact fun r=>by simp[CV,uE,lZ,fA]
 |cons d ds ih=>
  exact fun r=>by
   have ih:=ih ((r*2^m+d)% b);have e:=aan (r*2^m+d) b;rw[uE,List.reverse_cons,sL,aeG,CU,List.reverse_cons,sL,aeG,aaY];simp only[lZ,fA,Nat.mul_zero,adw];rw[acq,acq ds.length,acX,ab5];generalize (r*2^m+d)% b=r' at*;generalize (r*2^m+d)/b=q' at*;generalize bb m (c7 b m r' ds).1.reverse=W at*;generalize (c7 b m r' ds).2=R at*;generalize bb m ds.reverse=V at*;generalize 2^(ds.length*m)=T at*
   have e2:T*q'*b=T*(b*q'):=by rw[Nat.mul_assoc,ab1 q']
   have e3:r*(T*2^m)=T*(r*2^m):=by rw[<-Nat.mul_assoc,ab1 r T,Nat.mul_assoc]
   have e4:r'*T=T*r':=ab1 _ _;have e5:T*(b*q')+T*r'=T*(r*2^m)+T*d:=by rw[<-acH,<-acH,e]
   exact Z5 ("=+AB+CD=EF;1=GH=CI=+FI+HJ[++AEB+G+DJ" ih e2 e3 e4 e5) (";1=+AB+CD;1=EF=GH;1=CI;1=+FI+HJ[+G+DJ++AEB" ih e2 e3 e4 e5)
theorem U9{a b m:Nat}(hb:0<b){ds:List Nat}(ha:bb m ds=a):bb m (c7 b m 0 ds.reverse).1.reverse=a/b/\(c7 b m 0 ds.reverse).2=a % b:=by
 have h1:=Vc m hb ds.reverse 0;have h2:=Jv m hb ds.reverse 0 hb;rw[Nat.zero_mul,acS,List.reverse_reverse,ha] at h1;have:=(Nat.div_mod_unique hb (a:=a) (c:=(c7 b m 0 ds.reverse).2) (d:=bb m (c7 b m 0 ds.reverse).1.reverse)).mpr ⟨by rw[ab1];exact "@;1=+ABC=+BAC" h1,h2⟩;exact⟨this.1.symm,this.2.symm⟩
theorem Qh(B:ai w tk H):bk H "_DIV_LIMIT" (.int 4000 291):=c5 B (by decide) (by kernel_rfl)
theorem rY(a b:Nat):(a:Int).fdiv (b:Int)=((a/b:Nat):Int):=by rw[acp _ (by exact Z0 _)];push_cast;rfl
theorem C4(a b:Nat):(a:Int).fmod (b:Int)=((a % b:Nat):Int):=by rw[aco _ (by exact Z0 _)];push_cast;rfl
theorem U8{b:Nat}(h:b<2^2000):(b:Int).natAbs.log2<9000:=by
 rw[aaK]
 by_cases h0:b=0
 ·rw[h0];decide+kernel
 ·exact abh ((ad9 h0).mpr h) (by decide)
theorem M5(B:ai w tk H){a b m:Nat}(hb:0<b)(fE:b<2^2000)(ha:a<2^(m+4000)):aU w H (l+1) n (.ref 45) [.int a, .int b, .int m] (.tup [.int (a/b:Nat), .int (a % b:Nat)]):=by
 refine dy B (G7 B) LY rfl (ow:=[]) ?_;have nd:=VX
 conv at nd=>arg 1;whnf
 conv=>arg 6;whnf
 conv=>arg 9;whnf
 refine lB (aM.cast (aF (ag (gq CX (aa 0 nd rfl)) (aa 2 nd rfl) d6) (gY B (Qh B) (i:=11) rfl (fun z=> .int _ _)) MV) (decide_eq_true (by have:=vU ha;exact "[A+B4000]-'A'B4000" this))) (bZ (ah.cast (aR 12 B (Qr B) (.bi _) rfl (ae (aa 0 nd rfl) (ae (aa 1 nd rfl) ao)) (M6 (by exact "<0A!#'A0" hb) (acE (U8 fE)))) ?_));rw[rY,C4]
theorem TG{a m:Nat}(hm:1<=m)(hlen:(a.log2+m)/m<=2^7):bb m (eV m a)=a/\(∀d∈eV m a,d<2^m)/\(eV m a).length<=2^7:=by
 unfold eV
 by_cases ha:a=0
 ·rw[if_pos ha];subst ha
  exact⟨rfl,fun d h=>(nomatch h),by decide⟩
 ·rw[if_neg ha]
  have h1:1<=(a.log2+m)/m:=(Nat.one_le_div_iff ‹_›).mpr (by exact abf _ _);refine⟨FK m _ _ h1,FJ m _ _ h1 ?_,by rw[wq m _ _ h1];exact hlen⟩;have h2:a<2^(a.log2+1):=Nat.lt_log2_self;refine aaa h2 (aat (by decide) ?_);have:=aan (a.log2+m) m;have h3:=aaR (a.log2+m) (by assumption:0<m);rw[ab1] at this;exact ";1=+AB+CD<BD[+C1A" this h3
theorem KY(ds:List Nat):(bF ds).length=ds.length:=by simp[bF]
theorem Mx(B:ai w tk H){a b c:Nat}(hc:c<=2^20)(hb:0<b)(fE:b.log2<1999)(ha:a<2^c)(hlen:(a.log2+(b.log2+1))/(b.log2+1)<=2^7):
 aD w [] H (l+9) 40 (aJ (ay 7)) [(0, .int a),(1, .int b)] [] (aT (ay 7)) (.ret (.tup [.int (a/b:Nat), .int (a % b:Nat)]) []):=by
 have nd:=V3
 conv at nd=>arg 1;whnf
 conv=>arg 6;whnf
 conv=>arg 9;whnf
 obtain⟨m,hm⟩: ∃m,m=b.log2+1:=⟨_,rfl⟩;rw[<-hm] at hlen;have HR:b<2^m:=by rw[hm];exact Nat.lt_log2_self
 have xh:b<2^2000:=aaa HR (aat (by decide) (by exact "<A1999=B+A1[B2000" fE hm));have HQ:aad (b:Int)=m:=by
  unfold aad;rw[if_neg (by simp;exact acj ‹_›),aaK,hm]
 obtain⟨f1,f2,f3⟩:=TG (by simp[*]) hlen;obtain⟨ds,lP⟩: ∃ds,ds=eV m a:=⟨_,rfl⟩;rw[<-lP] at f1 f2 f3;obtain⟨g1,g2⟩:=U9 hb f1;have SV:(bF ds).reverse=bF ds.reverse:=by simp[bF]
 refine aH (aQ 2 (ah.cast (gq CX (aa 1 nd rfl)) (congrArg (fun x:Nat=>V.int (x:Int)) HQ)) rfl) ?_;refine aH (aQ 3 (ah.cast (aR 9 B (Hr B) (Fd B) rfl (ae (aa 0 nd rfl) (ae (aa 2 nd rfl) ao)) (EX B hc (by simp[*]) (by exact "<A1999=B+A1<B^12" fE hm) ha hlen)) (congrArg (fun x=>V.list (bF x)) lP.symm)) rfl) ?_;refine aH (aQ 4 aj rfl) ?_;refine vX (i:=5) ?nx (.inl rfl) ?nr (h:=fun D=> ?_)
 case nx=>rfl
 case nr=>rfl
 refine aH (kD (items:=bF ds.reverse) (M:=ds.length) (R:=fun k=>[(4, .int ((c7 b m 0 (ds.reverse.take k)).2:Nat)),(5, .at D),(0, .int a),(1, .int b),(2, .int m)]) (R':=fun k=>(6, .int ((ds.reverse[k]?.getD 0:Nat)))::[(4, .int ((c7 b m 0 (ds.reverse.take k)).2:Nat)),(5, .at D),(0, .int a),(1, .int b),(2, .int m)])
  (O:=fun k=>[(D,bF (c7 b m 0 (ds.reverse.take k)).1)])
  (SV▸Uo B (Qw B) (i:=10) rfl bP (aa 3 nd rfl)) (fun p hp=> ?_) rfl (fun k v hk hv=> ?_) (fun k v hk hv=> ?_) (.inl ⟨by simp[bF],rfl⟩)) ?_
 ·simp only[ZU,aaz,or_false] at hp
  rcases hp with rfl|rfl|rfl|rfl|rfl<;>exact bw rfl
 ·have nV:v= .int ((ds.reverse[k]?.getD 0:Nat)):=by
   rw[bF,aal] at hv;cases e:ds.reverse[k]? with
   |none=>rw[e] at hv;cases hv
   |some d=>rw[e] at hv;cases hv;rfl
  subst nV;exact m6 6 rfl
 ·have fR:k<ds.reverse.length:=by simpa using hk
  obtain⟨d,hd⟩: ∃d,ds.reverse[k]?=some d:=⟨_,aaT fR⟩;have xl:d<2^m:=f2 d (by have:=aag hd;simpa using this);have uk:ds.reverse.take (k+1)=ds.reverse.take k++[d]:=by rw[ab9,hd];rfl
  have hr:=Jv m hb (ds.reverse.take k) 0 hb;have Sd:=CU b m (ds.reverse.take k) 0;have rM:(ds.reverse.take k).length<=2^7:=by rw[aaU];simp;exact ZW (abj _ _) ‹_›
  simp only[uk,Vb,hd,aen];generalize (c7 b m 0 (ds.reverse.take k)).2=r at*;generalize (c7 b m 0 (ds.reverse.take k)).1=qs at*;have hx:((r:Nat):Int)*2^((m:Nat):Int).toNat+((d:Nat):Int)=((r*2^m+d:Nat):Int):=by rw[aaD];push_cast;rfl
  have Tq:r*2^m+d<2^(m+4000):=by
   have h1:(r+1)*2^m<=2^m*2^m:=acM _ (by exact abh ‹_› ‹_›);rw[acq,acX,<-ab5] at h1;have h2:2^(m+m)<=2^(m+4000):=aat (by decide) (by exact "<A1999=B+A1[+BB+B4000" fE hm);exact "<AB[+CBD[DE<+CAE" xl h1 h2
  have SU:=vU (abh hr HR);have hz:bF (qs++[(r*2^m+d)/b])=bF qs++[.int ((r*2^m+d)/b:Nat)]:=by simp[bF]
  rw[hz];refine aH (je (aR 11 B (Qi B) (zY B) rfl (ae (ah.cast (ag (ag (aa 4 nd rfl) (aa 2 nd rfl) (r3 (by exact Z0 _) (by exact ":2<A1999:2=B+A1[CB]+'C'B^27" fE hm SU))) (aa 6 nd rfl) ck) (congrArg V.int hx)) (ae (aa 1 nd rfl) (ae (aa 2 nd rfl) ao))) (M5 (l:=l+8) B hb xh Tq)) rfl
   (bz 7 rfl (bz 4 rfl eF)) rfl rfl) ?_
  refine d8 (bD (q0 (i:=5) (v:= .int ((r*2^m+d)/b:Nat)) rfl (bw rfl) (aa 7 nd rfl) (by rw[KY];show _<=2^24;exact "[A^7=BA[B^24" rM Sd) (nd.at rfl (i:=5)).1 (nd.at rfl (i:=5)).2)) (fun p hp=> ?_) (aae _);simp only[ZU,aaz,or_false] at hp;rcases hp with rfl|rfl|rfl|rfl|rfl<;>exact bw rfl
 ·have jt:ds.reverse.take ds.length=ds.reverse:=aaX (by simp)
  have rM:=CU b m ds.reverse 0;rw[aeG] at rM;have ik:=Va (m:=m) hb ds.reverse 0 hb (fun d h=>f2 d (by simpa using h));simp only[jt];rw[<-g1,<-g2];generalize (c7 b m 0 ds.reverse).2=r at*;generalize (c7 b m 0 ds.reverse).1=qs at*;have S0:(bF qs).reverse=bF qs.reverse:=by simp[bF]
  refine aH (S0▸Po (aa 5 nd rfl) (by rw[KY];show _<=2^24;exact "[A^7=BA[B^24" f3 rM)) ?_;refine oQ (i:=5) (bw rfl) ?_
  refine aH (aQ 8 (aR 12 B (wX B) (wa B) rfl (ae (aa 5 nd rfl) (ae (aa 2 nd rfl) ao)) (v5 B (K:=7) (c:=m) (by exact "<A1999=B+A1[B^20" fE hm) (by exact "<A1999=B+A1<B^12" fE hm) (by simp;exact "[A^7=BA<B4096" f3 rM) (by simp;exact "[A^7=BA[B128" f3 rM) (fun d h=>ik d (by simpa using h)))) rfl) ?_;exact bZ (bU (ae (aa 8 nd rfl) (ae (aa 4 nd rfl) ao)) (by show(2:Nat)<=2^24;decide))
theorem M7(B:ai w tk H){a b c:Nat}(hc:c<=2^20)(hb:0<b)(fE:b.log2<1999)(ha:a<2^c)(hlen:(a.log2+(b.log2+1))/(b.log2+1)<=2^7):
 aU w H (l+10) n (.ref 73) [.int a, .int b] (.tup [.int (a/b:Nat), .int (a % b:Nat)]):=dy B (Hf B) L7 rfl (Mx B hc hb fE ha hlen)
theorem Gb{t:Expr}{body orelse:List Stmt}{pos:Pos}{o:aW}(h:aM w H l n sc ρ t true)(h1:aD w X H l n sc ρ ow body o):bV w X H l n sc ρ ow (.If t body orelse pos) o:=jf h (fun z=>h1) fun h=>nomatch h
theorem q7{t:Expr}{body orelse:List Stmt}{pos:Pos}{o:aW}(h:aM w H l n sc ρ t false)(h1:aD w X H l n sc ρ ow orelse o):bV w X H l n sc ρ ow (.If t body orelse pos) o:=jf h (fun h=>nomatch h) fun z=>h1
structure i7(c N m:Nat):Prop where
 hc:c<=2^20
 hN:N<2^c
 hm:m.log2<1999
 len:(N.log2+(m.log2+1))/(m.log2+1)<=2^7
theorem i7.le{c N N' m:Nat}(h:i7 c N m)(hn:N'<=N):i7 c N' m:=⟨h.hc,ZY hn h.hN,h.hm,by
 refine ZW (Nat.div_le_div_right ?_) h.len;have:N'.log2<=N.log2:=by
  by_cases h0:N'=0
  ·rw[h0];simp
  ·exact(Nat.le_log2 (by lia)).mpr (ZW (Nat.log2_self_le h0) hn)
 exact Nat.add_le_add_right ‹_› _⟩
noncomputable def qW(a b:Int):V:= .tup [.int (a.fdiv b), .int (a.fmod b)]
theorem EV(B:ai w tk H){a b c:Nat}(hb:0<b)(h:i7 c a b):aU w H (l+11) n (.ref 80) [.int a, .int b] (qW a b):=by
 refine dy B (tE B) vS rfl (ow:=[]) ?_;have nd:=yi
 conv at nd=>arg 1;whnf
 conv=>arg 6;whnf
 conv=>arg 9;whnf
 unfold qW;rw[rY,C4];exact bD (q7 (aM.cast (aF (aa 1 nd rfl) aj cJ) (by rw[beq_eq_false_iff_ne];exact "<0A!#'A0" hb)) (bD (q7 (aM.cast (aF (aa 1 nd rfl) aj oU) (decide_eq_false (by exact abK.mpr (Z0 _)))) (bD (q7 (aM.cast (aF (aa 0 nd rfl) aj oU) (decide_eq_false (by exact abK.mpr (Z0 _))))
  (bZ (aR 6 B (Qj B) (N1 B) rfl (ae (aa 0 nd rfl) (ae (aa 1 nd rfl) ao)) (M7 B h.hc hb h.hm h.hN h.len))))))))
theorem EW(B:ai w tk H){a:Int}{b c:Nat}(hb:0<b)(h:i7 c a.natAbs b):aU w H (l+12) n (.ref 80) [.int a, .int b] (qW a b):=by
 by_cases ha:0<=a
 ·obtain⟨a',rfl⟩:=adh ha
  exact(EV (l:=l+1) B hb (by simpa using h))
 ·obtain⟨x,hx⟩: ∃x:Nat,acb a=(x:Int):=adh (by unfold acb;exact "!]0a]0-~a1" ha)
  have xK:a= -(x:Int) -1:=by unfold acb at hx;exact "@#-~a1'A#a-~'A1" hx
  have h1:acb ((x:Int).fdiv (b:Int))=a.fdiv b:=by
   rw[rY,acp _ (by exact Z0 _)];unfold acb;have e:=aan x b;have e2:=aaR x hb
   symm
   have:a=(b:Int)*(-((x/b:Nat):Int) -1)+((b:Int) -((x % b:Nat):Int) -1):=by
    have e':(x:Int)=(b:Int)*((x/b:Nat):Int)+((x % b:Nat):Int):=by exact_mod_cast e.symm
    rw[Int.mul_sub,Int.mul_neg,Int.mul_one];exact "@;1#a-~'A1#'A+b'B#a+-~b'C--'C'B1" xK e'
   rw[this];rw[Int.add_comm,Int.add_mul_ediv_left _ _ (by exact "<0A!#'A0" hb),Int.ediv_eq_zero_of_lt (by exact "<AB]0--'B'A1" e2) (by exact ">--'A'B1'A" ())];exact Int.zero_add _
  have h2:(b:Int)+acb ((x:Int).fmod (b:Int))=a.fmod b:=by
   rw[C4,aco _ (by exact Z0 _)];unfold acb;have e:=aan x b;have e2:=aaR x hb
   symm
   have:a=((b:Int) -((x % b:Nat):Int) -1)+(b:Int)*(-((x/b:Nat):Int) -1):=by
    have e':(x:Int)=(b:Int)*((x/b:Nat):Int)+((x % b:Nat):Int):=by exact_mod_cast e.symm
    rw[Int.mul_sub,Int.mul_neg,Int.mul_one];exact "@;1#a-~'A1#'A+b'B#a+--'C'B1-~b'C" xK e'
   rw[this,Int.add_mul_emod_self_left,Int.emod_eq_of_lt (by exact "<AB]0--'B'A1" e2) (by exact ">--'A'B1'A" ())];exact "@#--'A'B1+'A-~'B1" ()
  refine dy B (tE B) vS rfl (ow:=[]) ?_;have nd:=yi
  conv at nd=>arg 1;whnf
  conv=>arg 6;whnf
  conv=>arg 9;whnf
  refine bD (q7 (aM.cast (aF (aa 1 nd rfl) aj cJ) (by rw[beq_eq_false_iff_ne];exact "<0A!#'A0" hb)) (bD (q7 (aM.cast (aF (aa 1 nd rfl) aj oU) (decide_eq_false (by exact abK.mpr (Z0 _)))) (bD (Gb (aM.cast (aF (aa 0 nd rfl) aj oU) (decide_eq_true (by exact Int.not_le.mp ‹_›))) ?_)))))
  refine aH (je (aR 5 B (lL B) (lD B) rfl (ae (ah.cast (jR (aa 0 nd rfl) Dd) (congrArg V.int hx)) (ae (aa 1 nd rfl) ao)) (EV (l:=l) B hb (h.le (by exact "#a-~'A1;1#'B~a[AB" xK (aaS ("#a-~'A1]a0" xK)))))) rfl (bz 2 rfl (bz 3 rfl eF)) rfl rfl) ?_;refine bZ (ah.cast (bU (ae (jR (aa 2 nd rfl) Dd) (ae (ag (aa 1 nd rfl) (jR (aa 3 nd rfl) Dd) ck) ao)) (by show(2:Nat)<=2^24;decide)) ?_);rw[h1,h2];rfl
theorem oX(B:ai w tk H){a b:Int}{c:Nat}(hb:b≠0)(h:i7 c a.natAbs b.natAbs):aU w H (l+13) n (.ref 80) [.int a, .int b] (qW a b):=by
 by_cases h0:0<b
 ·obtain⟨b',rfl⟩:=adh (ac7 h0)
  exact(EW (l:=l+1) B (by exact acd.mp ‹_›) (by simpa using h))
 ·obtain⟨x,hx⟩: ∃x:Nat,-b=(x:Int):=adh (by(simp at*;omega))
  refine dy B (tE B) vS rfl (ow:=[]) ?_;have nd:=yi
  conv at nd=>arg 1;whnf
  conv=>arg 6;whnf
  conv=>arg 9;whnf
  refine bD (q7 (aM.cast (aF (aa 1 nd rfl) aj cJ) (by rw[beq_eq_false_iff_ne];omega)) (bD (Gb (aM.cast (aF (aa 1 nd rfl) aj oU) (decide_eq_true (by exact(aeT hb).elim (fun x3=>x3) (fun x3=> "!>0a>0a:0>a0" h0 x3)))) ?_)))
  refine aH (je (aR 5 B (lL B) (lD B) rfl (ae (jR (aa 0 nd rfl) mV) (ae (ah.cast (jR (aa 1 nd rfl) mV) (congrArg V.int hx)) ao)) (EW (l:=l) B (by exact(aeT hb).elim (fun x3=> "#~a'A>a0<0A" hx x3) (fun x3=> "!>0a>0a:0<0A" h0 x3)) (by rw[Int.natAbs_neg,show x=b.natAbs by exact Z5 (";1#~a'A;1#'B~a[AB" hx (aaS ("!>0a]a0" h0))) ("#~a'A#'B~a[BA" hx (aaS ("!>0a]a0" h0)))];exact h))) rfl (bz 2 rfl (bz 3 rfl eF)) rfl rfl) ?_
  refine bZ (ah.cast (bU (ae (aa 2 nd rfl) (ae (jR (aa 3 nd rfl) mV) ao)) (by show(2:Nat)<=2^24;decide)) ?_);unfold qW;rw[<-hx,Int.neg_fdiv_neg,Int.neg_fmod_neg,Int.neg_neg]
noncomputable def sa:Option (List Int)->V
 |none=> .none
 |some l=>aO l
noncomputable def bT(pal:List Int)(size x aN:Int):List Int:=pal.map fun o=>(o+x -aN).fmod size
noncomputable def ja(pal:List Int)(size:Int):Nat->List Int->Option (List Int)
 |0,_=>none
 |k+1,left=>match left with
  |[]=>some []
  |x::r=>pal.findSome? fun aN=>if(bT pal size x aN).all (fun p=>decide (p∈x::r)) then(ja pal size k ((x::r).filter fun p=> !decide (p∈bT pal size x aN))).map fun l=>(x -aN).fmod size::l else none
theorem Gd{t:Expr}{body orelse:List Stmt}{pos:Pos}{o:aW}(h:aM w H l n sc ρ t true)(h1:aD w X H l n sc ρ ow body o):bV w X H l n sc ρ ow (.If t body orelse pos) o:=jf h (fun z=>h1) fun h=>nomatch h
theorem Ga{t:Expr}{body orelse:List Stmt}{pos:Pos}{o:aW}(h:aM w H l n sc ρ t false)(h1:aD w X H l n sc ρ ow orelse o):bV w X H l n sc ρ ow (.If t body orelse pos) o:=jf h (fun h=>nomatch h) fun z=>h1
theorem nX{ls:List Int}{k:Nat}{v:V}(h:(ls.map V.int)[k]?=some v): ∃x,ls[k]?=some x/\v= .int x:=by
 rw[aal] at h;cases e:ls[k]? with
 |none=>rw[e] at h;cases h
 |some x=>rw[e] at h;cases h;exact⟨x,rfl,rfl⟩
theorem EK{pal:List Int}{size:Int}:aD w [] H l 40 (aJ (ay 34)) [(0,aO []),(1,aO pal),(2, .int size)] [] (aT (ay 34)) (.ret (aO []) []):=by
 have nd:=yh
 conv at nd=>arg 1;whnf
 conv=>arg 6;whnf
 conv=>arg 9;whnf
 exact lB (aF (aa 0 nd rfl) (dA ao (by decide)) (gW (a:=[]) (b:=[]) iG (by decide) bR bR)) (bZ (dA ao (by decide)))
noncomputable def tF(ss:List Stmt)(i:Nat):List Stmt:=match ss[i]? with
 |some st=>nf 9 [] st.ctorIdx fun h=>Stmt.For.elim (motive_2:=fun z=>List Stmt) st h fun z z b z z=>b
 |none=>[]
noncomputable def lg(pal:List Int)(size x:Int)(r:List Int)(k:Nat)(aN:Int):Option (List Int):=
 if(bT pal size x aN).all (fun p=>decide (p∈x::r)) then(ja pal size k ((x::r).filter fun p=> !decide (p∈bT pal size x aN))).map fun l=>(x -aN).fmod size::l else none
set_option tactic.hygienic true in
noncomputable def Wu(pal:List Int)(size x:Int)(r:List Int)(o:Option (List Int)):aW:=match o with
 |none=> .next [(0,aO (x::r)),(1,aO pal),(2, .int size)] []
 |some l=> .ret (aO l) []
theorem wj(pal:List Int)(size:Int)(k:Nat)(x:Int)(r:List Int):ja pal size (k+1) (x::r)=pal.findSome? (lg pal size x r k):=rfl
theorem Oj(pal:List Int)(size:Int)(k:Nat): ∀(left l:List Int),ja pal size k left=some l->l.length<=k:=by
 induction k with
 |zero=>exact fun z z h=>fM h
 |succ k ih=>
  intro left l h;cases left with
  |nil=>cases gR h;exact aav _
  |cons x r=>
   rw[wj] at h;obtain⟨aN,h1,h2⟩:=List.exists_of_findSome?_eq_some h;unfold lg at h2;split at h2
   ·obtain⟨l',e,h2⟩:=ad8.mp h2
    rw[<-h2];exact aeo (ih _ l' e)
   ·exact fM h2
theorem MO(B:ai w tk H){pal r:List Int}{size x aN:Int}{k:Nat}(hsz:0<size)(hk:k<=64)(hp:pal.length<=64)(hl:(x::r).length<=64)
 (hr: ∀n,aU w H l n (.ref 354) [aO ((x::r).filter fun p=> !decide (p∈bT pal size x aN)),aO pal, .int size] (sa (ja pal size k ((x::r).filter fun p=> !decide (p∈bT pal size x aN))))):
 aD w [] H l 40 (aJ (ay 34)) [(3, .int aN),(0,aO (x::r)),(1,aO pal),(2, .int size)] [] (tF (aT (ay 34)) 1) (Wu pal size x r (lg pal size x r k aN)):=by
 have nd:=yh
 conv at nd=>arg 1;whnf
 conv=>arg 6;whnf
 conv=>arg 9;whnf
 have b7:(bT pal size x aN).length<=64:=by simp[bT];exact hp
 have Bv:V.list (pal.map fun o=>V.int ((o+x -aN).fmod size))=aO (bT pal size x aN):=by simp[aO,bT,aaf,aaF]
 refine aH (aQ 4 (ah.cast (jc pal V.int (fun o=>V.int ((o+x -aN).fmod size)) (b6 (by kernel_rfl)) (i:=1) rfl (.inl rfl) rfl (bJ 2 3 rfl rfl rfl (bJ 3 0 rfl rfl rfl (bJ 4 2 rfl rfl rfl b5))) (cE (.inl bP) (aa 1 nd rfl))
  (fun nd a ha=>ag (ag (ag (aa 1 nd rfl) (kz (aa 3 nd rfl) aj (by decide) (by decide) rfl) ck) (aa 2 nd rfl) d6) (aa 4 nd rfl) (cH (by exact Int.ne_of_gt ‹_›))) (by show _<=2^24;exact ZW ‹_› (by decide))) Bv) rfl (hs:=rfl)) ?_
 have Bw:decide ((bT pal size x aN).filter (fun p=> !decide (p∈x::r))=[])=(bT pal size x aN).all (fun p=>decide (p∈x::r)):=by
  rw[aa9,decide_eq_true_eq,List.filter_eq_nil_iff,Z3];simp only[abR,decide_eq_false_iff_not,Classical.not_not,decide_eq_true_eq]
 cases fD:(bT pal size x aN).all (fun p=>decide (p∈x::r)) with
 |false=>
  have:lg pal size x r k aN=none:=by unfold lg;rw[fD];rfl
  rw[this];exact d8 (bD (Ga (aM.cast (aF (g0 (bT pal size x aN) V.int (fun p=> !decide (p∈x::r)) V.int (b6 (by kernel_rfl)) (i:=1) rfl (.inl rfl) rfl (bJ 2 0 rfl rfl rfl b5) (cE (.inl bP) (aa 4 nd rfl)) (fun nd a ha=>aF (aa 1 nd rfl) (aa 2 nd rfl) (oV bu.int (by decide) trivial bR)) (fun nd a ha z=>aa 1 nd rfl) (by show _<=2^24;exact ZW ‹_› (by decide))) (dA ao (by decide))
   (gW (a:=(bT pal size x aN).filter fun p=> !decide (p∈x::r)) (b:=[]) iG (by decide) bR bR)) (Bw.trans fD)) (zF fun p hp=>hp))) (fun p hp=>by
   simp only[ZU,aaz,or_false] at hp;rcases hp with rfl|rfl|rfl<;>exact bw rfl) (aae _)
 |true=>
  have dm:lg pal size x r k aN=(ja pal size k ((x::r).filter fun p=> !decide (p∈bT pal size x aN))).map fun l=>(x -aN).fmod size::l:=by unfold lg;rw[fD];rfl
  have t7:=aaE (fun p=> !decide (p∈bT pal size x aN)) (x::r);cases hc:ja pal size k ((x::r).filter fun p=> !decide (p∈bT pal size x aN)) with
  |none=>
   rw[dm,hc];rw[hc] at hr;refine d8 (bD (Gd (aM.cast (aF (g0 (bT pal size x aN) V.int (fun p=> !decide (p∈x::r)) V.int (b6 (by kernel_rfl)) (i:=1) rfl (.inl rfl) rfl (bJ 2 0 rfl rfl rfl b5) (cE (.inl bP) (aa 4 nd rfl)) (fun nd a ha=>aF (aa 1 nd rfl) (aa 2 nd rfl) (oV bu.int (by decide) trivial bR)) (fun nd a ha z=>aa 1 nd rfl) (by show _<=2^24;exact "[A64[A^24" b7)) (dA ao (by decide))
   (gW (a:=(bT pal size x aN).filter fun p=> !decide (p∈x::r)) (b:=[]) iG (by decide) bR bR)) (Bw.trans fD)) (aH (aQ 5 (aR 6 B (AN B) (zZ B) rfl (ae (g0 (x::r) V.int (fun p=> !decide (p∈bT pal size x aN)) V.int (b6 (by kernel_rfl)) (i:=1) rfl (.inl rfl) rfl (bJ 2 4 rfl rfl rfl b5) (cE (.inl bP) (aa 0 nd rfl)) (fun nd a ha=>aF (aa 1 nd rfl) (aa 2 nd rfl) (oV bu.int (by decide) trivial bR)) (fun nd a ha z=>aa 1 nd rfl) (by show _<=2^24;exact aaa ‹_› (by decide))) (ae (aa 1 nd rfl) (ae (aa 2 nd rfl) ao))) (hr _)) rfl)
    (bD (Ga (aF (aa 5 nd rfl) en (mj (fun z h=>nomatch h))) (zF fun p hp=>hp)))))) (fun p hp=> ?_) (aae _)
   simp only[ZU,aaz,or_false] at hp;rcases hp with rfl|rfl|rfl<;>exact bw rfl
  |some l'=>
   have iO:=Oj pal size k _ l' hc;rw[dm,hc];rw[hc] at hr
   exact bD (Gd (aM.cast (aF (g0 (bT pal size x aN) V.int (fun p=> !decide (p∈x::r)) V.int (b6 (by kernel_rfl)) (i:=1) rfl (.inl rfl) rfl (bJ 2 0 rfl rfl rfl b5) (cE (.inl bP) (aa 4 nd rfl)) (fun nd a ha=>aF (aa 1 nd rfl) (aa 2 nd rfl) (oV bu.int (by decide) trivial bR)) (fun nd a ha z=>aa 1 nd rfl) (by show _<=2^24;exact ZW ‹_› (by decide))) (dA ao (by decide))
   (gW (a:=(bT pal size x aN).filter fun p=> !decide (p∈x::r)) (b:=[]) iG (by decide) bR bR)) (Bw.trans fD)) (aH (aQ 5 (aR 6 B (AN B) (zZ B) rfl (ae (g0 (x::r) V.int (fun p=> !decide (p∈bT pal size x aN)) V.int (b6 (by kernel_rfl)) (i:=1) rfl (.inl rfl) rfl (bJ 2 4 rfl rfl rfl b5) (cE (.inl bP) (aa 0 nd rfl)) (fun nd a ha=>aF (aa 1 nd rfl) (aa 2 nd rfl) (oV bu.int (by decide) trivial bR)) (fun nd a ha z=>aa 1 nd rfl) (by show _<=2^24;exact aaa ‹_› (by decide))) (ae (aa 1 nd rfl) (ae (aa 2 nd rfl) ao))) (hr _)) rfl)
    (lB (aF (aa 5 nd rfl) en (mj (fun z h=>nomatch h))) (bZ (ag (dA (ae (ag (ag (kz (aa 0 nd rfl) aj (by decide) (by decide) rfl) (aa 3 nd rfl) d6) (aa 2 nd rfl) (cH (by exact Int.ne_of_gt ‹_›))) ao) (by show(1:Nat)<=2^24;decide)) (aa 5 nd rfl) (j8 (by show _<=2^24;simp;exact "[A64[BA[+1B16777216" hk iO)))))))
set_option tactic.hygienic true in
theorem Mu{pal r:List Int}{size x:Int}(hl:(x::r).length<=64)(hp:pal.length<=64)
 (hb: ∀aN∈pal,aD w [] H l 40 (aJ (ay 34)) [(3, .int aN),(0,aO (x::r)),(1,aO pal),(2, .int size)] [] (tF (aT (ay 34)) 1) (.next [(0,aO (x::r)),(1,aO pal),(2, .int size)] [])):
 aD w [] H l 40 (aJ (ay 34)) [(0,aO (x::r)),(1,aO pal),(2, .int size)] [] (aT (ay 34)) (.ret .none []):=by
 have nd:=yh
 conv at nd=>arg 1;whnf
 conv at hb=>intro aN hh;arg 6;whnf
 conv at hb=>intro aN hh;arg 9;whnf
 conv=>arg 6;whnf
 conv=>arg 9;whnf
 refine jP (aM.cast (aF (aa 0 nd rfl) (dA ao (by decide)) (gW (a:=x::r) (b:=[]) iG (by decide) bR bR)) rfl) ?_;refine aH (kD (items:=pal.map V.int) (M:=(pal.map V.int).length) (R:=fun z=>[(0,aO (x::r)),(1,aO pal),(2, .int size)]) (R':=fun k=>[(3, .int (pal[k]?.getD 0)),(0,aO (x::r)),(1,aO pal),(2, .int size)]) (O:=fun z=>[])
  (cE (.inl bP) (aa 1 nd rfl)) (fun p hp=>hp) rfl (fun k v hk hv=> ?_) (fun k v hk hv=> ?_) (.inl ⟨rfl,rfl⟩)) (bZ en)
 ·obtain⟨y,h1,rfl⟩:=nX hv
  rw[h1];exact m6 3 rfl
 ·obtain⟨y,h1,rfl⟩:=nX hv
  rw[h1];exact hb y (aag h1)
set_option tactic.hygienic true in
theorem Mv{pal uH Jy r l':List Int}{size x aN:Int}(hl:(x::r).length<=64)(hp:pal.length<=64)(IP:pal=uH++aN::Jy)
 (hb: ∀aN∈uH,aD w [] H l 40 (aJ (ay 34)) [(3, .int aN),(0,aO (x::r)),(1,aO pal),(2, .int size)] [] (tF (aT (ay 34)) 1) (.next [(0,aO (x::r)),(1,aO pal),(2, .int size)] []))
 (he:aD w [] H l 40 (aJ (ay 34)) [(3, .int aN),(0,aO (x::r)),(1,aO pal),(2, .int size)] [] (tF (aT (ay 34)) 1) (.ret (aO l') [])):
 aD w [] H l 40 (aJ (ay 34)) [(0,aO (x::r)),(1,aO pal),(2, .int size)] [] (aT (ay 34)) (.ret (aO l') []):=by
 have nd:=yh
 conv at nd=>arg 1;whnf
 conv at hb=>intro aN hh;arg 6;whnf
 conv at hb=>intro aN hh;arg 9;whnf
 conv at he=>arg 6;whnf
 conv at he=>arg 9;whnf
 conv=>arg 6;whnf
 conv=>arg 9;whnf
 have hM:pal[uH.length]?=some aN:=by rw[IP];simp
 refine jP (aM.cast (aF (aa 0 nd rfl) (dA ao (by decide)) (gW (a:=x::r) (b:=[]) iG (by decide) bR bR)) rfl) ?_;refine qN (kD (items:=pal.map V.int) (M:=uH.length) (R:=fun z=>[(0,aO (x::r)),(1,aO pal),(2, .int size)]) (R':=fun k=>[(3, .int (pal[k]?.getD 0)),(0,aO (x::r)),(1,aO pal),(2, .int size)]) (O:=fun z=>[])
  (cE (.inl bP) (aa 1 nd rfl)) (fun p hp=>hp) rfl (fun k v hk hv=> ?_) (fun k v hk hv=> ?_) (.inr ⟨.int aN,aO l',[],by rw[aal,hM];rfl,by rw[hM];exact he,rfl⟩))
 ·obtain⟨y,h1,rfl⟩:=nX hv
  rw[h1];exact m6 3 rfl
 ·obtain⟨y,h1,rfl⟩:=nX hv
  rw[h1];refine hb y ?_;rw[IP,List.getElem?_append_left hk] at h1;exact aag h1
theorem M4(B:ai w tk H){pal:List Int}{size:Int}(hsz:0<size)(hp:pal.length<=64)(k:Nat): ∀(left:List Int) (l n:Nat),left.length<=k->k<=64->(∀y∈left,0<=y/\y<size)->
 aU w H (l+k+1) n (.ref 354) [aO left,aO pal, .int size] (sa (ja pal size (k+1) left)):=by
 induction k with
 |zero=>
  intro left l n h _ _;cases left with
  |nil=>exact dy B (tD B) vR rfl EK
  |cons=>exact absurd h (Nat.not_succ_le_zero _)
 |succ k ih=>
  intro left l n h hk hy;cases left with
  |nil=>exact dy B (tD B) vR rfl EK
  |cons x r=>
   have hx:=hy x ZR;have Cg: ∀aN∈pal,∀l n,aU w H (l+k+1) n (.ref 354) [aO ((x::r).filter fun p=> !decide (p∈bT pal size x aN)),aO pal, .int size] (sa (ja pal size (k+1) ((x::r).filter fun p=> !decide (p∈bT pal size x aN)))):=fun aN hh l n=>by
    refine ih _ l n ?_ (by exact abq ‹_›) fun y xN=>hy y (aaQ.mp xN).1
    have hm:x∈bT pal size x aN:=Z1.mpr ⟨aN,hh,by
     rw[show aN+x -aN=x by exact "@#-+abab" (),aco _ (by exact ac7 ‹_›)];exact Int.emod_eq_of_lt hx.1 hx.2⟩
    rw[ado,if_neg (by simp[hm])];have:=aaE (fun p=> !decide (p∈bT pal size x aN)) r;simp at h;exact ZW ‹_› ‹_›
   have pB:=fun aN hh=>MO B (x:=x) (r:=r) hsz hk hp (by simp at h;simp;exact "[+A1_64[BA[B63" hk h) (Cg aN hh l)
   have hlen:(x::r).length<=64:=by simp at h;simp;exact "[+A1_64[BA[B63" hk h
   rw[wj];cases e:pal.findSome? (lg pal size x r (k+1)) with
   |none=>
    have jk:=List.findSome?_eq_none_iff.mp e;refine dy B (tD B) vR rfl (ow:=[]) (Mu hlen hp fun aN hh=> ?_);have:=pB aN hh;rw[jk aN hh] at this;exact this
   |some l'=>
    obtain⟨uH,aN,Jy,h1,h2,h3⟩:=List.findSome?_eq_some_iff.mp e;refine dy B (tD B) vR rfl (ow:=[]) (Mv hlen hp h1 (fun y xN=> ?_) ?_)
    ·have:=pB y (by rw[h1];exact abX _ xN)
     rw[h3 y xN] at this;exact this
    ·have:=pB aN (by rw[h1];simp)
     rw[h2] at this;exact this
noncomputable abbrev T3:=Int×Int×Int
noncomputable def tv(k:T3):V:= .tup [.int k.1, .int k.2.1, .int k.2.2]
noncomputable def ft(size:Int):List Int:=(aS 1 (size+1)).filter fun s=>size.fmod s==0
noncomputable def jN(vals:List T3)(s:Int):Int:=vals.foldl (fun b k=>if s.fmod k.1==0 then b*k.2.1 else b) 1
noncomputable def sF(base:Int)(vals:List T3)(s:Int):T3:=(s,(base^s.toNat -1).fdiv (jN vals s),(base^s.toNat -1).fmod (jN vals s))
noncomputable def gf(base:Int):List T3->List Int->List T3
 |acc,[]=>acc
 |acc,s::ss=>gf base (acc++[sF base acc s]) ss
theorem KU(base:Int)(acc:List T3)(s:Int)(ss:List Int):gf base acc (s::ss)=gf base (acc++[sF base acc s]) ss:=rfl
theorem YW(base:Int): ∀(ss:List Int) (acc:List T3) (s:Int),gf base acc (ss++[s])=gf base acc ss++[sF base (gf base acc ss) s]:=by
 intro rr
 induction rr with
 |nil=>
  exact fun acc s=>rfl
 |cons t ss ih=>
  exact fun acc s=>by rw[List.cons_append,KU,ih];rfl
theorem KV(base:Int): ∀(ss:List Int) (acc:List T3),(gf base acc ss).length=acc.length+ss.length:=by
 intro rr
 induction rr with
 |nil=>
  exact fun acc=>rfl
 |cons t ss ih=>
  exact fun acc=>by rw[KU,ih];simp;exact Nat.add_right_comm _ _ _
noncomputable def Ad(N m:Nat):Bool:=decide (N.log2<200)&&decide (m.log2<1999)&&decide ((N.log2+(m.log2+1))/(m.log2+1)<=2^7)
theorem Oz{N m:Nat}(h:Ad N m=true):i7 200 N m:=by
 simp only[Ad,aax,decide_eq_true_eq] at h;exact⟨by decide,aaa Nat.lt_log2_self (aat (by decide) (by exact "<A200[+A1_200" h.1.1)),h.1.2,h.2⟩
noncomputable def yE(a:Int):Bool:=decide (a.natAbs.log2<400)
theorem Kv{a:Int}(h:yE a=true):aad a<=2^20:=by
 simp only[yE,decide_eq_true_eq] at h;unfold aad;split<;>lia
noncomputable def yM(base:Int)(vals:List T3)(s:Int):Bool:=
 decide (1<=s)&&decide (s<=12)&&(vals.all fun k=>k.1 !=0&&yE k.2.1)&&((aac (vals.length+1)).all fun j=>yE (jN (vals.take j) s))&&(jN vals s !=0)&&Ad (base^s.toNat -1).natAbs (jN vals s).natAbs
noncomputable def sG(base:Int):List T3->List Int->Bool
 |_,[]=>true
 |acc,s::ss=>yM base acc s&&sG base (acc++[sF base acc s]) ss
theorem KW(base:Int): ∀(ss:List Int) (acc:List T3),sG base acc ss=true-> ∀(k:Nat) (s:Int),ss[k]?=some s->yM base (gf base acc (ss.take k)) s=true
 |t::ss,acc,h,0,s,e=>by simp at e;subst e;exact(ZT.mp h).1
 |t::ss,acc,h,k+1,s,e=>KW base ss _ (ZT.mp h).2 k s (by simpa using e)
set_option tactic.hygienic true in
theorem MP(B:ai w tk H){size base s:Int}{vals:List T3}{D:Addr}(hv:vals.length<=64)(rC:0<=base)(iM:base<2^62)(cU:yM base vals s=true):
 aD w [] H (l+13) 40 (aJ (ay 35)) [(3, .int s),(2, .at D),(0, .int size),(1, .int base)] [(D,vals.map tv)] (tF (aT (ay 35)) 1) (.next [(2, .at D),(0, .int size),(1, .int base)] [(D,(vals++[sF base vals s]).map tv)]):=by
 have nd:=JG
 conv at nd=>arg 1;whnf
 conv=>arg 6;whnf
 conv=>arg 9;whnf
 simp only[yM,aax,decide_eq_true_eq,bne_iff_ne,ne_eq] at cU;obtain⟨⟨⟨⟨⟨h1,h2⟩,h3⟩,h4⟩,h5⟩,h6⟩:=cU;refine aH (aQ 4 aj rfl) ?_
 refine aH (Ap (i:=2) (ρ':=[(4, .int (jN vals s)),(3, .int s),(2, .at D),(0, .int size),(1, .int base)]) (bw rfl) (kD (items:=vals.map tv) (M:=(vals.map tv).length) (R:=fun j=>[(4, .int (jN (vals.take j) s)),(3, .int s),(2, .at D),(0, .int size),(1, .int base)]) (R':=fun j=>[(5,tv (vals[j]?.getD (0,0,0))),(4, .int (jN (vals.take j) s)),(3, .int s),(2, .at D),(0, .int size),(1, .int base)]) (O:=fun z=>[])
  (cE (.inl bP) (aa 2 nd rfl)) (fun p hp=> ?_) rfl (fun j v hj hv=> ?_) (fun j v hj hv=> ?_) (.inl ⟨rfl,?_⟩)) rfl) ?_
 ·simp only[ZU,aaz,or_false] at hp
  rcases hp with rfl|rfl|rfl|rfl|rfl
  ·exact bw rfl
  ·exact bw rfl
  ·exact ZP _ (bw rfl)
  ·exact bw rfl
  ·exact bw rfl
 ·rw[aal] at hv
  cases e:vals[j]? with
  |none=>rw[e] at hv;cases hv
  |some k=>rw[e] at hv;cases hv;exact m6 5 rfl
 ·rw[aal] at hv
  cases e:vals[j]? with
  |none=>rw[e] at hv;cases hv
  |some k=>
   have h7:=Z3.mp h3 k (aag e);simp only[aax,bne_iff_ne,ne_eq] at h7;have h8:=Z3.mp h4 j (aaq.mpr (by have:=(aa2.mp e).1;exact Nat.le_succ_of_le ‹_›));have h9:jN (vals.take (j+1)) s=if s.fmod k.1==0 then jN (vals.take j) s*k.2.1 else jN (vals.take j) s:=by
    rw[ab9,e];unfold jN;rw[List.foldl_append];rfl
   simp only[h9,aen];refine d8 (bD (aQ 4 (mv (f:=V.int) (aF (ag (aa 3 nd rfl) (cZ (aa 5 nd rfl) aj (by decide) (by decide) (j:=0) rfl rfl) (cH h7.1)) aj cJ) (fun z=>ag (aa 4 nd rfl) (cZ (aa 5 nd rfl) aj (by decide) (by decide) (j:=1) rfl rfl) (d5 (.of_bits (Kv h8) (Kv h7.2)))) (fun z=>aa 4 nd rfl)) rfl)) (fun p hp=> ?_) (aae _);simp only[ZU,aaz,or_false] at hp
   rcases hp with rfl|rfl|rfl|rfl|rfl<;>exact bw rfl
 ·simp
 ·have pR:aad base*s<=2^27:=by
   have:aad base<=64:=by
    unfold aad;split
    ·exact aav _
    ·rename_i h
     have h2:base.natAbs≠0:=by simpa using h
     have:=(ad9 h2).mpr (show base.natAbs<2^63 by exact ">a^62#'Aa<A^63" iM (aas (rC)));exact aaa ‹_› (abf _ _)
   have hh:((aad base:Nat):Int)*s<=64*12:=Int.mul_le_mul (by exact aei.mpr ‹_›) h2 (by exact ac7 ‹_›) (by decide);exact adx ‹_› (by decide)
  have uq:gf base [] []=[]:=rfl
  refine d8 (bD (q0 (i:=2) rfl (bw rfl) (v:=tv (sF base vals s)) (ah.cast (ag (bU (ae (aa 3 nd rfl) ao) (aca rfl)) (aR 7 B (lL B) (lD B) rfl (ae (ag (ag (aa 1 nd rfl) (aa 3 nd rfl) (j9 (by exact ac7 ‹_›) pR)) aj d6) (ae (aa 4 nd rfl) ao)) (oX B h5 (Oz h6))) (Wg (aca rfl))) rfl) (by rw[ZQ];show _<=2^24;exact ZW ‹_› (by decide)) (nd.at rfl (i:=2)).1 (nd.at rfl (i:=2)).2)) (fun p hp=> ?_) (by rw[aaA];exact aae _)
  simp only[ZU,aaz,or_false] at hp;rcases hp with rfl|rfl|rfl<;>exact bw rfl
set_option tactic.hygienic true in
theorem Nz(B:ai w tk H){size base:Int}(hsz:0<size)(Co:size<=63)(rC:0<=base)(iM:base<2^62)(cU:sG base [] (ft size)=true):
 aU w H (l+14) n (.ref 359) [.int size, .int base] (.list ((gf base [] (ft size)).map tv)):=by
 have nd:=JG
 conv at nd=>arg 1;whnf
 have BR:(aS 1 (size+1)).length<=63:=by rw[fb];simp[*]
 have nM:(ft size).length<=63:=ZW (aaE _ _) BR;refine dy B (Hb B) L2 rfl (ow:=[]) ?_;show aD w [] H (l+13) 40 (aJ (ay 35)) [(0, .int size),(1, .int base)] [] (aT (ay 35)) _
 have pB:=fun(k:Nat) (s:Int) (D:Addr) (h:(ft size)[k]?=some s)=>MP (l:=l) (size:=size) (D:=D) B (by rw[KV];simp;exact "[A63[BA[B64" nM (abj _ _)) rC iM (KW base _ _ cU k s h)
 conv at pB=>intro k s D h;arg 6;whnf
 conv at pB=>intro k s D h;arg 9;whnf
 conv=>arg 6;whnf
 conv=>arg 9;whnf
 refine vX (i:=2) ?nx (.inl rfl) ?nr (h:=fun D=> ?_)
 case nx=>rfl
 case nr=>rfl
 refine aH (kD (items:=(ft size).map V.int) (M:=((ft size).map V.int).length) (R:=fun z=>[(2, .at D),(0, .int size),(1, .int base)]) (R':=fun j=>[(3, .int ((ft size)[j]?.getD 0)),(2, .at D),(0, .int size),(1, .int base)]) (O:=fun j=>[(D,(gf base [] ((ft size).take j)).map tv)])
  (cE (.inl bP) (g0 (aS 1 (size+1)) V.int (fun s=>size.fmod s==0) V.int (b6 (by kernel_rfl)) (i:=1) rfl (.inl rfl) rfl (bJ 2 0 rfl rfl rfl b5) (xS (i:=6) B (g9 B) rfl bP aj (ag (aa 0 nd rfl) aj ck) (by exact Z0 _) (by exact Z0 _) (by exact ">0a]~^62+a1" hsz) (by exact "]a63>+a1^62" Co)) (fun nd a ha=>aF (ag (aa 2 nd rfl) (aa 1 nd rfl) (cH ?_)) aj cJ) (fun nd a ha z=>aa 1 nd rfl) (by show _<=2^24;exact ZW ‹_› (by decide))))
  (fun p hp=>hp) rfl (fun k v hk hv=> ?_) (fun k v hk hv=> ?_) (.inl ⟨rfl,rfl⟩)) (oQ (i:=2) (bw rfl) ?_)
 ·have:=fc.mp ha;exact "]1a!#a0" this.1
 ·obtain⟨y,h1,rfl⟩:=nX hv
  rw[h1];exact m6 3 rfl
 ·obtain⟨y,h1,rfl⟩:=nX hv
  rw[h1,ab9,h1];show aD _ _ _ _ _ _ _ _ _ (aW.next _ [(D,(gf base [] (_++[y])).map tv)])
  rw[YW];exact pB k y D h1
 ·rw[show((ft size).map V.int).length=(ft size).length by simp,adj]
  exact bZ (aa 2 nd rfl)
noncomputable abbrev c8:Scope:=aJ (ay 37)
noncomputable def dI(a b:Nat):List Stmt:=((aT (ay 37)).drop a).take b
noncomputable def kI:List Int:=[3769182,1354017967896,621900]
noncomputable def qR(ff:List Int):List Int:=(aS 0 3).map fun k=>kI.getD k.toNat 0+((cm ff (some k) (some 60) (some 3)).map fun x=>x.fmod (10^15)).sum
noncomputable def lW:List Int:=[12,8,12,9,12,10]
noncomputable def m4(c:Int):Int:=lW.getD (c.fmod 6).toNat 0
noncomputable def bA(n:Int):Str:=Txt.slice "filsthpamkwb" none (some n)
structure vG(letters again:Str)(ty:List (Str×Str))(sg:List (Nat×Str)):Prop where
 ty:ty=sg.map fun p=>((⟨#[p.1]⟩:Str),p.2)
 sl:sg.length<=100
 po: ∀p∈ig letters again,qr p
 pl: ∀p∈ig letters again,p.1.length<=5592405
 j1:JoinOk "" ((sg.filter fun p=> !decide ((p.1:Int)∈dw)).map fun p=>i8 p.1)=true
 j2:JoinOk "" (sg.map (·.2))=true
 w:(cB sg).length<=1000
 rw:vc sg=cB sg
 te: ∀c∈(cB sg).cps.toList,fC (ig letters again) c=cS letters c
 fd: ∀c∈(cB sg).cps.toList,(ip c=some true\/ip c=some false)/\(aau ⟨#[c]⟩).cps.size<2^62/\(aau ⟨#[c]⟩).length<=5592405/\c<0x110000
 ix: ∀c∈(cB sg).cps.toList,∀i rest,abH letters ⟨#[c]⟩ 0 letters.length 1=i::rest->i<12
 so: ∀c∈(cB sg).cps.toList,∀x,cS letters c=some x->aa6 x=true
noncomputable def lk(letters:Str)(sg:List (Nat×Str)):List (Option Str):=(cB sg).cps.toList.map fun c=>cS letters c
theorem O3{ve e:Expr}{p pos:Pos}{x:Str}{j:Int}(ha:ah w H l n sc ρ ve (.str x))(hb:ah w H l n sc ρ e (.int j))(hsz:x.length<=Z7)
 (hs:autoParam (∀t d,∃ops,ac4 (.Slice none (some e) none p) false (.str x t) (.ref d)=operate ops (getItem (.str x t) (.ref d))) au):
 ah w H l n sc ρ (.Subscript ve (.Slice none (some e) none p) pos) (.str (Txt.slice x none (some j))):= .mk fun env A s G r S Q E k=>
 ad1 (ha.go env A s G r S _ E fun ca s₁ G₁ af aA=>wpAny_Slice (by
  obtain⟨t,rfl⟩:=dC aA;rw[evalPart_none];refine ZS (hb.go env A s₁ G₁ r (S.ext af) _ E fun c1 ar aB ax p1=> ?_);obtain⟨u,rfl⟩:=aZ p1;refine ZS ?_;obtain⟨ops,ho⟩:=hs t ar.heap.objs.size;have y:=iZ (o:={cls:= .type "slice",data:= .fields #[.none, .int j u, .none]}) ax.inn ar.toks
  refine DK (s:={ar with heap:=ar.heap.push {cls:= .type "slice",data:= .fields #[.none, .int j u, .none]} }) (T:= "str") (typeIs_str _ _ _) F.slot_str_getitem.lookup (wpAny_getItem_str_slice (l:=none) (u:=some (j,u)) (st:=none) ⟨_,aai _ rfl,rfl,rfl⟩ rfl
   (post_val_or_str ⟨ZW (Txt.slice_le x _ _) hsz,fun t' m=>k _ _ aB ((af.trans ax).trans (y.trans (ak.toks y.inn m))) (.str _ _)⟩)) ho))
set_option tactic.hygienic true in
theorem vW: ∀{ss tt:List Stmt},eI w X H l n sc ρ ow ss (.next ρ' ow')->eI w X H l n sc ρ' ow' tt o->eI w X H l n sc ρ ow (ss++tt) o:=fun{ss tt} h k=>(fun fr ms env A G₀ s₀ G s Q E C K q r I kk=>vP _ (h fr ms env A G₀ s₀ G s _ E C K q r I fun f G' s' ok K'=>by
 obtain⟨rfl,I'⟩:=ok;exact⟨rfl,k fr ms env A G₀ s₀ G' s' Q E C K' q r I' kk⟩))
theorem Nr(B:ai w tk H)(B3:l3 w H){letters again:Str}{ty:List (Str×Str)}{sg:List (Nat×Str)}(hl:letters.length<=12)(R:vG letters again ty sg):
 sR w H (l+4) n (.ref 349) [.list (ty.map pv), .str letters, .str again] (.list ((lk letters sg).map ostr)):=by
 have e:(lk letters sg).map ostr=(cB sg).cps.toList.map fun c=>ostr (cS letters c):=by unfold lk;rw[aaf];rfl
 rw[e,R.ty];exact Nq B B3 hl R.sl R.po R.pl R.j1 R.j2 R.w R.rw R.te R.fd R.ix R.so
theorem WM{α:Type}(x:List α)(a:Int):(cm x (some a) (some 60) (some 3)).length<=200:=by
 unfold cm;refine ZW (List.length_filterMap_le _ _) ?_;unfold sliceRange;rw[ZQ,abw];simp only[ab4,aen];have h3:(3:Int)>0:=by decide
 simp only[h3,if_true];have QM: ¬((60:Int)<0):=by decide
 simp only[QM,if_false];have key: ∀s e:Int,0<=s->e<=60->(if s<e then(e -s+3 -1)/3 else 0).toNat<=200:=fun s e h1 h2=>by
  refine Int.toNat_le.mpr ?_;split
  ·exact adx (Int.ediv_le_ediv (by decide) (show e -s+3 -1<=62 by exact "]0a]b60]-+-ba3_1_62" h1 h2)) (by decide)
  ·decide
 exact key _ _ (Int.le_max_left _ _) (Int.max_le.mpr ⟨by decide,Int.min_le_left _ _⟩)
theorem YX{ls:List Int}{x:Int}(h:ls[0]?=some x):(ls.map V.int)[(0:Int).toNat]?=some (.int x):=by
 rw[aal];show Option.map _ ls[0]?=_;rw[h];rfl
theorem Dz{i:Int}{k:Nat}(h0:0<=i)(h1:i<k):ad2 i k=some i.toNat:=by
 unfold ad2;have h2: ¬i<0:=by exact abK.mpr ‹_›
 simp only[h2,if_false];rw[if_pos (by simp[h0,h1])]
set_option tactic.hygienic true in
theorem p1(B:ai w tk H)(B3:l3 w H){ff:List Int}{c0 c1 c2 size:Int}{letters:Str}{drawn:List Int}{d0 c:Nat}{sg:List (Nat×Str)}(il:ff.length<=63)(b7:qR ff=[c0,c1,c2])(hsz:size=m4 c0)(aV:letters=bA size)
 (h8:8<=size) (h12:size<=12) (hlen:(letters.length:Int)=size) (hdr:drawn=qt (c0.fdiv 6) size) (cw:drawn[0]?=some (d0:Int)) (xl: ∀p∈drawn,0<=p/\p<letters.length) (nM:drawn.length<=12) (hc:letters.cps[d0]?=some c)
 (R:vG letters (qS c) (vt drawn letters c1) sg):
 eI w [] H (l+14) 40 c8 [(0,aO ff)] [] (dI 0 6) (.next [(7, .list ((lk letters sg).map ostr)),(6,aO drawn),(5, .str letters),(4, .int size),(3,aO [c0,c1,c2]),(1,lq kI),(0,aO ff)] []):=by
 have nd:aL c8:=j6
 conv at nd=>arg 1;whnf
 conv=>arg 6;whnf
 conv=>arg 9;whnf
 refine oS (aQ (v:=lq kI) 1 (bU (ae aj (ae aj (ae aj ao))) (show 3<=Z7 by decide)) rfl) ?_;refine oS (wJ (j:=3) (aS 0 3) V.int (fun k=> .int (kI.getD k.toNat 0+((cm ff (some k) (some 60) (some 3)).map fun x=>x.fmod (10^15)).sum)) (b6 (by kernel_rfl)) (i:=1) rfl (.inl rfl) rfl (bJ 3 1 rfl rfl rfl (bJ 4 0 rfl rfl rfl b5))
  (lT B (g9 B) (i:=48) rfl bP aj (by decide) (by decide)) (fun nd a ha=> ?ga) (by decide+kernel) rfl rfl) ?_
 case ga=>
  have hr:=fc.mp ha;have Cd:cm (ff.map V.int) (some a) (some 60) (some 3)=(cm ff (some a) (some 60) (some 3)).map V.int:=J8 _ _ _ _ _;have dM:(cm ff (some a) (some 60) (some 3)).length<=sizeLine:=by
   exact ZW (WM _ _) (by decide)
  refine ag (cZ (x:=kI.map V.int) (j:=a.toNat) (v:= .int (kI.getD a.toNat 0)) (aa 3 nd rfl) (aa 1 nd rfl) (by exact "]0a]~^63a" hr.1) (by exact acg (aej ‹_›) (by decide)) ?h1 ?h2) (aR 2 B (Qz B) (.bi _) rfl (ae (ah.cast (jc (cm ff (some a) (some 60) (some 3)) V.int (fun x=> .int (x.fmod (10^15))) (b6 (by kernel_rfl)) (i:=1) rfl (.inl rfl) rfl b5
   (cE (.inl bP) (ah.cast (kB (aa 4 nd rfl) (.some (aa 1 nd rfl)) (.some aj) (.some aj) (by decide) (by rw[ZQ];exact ZW il (by decide))) (congrArg V.list Cd)))
   (fun nd x hx=>ag (aa 1 nd rfl) (ag aj aj (j9 (by decide) (by decide))) (cH (by decide))) dM) ?h3) ao) Nw) ck
  case h1=>exact Dz hr.1 hr.2
  case h2=>
   have: ∀k<3,(kI.map V.int)[k]?=some (.int (kI.getD k 0)):=fun k hk=>by
    rw[aal,aaG];have:k<kI.length:=hk;rw[aaT this];rfl
   exact this _ (by simp[*])
  case h3=>rw[aaf];rfl
 have Bv:((aS 0 3).map fun k=>V.int (kI.getD k.toNat 0+((cm ff (some k) (some 60) (some 3)).map fun x=>x.fmod (10^15)).sum))=[c0,c1,c2].map V.int:=by
  rw[<-b7];unfold qR;rw[aaf];rfl
 rw[Bv];have HU:=cj (a:=c0) (b:=6) (by decide);have S5:lW.getD (c0.fmod 6).toNat 0=size:=hsz.symm
 refine oS (aQ (v:= .int size) 4 (cZ (x:=lW.map V.int) (i:=c0.fmod 6) (bU (ae aj (ae aj (ae aj (ae aj (ae aj (ae aj ao)))))) (show 6<=Z7 by decide)) (ag (kz (aa 3 nd rfl) aj (by decide) (by decide) rfl) aj (cH (by decide))) (by exact "]0a]~^63a" HU.1) (by exact acg (aej ‹_›) (by decide)) (Dz HU.1 (by show _<((6:Nat):Int);simp[*])) ?h2) rfl) ?_
 case h2=>
  have: ∀k<6,(lW.map V.int)[k]?=some (.int (lW.getD k 0)):=fun k hk=>by
   rw[aal,aaG];have:k<lW.length:=hk;rw[aaT this];rfl
  rw[this _ (by simp[*]),S5]
 refine oS (aQ (v:= .str letters) 5 (ah.cast (O3 kC (aa 4 nd rfl) (by decide)) (show _=V.str letters by rw[aV];rfl)) rfl) ?_;refine oS (aQ (v:=aO drawn) 6 (aR 49 B (Qk B) (NX B) rfl (ae (ag (kz (aa 3 nd rfl) aj (by decide) (by decide) rfl) aj (n7 (by decide) (acE (by decide)))) (ae (aa 4 nd rfl) ao)) (hdr▸Np (l:=l+4) B h8 h12)) rfl) ?_;have Sw:drawn≠[]:=fun e=>by rw[e] at cw;cases cw
 refine zw (O9 (v:= .list ((lk letters sg).map ostr)) B 7 50 (Ql B) (NZ B) rfl (Nr (l:=l+10) (again:=qS c) B B3 (by exact "]a12#'Aa[A12" h12 hlen) R) (ae (aR 51 B (Qm B) (NY B) rfl (ae (aa 6 nd rfl) (ae (aa 5 nd rfl) (ae (kz (aa 3 nd rfl) aj (by decide) (by decide) rfl) ao))) (Nx (l:=l+5) B Sw nM xl (by exact "]a12#'Aa[A12" h12 hlen)))
  (ae (aa 5 nd rfl) (ae (Am (aa 5 nd rfl) (kz (i:=0) (v:= .int d0) (aa 6 nd rfl) aj (by decide) (by decide) (by rw[YX cw])) (by exact Z0 _) ?hj hc) ao))) rfl)
 case hj=>have:=(xl _ (aag cw)).2;exact "]a12#'Aa>'B'A>'B^62" h12 hlen this
noncomputable def l6(w:Z2)(X:List Addr)(H:Heap)(l n:Nat)(sc:ZZ)(ρ:aw)(e:Expr)(f:Addr->V):Prop:=
 ∀(env:Env) (A:aaj) (G₀:GM) (s₀:ZL) (G:GM) (s:ZL) (ow:Ow) (Q:ZN->ZL->Prop) (E:ZN->ZL->Prop),bW A l n->av X H sc env ρ ow G₀ s₀ G s->
  (∀cv s' G' a,av X H sc env ρ ((a,[])::ow) G₀ s₀ G' s'->Rd G' (f a) cv->dO sc env ow X G s G' s'->s.heap.get? a=none->Q cv s')->Z6 (Z8 PW w) A (eval e env) Q E s
theorem av.gain(I:av X H sc env ρ ow G₀ s₀ G s)(x:ak aq G s G' s'){a:Addr}{k:Nat}(hn:s.heap.get? a=none)(hg:G' a=none)(hl:s'.heap.get? a=some (aI [] k)):av X H sc env ρ ((a,[])::ow) G₀ s₀ G' s'/\dO sc env ow X G s G' s':=by
 have aE:=I.ext' x;refine⟨⟨aE.st,aE.ext,aE.base₀,aE.lnew,aE.lG,aE.cnew,aE.cis,aE.cell,aE.ckeys,aE.xs,aE.apart,fun p hp=> ?_,abi.mpr ⟨fun p hp e'=> ?_,aE.dis⟩⟩,I.kept_ext x⟩
 ·rcases ZU.mp hp with rfl|hp
  ·refine⟨hg,fun o e'=> ?_, .inl (I.fresh hn),[],k,hl, .nil⟩
   have:=I.st.base _ o e' (ir aE.st.tab hl);rw[hn] at this;cases this
  ·exact aE.own p hp
 ·obtain⟨_,_,_,vs,k',h4,_⟩:=I.own p hp
  have o8:a=p.1:=e';rw[<-o8,hn] at h4;cases h4
theorem F0{p:Pos}:l6 w X H l n sc ρ (.List [] p) V.at:=fun env A G₀ s₀ G s ow Q E r I k=>wpAny_List (aeK ⟨aav _,by
 have x:ak aq G s G {s with heap:=s.heap.push (aI [] 0),toks:=s.toks}:=ak.grown I.st.inn _ fun b y e=>Z9 _ e
 have hn:s.heap.get? s.heap.objs.size=none:=ct (aab _);obtain⟨I',K'⟩:=I.gain (k:=0) x hn (cY I.st.inn hn) (aai _ rfl);exact k _ _ G _ I' (.at _) K' hn⟩)
theorem F1{e1 e2:Expr}{k:Nat}{p:Pos}{v:V}{f:Addr->V}(h1:ah w H l n sc ρ e1 v)(h2:l6 w X H l n sc ρ e2 f)(Cm:autoParam (rZ e1=true) au)(Cn:autoParam (rZ e2=true) au):l6 w X H l n sc ρ (.Tuple [e1,e2] k p) (fun a=> .tup [v,f a]):=
 fun env A G₀ s₀ G s ow Q E r I kk=>wpAny_Tuple (wpAny_items_cons (h1.go env A s G r I.st _ E fun cv s₁ G₁ af aA=>wpAny_items_cons (h2 env A G₀ s₀ G₁ s₁ ow _ E r (I.ext' af) fun o7 ar aB a bf bx k₂ B6=>aeK ⟨show 2<=Z7 by decide,by
  have:=uT bf.st.inn (.cons (cN k₂.1 aA) (.cons bx .nil)) ar.toks (k:=0);exact kk _ _ _ a (bf.ext' this.1) this.2 (((I.kept_ext af).trans k₂).trans ((bf.sub (ow':=ow) (fun p hp=>hp) (List.sublist_cons_self _ _)).kept_ext this.1)) (jA af (I.st.ext af).tab B6)⟩) (vn Cn)) (vn Cm))
theorem Mz{es:List Expr}{k:Nat}{p pos:Pos}{e:Expr}{f:Addr->V}{x:Addr->List V}{rest:List Stmt}{ρ':Addr->aw}(h:l6 w X H l n sc ρ e f)(hv: ∀a,(f a).items?=some (x a))(t: ∀a,kr w X H sc es ρ (x a) (ρ' a))
 (hr: ∀a,aD w X H l n sc (ρ' a) ((a,[])::ow) rest o)
 (hs:autoParam (aex [.Tuple es k p] e pos.line (da sc)=pure false) au) (hw:autoParam (aey [.Tuple es k p] e (da sc)=pure none) au):aD w X H l n sc ρ ow (.Assign [.Tuple es k p] e pos::rest) o:=
 .mk fun env A G₀ s₀ G s Q E q r I kk=>aar (PyProof.Rows.Assign_Tuple (h env A G₀ s₀ G s ow _ E r I fun cv s₁ G₁ a aE aA z z=>
  (m7 (k:=k) (p:=p) (hv a) (t a)) env A G₀ s₀ G₁ s₁ ((a,[])::ow) cv _ E r.hd aE aA fun G' s' I' z=>(hr a).go env A G₀ s₀ G' s' Q E q r I' kk) (yG hs q) (yF hw q))
theorem MA{es:List Expr}{k:Nat}{p pos:Pos}{e:Expr}{f:Addr->V}{x:Addr->List V}{rest:List Stmt}{ρ':Addr->aw}{names:List Str}(h:l6 w X H l n sc ρ e f)(hv: ∀a,(f a).items?=some (x a))(hl: ∀a,(x a).length=names.length)(t: ∀a,oJ sc names.reverse ρ (x a).reverse (ρ' a))
 (hr: ∀a,aD w X H l n sc (ρ' a) ((a,[])::ow) rest o)
 (hs:autoParam (aex [.Tuple es k p] e pos.line (da sc)=pure false) au) (hw:autoParam (aey [.Tuple es k p] e (da sc)=pure (some names)) au):aD w X H l n sc ρ ow (.Assign [.Tuple es k p] e pos::rest) o:=
 .mk fun env A G₀ s₀ G s Q E q r I kk=>aar (ae2 (names:=names) (h env A G₀ s₀ G s ow _ E r I fun cv s₁ G₁ a aE aA z z=>by
  rw[<-hl a];exact DV (hv a) aA aE.st.inn r.hd fun cs ar ax rl=>t a _ _ _ _ _ A _ _ _ ar _ _ E (aE.ext' ax) rl.reverse fun G' s' I'=>(hr a).go env A G₀ s₀ G' s' Q E q r I' kk) (yG hs q) (yF hw q))
noncomputable def xV:List Int:=[6,4,7,4,12,12,12,4]
structure Fg where
 more:Int
 share:Int
 value:Int
 turns:Int
 one:Int
 two:Int
 factor:Int
 signs:Int
noncomputable def Fg.ls(f:Fg):List Int:=[f.more,f.share,f.value,f.turns,f.one,f.two,f.factor,f.signs]
structure Fg.Ok(f:Fg):Prop where
 more:0<=f.more/\f.more<6
 share:0<=f.share/\f.share<4
 value:0<=f.value/\f.value<7
 turns:0<=f.turns/\f.turns<4
 one:0<=f.one/\f.one<12
 two:0<=f.two/\f.two<12
 factor:0<=f.factor/\f.factor<12
 signs:0<=f.signs/\f.signs<4
noncomputable def u4(size:Int)(told:List (Option Str)):List Int:=(aS 0 size).filter fun p=>decide ((some ((toString p:String):Str))∈told)
noncomputable def l0(size:Int)(letters:Str)(pal:List Int)(f:Fg):aw:=[(17, .int f.signs),(16, .int f.factor),(15, .int f.two),(14, .int f.one),(13, .int f.turns),(12, .int f.value),(11, .int f.share),(10, .int f.more),(9,aO pal),(5, .str letters),(4, .int size)]
noncomputable def bl(f:Fg):Nat:=2^(f.more.toNat+5)
noncomputable def br(f:Fg):Nat:=f.more.toNat+5
noncomputable def pw(size:Int)(pal:List Int):List Nat:=(aS 0 size).map fun p=>if decide (p∈pal) then 1 else 0
set_option tactic.hygienic true in
theorem p2(B:ai w tk H){size c0 c1 c2:Int}{letters:Str}{drawn:List Int}{told:List (Option Str)}{sv:V}{f:Fg}(h8:8<=size)(h12:size<=12)(pT: ∀x∈told,∀y,x=some y->aa6 y=true)(hf:jg c2 xV=f.ls):
 aD w [] H (l+14) 40 c8 [(7, .list (told.map ostr)),(6,aO drawn),(5, .str letters),(4, .int size),(3,aO [c0,c1,c2]),(1,lq kI),(0,sv)] [] (dI 6 3) (.next (l0 size letters (u4 size told) f) []):=by
 have nd:aL c8:=j6
 conv at nd=>arg 1;whnf
 conv=>arg 6;whnf
 conv=>arg 9;whnf
 refine aH (lI (aF (c:=false) (aa 7 nd rfl) en (mi fun z=>V.noConfusion)) gk) ?_;have HZ: ∀a∈aS 0 size,a.natAbs.log2<1920/\aa6 ((toString a:String):Str)=true:=fun a ha=>by
  have:=fc.mp ha;have h3: ∀m<12,((m:Nat):Int).natAbs.log2<1920/\aa6 ((toString ((m:Nat):Int):String):Str)=true:=by decide+kernel
  obtain⟨m,rfl⟩: ∃m:Nat,a=m:=⟨a.toNat,by exact(ZV (adn ‹_›)).symm⟩;exact h3 m (by exact "]a12>'Aa<A12" h12 this.2)
 refine aH (aQ (v:=aO (u4 size told)) 9 (ah.cast (g0 (aS 0 size) V.int (fun p=>decide ((some ((toString p:String):Str))∈told)) V.int (b6 (by kernel_rfl)) (i:=1) rfl (.inl rfl) rfl (bJ 3 7 rfl rfl rfl b5)
  (lT B (g9 B) (i:=48) rfl bP (aa 4 nd rfl) (by exact "]8a]~^62a" h8) (by exact acf ‹_› (by decide)))
  (fun nd a ha=>aM.cast (aF (aR 2 B (mC B) (.ty _) rfl (ae (aa 1 nd rfl) ao) (qP (HZ a ha).1)) (aa 3 nd rfl) (vZ (a:=some ((toString a:String):Str)) bu.ostr (by decide) (fun y hy=>by cases hy;exact(HZ a ha).2) pT)) (decide_eq_decide.mpr Iff.rfl))
  (fun nd a ha z=>aa 1 nd rfl) (by rw[fb];show _<=2^24;(simp at*;exact "]a12]a16777216" h12))) rfl) rfl (hs:=rfl)) ?_
 refine d8 (bD (je (aR 52 B (wY B) (v9 B) rfl (ae (kz (aa 3 nd rfl) aj (by decide) (by decide) rfl) (ae (bU (ae aj (ae aj (ae aj (ae aj (ae aj (ae aj (ae aj (ae aj ao)))))))) (by decide)) ao)) (aU.cast (zN B xV c2 (l+5) _ (by decide) (DG (by decide+kernel))) (congrArg aO hf))) rfl
  (bz 10 rfl (bz 11 rfl (bz 12 rfl (bz 13 rfl (bz 14 rfl (bz 15 rfl (bz 16 rfl (bz 17 rfl eF)))))))) rfl rfl)) (fun p hp=> ?_) (aae _)
 simp only[l0,ZU,aaz,or_false] at hp;rcases hp with rfl|rfl|rfl|rfl|rfl|rfl|rfl|rfl|rfl|rfl|rfl<;>exact bw rfl
noncomputable def b9(size:Int)(pal:List Int)(f:Fg):Nat:=bb (br f) (pw size pal)
noncomputable def cR(size:Int)(f:Fg):List T3:=gf (bl f) [] (ft size)
noncomputable def oB(size:Int)(letters:Str)(pal:List Int)(f:Fg):aw:=(21, .list ((cR size f).map tv))::(20, .int (b9 size pal f:Nat))::(19, .int (bl f:Nat))::(18, .int (br f:Nat))::l0 size letters pal f
theorem p3(B:ai w tk H){size:Int}{letters:Str}{pal:List Int}{f:Fg}(h8:8<=size)(h12:size<=12)(F:f.Ok)(hv:sG (bl f) [] (ft size)=true){ss:List Stmt}
 (hr: ∀a,aD w [] H (l+14) 40 c8 ((22, .at a)::oB size letters pal f) [(a,[])] ss o):
 aD w [] H (l+14) 40 c8 (l0 size letters pal f) [] (dI 9 3++ss) o:=by
 have nd:aL c8:=j6
 conv at nd=>arg 1;whnf
 conv=>arg 6;whnf
 conv=>arg 9;arg 1;whnf
 obtain⟨m,hm⟩: ∃m:Nat,f.more=m:=⟨f.more.toNat,by have:=F.more;exact(ZV (adn ‹_›)).symm⟩;have BV:m<6:=by have:=F.more;exact ";1#a'A>a6<A6" hm this.2
 have hw:f.more+5=(br f:Int):=by unfold br;have:=F.more;simp[*]
 have hb:(2:Int)^(br f)=(bl f:Int):=by unfold bl br;push_cast;rfl
 have Ja:br f=m+5:=by unfold br;simp[*]
 show aD _ _ _ _ _ _ _ _ (_::_::_::ss) _
 refine aH (je (v:= .tup [.int (br f:Nat), .int (bl f:Nat)]) (ah.cast (bU (ae (ag (aa 10 nd rfl) aj ck) (ae (ag aj (ag (aa 10 nd rfl) aj ck) (j9 ?ea ?eb)) ao)) (show 2<=Z7 by decide)) ?ec) rfl (bz 18 rfl (bz 19 rfl eF)) rfl rfl) ?_
 case ea=>rw[hw];exact Z0 _
 case eb=>
  rw[hw,Ja];have: ∀m<6,((aad 2:Nat):Int)*((m+5:Nat):Int)<=2^27:=by decide+kernel
  exact this m BV
 case ec=>rw[hw,aaD,hb]
 have BR:(aS 0 size).length<=12:=by rw[fb];simp[*]
 have jW:br f<2^12:=by exact "<A6=B+A5<B^12" BV Ja
 refine aH (aQ (v:= .int (b9 size pal f:Nat)) 20 (aR 53 B (wX B) (wa B) rfl (ae (ah.cast (jc (aS 0 size) V.int (fun p=> .int (if decide (p∈pal) then 1 else 0)) (b6 (by kernel_rfl)) (i:=1) rfl (.inl rfl) rfl (bJ 3 9 rfl rfl rfl b5)
  (lT B (g9 B) (i:=48) rfl bP (aa 4 nd rfl) (by exact "]8a]~^62a" h8) (by exact acf ‹_› (by decide)))
  (fun nd a ha=>aR 2 B (wZ B) (.ty _) rfl (ae (o9 (aa 1 nd rfl) (aa 3 nd rfl) (vZ bu.int (by decide) trivial bR)) ao) Nh) (ZW BR (by decide))) ?ed) (ae (aa 18 nd rfl) ao)) (v5 (l:=l+8) (c:=20) (K:=4) B (by decide) jW (by unfold pw;rw[ZQ];exact ZY ‹_› (by decide)) (by unfold pw;rw[ZQ];exact ZW ‹_› (by decide)) ?ee)) rfl) ?_
 case ed=>
  unfold pw bF;rw[aaf];refine congrArg V.list (aa0 fun p z=> ?_);simp only[aaF];cases decide (p∈pal)<;>rfl
 case ee=>
  intro d hd;unfold pw at hd;obtain⟨p,_,rfl⟩:=Z1.mp hd;split<;>decide
 have tU:bl f<2^62:=by
  unfold bl;exact aeu (by decide) (by exact "#a'A<A6#'Ba<+B5_62" hm BV (ZV (";1#a'A]0a" hm)))
 refine MA (names:=["values","inside"]) (f:=fun a=> .tup [.list ((cR size f).map tv), .at a]) (x:=fun a=>[.list ((cR size f).map tv), .at a]) (F1 (aR 54 B (Qn B) (N0 B) rfl (ae (aa 4 nd rfl) (ae (aa 19 nd rfl) ao)) (Nz B (by exact "]8a>0a" h8) (by exact adx ‹_› (by decide)) (Z0 _) (by exact acd.mpr ‹_›) hv)) F0) (fun a=>rfl) (fun a=>rfl)
  (fun a=> .cons (i:=22) rfl (.inl rfl) (.cons (i:=21) rfl (.inl rfl) .nil)) (fun a=>(hr a).sub (fun p hp=> ?ef) (aae _)) rfl rfl
 case ef=>
  rcases ZU.mp hp with h|hp
  ·exact h▸ZP _ ZR
  rcases ZU.mp hp with h|hp
  ·exact h▸ZR
  ·exact ZP _ (ZP _ hp)
theorem j4{n k:Nat}(h:n<2^k)(hk:0<k):n.log2<k:=by
 by_cases h0:n=0
 ·rw[h0];simpa using hk
 ·exact(ad9 h0).mpr h
theorem Ab{N m:Nat}(hN:N<2^120)(hm:m.log2<1999):i7 120 N m:=⟨by decide,hN,hm,by
 have:=j4 hN (by decide);refine ZW (m:=120) ?_ (by decide);rw[Nat.add_div_right _ (Nat.succ_pos _)];have:=aao N.log2 m.log2.succ;show N.log2/m.log2.succ+1<=120
 exact ZY ‹_› ‹_›⟩
theorem Ac{N m:Nat}(hN:N<2^400)(h4:4<=m.log2)(hm:m.log2<1999):i7 400 N m:=⟨by decide,hN,hm,by
 have:=j4 hN (by decide);refine ZW (m:=80) ?_ (by decide);rw[Nat.add_div_right _ (Nat.succ_pos _)];have h5:N.log2/m.log2.succ<=N.log2/5:=Nat.div_le_div_left (by exact Nat.lt_succ_of_le ‹_›) (by decide);show N.log2/m.log2.succ+1<=80
 exact "<A400:5[BC=+*5CDA:5[+B1_80" this h5 (aan _ _)⟩
theorem EJ{a:Int}(h:a.natAbs<2^400):aad a<=2^20:=by
 unfold aad;split
 ·decide
 ·have:=j4 h (by decide)
  exact aaa ‹_› (by decide)
theorem qj{a b:Int}(ha:a.natAbs<2^400)(hb:b.natAbs<2^400):IntMulOk a b:= .of_bits (EJ ha) (EJ hb)
noncomputable def jZ(vals:List T3)(N b:Int):List (Int×Int):=(vals.filter fun k=>N.fmod k.2.1==0).map fun k=>(k.1,k.2.1.fmod (b -1))
noncomputable def u9(p:Int×Int):V:= .tup [.int p.1, .int p.2]
theorem GU(a b:Int):a.fdiv b*b+a.fmod b=a:=Int.fdiv_mul_add_fmod a b
theorem GV(a v:Int):a.fmod (-v)= -((-a).fmod v):=by rw[<-Int.neg_fmod_neg,Int.neg_neg]
theorem PU{N v a b:Int}(hv:0<v)(ha:a=N\/a= -N)(hb:b=v\/b= -v):b≠0/\b.natAbs=v.natAbs/\a.natAbs=N.natAbs/\(if a.fmod b<0 then -(a.fmod b) else a.fmod b)<v/\0<=a.fmod b*b/\(a.fmod b==0)=(N.fmod v==0):=by
 have hd:(a.fmod b==0)=(N.fmod v==0):=by
  rw[aa9,beq_iff_eq,beq_iff_eq,<-Int.dvd_iff_fmod_eq_zero,<-Int.dvd_iff_fmod_eq_zero];rcases ha with rfl|rfl<;>rcases hb with rfl|rfl<;>simp
 have lO:a.natAbs=N.natAbs:=ha.elim (congrArg _) fun e=>e▸Int.natAbs_neg N
 rcases hb with rfl|rfl
 ·have q:=cj (a:=a) hv
  exact⟨Int.ne_of_gt hv,rfl,lO,by rw[if_neg (abK.mpr q.1)];exact q.2,aeW q.1 (ac7 hv),hd⟩
 ·have q:=cj (a:= -a) hv
  refine⟨fun e=>Int.ne_of_gt hv (Int.neg_eq_zero.mp e),Int.natAbs_neg v,lO,?_,?_,hd⟩
  ·rw[GV]
   split
   ·rw[Int.neg_neg];exact q.2
   ·exact acf (Int.neg_nonpos_of_nonneg q.1) hv
  ·rw[GV,Int.neg_mul_neg];exact aeW q.1 (ac7 hv)
theorem En{x v:Int}(h:(if x<0 then -x else x)<v):(x.natAbs:Int)<v:=by
 split at h
 ·rw[aaS (ac7 ‹_›)];exact h
 ·rw[aas (abK.mp ‹_›)];exact h
theorem PD{a b:Int}(hb:b≠0)(hl:(a.fmod b).natAbs<b.natAbs):(a.fdiv b).natAbs<=a.natAbs+1:=by
 have h1:(a.fdiv b*b).natAbs=(a.fdiv b).natAbs*b.natAbs:=Int.natAbs_mul _ _;have h2:=GU a b;have h3:(a.fdiv b*b).natAbs<=a.natAbs+(a.fmod b).natAbs:=by
  rw[show a.fdiv b*b=a+ -(a.fmod b) by exact "@;1#+abc#a+c~b" h2,<-Int.natAbs_neg (a.fmod b)];exact Int.natAbs_add_le _ _
 refine Nat.le_of_not_lt fun h=> ?_
 have h4:(a.natAbs+2)*b.natAbs<=(a.fdiv b).natAbs*b.natAbs:=acM _ h;have h5:a.natAbs<=a.natAbs*b.natAbs:=Nat.le_mul_of_pos_right _ (ZY (aav _) hl);rw[acq,<-h1] at h4;exact absurd (Nat.le_of_add_le_add_left (ZW h4 (ZW h3 (Nat.add_le_add_right h5 _)))) (Nat.not_le.mpr (aaa hl (Nat.le_mul_of_pos_left _ (by decide))))
theorem T1(vals:List T3)(t:T3)(N b:Int):jZ (vals++[t]) N b=jZ vals N b++(if N.fmod t.2.1==0 then[(t.1,t.2.1.fmod (b -1))] else[]):=by
 unfold jZ;rw[List.filter_append,aaA]
 congr 1
 cases h:(N.fmod t.2.1==0)<;>simp[h]
theorem Qa(N v:Int)(j:Int): ∃a b,[V.tup [.int N, .int v],V.tup [.int (-N), .int v],V.tup [.int N, .int (-v)],V.tup [.int (-N), .int (-v)]][(j.fmod 4).toNat]?=some (V.tup [.int a, .int b])/\(a=N\/a= -N)/\(b=v\/b= -v):=by
 have h:=cj (a:=j) (b:=4) (by decide);obtain⟨m,hm⟩: ∃m:Nat,j.fmod 4=m:=⟨(j.fmod 4).toNat,by exact(ZV (adn ‹_›)).symm⟩;rw[hm,aaD]
 exact Jx (P:=fun m=> ∃a b,[V.tup [.int N, .int v],V.tup [.int (-N), .int v],V.tup [.int N, .int (-v)],V.tup [.int (-N), .int (-v)]][m]?=some (V.tup [.int a, .int b])/\(a=N\/a= -N)/\(b=v\/b= -v)) (by exact ">a4;1#a'A<A4" h.2 hm) ⟨_,_,rfl, .inl rfl, .inl rfl⟩ ⟨_,_,rfl, .inr rfl, .inl rfl⟩ ⟨_,_,rfl, .inl rfl, .inr rfl⟩ ⟨_,_,rfl, .inr rfl, .inr rfl⟩
set_option tactic.hygienic true in
theorem p4(B:ai w tk H){size:Int}{letters:Str}{pal:List Int}{f:Fg}(F:f.Ok)(hN:b9 size pal f<2^120)(nL:16<=bl f)
 (hv: ∀t∈(cR size f).drop 1,(0<t.2.1/\t.2.1<2^120)/\t.2.2=0) (uq:(cR size f).length<=64) {a:Addr}:
 aD w [] H (l+14) 40 c8 ((22, .at a)::oB size letters pal f) [(a,[])] (dI 12 1) (.next ((22, .at a)::oB size letters pal f) [(a,(jZ ((cR size f).drop 1) (b9 size pal f) (bl f)).map u9)]):=by
 have nd:aL c8:=j6
 conv at nd=>arg 1;whnf
 conv=>arg 6;whnf
 conv=>arg 9;whnf
 have hlen:(gp (((cR size f).drop 1).map tv)).length=((cR size f).drop 1).length:=by rw[wy,ZQ]
 have pV:((cR size f).drop 1).take ((cR size f).drop 1).length=(cR size f).drop 1:=adj;rw[<-pV];refine bD (wH hlen (R:=fun y=>(22, .at a)::oB size letters pal f) (R':=fun k=>(23,tv (((cR size f).drop 1).getD k default))::(2, .int k)::(22, .at a)::oB size letters pal f)
  (O:=fun k=>[(a,(jZ (((cR size f).drop 1).take k) (b9 size pal f) (bl f)).map u9)])
  (Uk (i:=55) B (tI B) rfl (ah.cast (kB (a:=some 1) (b:=none) (c:=none) (aa 21 nd rfl) (.some aj) .none .none (fun h=>nomatch h) (by rw[ZQ];show _<=2^24;exact ZW ‹_› (by decide))) (show _=V.list (((cR size f).drop 1).map tv) by rw[aeA];exact congrArg V.list (sf _ 1)))) (fun p hp=>hp) rfl ?ha ?hb)
 case ha=>
  intro k v nV;obtain⟨z,hz,rfl⟩:=qX nV;rw[aal] at hz;have:z=tv (((cR size f).drop 1).getD k default):=by
   rw[aaG];cases e:((cR size f).drop 1)[k]? with
   |none=>rw[e] at hz;cases hz
   |some t=>rw[e] at hz;cases hz;rfl
  subst this;exact m7 rfl (bz 2 rfl (bz 23 rfl eF))
 case hb=>
  intro k v nV;obtain⟨z,hz,rfl⟩:=qX nV;rw[aal] at hz;obtain⟨t,ht,pW⟩: ∃t,((cR size f).drop 1)[k]?=some t/\t∈(cR size f).drop 1:=by
   cases e:((cR size f).drop 1)[k]? with
   |none=>rw[e] at hz;cases hz
   |some t=>exact⟨t,rfl,aag e⟩
  have RT:((cR size f).drop 1).getD k default=t:=by rw[aaG,ht];rfl
  rw[RT];have R7:k<64:=by have:=(aa2.mp ht).1;rw[abk] at this;exact "[A64<BC=+C1A<B64" uq this (ZM ("<AB[BC[1C" this (ad5 _ _)))
  have Cp:((cR size f).drop 1).take (k+1)=((cR size f).drop 1).take k++[t]:=by rw[ab9,ht];rfl
  rw[Cp,T1];generalize nW:jZ (((cR size f).drop 1).take k) (b9 size pal f) (bl f)=ys;have ZE:ys.length<=64:=by
   rw[<-nW];unfold jZ;rw[ZQ];exact ZW (aaE _ _) (by rw[aaU];exact "<A64[BA[B64" R7 (abD _ _))
  refine gz fun zq zk=> ?_
  obtain⟨⟨v0,v1⟩,IV⟩:=hv t pW;obtain⟨s,v,r⟩:=t;dsimp only at v0 v1 IV;subst IV;obtain⟨a1,b1,h4,Rb,iM⟩:=Qa (b9 size pal f) v ((k:Int)+f.signs);obtain⟨g1,g2,g3,g4,g5,g6⟩:=PU v0 Rb iM;refine zk ?_;have hj:=cj (a:=(k:Int)+f.signs) (b:=4) (by decide);have pE:i7 120 a1.natAbs b1.natAbs:=by
   rw[g2,g3];exact Ab (by simpa using hN) (aaa (j4 (k:=120) (by exact ">a^120#'Aa<A^120" v1 (aas (">0a]0a" v0))) (by decide)) (by decide))
  refine aH (je (v:= .tup [.int a1, .int b1]) (cZ (j:=(((k:Int)+f.signs).fmod 4).toNat) (bU (ae (bU (ae (aa 20 nd rfl) (ae (cZ (i:=1) (j:=1) (v:= .int v) (aa 23 nd rfl) aj (by decide) (by decide) rfl rfl) ao)) (show 2<=Z7 by decide)) (ae (bU (ae (jR (aa 20 nd rfl) mV) (ae (cZ (i:=1) (j:=1) (v:= .int v) (aa 23 nd rfl) aj (by decide) (by decide) rfl rfl) ao)) (show 2<=Z7 by decide))
   (ae (bU (ae (aa 20 nd rfl) (ae (jR (cZ (i:=1) (j:=1) (v:= .int v) (aa 23 nd rfl) aj (by decide) (by decide) rfl rfl) mV) ao)) (show 2<=Z7 by decide)) (ae (bU (ae (jR (aa 20 nd rfl) mV) (ae (jR (cZ (i:=1) (j:=1) (v:= .int v) (aa 23 nd rfl) aj (by decide) (by decide) rfl rfl) mV) ao)) (show 2<=Z7 by decide)) ao)))) (show 4<=Z7 by decide))
   (ag (ag (aa 2 nd rfl) (aa 17 nd rfl) ck) aj (cH (by decide))) (by exact "]0a]~^63a" hj.1) (by exact acg (aej ‹_›) (by decide)) (Dz hj.1 (by show _<((4:Nat):Int);simp[*])) h4) rfl (bz 24 rfl (bz 25 rfl eF)) rfl rfl) ?_
  refine aH (je (aR 56 B (lL B) (lD B) rfl (ae (aa 24 nd rfl) (ae (aa 25 nd rfl) ao)) (oX (l:=l+1) B g1 pE)) rfl (bz 26 rfl (bz 27 rfl eF)) rfl rfl) ?_;have hq:(a1.fdiv b1).natAbs<2^400:= ?qb
  refine aH (lI (aM.cast (f9 (aF (cZ (i:=2) (j:=2) (v:= .int 0) (aa 23 nd rfl) aj (by decide) (by decide) rfl rfl) aj zL) fun y=>f9 (aF (ag (ag (aa 26 nd rfl) (aa 25 nd rfl) (d5 (qj hq (by exact "&>a^120=AB#'Ba<A^400" v1 g2 (aas (">0a]0a" v0)))))) (aa 27 nd rfl) ck) (aa 24 nd rfl) zL) fun y=>
   f9 (aF (aR 57 B (Qo B) (.bi _) rfl (ae (aa 27 nd rfl) ao) MX) (cZ (i:=1) (j:=1) (v:= .int v) (aa 23 nd rfl) aj (by decide) (by decide) rfl rfl) MT) fun y=>f9 (aF (ag (aa 27 nd rfl) (aa 25 nd rfl) (d5 (qj ?qc (by exact "&>a^120=AB#'Ba<A^400" v1 g2 (aas (">0a]0a" v0)))))) aj oU) fun y=>qC) ?qd) gk) ?_
  case qd=>
   rw[GU];have e1:decide (v<=if a1.fmod b1<0 then -(a1.fmod b1) else a1.fmod b1)=false:=decide_eq_false (by exact Int.not_le.mpr ‹_›);have e2:decide (a1.fmod b1*b1<0)=false:=decide_eq_false (by exact abK.mpr ‹_›);rw[e1,e2];simp
  case qb=>
   have:=PD (a:=a1) g1 (acd.mp (by rw[g2,aas (ac7 v0)];exact En g4));exact "&<A^120=BC[D+B1#'C'A<D^400" hN g3 this (aas ("]0'A" ()))
  case qc=>have q:=En g4;exact "&>a^120>'Aa<A^400" v1 q
  have I8: ∀p∈(22,V.at a)::oB size letters pal f,p∈[(27,V.int (a1.fmod b1)),(26, .int (a1.fdiv b1)),(25, .int b1),(24, .int a1),(23,tv (s,v,0)),(2, .int (k:Int))]++((22,V.at a)::oB size letters pal f):=fun p hp=>abP _ hp
  have Su:((bl f:Nat):Int) -1≠0:=by exact "[16A!#-'A1_0" nL
  by_cases xw:(a1.fmod b1==0)=true
  ·have e6:(((b9 size pal f:Nat):Int).fmod v==0)=true:=g6▸xw
   rw[show(if(((b9 size pal f:Nat):Int).fmod (s,v,(0:Int)).2.1==0)=true then[((s,v,(0:Int)).1,(s,v,(0:Int)).2.1.fmod ((bl f:Int) -1))] else[])=[(s,v.fmod ((bl f:Int) -1))] from if_pos e6,aaA]
   refine d8 (bD (tn (aM.cast (aF (aa 27 nd rfl) aj cJ) xw) (bD (q0 (v:=u9 (s,v.fmod ((bl f:Int) -1))) (i:=22) rfl (bw rfl) (bU (ae (cZ (i:=0) (j:=0) (v:= .int s) (aa 23 nd rfl) aj (by decide) (by decide) rfl rfl) (ae (cZ (i:=1) (j:=1) (v:= .int (v.fmod ((bl f:Int) -1))) (x:=[.int (v.fdiv ((bl f:Int) -1)), .int (v.fmod ((bl f:Int) -1))])
    (aR 56 B (lL B) (lD B) rfl (ae (cZ (i:=1) (j:=1) (v:= .int v) (aa 23 nd rfl) aj (by decide) (by decide) rfl rfl) (ae (ag (aa 19 nd rfl) aj d6) ao)) (oX (l:=l+1) B Su (Ab (by exact ">a^120#'Aa<A^120" v1 (aas (">0a]0a" v0))) ?qe))) aj (by decide) (by decide) rfl rfl) ao)) (show 2<=Z7 by decide)) (by rw[ZQ];show _<=2^24;exact ZW ‹_› (by decide)) (by decide) (by decide))))) I8 (aae _)
   have pz:bl f<2^62:=by
    have:=F.more;unfold bl;exact aeu (by decide) (by exact ">a6#'Aa<+A5_62" this.2 (ZV (this.1)))
   exact abh (j4 (k:=62) (by exact "<A^62#'B-'A1<B^62" pz (aas ("[16A]0-'A1" nL))) (by decide)) (by decide)
  ·have e6: ¬(((b9 size pal f:Nat):Int).fmod v==0)=true:=g6▸xw
   rw[show(if(((b9 size pal f:Nat):Int).fmod (s,v,(0:Int)).2.1==0)=true then[((s,v,(0:Int)).1,(s,v,(0:Int)).2.1.fmod ((bl f:Int) -1))] else[])=[] from if_neg e6,adZ];exact d8 (bD (lI (aM.cast (aF (aa 27 nd rfl) aj cJ) (Bool.not_eq_true _▸xw)) gk)) I8 (aae _)
noncomputable def td(s t:Int):List Int:=(aS 2 (s+1)).filter fun d=>s.fmod d==0&&t.fmod d==0
noncomputable def n8(nm:List Int):List Int:=nm.flatMap fun s=>(nm.filter fun t=>decide (td s t=[])).map fun t=>s*t
noncomputable def oj(ins:List (Int×Int))(pal:List Int):Bool:=((2:Int)^((ins.map (·.2)).count 2)*3^((ins.map (·.2)).count 3)*5^((ins.map (·.2)).count 5)==pal.length)&&decide (((n8 (ins.map (·.1))).filter fun s=> !decide (s∈ins.map (·.1)))=[])
noncomputable def kZ(size:Int)(pal:List Int):List Int:=(aS 0 size).filter fun p=> !decide (p∈pal)
noncomputable def cW(size:Int)(pal:List Int):Option (List Int):=ja pal size 13 (kZ size pal)
noncomputable def ju(size:Int)(pal:List Int)(f:Fg):List (Int×Int):=jZ ((cR size f).drop 1) (b9 size pal f) (bl f)
theorem wN{α β:Type}{f:α->List β}{k:Nat}: ∀{ls:List α},(∀a∈ls,(f a).length<=k)->(ls.flatMap f).length<=ls.length*k:=by
 intro rr
 induction rr with
 |nil=>
  exact fun z=>by simp
 |cons a ls ih=>
  exact fun h=>by
   rw[aa3,aap,aaY,acq,acX];have h1:=h a ZR;have h2:=ih fun b hb=>h b (ZP _ hb)
   exact "[AB[CD[+AC+DB" h1 h2
noncomputable def vx(size:Int)(letters:Str)(pal:List Int)(f:Fg)(tells:Bool)(rest:Option (List Int)):aw:=(32,sa rest)::(31, .bool tells)::(20, .int (b9 size pal f:Nat))::(19, .int (bl f:Nat))::(18, .int (br f:Nat))::l0 size letters pal f
set_option tactic.hygienic true in
theorem p5(B:ai w tk H){size:Int}{letters:Str}{pal:List Int}{f:Fg}{ins:List (Int×Int)}(h8:8<=size)(h12:size<=12)(uc:ins.length<=64)(dk: ∀p∈ins,1<=p.1/\p.1<=12)(iP:pal.length<=12){a:Addr}:
 aD w [] H (l+14) 40 c8 ((22, .at a)::oB size letters pal f) [(a,ins.map u9)] (dI 13 4) (.next (vx size letters pal f (oj ins pal) (cW size pal)) []):=by
 have nd:aL c8:=j6
 conv at nd=>arg 1;whnf
 conv=>arg 6;whnf
 conv=>arg 9;whnf
 refine oQ (i:=22) (bw rfl) ?_;have hsz:ins.length<=sizeLine:=ZW uc (by decide);have um: ∀v∈ins.map u9,∃y,v= .tup y:=fun v hv=>by
  obtain⟨p,_,rfl⟩:=Z1.mp hv;exact⟨_,rfl⟩
 have Zy:(ins.map (·.1)).length<=sizeLine:=by rw[ZQ];exact hsz
 have kL: ∀s∈ins.map (·.1),1<=s/\s<=12:=fun s hs=>by
  obtain⟨p,hp,rfl⟩:=Z1.mp hs;exact dk p hp
 refine aH (je (v:= .tup [aO (ins.map (·.1)),aO (ins.map (·.2))]) (bU (ae (ah.cast (wC ins (fun p=> .int p.1) (fun p=> .int p.2) (fun p=> .int p.1) (b6 (by kernel_rfl)) (i:=1) (j:=2) rfl rfl (.inl rfl) (.inl rfl) rfl rfl b5 (cE (.inr ⟨⟨_,_,_,rfl⟩,um⟩) (aa 22 nd rfl)) (fun nd a ha=>aa 1 nd rfl) hsz) (by unfold aO;rw[aaf];rfl))
  (ae (ah.cast (wC ins (fun p=> .int p.1) (fun p=> .int p.2) (fun p=> .int p.2) (b6 (by kernel_rfl)) (i:=1) (j:=2) rfl rfl (.inl rfl) (.inl rfl) rfl rfl b5 (cE (.inr ⟨⟨_,_,_,rfl⟩,um⟩) (aa 22 nd rfl)) (fun nd a ha=>aa 2 nd rfl) hsz) (by unfold aO;rw[aaf];rfl)) ao)) (show 2<=Z7 by decide)) rfl (bz 28 rfl (bz 29 rfl eF)) rfl rfl) ?_
 have Cs:(ins.map (·.2)).length<=64:=by rw[ZQ];exact uc
 generalize ID:ins.map (·.1)=nm at*;generalize Tn:ins.map (·.2)=un at*;have IF:nm.length<=64:=by rw[<-ID,ZQ];exact uc
 have fx: ∀s:Int,s<=12->(aS 2 (s+1)).length<=12:=fun s hs=>by rw[fb];(simp at*;exact "]a12]-+a1_2_12" hs)
 have xG:(nm.flatMap fun s=>(nm.filter fun t=>decide (td s t=[])).map fun t=>V.int (s*t))=(n8 nm).map V.int:=by
  unfold n8;rw[aes];simp only[aaf,aaF]
 have dM:(n8 nm).length<=64*64:=by
  unfold n8;refine ZW (wN (k:=64) fun s hs=> ?_) (acM _ IF);rw[ZQ];exact ZW (aaE _ _) IF
 refine aH (wK (j:=30) nm V.int (fun s=>(nm.filter fun t=>decide (td s t=[])).map fun t=>V.int (s*t)) (b6 (by kernel_rfl)) (fun g hg=>by cases hg;rfl) (i:=1) rfl (.inr rfl) rfl (bJ 4 28 rfl rfl rfl b5)
  (cE (.inl bP) (aa 28 nd rfl)) (fun nd s hs=>FP nm V.int (fun t=>decide (td s t=[])) (fun t=>V.int (s*t)) rfl rfl (i:=2) rfl (.inr rfl) rfl (cE (.inl bP) (aa 4 nd rfl))
   (fun t ht=>aF (g0 (aS 2 (s+1)) V.int (fun d=>s.fmod d==0&&t.fmod d==0) V.int (b6 (by kernel_rfl)) (i:=1) rfl (.inl rfl) rfl (bJ 2 1 rfl rfl rfl (bJ 3 2 rfl rfl rfl b5)) (xS (i:=3) B (g9 B) rfl bP aj (ag (aa 1 nd rfl) aj ck) (by decide) (by decide) (by have:=kL s hs;exact "]1a]~^62+a1" this.1) (by have:=kL s hs;exact "]a12>+a1^62" this.2))
    (fun nd d hd=>aM.cast (ot (aF (ag (aa 2 nd rfl) (aa 1 nd rfl) (cH (by have:=fc.mp hd;exact "]2a!#a0" this.1))) aj cJ) fun z=>ot (aF (ag (aa 3 nd rfl) (aa 1 nd rfl) (cH (by have:=fc.mp hd;exact "]2a!#a0" this.1))) aj cJ) fun z=>yL) (by rw[acn])) (fun nd d hd z=>aa 1 nd rfl) (by have:=fx s (kL s hs).2;show _<=2^24;exact ZW ‹_› (by decide)))
    (dA ao (by decide)) (gW (a:=td s t) (b:=[]) iG (by decide) bR bR))
   (fun t ht z=>ag (aa 1 nd rfl) (aa 2 nd rfl) (d5 (iW (by have:=kL s hs;exact "]1a]~^63a" this.1) (by have:=kL s hs;exact "]a12>a^63" this.2))))) (by rw[xG,ZQ];show _<=2^24;exact ZW ‹_› (by decide)) rfl rfl) ?_
 rw[xG];have Cc: ∀(b:Int) (c:Nat),0<=b->b<=5->c<=64->(b^c).natAbs<=5^64/\((aad b:Nat):Int)*(c:Int)<=2^27:=fun b c h0 h5 hc=>by
  refine⟨?_,?_⟩
  ·rw[Int.natAbs_pow]
   exact ZW (Nat.pow_le_pow_left (by exact "]a5#'Aa[A5" h5 (aas (h0)):b.natAbs<=5) c) (aat (by decide) hc)
  ·have: ∀m≤5,((aad ((m:Nat):Int):Nat):Int)<=8:=by decide+kernel
   obtain⟨m,rfl⟩: ∃m:Nat,b=m:=⟨b.toNat,by exact(ZV ‹_›).symm⟩;have QN:=this m (by exact aei.mp ‹_›);have h9:((aad ((m:Nat):Int):Nat):Int)*(c:Int)<=8*(c:Int):=ad6 QN (Z0 _);exact ":8[A64]a*8'A]a^27" hc h9
 have jh:un.count 2<=64:=ZW aci Cs;have gy:un.count 3<=64:=ZW aci Cs;have mE:un.count 5<=64:=ZW aci Cs;obtain⟨x2,y2⟩:=Cc 2 _ (by decide) (by decide) jh;obtain⟨x3,y3⟩:=Cc 3 _ (by decide) (by decide) gy;obtain⟨x5,y5⟩:=Cc 5 _ (by decide) (by decide) mE;have QL:(5:Nat)^64*5^64<2^400:=by decide+kernel
 have Bb:(5:Nat)^64<2^400:=by decide+kernel
 refine aH (aQ (v:= .bool (oj ins pal)) 31 (ah.cast (F2 (o9 (ag (ag (ag aj (kA (uJ bu.int (by decide) trivial bR) (aa 29 nd rfl) (ae aj ao)) (j9 (Z0 _) y2)) (ag aj (kA (uJ bu.int (by decide) trivial bR) (aa 29 nd rfl) (ae aj ao)) (j9 (Z0 _) y3)) (d5 (qj (ZY x2 Bb) (ZY x3 Bb))))
  (ag aj (kA (uJ bu.int (by decide) trivial bR) (aa 29 nd rfl) (ae aj ao)) (j9 (Z0 _) y5)) (d5 (qj (by rw[Int.natAbs_mul];exact ZY (Nat.mul_le_mul x2 x3) QL) (ZY x5 Bb)))) (aR 58 B (g8 B) (.bi _) rfl (ae (aa 9 nd rfl) ao) (aU.cast (i9 (by rw[ZQ];exact ZY ‹_› (by decide))) (show _=V.int pal.length by rw[ZQ]))) cJ)
  (fun z=>o9 (g0 (n8 nm) V.int (fun s=> !decide (s∈nm)) V.int (b6 (by kernel_rfl)) (i:=1) rfl (.inl rfl) rfl (bJ 2 28 rfl rfl rfl b5) (cE (.inl bP) (aa 30 nd rfl)) (fun nd s hs=>aF (aa 1 nd rfl) (aa 2 nd rfl) (oV bu.int (by decide) trivial bR)) (fun nd s hs z=>aa 1 nd rfl) (by show _<=2^24;exact "[A4096[A^24" dM)) (dA ao (by decide)) (gW (a:=(n8 nm).filter fun s=> !decide (s∈nm)) (b:=[]) iG (by decide) bR bR))) ?ea) rfl) ?_
 case ea=>unfold oj;rw[ID,Tn];rfl
 have SD:(kZ size pal).length<=12:=ZW (aaE _ _) (by rw[fb];simp[*])
 refine d8 (bD (aQ (v:=sa (cW size pal)) 32 (aR 59 B (AN B) (zZ B) rfl (ae (g0 (aS 0 size) V.int (fun p=> !decide (p∈pal)) V.int (b6 (by kernel_rfl)) (i:=1) rfl (.inl rfl) rfl (bJ 2 9 rfl rfl rfl b5) (lT B (g9 B) (i:=48) rfl bP (aa 4 nd rfl) (by exact "]8a]~^62a" h8) (by exact acf ‹_› (by decide))) (fun nd p hp=>aF (aa 1 nd rfl) (aa 2 nd rfl) (oV bu.int (by decide) trivial bR)) (fun nd p hp z=>aa 1 nd rfl) (by rw[fb];show _<=2^24;exact "]a12#'A-a0[A^24" h12 (ZV ("]8a]0-a0" h8)))) (ae (aa 9 nd rfl) (ae (aa 4 nd rfl) ao)))
  (M4 B (by exact "]8a>0a" h8) (by exact ZW ‹_› (abf _ _)) 12 (kZ size pal) (l+1) _ SD (by decide) (fun y hy=>fc.mp (aaQ.mp hy|>.1)))) rfl)) (fun p hp=> ?_) (aae _)
 simp only[vx,l0,ZU,aaz,or_false] at hp;rcases hp with rfl|rfl|rfl|rfl|rfl|rfl|rfl|rfl|rfl|rfl|rfl|rfl|rfl|rfl|rfl|rfl<;>exact bw rfl
theorem KA:isSubtype (.type "ZeroDivisionError") (.type "ZeroDivisionError")=pure true:=by rw[isSubtype_type];kernel_rfl
noncomputable abbrev yX:ZN->Heap->Prop:=fun z z=>True
section
variable {AG:ZN->Heap->Prop}
theorem VE(B:ai w tk H){x:Str}{cls N I:String}{np pos:Pos}{rest:List Stmt}{i:Nat}(hc:ExcClass cls N I)(S1:isSubtype (.type cls) (.type cls)=pure true)(g:bk H x (.type cls))(hx:sc.names[i]?=some (x, .globalImplicit)):
 l4 yX w X H l n sc ρ ow (.Raise (some (.Name x np)) none pos::rest) cls:=
 fun env A G₀ s₀ G s Q E q r I k=>aar (Raise_classB r.hd hc S1 (eZ B g hx I.st ⟨rfl,rfl⟩) fun h' e hm=>by
  obtain⟨ob,t,h1,h2,h3⟩:=hm.there;exact k e h' s G ρ ow I ⟨hm.keeps,hm.new,ob,_,t,h1,h2,h3,rfl,rfl,trivial⟩)
theorem W7(B:ai w tk H){a:Int}:qM yX w H (l+1) n (.ref 80) [] [.int a, .int 0] "ZeroDivisionError" :=by
 have F8:=tE (w:=w) B;have lQ: ∀x∈(aJ (ay 8)).names,x.2≠acm:=by decide+kernel
 refine Ke (fun z z z h z=>trivial) B (tw F8 (by kernel_rfl)) (zv (as:=[.int a, .int 0]) F8.par F8.nd lQ F8.pnd vS rfl) ?_;have nd:=yi
 conv at nd=>arg 1;whnf
 show l4 _ _ _ _ _ _ (aJ (ay 8)) [(0, .int a),(1, .int 0)] _ (aT (ay 8)) _
 conv=>arg 7;whnf
 conv=>arg 10;whnf
 exact C0 (aF (c:=true) (aa 1 nd rfl) aj cJ) (VE B excClass_ZeroDivisionError KA (Hq B) (i:=4) rfl)
set_option tactic.hygienic true in
theorem Pq(B:ai w tk H){fn x:Str}{fa:Addr}{as:List V}{i j ie k:Nat}{p1 p2 fp cp ap nu np jn kp pos:Pos}{es:List Expr}(g:bk H fn (.ref fa))(hc:cF H (.ref fa))(hf:sc.names[j]?=some (fn, .globalImplicit))(hx:sc.names[i]?=some (x, .local))(hv:sc.names[ie]?=some (("ZeroDivisionError" :Str), .globalImplicit))
 (ha:dX w H l n sc ρ es as) (SS:qM yX w H l n (.ref fa) [] as "ZeroDivisionError") (h1:autoParam (dU es=true) au)
 (hs:autoParam (abY (.Call (.Name fn fp) es [] cp) (some (.Name x p1)) ap.line (da sc)=pure false) au)
 (Cn:autoParam (abY (.Constant .none k kp) (some (.Name x p2)) nu.line (da sc)=pure false) au):
 oD w X H l n sc ρ ow (.Try [.Assign [.Name x p1] (.Call (.Name fn fp) es [] cp) ap] [.ExceptHandler (some (.Name "ZeroDivisionError" np)) none [.Assign [.Name x p2] (.Constant .none k kp) nu] jn] [] [] pos) (.next (dD ρ i .none) ow):=fun fr ms env A G₀ s₀ G s Q E C K q r I kk=>by
 refine wpAny_Try_except (aar ?_);rw[ab3 _ _ _ _ _ (kj hs q)];refine ZO (aaM (ZO (aaZ (eZ B g hf I.st (ml hc (dE h1).2 (jB (dE (pos:=cp) (env:=env) h1).1).1 (ha.go env A s G cp r I.st _ _ fun cs s₁ G₁ af rl=>⟨(I.st.ext af).base,?_⟩))))));have aE:=I.ext' af;have jK:KF ms G₁ s₁.heap:=K.kept C I (I.kept_ext af)
 refine ac6 (SS A s₁ G₁ cs (env::fr) C.frames (Hi C jK aE) r aE.st.bs af.inn rl _ fun e ar fl hg ho=> ?_);refine gz fun zq zk=> ?_
 obtain⟨⟨base,a0,AF,_,tT,jo⟩,iQ⟩:=fl;refine zk ?_;show Z6 _ A (noteFrame (.ref e) env) _ E ar
 refine wpAny_looks_onW C.frames C.frame AF fun TF BG yB=> ?_
 refine wpAny_landsW (L:=env.locals) BG fun rQ pn yC=> ?_
 have vq:s₁.heap.UpToSlots rQ:=iQ.trans (yB.trans yC);obtain⟨fm,y9⟩:=aE.flown C jK tT jo pn.1 vq (s'':={ar with heap:=rQ}) rfl hg ho;refine wpAny_handleBy_builtin (X:= "ZeroDivisionError") (T:= "ZeroDivisionError") (b:=true) F.isExc_ZeroDivisionError F.notTuple_ZeroDivisionError KA (eZ B (Hq B) hv fm.st ⟨rfl,?_,?_⟩)
 ·obtain⟨ob,h6,h7⟩:=pn.there;exact⟨ob,h6,h7⟩
 show Z6 _ _ (setFlight (.ref e) none) _ _ _
 refine lands_againW pn fun kP wO yD=> ?_
 have DI:s₁.heap.UpToSlots kP:=vq.trans yD;obtain⟨fO,za⟩:=aE.flown C jK tT jo wO.1 DI (s'':={ar with heap:=kP}) rfl hg ho;refine aar ?_;rw[ab3 _ _ _ _ _ (kj Cn q)];refine ZO (aaM (ZO (wpAny_Constant_none (ZO (aaM (ZO (acL (fO.kept_set hx (.inl rfl) .none fun l9 lh qK uC=>ZS (ace ?_)))))))));exact kk .next l9 lh ⟨rfl,qK⟩ (KF.kept (s:={ar with heap:=kP}) za C fO uC)
noncomputable def Dk(size:Int):Option (List Int)->V
 |none=> .none
 |some r=>qW size (1+r.length)
set_option tactic.hygienic true in
theorem p6(B:ai w tk H){size:Int}{letters:Str}{pal:List Int}{f:Fg}{tells:Bool}{rest:Option (List Int)}(h8:8<=size)(h12:size<=12)(hr: ∀r,rest=some r->r.length<=12):
 eI w [] H (l+14) 40 c8 (vx size letters pal f tells rest) [] (dI 17 1) (.next ((33,Dk size rest)::vx size letters pal f tells rest) []):=by
 have nd:aL c8:=j6
 conv at nd=>arg 1;whnf
 conv=>arg 6;whnf
 conv=>arg 9;whnf
 cases rest with
 |none=>exact zw (Pq (i:=33) (ie:=60) (j:=56) B (lL B) (lD B) rfl rfl rfl (ae (aa 4 nd rfl) (ae (kx (aF (c:=true) (aa 32 nd rfl) en (mi fun z=>V.noConfusion)) aj) ao)) (W7 (l:=l+13) B))
 |some r=>
  have fx:=hr r rfl;refine oR (bD (Gf (bD (aQ 33 (aR 56 B (lL B) (lD B) rfl (ae (aa 4 nd rfl) (ae (pe (aF (c:=false) (aa 32 nd rfl) en (mi fun z=>V.noConfusion)) (ag aj (aR 58 B (g8 B) (.bi _) rfl (ae (aa 32 nd rfl) ao) (aU.cast (i9 (by rw[ZQ];exact ZY ‹_› (by decide))) (show _=V.int r.length by rw[ZQ]))) ck)) ao)) (oX (l:=l+1) (c:=120) B (by exact "!#+1'A0" ()) (Ab ?ha ?hb))) rfl))))
  case ha=>exact "]a12#'Aa<A^120" h12 (aas ("]8a]0a" h8))
  case hb=>exact abh (j4 (k:=20) (by exact "[A12#'B+1'A<B^20" fx (aas ("]0+1'A" ()))) (by decide)) (by decide)
end
noncomputable def aK(size:Int)(f:Fg):Option (List Int)->List Int
 |none=>[f.one.fmod size,f.two.fmod size]
 |some r=>0::r
noncomputable def sP(size:Int)(letters:Str)(pal:List Int)(f:Fg)(rest:Option (List Int)):aw:=(34,aO (aK size f rest))::(32,sa rest)::(20, .int (b9 size pal f:Nat))::(19, .int (bl f:Nat))::(18, .int (br f:Nat))::l0 size letters pal f
section
variable {AG:ZN->Heap->Prop}
set_option tactic.hygienic true in
theorem p7(B:ai w tk H){size:Int}{letters:Str}{pal:List Int}{f:Fg}{tells:Bool}{rest:Option (List Int)}(h8:8<=size)(h12:size<=12)(iP:pal.length<=12)(hr: ∀r,rest=some r->r.length<=12)(ht:tells=rest.isSome)
 (hq: ∀r,rest=some r->size.fdiv (1+r.length)=pal.length/\size.fmod (1+r.length)=0):
 aD w [] H (l+14) 40 c8 ((33,Dk size rest)::vx size letters pal f tells rest) [] (dI 18 2) (.next (sP size letters pal f rest) []):=by
 have nd:aL c8:=j6
 conv at nd=>arg 1;whnf
 conv=>arg 6;whnf
 conv=>arg 9;whnf
 subst ht;have dM:pal.length<2^62:=by exact ZY ‹_› (by decide)
 cases rest with
 |none=>
  refine aH (lI (aM.cast (f9 (aF (aa 31 nd rfl) (o9 (aa 32 nd rfl) en (mj fun z=>V.noConfusion)) (nB (a:=false) (b:=false) bu.bool (by decide) trivial trivial)) fun z=>f9 (aF (aa 33 nd rfl) (kx (aF (c:=true) (aa 32 nd rfl) en (mi fun z=>V.noConfusion)) en) (nB (a:=none) (b:=none) bu.ostr (by decide) (fun z h=>nomatch h) (fun z h=>nomatch h))) fun z=>qC) (by decide)) gk) ?_
  refine d8 (bD (aQ (v:=aO (aK size f none)) 34 (kx (aF (c:=true) (aa 32 nd rfl) en (mi fun z=>V.noConfusion)) (dA (ae (ag (aa 14 nd rfl) (aa 4 nd rfl) (cH (by exact "]8a!#a0" h8))) (ae (ag (aa 15 nd rfl) (aa 4 nd rfl) (cH (by exact "]8a!#a0" h8))) ao)) (show 2<=Z7 by decide))) rfl)) (fun p hp=> ?_) (aae _);simp only[sP,l0,ZU,aaz,or_false] at hp
  rcases hp with rfl|rfl|rfl|rfl|rfl|rfl|rfl|rfl|rfl|rfl|rfl|rfl|rfl|rfl|rfl|rfl<;>exact bw rfl
 |some r=>
  obtain⟨q1,q2⟩:=hq r rfl;have fx:=hr r rfl;have xG:Dk size (some r)=lq [pal.length,0]:=by show V.tup [.int _, .int _]=_;rw[q1,q2];rfl
  rw[xG]
  refine aH (lI (aM.cast (f9 (aF (aa 31 nd rfl) (o9 (aa 32 nd rfl) en (mj fun z=>V.noConfusion)) (nB (a:=true) (b:=true) bu.bool (by decide) trivial trivial)) fun z=>f9 (aF (aa 33 nd rfl) (pe (aF (c:=false) (aa 32 nd rfl) en (mi fun z=>V.noConfusion)) (bU (ae (aR 58 B (g8 B) (.bi _) rfl (ae (aa 9 nd rfl) ao) (aU.cast (i9 (by rw[ZQ];omega)) (show _=V.int pal.length by rw[ZQ]))) (ae aj ao)) (show 2<=Z7 by decide))) (nB (a:=[(pal.length:Int),0]) (b:=[(pal.length:Int),0]) Af (by decide) bR bR)) fun z=>qC) (by simp)) gk) ?_
  refine d8 (bD (aQ (v:=aO (aK size f (some r))) 34 (pe (aF (c:=false) (aa 32 nd rfl) en (mi fun z=>V.noConfusion)) (ag (dA (ae aj ao) (show 1<=Z7 by decide)) (aa 32 nd rfl) (j8 (by rw[ZQ];show 1+_<=2^24;exact "[A12[+1A^24" fx)))) rfl)) (fun p hp=> ?_) (aae _);simp only[sP,l0,ZU,aaz,or_false] at hp;rcases hp with rfl|rfl|rfl|rfl|rfl|rfl|rfl|rfl|rfl|rfl|rfl|rfl|rfl|rfl|rfl|rfl<;>exact bw rfl
end
set_option tactic.hygienic true in
noncomputable def Ec(w:Z2)(X:List Addr)(H:Heap)(l n:Nat)(sc:ZZ)(ρ:aw)(ow:Ow)(st:Stmt)(ρ':Addr->aw):Prop:=
 ∀(env:Env) (A:aaj) (G₀:GM) (s₀:ZL) (G:GM) (s:ZL) (Q:Flow->ZL->Prop) (E:ZN->ZL->Prop),env.scope=sc->bW A l n->av X H sc env ρ ow G₀ s₀ G s->
  (∀a G' s',av X H sc env (ρ' a) ((a,[])::ow) G₀ s₀ G' s'->dO sc env ow X G s G' s'->s.heap.get? a=none->Q .next s')->Z6 (Z8 PW w) A (exec st env) Q E s
theorem Jo{a:Addr}{ys:List V}{G₁ aB:GM}{s₁ ar:ZL}(k1:dO sc env ow X G s G₁ s₁)(k2:dO sc env ((a,ys)::ow) X G₁ s₁ aB ar)(hn:s.heap.get? a=none):dO sc env ow X G s aB ar:=⟨fun b o e=>k2.1 b o (k1.1 b o e),fun b o h1 h2 e=>by
 obtain⟨e1,g1⟩:=k1.2 b o h1 h2 e;have hb:b∉bM sc env ((a,ys)::ow) X:=fun hm=>by
  apply h1;unfold bM at hm⊢;simp only[ZU,aaw,aah] at hm⊢;rcases hm with hm|hm|(hm|hm)|hm
  ·exact .inl hm
  ·exact .inr (.inl hm)
  ·rw[hm,hn] at e;cases e
  ·exact .inr (.inr (.inl hm))
  ·exact .inr (.inr (.inr hm))
 obtain⟨e2,g2⟩:=k2.2 b o hb h2 e1;exact⟨e2,fun h=>g2 (g1 h)⟩⟩
theorem OI{t e e':Expr}{pos:Pos}{f:Addr->V}(h:aM w H l n sc ρ t false)(h1:l6 w X H l n sc ρ e' f):l6 w X H l n sc ρ (.IfExp t e e' pos) f:=fun env A G₀ s₀ G s ow Q E r I k=>wpAny_IfExp (h.go env A s G r I.st _ E fun s₁ G₁ af=>h1 env A G₀ s₀ G₁ s₁ ow Q E r (I.ext' af) fun cv s' G' a I' r' kk hn=>k cv s' G' a I' r' ((I.kept_ext af).trans kk) (jA af (I.st.ext af).tab hn))
theorem O6(i:Nat){x:Str}{kd:aam}{e:Expr}{p pos:Pos}{f:Addr->V}(h:l6 w X H l n sc ρ e f)(hx:sc.names[i]?=some (x,kd))(hk:autoParam (kd= .local\/kd= .cell) au)
 (hs:autoParam (abY e (some (.Name x p)) pos.line (da sc)=pure false) au):Ec w X H l n sc ρ ow (.Assign [.Name x p] e pos) (fun a=>dD ρ i (f a)):=fun env A G₀ s₀ G s Q E q r I k=>by
 rw[ab3 _ _ _ _ _ (kj hs q)];refine ZO (aaM (ZO (h env A G₀ s₀ G s ow _ E r I fun cv s' G' a I' r' kk hn=>ZO (aaM (ZO ?_)))));exact acL (I'.kept_set hx hk r' fun jJ s'' kq k2=>ZS (k a jJ s'' kq (Jo kk k2 hn) hn))
theorem MN:aT (bg 0)=[gO 0,gO 1,gO 2,gO 3]:=by with_unfolding_all rfl
theorem TN(B:ai w tk H){x:Addr}:Ec w [] H (l+1) 40 (aJ (bg 0)) [(0, .at x),(1, .none)] [] (gO 0) (fun a=>[(1, .at a),(0, .at x)]):=by
 conv=>arg 6;whnf
 conv=>arg 9;whnf
 exact O6 1 (OI (aF (c:=false) (jd (i:=1) rfl (bw rfl) (by decide) (by decide)) en (mj fun z=>V.noConfusion)) F0) rfl
set_option tactic.hygienic true in
theorem TO(B:ai w tk H){x a:Addr}:bV w [] H (l+1) 40 (aJ (bg 0)) [(1, .at a),(0, .at x)] [(a,[])] (gO 1) (.next [(1, .at a),(0, .at x)] [(a,[])]):=by
 conv=>arg 6;whnf
 conv=>arg 9;whnf
 refine Ap (i:=1) (bw rfl) (Pr (lI (aF (c:=false) (aR 4 B (w6 B) (.ty _) rfl (ae (jd (i:=1) rfl (bw rfl) (by decide) (by decide)) ao) E5) (gY B (AP B) rfl (i:=5) (fun G=> .ty _)) ET) gk) (fun p hp=>ZP _ hp) (aae _)) rfl
set_option tactic.hygienic true in
theorem TP(B:ai w tk H){x a:Addr}:bV w [] H (l+1) 40 (aJ (bg 0)) [(1, .at a),(0, .at x)] [(a,[])] (gO 3) (.next [(1, .at a)] [(a,[])]):=by
 conv=>arg 6;whnf
 conv=>arg 9;whnf
 refine Ap (i:=1) (bw rfl) (tn (iC Ak oh) (bD (kD (items:=[]) (M:=0) (R:=fun z=>[(1, .at a)]) (R':=fun z=>[(1, .at a)]) (O:=fun z=>[])
  (cE (.inr ⟨⟨_,_,_,rfl⟩,fun v hv=>nomatch hv⟩) (jd (i:=1) rfl (bw rfl) (by decide) (by decide))) (fun p hp=>by rw[Z4.mp hp];exact ZP _ ZR) rfl (fun j v z hv=>nomatch hv) (fun j v z hv=>nomatch hv) (.inl ⟨rfl,rfl⟩)))) rfl
theorem TU(B:ai w tk H){A:aaj}{x dx:Addr}{R:adE->ZL->Prop}(r:bW A (l+2) n)(jF:ak aq G₀ s₀ G s)(bs:Bs H G s)(zI: ∀b o,H.get? b=some o->b∉aq->s₀.heap.get? b=some o)
 (hx:s.heap.get? x=some (eQ dx)) (hd:s.heap.get? dx=some ab8) (gx:G x=none) (gd:G dx=none) (nx:s₀.heap.get? x=none) (uR:s₀.heap.get? dx=none)
 (k: ∀s' G' L q,ak aq G₀ s₀ G' s'->Rd G' (.hdr (.at L)) (.ref x)->s₀.heap.get? L=none->G' L=none->s'.heap.get? L=some (aI [] q)->R (.ok (.ret .none)) s'):codeAny (Z8 PW w) A (.call (.ref 217) ⟨[.ref x],[]⟩) R s:=by
 refine wx B (Gk B) (Ma B (sv:= .at x)) r bs jF.inn (.cons (.at x) .nil) fun env G₁ s₁ hq hL af I r'=> ?_
 have pM:x≠env.locals:=fun e=>by have:=I.lnew;rw[<-e,hx] at this;cases this
 have mL:dx≠env.locals:=fun e=>by have:=I.lnew;rw[<-e,hd] at this;cases this
 have kO:x∉aq:=fun h=>m5 bs.tab h hx fun vs q=>by cases q
 have kK:dx∉aq:=fun h=>m5 bs.tab h hd fun vs q=>by cases q
 have I:=I.earlier jF zI;have mQ:=af.keep _ _ hx kO;have mH:=af.keep _ _ hd kK;have AU:=af.none gx hx kO;have AQ:=af.none gd hd kK;have q':env.scope=aJ (bg 0):=hq;have I:av [] H (aJ (bg 0)) env [(0, .at x),(1, .none)] [] G₀ s₀ G₁ s₁:=I;rw[MN];refine aar ((TN B) env _ G₀ s₀ G₁ s₁ _ _ q' r' I fun L aB ar bf k₂ B6=> ?_);refine aar (Aq (TO B) q' r' bf fun f bI bj ok Ux=> ?_);obtain⟨rfl,b0⟩:=ok
 have Jq:=Jo k₂ Ux B6;have mT: ∀{b:Addr} {ob:Obj},s₁.heap.get? b=some ob->b≠env.locals->(∀v,¬s₁.heap.IsCell b v)->b∉aq->b∉bM (aJ (bg 0)) env [] []/\b∉[]++aq:=fun{b ob} h1 h2 h3 h4=>⟨fun hm=>(by
  rcases qi hm with h|⟨y,h,_⟩|⟨y,h⟩|h
  ·exact h2 h
  ·obtain⟨v,hv⟩:=I.cis y b (I.ckeys y b h)
   exact h3 v hv
  ·cases h
  ·cases h),by simpa using h4⟩
 have cx: ∀v,¬s₁.heap.IsCell x v:=fun v ⟨o',e1,e2⟩=>by rw[mQ] at e1;cases e1;cases e2
 have cd: ∀v,¬s₁.heap.IsCell dx v:=fun v ⟨o',e1,e2⟩=>by rw[mH] at e1;cases e1;cases e2
 obtain⟨mR,AV⟩:=Jq.2 x _ (mT mQ pM cx kO).1 (mT mQ pM cx kO).2 mQ;obtain⟨pF,AR⟩:=Jq.2 dx _ (mT mH mL cd kK).1 (mT mH mL cd kK).2 mH;have tL:=AV AU;have rq:=AR AQ;have e2:gO 2= .Assign [.Attribute (.Name "self" ⟨194,8,194,12⟩) "_headers" ⟨194,8,194,21⟩] (.Name "headers" ⟨194,24,194,31⟩) ⟨194,8,194,31⟩:=by kernel_rfl
 rw[e2];refine aar (plainObj_wpAny_Assign_Attribute (n6 b0.st (i:=1) rfl (v:= .at L) (bw rfl) (by decide) (by decide) fun o7 Dr=>n6 b0.st (i:=0) rfl (v:= .at x) (bw rfl) (by decide) (by decide) fun Ot Dy=> ?_) rfl);obtain rfl:=fe Dy;obtain rfl:=fe Dr;refine Ku (jv B b0.st.bs) mR pF fun h' tk' hh t dB fG=> ?_
 have gF:bj.heap.Ns dx (fun z=>none):=⟨ab8,#[],0,pF,rfl,fun e he=>by simp at he,fun y=>rfl⟩;have eK:av [] H (aJ (bg 0)) env [(1, .at L),(0, .at x)] [(L,[])] G₀ s₀ bI {bj with heap:=h',toks:=tk'}:=by
  have:=b0.other gF mL uR rq fG;exact this.ext' (ak.toks this.st.inn tk')
 have pY:x≠dx:=fun e=>by rw[e,pF] at mR;cases mR
 have ur:h'.get? x=some (eQ dx):=(fG.2 x pY).trans mR;have zT: ∀v,¬h'.IsCell dx v:=fun v ⟨o',e1,e2⟩=>by rw[dB] at e1;cases e1;cases e2
 have z8: ∀v,¬h'.IsCell x v:=fun v ⟨o',e1,e2⟩=>by rw[ur] at e1;cases e1;cases e2
 have fm:=(eK.freezeO (a:=dx) dB uR rq mL zT (fun vs k e=>by simp[aI,gA] at e) kK).freezeO (a:=x) (ob:=eQ dx) ur nx (by unfold bN;rw[if_neg pY];exact tL) pM z8 (fun vs k e=>by simp[aI,eQ] at e) kO;have xa:bN bI dx (gA hh t (.ref L) 1) x=none:=by unfold bN;rw[if_neg pY];exact tL
 have rd:Rd (bN (bN bI dx (gA hh t (.ref L) 1)) x (eQ dx)) (.hdr (.at L)) (.ref x):= .hdr iK (lK xa _ _ iK) (.at L);refine aar (Aq (TP B) q' r' fm fun f sU yH ok uB=> ?_);obtain⟨rfl,fO⟩:=ok;refine ace ?_;obtain⟨o1,o2,o3,vs,q,o4,o5⟩:=fO.own _ ZR;cases o5;exact k yH sU L q fO.ext (cN uB.1 rd) (o3.resolve_right fun h=>nomatch h) o1 o4
theorem OH(B:ai w tk H)(i:Nat){p pos:Pos}(hx:sc.names[i]?=some (("Headers" :Str), .globalImplicit)):l6 w X H (l+3) n sc ρ (.Call (.Name "Headers" p) [] [] pos) (fun a=> .hdr (.at a)):=
 fun env A G₀ s₀ G s ow Q E r I k=>aaZ (eZ B (Hm B) hx I.st (by
  refine callWith_of (P:=fun h=>(KK w.params tk).In h) ?_ (keeps_K Jm) ?_
  ·rfl
  ·refine PySem.evalArgs_none ⟨jv B I.st.bs,?_⟩
   have bs:=I.st.bs;have hi:=I.st.inn;have K:=jv B bs;obtain⟨h,g,d,t,os⟩:=s;have pP:h.get? h.objs.size=none:=ct (aab _);have ue:h.get? (h.objs.size+1)=none:=ct (acU _);refine ac6 (make_core (makes_of K H6) (looks_findIn K H4) (fun self=>bind_fn K self H5) (.inl rfl) ?_);have jF:ak aq G ⟨h,g,d,t,os⟩ G ⟨(h.push ab8).push (instObj 323 h.objs.size),g,d,t,os⟩:=ak.grown hi t fun b o e=>Z9 _ (Z9 _ e)
   have zH:Bs H G ⟨(h.push ab8).push (instObj 323 h.objs.size),g,d,t,os⟩:=⟨fun b o e hb=>jF.keep _ _ (bs.base _ _ e hb) hb,jF.tab bs.tab,bs.gt,bs.hl⟩;have hx:((h.push ab8).push (instObj 323 h.objs.size)).get? (h.objs.size+1)=some (eQ h.objs.size):=by
    have:=aai (h.push ab8) (o:=instObj 323 h.objs.size) rfl;rw[abS] at this;exact this
   have hd:((h.push ab8).push (instObj 323 h.objs.size)).get? h.objs.size=some emptyDict:=Z9 _ (aai _ rfl);refine TU (n:=n) B (KR r) jF zH bs.base hx hd (cY (s:=⟨h,g,d,t,os⟩) hi ue) (cY (s:=⟨h,g,d,t,os⟩) hi pP) ue pP fun s' G' L q x' rd e1 e2 e3=> ?_
   obtain⟨I',K'⟩:=I.gain x' e1 e2 e3;exact⟨rfl,k _ s' G' L I' rd K' e1⟩))
noncomputable def fz(size:Int)(f:Fg):Int:=(bl f:Int)^size.toNat -1
noncomputable def lu(size:Int)(letters:Str)(pal:List Int)(f:Fg)(rest:Option (List Int)):aw:=(35, .int (fz size f))::sP size letters pal f rest
noncomputable def ek(letters:Str)(size t p:Int):Str×Str:=(if t.fmod 2 !=0 then bQ letters ((p+t).fmod size) else abA (bQ letters ((p+t).fmod size)),((toString t:String):Str))
noncomputable def eX(letters:Str)(size:Int)(pal row:List Int):List (Str×Str):=row.flatMap fun t=>pal.map (ek letters size t)
structure qL(letters:Str)(size:Int):Prop where
 len:(letters.length:Int)=size
 nm: ∀i,0<=i->i<size->((found gm (bQ letters i)=some false/\(bQ letters i).cps.size<2^62)/\(found gm (abA (bQ letters i))=some false/\(abA (bQ letters i)).cps.size<2^62))/\ ∃u,(abA letters).cps[i.toNat]?=some u/\abA (bQ letters i)=⟨#[u]⟩
 gt: ∀i,0<=i->i<size->uQ (bQ letters i)/\uQ (abA (bQ letters i))
 ch: ∀i,0<=i->i<size->aa6 (bQ letters i)=true/\aa6 (abA (bQ letters i))=true
theorem th{t:Int}(h0:0<=t)(h1:t<12):t.natAbs.log2<1920/\aa6 ((toString t:String):Str)=true/\found oY ((toString t:String):Str)=some false/\((toString t:String):Str).length<=900:=by
 have h3: ∀m<12,((m:Nat):Int).natAbs.log2<1920/\aa6 ((toString ((m:Nat):Int):String):Str)=true/\found oY ((toString ((m:Nat):Int):String):Str)=some false/\((toString ((m:Nat):Int):String):Str).length<=900:=by decide+kernel
 obtain⟨m,rfl⟩: ∃m:Nat,t=m:=⟨t.toNat,by exact(ZV ‹_›).symm⟩;exact h3 m (by exact acd.mp ‹_›)
theorem zU{letters:Str}{size i:Int}(hl:(letters.length:Int)=size)(h0:0<=i)(h1:i<size):letters.cps[i.toNat]?=some (letters.cps.getD i.toNat 0):=by
 have h5:i.toNat<letters.cps.size:=by show _<letters.length;simp[*]
 rw[acw h5];simp[Array.getD,h5]
section
variable {AG:ZN->Heap->Prop}
theorem p8(B:ai w tk H){size:Int}{letters:Str}{pal:List Int}{f:Fg}{rest:Option (List Int)}(h8:8<=size)(h12:size<=12)(F:f.Ok){ss:List Stmt}
 (hr: ∀a,aD w [] H (l+14) 40 c8 ((36, .hdr (.at a))::lu size letters pal f rest) [(a,[])] ss o):
 aD w [] H (l+14) 40 c8 (sP size letters pal f rest) [] (dI 20 1++ss) o:=by
 have nd:aL c8:=j6
 conv at nd=>arg 1;whnf
 conv=>arg 6;whnf
 conv=>arg 9;arg 1;whnf
 show aD _ _ _ _ _ _ _ _ (_::ss) _
 have pR:((aad (bl f:Int):Nat):Int)*size<=2^27:=by
  have hm:=F.more;have tU:bl f<2^62:=by unfold bl;exact aeu (by decide) (by exact ">a6#'Aa<+A5_62" hm.2 (ZV (hm.1)))
  have hb:aad (bl f:Int)<=64:=by
   unfold aad;split
   ·exact aav _
   ·have:=j4 (k:=62) (n:=((bl f:Int)).natAbs) (by simpa using tU) (by decide);exact aaa ‹_› (abf _ _)
  have h9:((aad (bl f:Int):Nat):Int)*size<=64*size:=ad6 (by exact aei.mpr ‹_›) (by exact "]8a]0a" h8);exact ":64]a12]b*64a]b^27" h12 h9
 exact Mz (f:=fun a=> .tup [.int (fz size f), .hdr (.at a)]) (x:=fun a=>[.int (fz size f), .hdr (.at a)]) (F1 (ag (ag (aa 19 nd rfl) (aa 4 nd rfl) (j9 (by exact "]8a]0a" h8) pR)) aj d6) (OH (l:=l+11) B 61 rfl)) (fun a=>rfl) (fun a=>bz 35 rfl (bz 36 rfl eF)) hr rfl rfl
end
section
variable {AG:ZN->Heap->Prop}
set_option tactic.hygienic true in
theorem p9(B:ai w tk H){size:Int}{letters:Str}{pal:List Int}{f:Fg}{rest:Option (List Int)}(h8:8<=size)(h12:size<=12)(F:f.Ok)(L:qL letters size)(iP:pal.length<=12)(dY: ∀p∈pal,0<=p/\p<size)(rO:(aK size f rest).length<=13)(pS: ∀t∈aK size f rest,0<=t/\t<size)
 (cU: ∀t∈aK size f rest,∀p∈pal,j3 size (p+t) (f.share+1) (f.value+1) f.turns=true) {a:Addr}:
 aD w [] H (l+14) 40 c8 ((36, .hdr (.at a))::lu size letters pal f rest) [(a,[])] (dI 21 1) (.next ((36, .hdr (.at a))::lu size letters pal f rest) [(a,(eX letters size pal (aK size f rest)).map pv)]):=by
 have nd:aL c8:=j6
 conv at nd=>arg 1;whnf
 conv=>arg 6;whnf
 conv=>arg 9;whnf
 have pV:(aK size f rest).take (aK size f rest).length=aK size f rest:=adj;have Cd:pal.take pal.length=pal:=adj
 conv=>arg 10;rw[<-pV]
 have hlen:((aK size f rest).map V.int).length=(aK size f rest).length:=ZQ _;have rK:(pal.map V.int).length=pal.length:=ZQ _;have rG: ∀k,(eX letters size pal ((aK size f rest).take k)).length<=13*12:=fun k=>by
  unfold eX;refine ZW (wN (k:=12) fun t z=>by rw[ZQ];exact iP) (acM _ (by rw[aaU];(simp at*;exact ZW (abj _ _) ‹_›)))
 refine bD (wH hlen (R:=fun z=>(36, .hdr (.at a))::lu size letters pal f rest) (R':=fun k=>(37,((aK size f rest).map V.int).getD k default)::(36, .hdr (.at a))::lu size letters pal f rest)
  (O:=fun k=>[(a,(eX letters size pal ((aK size f rest).take k)).map pv)]) (cE (.inl bP) (aa 34 nd rfl)) (fun p hp=>hp) rfl ?ha ?hb)
 case ha=>
  intro k v hv;have eT:((aK size f rest).map V.int).getD k default=v:=by rw[aaG,hv];rfl
  rw[eT];exact m6 37 rfl
 case hb=>
  intro k v hv;obtain⟨t,ht,rfl⟩:=nX hv;have eT:((aK size f rest).map V.int).getD k default= .int t:=by rw[aaG,hv];rfl
  rw[eT];have pW:=aag ht;obtain⟨t0,t1⟩:=pS t pW;have Cp:(eX letters size pal ((aK size f rest).take (k+1)))=eX letters size pal ((aK size f rest).take k)++(pal.take pal.length).map (ek letters size t):=by
   rw[Cd];unfold eX;rw[ab9,ht,acQ];simp
  rw[Cp];have gE:=rG k;generalize eX letters size pal ((aK size f rest).take k)=ys at gE;refine d8 (bD (wH rK (R:=fun z=>(37, .int t)::(36, .hdr (.at a))::lu size letters pal f rest) (R':=fun j=>(8,(pal.map V.int).getD j default)::(37, .int t)::(36, .hdr (.at a))::lu size letters pal f rest)
   (O:=fun j=>[(a,(ys++(pal.take j).map (ek letters size t)).map pv)]) (cE (.inl bP) (aa 9 nd rfl)) (fun p hp=>hp) (by simp) ?hc ?hd)) (fun p hp=>ZP _ hp) (aae _)
  case hc=>
   intro j v hv;have eT:(pal.map V.int).getD j default=v:=by rw[aaG,hv];rfl
   rw[eT];exact m6 8 rfl
  case hd=>
   intro j v hv;obtain⟨p,hp,rfl⟩:=nX hv;have eT:(pal.map V.int).getD j default= .int p:=by rw[aaG,hv];rfl
   rw[eT];have IT:=aag hp;refine gz fun zq zk=> ?_
   obtain⟨p0,p1⟩:=dY p IT;have dK:=cj (a:=p+t) (b:=size) (by exact acf ‹_› ‹_›);have eA:=F.share;have gI:=F.value;have nU:=F.turns;obtain⟨⟨⟨n1,n2⟩,n3,n4⟩,_⟩:=L.nm _ dK.1 dK.2;obtain⟨d1,d2,d3,d4⟩:=th t0 (by exact acg ‹_› ‹_›);refine zk ?_
   have R3:(ys++(pal.take (j+1)).map (ek letters size t)).map pv=(ys++(pal.take j).map (ek letters size t)).map pv++[pv (ek letters size t p)]:=by
    rw[ab9,hp];simp
   rw[R3];have Jb:((ys++(pal.take j).map (ek letters size t)).map pv).length<=sizeLine:=by
    rw[ZQ,aap,ZQ,aaU];show _<=2^24;exact "[A12[B156[CA[+BC^24" iP gE (abj _ _)
   generalize ((ys++(pal.take j).map (ek letters size t)).map pv)=zs at Jb;refine aH (aQ (v:= .str (bQ letters ((p+t).fmod size))) 38 (aR 62 B (Hs B) (Fc B) rfl (ae (ag (aa 8 nd rfl) (aa 37 nd rfl) ck) (ae (aa 5 nd rfl) (ae (ag (aa 11 nd rfl) aj ck) (ae (ag (aa 12 nd rfl) aj ck) (ae (aa 13 nd rfl) ao)))))
    (EY (l:=l+10) B h8 h12 L.len (by exact⟨"]0a]0b]~^20+ba" t0 p0,":2]a12>ba>ca]+cb^20" h12 t1 p1⟩) (by exact⟨"]0a]1+a1" eA.1,">a4]+a1_4" eA.2⟩) (by exact⟨"]0a]1+a1" gI.1,">a7]+a1_7" gI.2⟩) (by exact⟨nU.1,">a4]a3" nU.2⟩) (cU t pW p IT) (zU L.len dK.1 dK.2))) rfl) ?_
   refine d8 (bD (Pf B Sm (D:=a) (ys':=zs++[pv (ek letters size t p)]) (aa 36 nd rfl) (ae (mv (f:=V.str) (iC (ag (aa 37 nd rfl) aj (cH (by decide))) oi) (fun z=>aa 38 nd rfl) (fun z=>gq (uK (by show 1<=_;decide)) (aa 38 nd rfl))) (ae (aR 63 B (mC B) (.ty _) rfl (ae (aa 37 nd rfl) ao) (qP d1)) ao))
    (MY (l:=l+12) B ?he ?hf d3 d4 Jb))) (fun q hq=>ZP _ (ZP _ hq)) (aae _)
   case he=>split<;>assumption
   case hf=>split<;>assumption
end
noncomputable def tG(letters:Str)(laid:List (Str×Str)):List (List Str):=letters.cps.toList.zipIdx.map fun p=>ru laid (if((p.2:Int).fmod 2 !=0) then abA ⟨#[p.1]⟩ else⟨#[p.1]⟩)
noncomputable def cQ(size:Int)(pal row:List Int):List (List Str):=(aS 0 size).map fun i=>(row.filter fun t=>decide ((i -t).fmod size∈pal)).map fun t=>((toString t:String):Str)
noncomputable def Lc(size:Int)(letters:Str)(pal:List Int)(f:Fg)(rest:Option (List Int))(fnd:List (List Str)):aw:=(40, .list (fnd.map fun x=> .list (x.map V.str)))::lu size letters pal f rest
section
variable {AG:ZN->Heap->Prop}
theorem MC{i:Nat}{a:Addr}{ys:List V}{ss:List Stmt}(hm:(i, .hdr (.at a))∈ρ)(h:aD w [] H l n sc ((i, .hdr (.list ys))::ρ) ow ss o):aD w [] H l n sc ρ ((a,ys)::ow) ss o:= .mk fun env A G₀ s₀ G s Q E q r I k=>by
 obtain⟨_,_,_,vs,k',hl,hr⟩:=I.own _ ZR;obtain⟨I',mO⟩:=I.freeze hl hr;refine h.go env A G₀ s₀ _ s Q E q r (I'.renamed hm fun cv rc=> ?_) k;obtain⟨x,d,hh,t,b,ep,rfl,h1,h2,h3⟩:=va rc;obtain rfl:=fe h3;exact .hdr h1 h2 mO
theorem F4{ve se:Expr}{pos:Pos}{x:Str}{i:Int}{c:Nat}(ha:ah w H l n sc ρ ve (.str x))(hb:ah w H l n sc ρ se (.int i))(h0:0<=i)(h1:i<2^62)(hc:x.cps[i.toNat]?=some c)
 (hs:autoParam (∀t u,∃ops,ac4 se false (.str x t) (.int i u)=operate ops (getItem (.str x t) (.int i u))) au):ah w H l n sc ρ (.Subscript ve se pos) (.str ⟨#[c]⟩):=
 .mk fun env A s G r S Q E k=>ad1 (ha.go env A s G r S _ E fun ca s₁ G₁ af aA=>hb.go env A s₁ G₁ r (S.ext af) _ E fun cb ar aB ax bx=>by
  obtain⟨t,rfl⟩:=dC aA;obtain⟨u,rfl⟩:=aZ bx;have aV:i.toNat<x.length:=(Array.getElem?_eq_some_iff.mp hc).1;obtain⟨ops,ho⟩:=hs t u;refine DK (T:= "str") (typeIs_str _ _ _) F.slot_str_getitem.lookup (P.getItem_str (c:=c) ?_ ?_ (k _ _ aB ((af.trans ax).trans (ak.toks ax.inn _)) (.str _ _))) ho
  ·rw[decide_eq_false (by exact "]0a!>a~^63" h0),decide_eq_false (by exact ">a^62!]^63a" h1)];rfl
  ·have:ad2 i x.length=some i.toNat:=by
    unfold ad2;have h3: ¬i<0:=by exact abK.mpr ‹_›
    simp only[h3,if_false];have h4:i<(x.length:Int):=by exact "<AB;1#'Aa>a'B" aV (ZV (h0))
    simp[h0,h4]
   rw[this];exact hc)
set_option tactic.hygienic true in
theorem Ph{α:Type}(ls:List α)(f1 f2:α->V)(g:α->V){elt iter:Expr}{x y z:Str}{k1 k2:aam}{p q tp zp:Pos}{kk:Nat}{scope:ZZ}{pos i0:Pos}{i j jj:Nat}{bo:aw}
 (C:jH sc scope/\aL scope) (hx:scope.names[i]?=some (x,k1)) (hy:scope.names[j]?=some (y,k2)) (iN:k1= .local\/k1= .cell) (gC:k2= .local\/k2= .cell) (hi:(bo.map (·.1)).contains i=false) (hj:((i::bo.map (·.1))).contains j=false)
 (eo:kl sc scope ρ bo)
 (hit:cI w H l n sc ρ (.Tuple [.Name x p, .Name y q] kk tp) iter (ls.map fun a=> .tup [f1 a,f2 a])) (h:aL scope-> ∀a∈ls,ah w H l n scope ((j,f2 a)::(i,f1 a)::bo) elt (g a)) (hsz:ls.length<=Z7)
 (hz:sc.names[jj]?=some (z, .local))
 (hw:abY (.ListComp elt [⟨.Tuple [.Name x p, .Name y q] kk tp,iter,[],0⟩] scope pos) (some (.Name z zp)) i0.line (da sc)=pure true) (hs:autoParam (∀env x,aaN iter env x=pure x) au):
 bV w X H l n sc ρ ow (.Assign [.Name z zp] (.ListComp elt [⟨.Tuple [.Name x p, .Name y q] kk tp,iter,[],0⟩] scope pos) i0) (.next (dD ρ jj (.list (ls.map g))) ow):=by
 have e:ls.flatMap (fun a=>[g a])=ls.map g:=adQ.symm;rw[<-e];exact wI C.1 (fun g h=>nomatch h) eo hit (fun a ha=>⟨_,true,CN hx hy hi hj iN gC,fun q hq=>ZP _ (ZP _ hq), .nil,fun v=>mu rfl (h C.2 a ha),fun h=>nomatch h⟩) (by rw[e];simpa using hsz) hz hw hs
set_option tactic.hygienic true in
theorem Wx(B:ai w tk H){size:Int}{letters:Str}{pal:List Int}{f:Fg}{rest:Option (List Int)}(h8:8<=size)(h12:size<=12)(F:f.Ok)(L:qL letters size)(iP:pal.length<=12)(dY: ∀p∈pal,0<=p/\p<size)(rO:(aK size f rest).length<=13)(pS: ∀t∈aK size f rest,0<=t/\t<size)
 (rF:tG letters (eX letters size pal (aK size f rest))=cQ size pal (aK size f rest)) {a:Addr}:
 aD w [] H (l+14) 40 c8 ((36, .hdr (.at a))::lu size letters pal f rest) [(a,(eX letters size pal (aK size f rest)).map pv)] (dI 22 3) (.next (Lc size letters pal f rest (cQ size pal (aK size f rest))) []):=by
 have nd:aL c8:=j6
 conv at nd=>arg 1;whnf
 conv=>arg 6;whnf
 conv=>arg 9;whnf
 refine MC (i:=36) (bw rfl) ?_;have rG:(eX letters size pal (aK size f rest)).length<=13*12:=by
  unfold eX;exact ZW (wN (k:=12) fun t z=>by rw[ZQ];exact iP) (acM _ rO)
 have Iy:((aK size f rest).flatMap fun t=>pal.map fun p=>pv (ek letters size t p))=(eX letters size pal (aK size f rest)).map pv:=by
  unfold eX;rw[aes];simp[aaf,aaF]
 refine aH (wK (j:=39) (aK size f rest) V.int (fun t=>pal.map fun p=>pv (ek letters size t p)) (b6 (by kernel_rfl)) (fun g hg=>by cases hg;rfl) (i:=1) rfl (.inl rfl) rfl (bJ 4 5 rfl rfl rfl (bJ 5 9 rfl rfl rfl (bJ 6 4 rfl rfl rfl b5)))
  (cE (.inl bP) (aa 34 nd rfl)) (fun nd t ht=>FO pal V.int (fun p=>pv (ek letters size t p)) rfl rfl (i:=2) rfl (.inl rfl) rfl (cE (.inl bP) (aa 5 nd rfl))
   (fun p hp=> ?ga)) (by rw[Iy,ZQ];show _<=2^24;exact ZW ‹_› (by decide)) rfl rfl) ?gb
 case ga=>
  have dK:=cj (a:=p+t) (b:=size) (by exact "]8a>0a" h8);refine gz fun zq zk=> ?_
  obtain⟨_,u,Ti,Tj⟩:=L.nm _ dK.1 dK.2;obtain⟨t0,t1⟩:=pS t ht;obtain⟨d1,d2,d3,d4⟩:=th t0 (by exact acg ‹_› ‹_›);refine zk ?_;refine bU (ae (v:= .str (ek letters size t p).1) ?gc (ae (aR 3 B (mC B) (.ty _) rfl (ae (aa 1 nd rfl) ao) (qP d1)) ao)) (show 2<=Z7 by decide)
  case gc=>
   have Zw:letters.length<=12:=by have:=L.len;exact "]a12#'Aa[A12" h12 this
   cases xi:(t.fmod 2 !=0) with
   |true=>exact ah.cast (F4 (kx (aM.cast (iC (ag (aa 1 nd rfl) aj (cH (by decide))) oi) xi) (aa 4 nd rfl)) (ag (ag (aa 2 nd rfl) (aa 1 nd rfl) ck) (aa 6 nd rfl) (cH (by exact "]8a!#a0" h8))) dK.1 (by exact "]a12>ba>b^62" h12 dK.2) (zU L.len dK.1 dK.2)) (by unfold ek;rw[if_pos xi];rfl)
   |false=>exact ah.cast (F4 (pe (aM.cast (iC (ag (aa 1 nd rfl) aj (cH (by decide))) oi) xi) (gq (uK (by exact ZW ‹_› (abf _ _))) (aa 4 nd rfl))) (ag (ag (aa 2 nd rfl) (aa 1 nd rfl) ck) (aa 6 nd rfl) (cH (by exact "]8a!#a0" h8))) dK.1 (by exact "]a12>ba>b^62" h12 dK.2) Ti) (by unfold ek;rw[if_neg (by rw[xi];decide),Tj])
 case gb=>
  rw[Iy];have TC:letters.cps.toList.zipIdx.length<=12:=by rw[List.length_zipIdx,abr];have:=L.len;show letters.length<=12;exact "]a12#'Aa[A12" h12 this
  have kL: ∀q∈letters.cps.toList.zipIdx,uQ (if((q.2:Int).fmod 2 !=0) then abA ⟨#[q.1]⟩ else⟨#[q.1]⟩):=fun q hq=>by
   have h1:=List.mem_zipIdx' hq;have h2:q.2<letters.cps.size:=by simpa using h1.1
   have h3:letters.cps.size=letters.length:=rfl;have h4:=L.len;obtain⟨g1,g2⟩:=L.gt (q.2:Int) (by exact Z0 _) (by exact "<AB=BC#'Ca>'Aa" h2 h3 h4);have h5:bQ letters (q.2:Int)=⟨#[q.1]⟩:=by
    unfold bQ;rw[aaD];have h6:letters.cps.getD q.2 0=q.1:=by
     rw[h1.2];simp[Array.getD,h2]
    rw[h6]
   rw[<-h5];split
   ·exact g2
   ·exact g1
  have pL: ∀p∈eX letters size pal (aK size f rest),p.1.length<=5592405/\aa6 p.1=true/\aa6 p.2=true:=fun p hp=>by
   unfold eX at hp;refine gz fun zq zk=> ?_
   obtain⟨t,ht,hp⟩:=acF.mp hp;obtain⟨q,hq,rfl⟩:=Z1.mp hp;have dK:=cj (a:=q+t) (b:=size) (by exact "]8a>0a" h8);obtain⟨g1,g2⟩:=L.gt _ dK.1 dK.2;obtain⟨c1,c2⟩:=L.ch _ dK.1 dK.2;obtain⟨t0,t1⟩:=pS t ht;obtain⟨d1,d2,d3,d4⟩:=th t0 (by exact acg ‹_› ‹_›);refine zk ?_;refine⟨?_,?_,d2⟩
   ·unfold ek;split
    ·exact g1.1
    ·exact g2.1
   ·unfold ek;split
    ·exact c1
    ·exact c2
  generalize Zs:eX letters size pal (aK size f rest)=laid at*;refine aH (Ph (jj:=40) letters.cps.toList.zipIdx (fun p=> .int (p.2:Int)) (fun p=> .str ⟨#[p.1]⟩) (fun p=> .list ((ru laid (if((p.2:Int).fmod 2 !=0) then abA ⟨#[p.1]⟩ else⟨#[p.1]⟩)).map V.str))
   (b6 (by kernel_rfl)) (i:=1) (j:=2) rfl rfl (.inl rfl) (.inl rfl) rfl rfl (bJ 3 36 rfl rfl rfl b5) (by rw[<-FU];exact CK (i:=55) B (tI B) rfl (aa 5 nd rfl))
   (fun nd q hq=>OR B Sn (aa 3 nd rfl) (ae (mv (f:=V.str) (iC (ag (aa 1 nd rfl) aj (cH (by decide))) oi) (fun z=>gq (uK (by show 1<=_;decide)) (aa 2 nd rfl)) (fun z=>aa 2 nd rfl)) ao) (Nb (l:=l+12) B (kL q hq) (fun p hp=>(pL p hp).1) (by show _<=2^24;exact ZW ‹_› (by decide)))) (ZW TC (by decide)) rfl rfl) ?_
  rw[show(letters.cps.toList.zipIdx.map fun p=>V.list ((ru laid (if((p.2:Int).fmod 2 !=0) then abA ⟨#[p.1]⟩ else⟨#[p.1]⟩)).map V.str))=(cQ size pal (aK size f rest)).map fun x=> .list (x.map V.str) by rw[<-rF];unfold tG;rw[aaf];rfl];have gH:(aK size f rest).length<=sizeLine:=ZW rO (by decide);have eA:(cQ size pal (aK size f rest)).length<=12:=by unfold cQ;rw[ZQ,fb];simp[*]
  have I0: ∀x∈cQ size pal (aK size f rest),∀y∈x,aa6 y=true:=fun x hx y hy=>by
   unfold cQ at hx;obtain⟨i,hi,rfl⟩:=Z1.mp hx;obtain⟨t,ht,rfl⟩:=Z1.mp hy;obtain⟨t0,t1⟩:=pS t (aaQ.mp ht).1;exact(th t0 (by exact acg ‹_› ‹_›)).2.1
  have S9:((aS 0 size).map fun i=>V.list (((aK size f rest).filter fun t=>decide ((i -t).fmod size∈pal)).map fun t=>V.str ((toString t:String):Str)))=(cQ size pal (aK size f rest)).map fun x=> .list (x.map V.str):=by
   unfold cQ;rw[aaf];refine aa0 fun i z=> ?_
   simp only[aaF,aaf]
  refine d8 (bD (lI (aM.cast (f9 (aF (aa 40 nd rfl) (ah.cast (jc (aS 0 size) V.int (fun i=>V.list (((aK size f rest).filter fun t=>decide ((i -t).fmod size∈pal)).map fun t=>V.str ((toString t:String):Str))) (b6 (by kernel_rfl)) (i:=1) rfl (.inr rfl) rfl (bJ 2 9 rfl rfl rfl (bJ 3 34 rfl rfl rfl (bJ 4 4 rfl rfl rfl b5))) (lT B (g9 B) (i:=48) rfl bP (aa 4 nd rfl) (by exact "]8a]~^62a" h8) (by exact acf ‹_› (by decide)))
   (fun nd i hi=>g0 (aK size f rest) V.int (fun t=>decide ((i -t).fmod size∈pal)) (fun t=>V.str ((toString t:String):Str)) (b6 (by kernel_rfl)) (i:=1) rfl (.inl rfl) rfl (bJ 3 2 rfl rfl rfl (bJ 4 1 rfl rfl rfl (bJ 5 4 rfl rfl rfl b5))) (cE (.inl bP) (aa 3 nd rfl))
    (fun nd t ht=>aF (ag (ag (aa 4 nd rfl) (aa 1 nd rfl) d6) (aa 5 nd rfl) (cH (by exact "]8a!#a0" h8))) (aa 3 nd rfl) (vZ bu.int (by decide) trivial bR))
    (fun nd t ht z=>aR 2 B (mC B) (.ty _) rfl (ae (aa 1 nd rfl) ao) (qP (th (pS t ht).1 (by have:=(pS t ht).2;exact acg ‹_› ‹_›)).1)) gH) (by rw[fb];show _<=2^24;exact "]a12#'A-a0[A^24" h12 (ZV ("]8a]0-a0" h8)))) (congrArg V.list S9)) (nB (a:=cQ size pal (aK size f rest)) (b:=cQ size pal (aK size f rest)) bu.str.list.list (by decide) I0 I0)) fun z=>
   f9 (aF (OS B So (aa 36 nd rfl) (Nj (l:=l+13) B (by rw[ZQ];show _<=2^24;exact ZW ‹_› (by decide)))) (aa 39 nd rfl) (nB (a:=laid) (b:=laid) (bu.pair bu.str bu.str).list (by decide) (fun p hp=>⟨(pL p hp).2.1,(pL p hp).2.2⟩) (fun p hp=>⟨(pL p hp).2.1,(pL p hp).2.2⟩))) fun z=>
   f9 (aF (aR 58 B (g8 B) (.bi _) rfl (ae (aa 36 nd rfl) ao) (Nl (l:=l+13) B (by rw[ZQ];exact ZY ‹_› (by decide)))) (aR 58 B (g8 B) (.bi _) rfl (ae (aa 39 nd rfl) ao) (i9 (by rw[ZQ];exact ZY ‹_› (by decide)))) zL) fun z=>qC) (by simp)) gk)) (fun p hp=> ?_) (aae _)
  rcases ZU.mp hp with h|hp
  ·exact h▸ZR
  ·exact ZP _ (ZP _ (ZP _ (ZP _ hp)))
end
noncomputable def ou(size:Int)(row:List Int):List Nat:=(aS 0 size).map fun i=>row.count i
noncomputable def dF(size:Int)(row:List Int)(f:Fg):Nat:=bb (br f) (ou size row)
noncomputable def gQ(size:Int)(f:Fg):Nat:=bl f^size.toNat -1
theorem oz{size:Int}{f:Fg}:fz size f=(gQ size f:Nat):=by
 unfold fz gQ;have h1:1<=bl f^size.toNat:=Nat.one_le_pow _ _ (by unfold bl;exact ab2 _);rw[Int.ofNat_sub h1,Int.natCast_pow];rfl
noncomputable def fW(size:Int)(pal row:List Int)(f:Fg):List Nat:=eV (br f) (b9 size pal f*dF size row f % gQ size f)
noncomputable def yU(size:Int)(letters:Str)(pal:List Int)(f:Fg)(rest:Option (List Int)):aw:=(41, .int (dF size (aK size f rest) f:Nat))::lu size letters pal f rest
structure vA(size:Int)(pal row:List Int)(f:Fg):Prop where
 n:b9 size pal f<2^150
 t:dF size row f<2^150
 w4:4<=(gQ size f).log2
 w:gQ size f<2^150
 o:((b9 size pal f*dF size row f % gQ size f).log2+br f)/br f<=2^7
section
variable {AG:ZN->Heap->Prop}
theorem K1{f:Fg}(F:f.Ok):1<=br f/\br f<2^12:=by have:=F.more;unfold br;exact⟨"[1+A5" (),">a6#'Aa<+A5^12" this.2 (ZV (this.1))⟩
theorem yf{a b:Nat}:((a:Int)*(b:Int))=((a*b:Nat):Int):=(aeN a b).symm
theorem Wy(B:ai w tk H){size:Int}{letters:Str}{pal:List Int}{f:Fg}{rest:Option (List Int)}{ss:List Stmt}(h8:8<=size)(h12:size<=12)(F:f.Ok)(rO:(aK size f rest).length<=13)(N:vA size pal (aK size f rest) f)
 (kM:(fW size pal (aK size f rest) f).map (fun d:Nat=>(d:Int))++aaB (size -(fW size pal (aK size f rest) f).length).toNat 0=(cQ size pal (aK size f rest)).map fun x=>(x.length:Int))
 (Sa:cm ((fW size pal (aK size f rest) f).map fun d:Nat=>(d:Int)) (some (-1)) none none≠[0])
 (hr:rest.isSome=true->aD w [] H (l+14) 40 c8 (yU size letters pal f rest) [] ss (.ret (.bool true) [])):
 aD w [] H (l+14) 40 c8 (Lc size letters pal f rest (cQ size pal (aK size f rest))) [] (dI 25 4++ss) (.ret (.bool true) []):=by
 have nd:aL c8:=j6
 conv at nd=>arg 1;whnf
 conv=>arg 6;whnf
 conv=>arg 9;arg 1;whnf
 show aD _ _ _ _ _ _ _ _ (_::_::_::_::ss) _
 obtain⟨K3,yO⟩:=K1 F;have jt:(ou size (aK size f rest)).length<=12:=by unfold ou;rw[ZQ,fb];simp[*]
 refine aH (aQ (v:= .int (dF size (aK size f rest) f:Nat)) 41 (aR 53 B (wX B) (wa B) rfl (ae (ah.cast (jc (aS 0 size) V.int (fun i=> .int ((aK size f rest).count i)) (b6 (by kernel_rfl)) (i:=1) rfl (.inl rfl) rfl (bJ 2 34 rfl rfl rfl b5)
  (lT B (g9 B) (i:=48) rfl bP (aa 4 nd rfl) (by exact "]8a]~^62a" h8) (by exact "]a12>a^62" h12))
  (fun nd a ha=>kA (uJ bu.int (by decide) trivial bR) (aa 2 nd rfl) (ae (aa 1 nd rfl) ao)) (by rw[fb];show _<=2^24;exact "]a12#'A-a0[A^24" h12 (ZV ("]8a]0-a0" h8)))) (show _=V.list (bF (ou size (aK size f rest))) by unfold ou bF;rw[aaf];rfl)) (ae (aa 18 nd rfl) ao)) (v5 (l:=l+8) (c:=20) (K:=4) B (by decide) yO (by exact "[A12<A^12" jt) (by exact "[A12[A^4" jt) ?ea)) rfl) ?_
 case ea=>
  intro d hd;unfold ou at hd;obtain⟨i,_,rfl⟩:=Z1.mp hd;exact ZY aci (by exact "[A13<A^20" rO)
 have hmul:b9 size pal f*dF size (aK size f rest) f<2^300:=by
  have h1:=N.n;have h2:=N.t;exact aaa (aet h1 h2) (by decide+kernel)
 have uf: ∀k:Nat,k<2^150->((k:Int)).natAbs<2^400:=fun k hk=>by
  rw[aaK];exact abh hk (by decide+kernel)
 have jV:(fz size f)≠0:=by
  rw[oz];intro e;have h0:gQ size f=0:=by exact adD ‹_›
  have:=N.w4;rw[h0] at this;revert this;decide
 have pE:i7 400 ((b9 size pal f:Int)*(dF size (aK size f rest) f:Int)).natAbs (fz size f).natAbs:=by
  rw[yf,oz,aaK,aaK];exact Ac (abh hmul (by decide+kernel)) N.w4 (abh (j4 N.w (by decide)) (by decide))
 refine aH (aQ (v:= .list (bF (fW size pal (aK size f rest) f))) 42 (aR 64 B (Hr B) (Fd B) rfl (ae (ah.cast (cZ (i:=1) (j:=1) (x:=[.int _, .int _]) (aR 56 B (lL B) (lD B) rfl (ae (ag (aa 20 nd rfl) (aa 41 nd rfl) (d5 (qj (uf _ N.n) (uf _ N.t)))) (ae (aa 35 nd rfl) ao)) (oX (l:=l+1) B jV pE)) aj (by decide) (by decide) rfl rfl) (show _=V.int ((b9 size pal f*dF size (aK size f rest) f % gQ size f:Nat):Int) by rw[yf,oz,acN])) (ae (aa 18 nd rfl) ao)) (EX (l:=l+5) (c:=400) B (by decide) K3 yO ?eb N.o)) rfl) ?_
 case eb=>exact ZY (Nat.mod_le _ _) (abh hmul (by decide+kernel))
 have ug:(fW size pal (aK size f rest) f).length<=12:=by
  have:=congrArg List.length kM;rw[aap,ZQ,ZQ] at this;have h2:(cQ size pal (aK size f rest)).length<=12:=by unfold cQ;rw[ZQ,fb];simp[*]
  exact "=+ABC[C12[A12" this h2
 have SH:bF (fW size pal (aK size f rest) f)=((fW size pal (aK size f rest) f).map (fun d:Nat=>(d:Int))).map V.int:=by unfold bF;rw[aaf];rfl
 rw[SH];have S4:(cQ size pal (aK size f rest)).length<=12:=by unfold cQ;rw[ZQ,fb];simp[*]
 have Tr: ∀x∈cQ size pal (aK size f rest),x.length<=13:=fun x hx=>by
  unfold cQ at hx;obtain⟨i,hi,rfl⟩:=Z1.mp hx;rw[ZQ];exact ZW (aaE _ _) rO
 generalize SA:(fW size pal (aK size f rest) f).map (fun d:Nat=>(d:Int))=oft at*;have SE:oft.length=(fW size pal (aK size f rest) f).length:=by rw[<-SA,ZQ]
 rw[<-SE] at kM ug;have hsz:size -oft.length<2^62/\ -(2^62)<size -oft.length:=by exact⟨"]a12>-a'A^62" h12,"]8a[A12>~^62-a'A" h8 ug⟩
 refine aH (lI (aM.cast (f9 (aF (ah.cast (ag (aa 42 nd rfl) (ag (dA (ae aj ao) (show 1<=Z7 by decide)) (ag (aa 4 nd rfl) (aR 58 B (g8 B) (.bi _) rfl (ae (aa 42 nd rfl) ao) (aU.cast (i9 (by rw[ZQ];exact "[A12<A^62" ug)) (show _=V.int oft.length by rw[ZQ]))) d6) (JT hsz.1 hsz.2 ?ec)) (j8 ?ed)) (show _=aO ((cQ size pal (aK size f rest)).map fun x=>(x.length:Int)) from ?ee))
  (ah.cast (jc (cQ size pal (aK size f rest)) (fun x=> .list (x.map V.str)) (fun x=> .int (x.length:Int)) (b6 (by kernel_rfl)) (i:=1) rfl (.inl rfl) rfl b5 (cE (.inl bP) (aa 40 nd rfl)) (fun nd x hx=>aR 2 B (g8 B) (.bi _) rfl (ae (aa 1 nd rfl) ao) (aU.cast (i9 (by rw[ZQ];have:=Tr x hx;exact "[A13<A^62" this)) (show _=V.int x.length by rw[ZQ]))) (by show _<=2^24;exact "[A12[A^24" S4)) (show _=aO ((cQ size pal (aK size f rest)).map fun x=>(x.length:Int)) by unfold aO;rw[aaf];rfl)) (nB iG (by decide) bR bR)) fun z=>
  f9 (aF (ah.cast (kB (a:=some (-1)) (b:=none) (c:=none) (aa 42 nd rfl) (.some (jR aj mV)) .none .none (fun h=>nomatch h) (by rw[ZQ];show _<=2^24;exact "[A12[A^24" ug)) (show _=aO (cm oft (some (-1)) none none) from congrArg V.list (J8 _ _ _ _ _))) (dA (ae aj ao) (show 1<=Z7 by decide)) (gW (a:=cm oft (some (-1)) none none) (b:=[0]) iG (by decide) bR bR)) fun z=>qC) ?ef) gk) ?_
 case ec=>show 1*(size -oft.length).toNat<=2^24;rw[acX];exact Int.toNat_le.mpr (by exact "]a12]-a'A'^24" h12)
 case ed=>
  rw[ZQ,List.length_flatten];simp only[List.map_replicate,List.sum_replicate_nat,List.length_singleton];rw[adJ];exact ZW (Nat.add_le_add ug (Int.toNat_le.mpr (show size -oft.length<=((12:Nat):Int) by exact "]a12]-a'A'12" h12))) (by decide)
 case ee=>
  rw[<-kM];unfold aO;rw[aaA,List.map_replicate]
  congr 2
  exact List.flatten_replicate_singleton
 case ef=>rw[decide_eq_false Sa];simp
 cases rest with
 |none=>exact lB (aF (c:=true) (aa 32 nd rfl) en (mi fun z=>V.noConfusion)) (bZ Ak)
 |some r=>
  refine jP (aF (c:=false) (aa 32 nd rfl) en (mi fun z=>V.noConfusion)) ((hr rfl).sub (fun p hp=> ?_) (aae _));simp only[yU,lu,sP,l0,ZU,aaz,or_false] at hp;rcases hp with rfl|rfl|rfl|rfl|rfl|rfl|rfl|rfl|rfl|rfl|rfl|rfl|rfl|rfl|rfl|rfl|rfl|rfl<;>exact bw rfl
end
noncomputable def qU(m k:Int):List Int:=(aS 2 (k+1)).filter fun d=>k.fmod d==0&&m.fmod d==0
noncomputable def eP(size m:Int):List Int:=(aS 1 size).filter fun k=>decide (qU m k=[])
noncomputable def dW(size:Int)(pal:List Int)(f:Fg):Int:=(eP size pal.length).getD (f.factor.fmod (eP size pal.length).length).toNat 0
noncomputable def gK(letters:Str)(size:Int)(pal:List Int)(times:Int):List Str:=pal.map fun p=>bQ letters ((p*times).fmod size)
noncomputable def ki(letters:Str)(many:List Str):List Nat:=letters.cps.toList.map fun c=>many.count (⟨#[c]⟩:Str)
noncomputable def og(size N T base nc:Int):List Int:=[2,3,5].flatMap fun p=>([N,T].filter fun k=>size.fmod p==0&&(k*base^(size.fdiv p).toNat).fmod nc==k).map fun z=>p
structure yZ(letters:Str)(size:Int)(pal:List Int)(rest:Option (List Int))(f:Fg):Prop where
 f0:eP size pal.length≠[]
 light: ∀p∈pal,j3 size (p*dW size pal f) (f.share+1) (f.value+1) f.turns=true
 tb:0<=dW size pal f/\dW size pal f<12
 sm:bb (br f) (ki letters (gK letters size pal (dW size pal f)))<2^150
 one:(((bb (br f) (ki letters (gK letters size pal (dW size pal f)))*dF size (aK size f rest) f:Nat):Int).fmod (fz size f)==(fz size f).fdiv ((bl f:Int) -1))=true
 still:og size (b9 size pal f) (dF size (aK size f rest) f) (bl f) (fz size f)≠[]
section
variable {AG:ZN->Heap->Prop}
set_option tactic.hygienic true in
theorem Pg{α:Type}(ls:List α)(toV:α->V)(c:α->Bool)(g:α->V){elt iter t:Expr}{x z:Str}{kd:aam}{p zp:Pos}{scope:ZZ}{pos i0:Pos}{i jj:Nat}{bo:aw}
 (C:jH sc scope/\aL scope) (hx:scope.names[i]?=some (x,kd)) (hk:kd= .local\/kd= .cell) (hi:(bo.map (·.1)).contains i=false)
 (eo:kl sc scope ρ bo)
 (hit:cI w H l n sc ρ (.Name x p) iter (ls.map toV)) (ht:aL scope-> ∀a∈ls,aM w H l n scope ((i,toV a)::bo) t (c a)) (h:aL scope-> ∀a∈ls,c a=true->ah w H l n scope ((i,toV a)::bo) elt (g a)) (hsz:ls.length<=Z7)
 (hz:sc.names[jj]?=some (z, .local))
 (hw:abY (.ListComp elt [⟨.Name x p,iter,[t],0⟩] scope pos) (some (.Name z zp)) i0.line (da sc)=pure true) (hs:autoParam (∀env x,aaN iter env x=pure x) au):
 bV w X H l n sc ρ ow (.Assign [.Name z zp] (.ListComp elt [⟨.Name x p,iter,[t],0⟩] scope pos) i0) (.next (dD ρ jj (.list ((ls.filter c).map g))) ow):=by
 rw[<-rj];refine wI C.1 (fun g h=>nomatch h) eo hit (fun a ha=>⟨_,c a,qB hx hk hi,fun q hq=>ZP _ hq,?_,fun hc=> ?_,fun hc=>by simp[hc]⟩) ?_ hz hw hs
 ·have:=iF.cons (ht C.2 a ha) fun y=>iF.nil
  rwa [acn] at this
 ·rw[if_pos hc];exact mu rfl (h C.2 a ha hc)
 ·rw[rj]
  have:=aaE c ls;simp only[ZQ];exact ZW ‹_› ‹_›
theorem Wz(B:ai w tk H){size:Int}{letters:Str}{pal:List Int}{f:Fg}{rest:Option (List Int)}(h8:8<=size)(h12:size<=12)(F:f.Ok)(L:qL letters size)(iP:pal.length<=12)(dY: ∀p∈pal,0<=p/\p<size)(N:vA size pal (aK size f rest) f)(D:yZ letters size pal rest f):
 aD w [] H (l+14) 40 c8 (yU size letters pal f rest) [] (dI 29 6) (.ret (.bool true) []):=by
 have nd:aL c8:=j6
 conv at nd=>arg 1;whnf
 conv=>arg 6;whnf
 conv=>arg 9;whnf
 obtain⟨K3,yO⟩:=K1 F;have fx: ∀k:Int,k<size->(aS 2 (k+1)).length<=12:=fun k hk=>by rw[fb];exact Int.toNat_le.mpr (by exact "]a12>ba]-+b1_2'12" h12 hk)
 have t7:(eP size pal.length).length<=12:=ZW (aaE _ _) (by rw[fb];exact "]a12#'A-a1[A12" h12 (ZV ("]8a]0-a1" h8)));refine aH (Pg (jj:=43) (aS 1 size) V.int (fun k=>decide (qU pal.length k=[])) V.int (b6 (by kernel_rfl)) (i:=1) rfl (.inr rfl) rfl (bJ 3 9 rfl rfl rfl b5) (xS (i:=48) B (g9 B) rfl bP aj (aa 4 nd rfl) (by decide) (by decide) (by exact "]8a]~^62a" h8) (by exact "]a12>a^62" h12))
  (fun nd k hk=>aF (g0 (aS 2 (k+1)) V.int (fun d=>k.fmod d==0&&(pal.length:Int).fmod d==0) V.int (b6 (by kernel_rfl)) (i:=1) rfl (.inl rfl) rfl (bJ 3 1 rfl rfl rfl (bJ 4 3 rfl rfl rfl b5)) (xS (i:=2) B (g9 B) rfl bP aj (ag (aa 1 nd rfl) aj ck) (by decide) (by decide) (by have:=fc.mp hk;exact "]1a]~^62+a1" this.1) (by have:=fc.mp hk;exact "]a12>ba>+b1^62" h12 this.2))
   (fun nd d hd=>aM.cast (ot (aF (ag (aa 3 nd rfl) (aa 1 nd rfl) (cH (by have:=fc.mp hd;exact "]2a!#a0" this.1))) aj cJ) fun z=>ot (aF (ag (aR 2 B (g8 B) (.bi _) rfl (ae (aa 4 nd rfl) ao) (aU.cast (i9 (by rw[ZQ];exact "[A12<A^62" iP)) (show _=V.int pal.length by rw[ZQ]))) (aa 1 nd rfl) (cH (by have:=fc.mp hd;exact "]2a!#a0" this.1))) aj cJ) fun z=>yL) (by rw[acn])) (fun nd d hd z=>aa 1 nd rfl) (by have:=fx k (fc.mp hk).2;show _<=2^24;exact "[A12[A^24" this))
   (dA ao (by decide)) (gW (a:=qU pal.length k) (b:=[]) iG (by decide) bR bR)) (fun nd k hk z=>aa 1 nd rfl) (by rw[fb];show _<=2^24;exact "]a12#'A-a1[A^24" h12 (ZV ("]8a]0-a1" h8))) rfl rfl) ?_
 change aD _ _ _ _ _ _ ((43,aO (eP size pal.length))::yU size letters pal f rest) _ _ _;have Ic:((eP size pal.length).length:Int)≠0:=by have:=acu.mpr D.f0;exact "<0A!#'A0" this
 have t6:=cj (a:=f.factor) (b:=(eP size pal.length).length) (by exact(aeT Ic).elim (fun x2=> ">'A0:0>0'A" x2) (fun x2=>x2))
 refine aH (aQ (v:= .int (dW size pal f)) 44 (kz (i:=f.factor.fmod (eP size pal.length).length) (aa 43 nd rfl) (ag (aa 16 nd rfl) (aR 58 B (g8 B) (.bi _) rfl (ae (aa 43 nd rfl) ao) (aU.cast (i9 (by rw[ZQ];exact "[A12<A^62" t7)) (show _=V.int (eP size pal.length).length by rw[ZQ]))) (cH Ic)) t6.1 (by exact "[A12>a'A>a^63" t7 t6.2) ?ea) rfl) ?_
 case ea=>
  rw[aal];unfold dW;rw[aaG];have:(f.factor.fmod (eP size pal.length).length).toNat<(eP size pal.length).length:=by simp[*]
  rw[aaT this];rfl
 have eA:=F.share;have gI:=F.value;have nU:=F.turns;have jo:=D.tb;have Sp: ∀p∈pal,-(2^20)<=p*dW size pal f/\p*dW size pal f<=2^20:=fun p hp=>by
  obtain⟨p0,p1⟩:=dY p hp;have h1:0<=p*dW size pal f:=aeW p0 jo.1;have h2:p*dW size pal f<=12*12:=Int.mul_le_mul (by exact ac7 (acg ‹_› ‹_›)) (by exact ">a12]a12" jo.2) jo.1 (by exact Z0 _);exact⟨"]0a]~^20a" h1,"]a144]a^20" h2⟩
 refine aH (aQ (v:= .list ((gK letters size pal (dW size pal f)).map V.str)) 45 (ah.cast (jc pal V.int (fun p=> .str (bQ letters ((p*dW size pal f).fmod size))) (b6 (by kernel_rfl)) (i:=1) rfl (.inl rfl) rfl (bJ 3 5 rfl rfl rfl (bJ 4 11 rfl rfl rfl (bJ 5 44 rfl rfl rfl (bJ 6 13 rfl rfl rfl (bJ 7 12 rfl rfl rfl b5))))) (cE (.inl bP) (aa 9 nd rfl))
  (fun nd p hp=>aR 2 B (Hs B) (Fc B) rfl (ae (ag (aa 1 nd rfl) (aa 5 nd rfl) (d5 (iW (by have:=dY p hp;exact "]0a]~^63a" this.1) (by have:=dY p hp;exact "]a12>ba>b^63" h12 this.2)))) (ae (aa 3 nd rfl) (ae (ag (aa 4 nd rfl) aj ck) (ae (ag (aa 7 nd rfl) aj ck) (ae (aa 6 nd rfl) ao)))))
   (EY (l:=l+10) B h8 h12 L.len (Sp p hp) (by exact⟨"]0a]1+a1" eA.1,">a4]+a1_4" eA.2⟩) (by exact⟨"]0a]1+a1" gI.1,">a7]+a1_7" gI.2⟩) (by exact⟨nU.1,">a4]a3" nU.2⟩) (D.light p hp) (zU L.len (cj (by exact "]8a>0a" h8)).1 (cj (by exact "]8a>0a" h8)).2))) (by show _<=2^24;exact "[A12[A^24" iP)) (by unfold gK;rw[aaf];rfl)) rfl (hs:=rfl)) ?_
 have rG:letters.cps.toList.length<=12:=by rw[abr];have:=L.len;show letters.length<=12;exact "]a12#'Aa[A12" h12 this
 have nR:(gK letters size pal (dW size pal f)).length<=12:=by unfold gK;rw[ZQ];exact iP
 have Ro: ∀c∈letters.cps.toList,aa6 (⟨#[c]⟩:Str)=true:=fun c hc=>by
  obtain⟨k,hk⟩:=List.mem_iff_getElem?.mp hc;have h1:k<letters.cps.toList.length:=(aa2.mp hk).1;have h2:letters.cps.toList.length=letters.length:=by rw[abr];rfl
  have h3:=L.len;have h4:=(L.ch (k:Int) (by exact Z0 _) (by exact "<AB=BC#'Ca>'Aa" h1 h2 h3)).1;have h5:bQ letters (k:Int)=⟨#[c]⟩:=by
   unfold bQ;rw[aaD];rw[ac0] at hk;rw[Array.getD_eq_getD_getElem?,hk];rfl
  rw[<-h5];exact h4
 have mM: ∀x∈gK letters size pal (dW size pal f),aa6 x=true:=fun x hx=>by
  unfold gK at hx;obtain⟨p,hp,rfl⟩:=Z1.mp hx;have:=cj (a:=p*dW size pal f) (b:=size) (by exact "]8a>0a" h8);exact(L.ch _ this.1 this.2).1
 refine aH (aQ (v:= .int (bb (br f) (ki letters (gK letters size pal (dW size pal f))):Nat)) 46 (aR 53 B (wX B) (wa B) rfl (ae (ah.cast (jc letters.cps.toList (fun c=> .str ⟨#[c]⟩) (fun c=> .int ((gK letters size pal (dW size pal f)).count (⟨#[c]⟩:Str))) (b6 (by kernel_rfl)) (i:=1) rfl (.inl rfl) rfl (bJ 2 45 rfl rfl rfl b5)
  (CL bP (aa 5 nd rfl))
  (fun nd c hc=>kA (uJ bu.str (by decide) (Ro c hc) mM) (aa 2 nd rfl) (ae (aa 1 nd rfl) ao)) (by show _<=2^24;exact "[A12[A^24" rG)) (show _=V.list (bF (ki letters (gK letters size pal (dW size pal f)))) by unfold ki bF;rw[aaf];rfl)) (ae (aa 18 nd rfl) ao)) (v5 (l:=l+8) (c:=20) (K:=4) B (by decide) yO ?eb ?ec ?ed)) rfl) ?_
 case eb=>unfold ki;rw[ZQ];exact "[A12<A^12" rG
 case ec=>unfold ki;rw[ZQ];exact "[A12[A^4" rG
 case ed=>
  intro d hd;unfold ki at hd;obtain⟨c,_,rfl⟩:=Z1.mp hd;exact ZY aci (by exact "[A12<A^20" nR)
 have pz:bl f<=2^10:=by
  have:=F.more;unfold bl;exact aat (by decide) (by exact ">a6#'Aa[+A5_10" this.2 (ZV (this.1)))
 have uf: ∀k:Nat,k<2^150->((k:Int)).natAbs<2^400:=fun k hk=>by
  rw[aaK];exact abh hk (by decide+kernel)
 have jV:(fz size f)≠0:=by
  rw[oz];intro e;have h0:gQ size f=0:=by exact adD ‹_›
  have:=N.w4;rw[h0] at this;revert this;decide
 have jW:(gQ size f).log2<1999:=abh (j4 N.w (by decide)) (by decide);have xJ: ∀p∈([2,3,5]:List Int),p≠0/\0<=size.fdiv p/\size.fdiv p<=6:=fun p hp=>by
  simp only[ZU,aaz,or_false] at hp;rcases hp with rfl|rfl|rfl<;>(rw[acp _ (by decide)];exact⟨by decide,Int.ediv_nonneg (adx (by decide) h8) (by decide),adx (Int.ediv_le_ediv (by decide) h12) (by decide)⟩)
 have HQ:aad (bl f:Int)<=64:=by
  unfold aad;split
  ·exact aav _
  ·have:=j4 (k:=62) (n:=((bl f:Int)).natAbs) (by rw[aaK];exact ZY pz (by decide)) (by decide);exact aaa ‹_› (abf _ _)
 have pR: ∀p∈([2,3,5]:List Int),((aad (bl f:Int):Nat):Int)*size.fdiv p<=2^27/\((bl f:Int)^(size.fdiv p).toNat).natAbs<2^61:=fun p hp=>by
  obtain⟨q1,q2,q3⟩:=xJ p hp;refine⟨?_,?_⟩
  ·have h9:((aad (bl f:Int):Nat):Int)*size.fdiv p<=64*size.fdiv p:=ad6 (by exact aei.mpr ‹_›) q2
   exact ":64]a6]b*64a]b^27" q3 h9
  ·rw[Int.natAbs_pow,aaK]
   refine ZY (Nat.pow_le_pow_left pz _) ?_;rw[<-Nat.pow_mul];exact aeu (by decide) (by exact ":10]a6:10#'Aa<*10A61" q3 (ZV (q2)))
 have R8: ∀k∈([(b9 size pal f:Int),(dF size (aK size f rest) f:Int)]:List Int),k.natAbs<2^150:=fun k hk=>by
  simp only[ZU,aaz,or_false] at hk;rcases hk with rfl|rfl
  ·rw[aaK];exact N.n
  ·rw[aaK];exact N.t
 have I5:(([2,3,5]:List Int).flatMap fun p=>(([(b9 size pal f:Int),(dF size (aK size f rest) f:Int)]:List Int).filter fun k=>size.fmod p==0&&(k*(bl f:Int)^(size.fdiv p).toNat).fmod (fz size f)==k).map fun z=>V.int p)=(og size (b9 size pal f) (dF size (aK size f rest) f) (bl f) (fz size f)).map V.int:=by
  unfold og;rw[aes];simp only[aaf,aaF]
 have S7:(og size (b9 size pal f) (dF size (aK size f rest) f) (bl f) (fz size f)).length<=6:=by
  unfold og;refine ZW (wN (k:=2) fun p z=> ?_) (by decide);rw[ZQ];exact ZW (aaE _ _) (show 2<=2 by decide)
 refine aH (wK (j:=47) [2,3,5] V.int (fun p=>(([(b9 size pal f:Int),(dF size (aK size f rest) f:Int)]:List Int).filter fun k=>size.fmod p==0&&(k*(bl f:Int)^(size.fdiv p).toNat).fmod (fz size f)==k).map fun z=>V.int p) (b6 (by kernel_rfl)) (fun g hg=>by cases hg;rfl) (i:=1) rfl (.inl rfl) rfl (bJ 4 19 rfl rfl rfl (bJ 5 20 rfl rfl rfl (bJ 6 4 rfl rfl rfl (bJ 7 41 rfl rfl rfl (bJ 8 35 rfl rfl rfl b5)))))
  (ux bP (bU (ae aj (ae aj (ae aj ao))) (show 3<=Z7 by decide))) (fun nd p hp=>FP [(b9 size pal f:Int),(dF size (aK size f rest) f:Int)] V.int _ (fun z=>V.int p) rfl rfl (i:=2) rfl (.inl rfl) rfl (ux bP (bU (ae (aa 5 nd rfl) (ae (aa 7 nd rfl) ao)) (show 2<=Z7 by decide)))
   (fun k hk=> ?ee) (fun k hk z=>aa 1 nd rfl)) (by rw[I5,ZQ];show _<=2^24;exact "[A6[A^24" S7) rfl rfl) ?eg
 case ee=>
  obtain⟨q1,q2,q3⟩:=xJ p hp;obtain⟨q4,q5⟩:=pR p hp;have q6:=R8 k hk;have pE:i7 400 (k*(bl f:Int)^(size.fdiv p).toNat).natAbs (fz size f).natAbs:=by
   rw[Int.natAbs_mul,oz,aaK];exact Ac (abh (aet q6 q5) (by decide+kernel)) N.w4 jW
  refine aM.cast (ot (aF (ag (aa 6 nd rfl) (aa 1 nd rfl) (cH q1)) aj cJ) fun z=>ot (aF (cZ (i:=1) (j:=1) (x:=[.int _, .int _]) (aR 3 B (lL B) (lD B) rfl (ae (ag (aa 2 nd rfl) (ag (aa 4 nd rfl) (ag (aa 6 nd rfl) (aa 1 nd rfl) (n7 q1 (acE ?eh))) (j9 q2 q4)) (d5 (qj (abh q6 (by decide+kernel)) (abh q5 (by decide+kernel))))) (ae (aa 8 nd rfl) ao)) (oX (l:=l+1) B jV pE)) aj (by decide) (by decide) rfl rfl) (aa 2 nd rfl) cJ) fun z=>yL) (by rw[acn])
  case eh=>
   simp only[ZU,aaz,or_false] at hp;rcases hp with rfl|rfl|rfl<;>decide+kernel
 case eg=>
  rw[I5];have pE:i7 400 (((bb (br f) (ki letters (gK letters size pal (dW size pal f))):Nat):Int)*(dF size (aK size f rest) f:Int)).natAbs (fz size f).natAbs:=by
   rw[yf,oz,aaK,aaK];exact Ac (abh (aet D.sm N.t) (by decide+kernel)) N.w4 jW
  have iM:(bl f:Int) -1≠0:=by
   have:32<=bl f:=by
    unfold bl;exact ZW (by decide:32<=2^5) (aat (by decide) (by exact abf _ _))
   exact "[32A!#-'A1_0" this
  have fE:((bl f:Int) -1).natAbs.log2<9000:=abh (j4 (k:=62) (by exact(Int.le_total (0) (↑(bl f) -1)).elim (fun x1=> "[A^10#'B-'A1<B^62" pz (aas (x1))) (fun x1=> "#'A~-'B1<A^62" (aaS (x1)))) (by decide)) (by decide);have h1:=D.one;have h2:(!decide (og size (b9 size pal f) (dF size (aK size f rest) f) (bl f) (fz size f)=[]))=true:=by simp[D.still]
  refine bZ (ah.cast (F2 (o9 (cZ (i:=1) (j:=1) (x:=[.int _, .int _]) (aR 56 B (lL B) (lD B) rfl (ae (ag (aa 46 nd rfl) (aa 41 nd rfl) (d5 (qj (uf _ D.sm) (uf _ N.t)))) (ae (aa 35 nd rfl) ao)) (oX (l:=l+1) B jV pE)) aj (by decide) (by decide) rfl rfl) (ag (aa 35 nd rfl) (ag (aa 19 nd rfl) aj d6) (n7 iM (acE fE))) cJ)
   (fun z=>o9 (aa 47 nd rfl) (dA ao (by decide)) (nB (a:=og size (b9 size pal f) (dF size (aK size f rest) f) (bl f) (fz size f)) (b:=[]) iG (by decide) bR bR))) ?ei)
  case ei=>rw[yf,h1,h2];rfl
end
structure zb(c0 c1 c2:Int)(letters:Str)(size:Int)(pal:List Int)(d0 c:Nat)(sg:List (Nat×Str))(f:Fg):Prop where
 sz:size=m4 c0
 lt:letters=bA size
 h8:8<=size
 h12:size<=12
 L:qL letters size
 pa:pal=qt (c0.fdiv 6) size
 dz:pal[0]?=some (d0:Int)
 pm: ∀p∈pal,0<=p/\p<size
 pl:pal.length<=12
 hc:letters.cps[d0]?=some c
 R:vG letters (qS c) (vt pal letters c1) sg
 pt:u4 size (lk letters sg)=pal
 fg:jg c2 xV=f.ls
 F:f.Ok
 vo:sG (bl f) [] (ft size)=true
 vs: ∀t∈(cR size f).drop 1,(0<t.2.1/\t.2.1<2^120)/\t.2.2=0
 vd: ∀t∈(cR size f).drop 1,1<=t.1/\t.1<=12
 vl:(cR size f).length<=64
 nN:b9 size pal f<2^120
 tl:oj (ju size pal f) pal=(cW size pal).isSome
 tq: ∀r,cW size pal=some r->size.fdiv (1+r.length)=pal.length/\size.fmod (1+r.length)=0
 rl: ∀r,cW size pal=some r->r.length<=12
 rm: ∀t∈aK size f (cW size pal),0<=t/\t<size
 light: ∀t∈aK size f (cW size pal),∀p∈pal,j3 size (p+t) (f.share+1) (f.value+1) f.turns=true
 found:tG letters (eX letters size pal (aK size f (cW size pal)))=cQ size pal (aK size f (cW size pal))
 N:vA size pal (aK size f (cW size pal)) f
 oft:(fW size pal (aK size f (cW size pal)) f).map (fun d:Nat=>(d:Int))++aaB (size -(fW size pal (aK size f (cW size pal)) f).length).toNat 0=(cQ size pal (aK size f (cW size pal))).map fun x=>(x.length:Int)
 last:cm ((fW size pal (aK size f (cW size pal)) f).map fun d:Nat=>(d:Int)) (some (-1)) none none≠[0]
 E:(cW size pal).isSome=true->yZ letters size pal (cW size pal) f
theorem MQ:aT (ay 37)=dI 0 6++(dI 6 3++((dI 9 3++(dI 12 1++dI 13 4))++(dI 17 1++(dI 18 2++(dI 20 1++(dI 21 1++(dI 22 3++(dI 25 4++dI 29 6)))))))):=by with_unfolding_all rfl
set_option tactic.hygienic true in
theorem vV: ∀{ss tt:List Stmt},aD w X H l n sc ρ ow ss (.next ρ' ow')->aD w X H l n sc ρ' ow' tt o->aD w X H l n sc ρ ow (ss++tt) o:=fun{ss tt} h k=> .mk fun env A G₀ s₀ G s Q E q r I kk=>vP _ (h.go env A G₀ s₀ G s _ E q r I fun f G' s' ok=>by
 obtain⟨rfl,I'⟩:=ok;exact⟨rfl,k.go env A G₀ s₀ G' s' Q E q r I' kk⟩)
theorem TZ{vals:List T3}{N b:Int}{p:Int×Int}(h:p∈jZ vals N b): ∃t∈vals,p.1=t.1:=by
 unfold jZ at h;obtain⟨t,ht,rfl⟩:=Z1.mp h;exact⟨t,(aaQ.mp ht).1,rfl⟩
theorem Uz(B:ai w tk H)(B3:l3 w H){ff:List Int}{c0 c1 c2 size:Int}{letters:Str}{pal:List Int}{d0 c:Nat}{sg:List (Nat×Str)}{f:Fg}(il:ff.length<=63)(b7:qR ff=[c0,c1,c2])(K:zb c0 c1 c2 letters size pal d0 c sg f):
 eI w [] H (l+14) 40 c8 [(0,aO ff)] [] (aT (ay 37)) (.ret (.bool true) []):=by
 rw[MQ];have pT: ∀x∈lk letters sg,∀y,x=some y->aa6 y=true:=fun x hx y hy=>by
  unfold lk at hx;obtain⟨q,hq,rfl⟩:=Z1.mp hx;exact K.R.so q hq y hy
 have dY: ∀p∈pal,0<=p/\p<letters.length:=fun p hp=>by have:=K.pm p hp;have:=K.L.len;simp[*]
 have gH:(aK size f (cW size pal)).length<=13:=by
  cases e:cW size pal with
  |none=>show 2<=13;decide
  |some r=>have:=K.rl r e;show r.length+1<=13;exact Nat.lt_succ_of_le ‹_›
 have Rj:16<=bl f:=by
  unfold bl;exact ZW (by decide:16<=2^5) (aat (by decide) (by exact abf _ _))
 have uc:(ju size pal f).length<=64:=by
  unfold ju jZ;rw[ZQ];exact ZW (aaE _ _) (by have:=K.vl;rw[abk];exact ZW (ad5 _ _) ‹_›)
 have dk: ∀p∈ju size pal f,1<=p.1/\p.1<=12:=fun p hp=>by
  obtain⟨t,ht,e⟩:=TZ hp;rw[e];exact K.vd t ht
 refine vW (p1 B B3 il b7 K.sz K.lt K.h8 K.h12 K.L.len K.pa K.dz dY K.pl K.hc K.R) ?_;refine vW (oR (p2 B K.h8 K.h12 pT K.fg)) ?_;rw[K.pt];refine vW (oR (p3 B K.h8 K.h12 K.F K.vo fun a=>vV (p4 B K.F K.nN Rj K.vs K.vl) (p5 B K.h8 K.h12 uc dk K.pl))) ?_;refine vW (p6 B K.h8 K.h12 K.rl) ?_;refine oR (vV (p7 B K.h8 K.h12 K.pl K.rl K.tl K.tq) ?_);refine p8 B K.h8 K.h12 K.F fun a=> ?_
 refine vV (p9 B K.h8 K.h12 K.F K.L K.pl K.pm gH K.rm K.light) ?_;refine vV (Wx B K.h8 K.h12 K.F K.L K.pl K.pm gH K.rm K.found) ?_;exact Wy B K.h8 K.h12 K.F gH K.N K.oft K.last fun h=>Wz B K.h8 K.h12 K.F K.L K.pl K.pm K.N (K.E h)
theorem UA(B:ai w tk H)(B3:l3 w H){ff:List Int}{c0 c1 c2 size:Int}{letters:Str}{pal:List Int}{d0 c:Nat}{sg:List (Nat×Str)}{f:Fg}(il:ff.length<=63)(b7:qR ff=[c0,c1,c2])(K:zb c0 c1 c2 letters size pal d0 c sg f):
 sR w H (l+15) n (.ref 369) [aO ff] (.bool true):=EU B (P0 B) L4 rfl (Uz B B3 il b7 K)
noncomputable def yY(P:abm)(tk:Nat)(c b:Addr):Prop:= ∃d vs sl,(KK P tk).lookup c=some ⟨.type "code",d, .fields vs,sl⟩/\vs[11]?=some (.ref b)
theorem Uv(P:abm)(tk:Nat):yY P tk 58 54:=⟨_,_,_,rfl,rfl⟩
theorem Uw(P:abm)(tk:Nat):yY P tk 65 61:=⟨_,_,_,rfl,rfl⟩
theorem Fo{P:abm}{tk:Nat}{h:Heap}{c b:Addr}(K:(KK P tk).In h)(h1:yY P tk c b):isCodeTable h b:=let⟨_,vs,_,e,h1⟩:=h1;⟨c,_,vs,K c _ e,rfl,rfl,h1⟩
theorem y7{P:abm}{tk:Nat}{h:Heap}(K:(KL P tk).In h):(KK P tk).In h:=fun a o e=>K a o (by
 unfold KL;rw[List.lookup_append,e];rfl)
theorem Eg(P:abm)(tk:Nat):((KK P tk).map (·.1)).contains 54=false/\((KK P tk).map (·.1)).contains 61=false:=⟨by kernel_rfl,by kernel_rfl⟩
theorem Jw{l:Frag}{a:Addr}(h:(l.map (·.1)).contains a=false):l.lookup a=none:=by
 induction l with
 |nil=>rfl
 |cons p r ih=>
  obtain⟨k,v⟩:=p;rw[aah,List.contains_cons,Bool.or_eq_false_iff] at h;rw[acC,h.1];exact ih h.2
theorem Eh{P:abm}{tk:Nat}{h:Heap}(K:(KL P tk).In h): ∀p∈aq,h.get? p=some {cls:= .none,dict:=none,data:= .fields #[],slots:= #[]}:=fun p hp=>by
 have AZ:=K 54 ⟨.none,none, .fields #[],#[]⟩ (by unfold KL;rw[List.lookup_append,Jw (Eg P tk).1];rfl);have Bc:=K 61 ⟨.none,none, .fields #[],#[]⟩ (by unfold KL;rw[List.lookup_append,Jw (Eg P tk).2];rfl);rcases ZU.mp hp with rfl|hp
 ·exact AZ
 ·rw[Z4.mp hp];exact Bc
theorem UD(R:WRecords)(cl:Str->Option Addr)(P:abm)(ord:List abG->List abG): ∀(xs:List Int) (s:ZL),∃vs t,layAllW R cl P ord (xs.map aek) s=some (vs,{s with toks:=t})/\ ∀G,aP G (xs.map V.int) vs:=by
 intro rr
 induction rr with
 |nil=>
  exact fun s=>⟨[],s.toks,rfl,fun G=> .nil⟩
 |cons x xs ih=>
  exact fun s=>by
   obtain⟨vs,t,h1,h2⟩:=ih {s with toks:=s.toks+1};refine⟨.int x s.toks::vs,t,?_,fun G=> .cons (.int _ _) (h2 G)⟩;rw[aah];unfold layAllW;rw[show layW R cl P ord (.int x) s=some (.int x s.toks,{s with toks:=s.toks+1}) by unfold layW;rfl];dsimp only;rw[h1]
theorem Xi{R:WRecords}{cl:Str->Option Addr}{h:Heap}{G:GM}{xs:List Int}: ∀{vs:List ZN},aP G (xs.map V.int) vs->ReadsAllW R cl h vs (xs.map aek) []:=by
 induction xs with
 |nil=>intro vs r;rw[r.inv0];exact .nil
 |cons x xs ih=>
  intro vs r;obtain⟨c,vs,rfl,r,rs⟩:=r.inv;obtain⟨t,rfl⟩:=aZ r;exact ReadsAllW.cons (ReadsW.int (R:=R) (cl:=cl) (h:=h) x t) (ih rs)
noncomputable def vE(xs:List Int):Prop:= ∃c0 c1 c2 letters size pal d0 c sg f,qR xs=[c0,c1,c2]/\zb c0 c1 c2 letters size pal d0 c sg f
theorem qv{h:Heap}{o:Obj}: ∀b x,h.get? b=some x->(h.push o).get? b=some x:=fun b x e=>Z9 _ e
theorem QC{h:Heap}{a:Addr}(hn:h.isNs a=true): ∃o,h.get? a=some o:=by
 unfold Heap.isNs at hn;cases e:h.get? a with
 |none=>rw[e] at hn;cases hn
 |some o=>exact⟨o,rfl⟩
theorem C6{h:Heap}{a:Addr}{x:Obj}(hn:h.isNs a=true):(h.push x).isNs a=true/\(h.push x).nsMap a=h.nsMap a:=by
 obtain⟨o,ho⟩:=QC hn;refine⟨?_,?_⟩
 ·unfold Heap.isNs at hn⊢
  rw[ho] at hn;rw[qv _ _ ho];exact hn
 ·funext y
  unfold Heap.nsMap;rw[ho,qv _ _ ho]
theorem Jh{h:Heap}{a:Addr}{m}(x:h.Ns a m):h.isNs a=true:=by
 obtain⟨o,es,n,h1,h2,h3,h4⟩:=x;unfold Heap.isNs;rw[h1];dsimp only;rw[h2];dsimp only;rw[<-Array.all_toList,Z3];intro e he;obtain⟨x,t,q⟩:=h3 e (by simpa using he);rw[q]
structure Lf(s₁ s':ZL)(v:ZN):Prop where
 v: ∃b,v= .bool b/\b=true
 old: ∀b o,s₁.heap.get? b=some o->asItWas s₁.heap s'.heap b o
 keep: ∀b o,s₁.heap.get? b=some o->b∉aq->s'.heap.get? b=some o
 gens:s'.gens=s₁.gens
 os:s'.os=s₁.os
theorem NF{s:ZL}(F:sT w s){xs:List Int}(hx:xs.length<=63)(P:vE xs){vs:List ZN}{t:Nat}(hr: ∀G,aP G (xs.map V.int) vs):
 Z6 (Z8 PW w) callerA (call (.ref 369) [.ref s.heap.objs.size]) (fun v s'=>Lf {s with heap:=s.heap.push (aI vs 0),toks:=t} s' v) (fun z z=>False) {s with heap:=s.heap.push (aI vs 0),toks:=t}:=by
 refine gz fun zq zk=> ?_
 obtain⟨c0,c1,c2,letters,size,pal,d0,c,sg,f,b7,K⟩:=P;obtain⟨tk,frag⟩:=F.frag;refine zk ?_;have hL:s.heap.get? s.heap.objs.size=none:=ct (aab _);have KD:=Eh frag;have Bl:s.heap.objs.size∉aq:=fun hm=>by rw[KD _ hm] at hL;cases hL
 have KG: ∀p∈aq,(s.heap.push (aI vs 0)).get? p=some {cls:= .none,dict:=none,data:= .fields #[],slots:= #[]}:=fun p hp=>qv _ _ (KD p hp)
 have Bh:(KK w.params tk).In (s.heap.push (aI vs 0)):=fun a o e=>qv _ _ (y7 frag a o e)
 have B:ai w tk (s.heap.push (aI vs 0)):=⟨(C6 F.ns).1,(C6 (Jh F.blt)).1,fun x Ts=>by rw[(C6 (Jh F.blt)).2];exact F.blts x Ts,F.nolimit.keeps qv,Bh,fun p hp=>⟨#[],KG p hp, .inl rfl⟩⟩;have B3:l3 w (s.heap.push (aI vs 0)):=by
  obtain⟨kvs,h1,h2⟩:=F.b3;obtain⟨o,es,ep,ho,r⟩:=h2;exact⟨kvs,h1,o,es,ep,qv _ _ ho,r⟩
 have lN:(s.heap.push (aI vs 0)).get? s.heap.objs.size=some (aI vs 0):=aai _ rfl
 let G:GM:=fun a=>if a∈aq then none else(s.heap.push (aI vs 0)).get? a
 have gG: ∀a o,G a=some o->a∉aq/\(s.heap.push (aI vs 0)).get? a=some o:=fun a o e=>by
  by_cases hm:a∈aq
  ·rw[show G a=none from if_pos hm] at e;cases e
  ·exact⟨hm,(show G a=_ from if_neg hm).symm.trans e⟩
 have gN: ∀a o,a∉aq->(s.heap.push (aI vs 0)).get? a=some o->G a=some o:=fun a o hm e=>(show G a=_ from if_neg hm).trans e
 have bs:Bs (s.heap.push (aI vs 0)) G {s with heap:=s.heap.push (aI vs 0),toks:=t}:=⟨fun b o e z=>e,B.tab,fun p hp=>if_pos hp,fun a us k e=>gN a _ (ir B.tab e) e⟩
 refine(UA (l:=0) (n:=100) B B3 hx b7 K) callerA {s with heap:=s.heap.push (aI vs 0),toks:=t} G [.ref s.heap.objs.size] [] [] rfl (fun e he=>nomatch he) (fun p hp=>nomatch hp) (fun d hd=>nomatch hd) ⟨rfl,by decide,by decide⟩ bs (fun a o e=>(gG a o e).2) (.cons (.list (gN _ _ Bl lN) (hr G)) .nil) _ _ fun cv s' G' x Zg r'=> ?_
 have cO: ∀b o,(s.heap.push (aI vs 0)).get? b=some o->b∉aq->s'.heap.get? b=some o:=fun b o e hb=>x.keep b o e hb
 refine⟨by obtain rfl:=Dt r';exact⟨_,rfl,rfl⟩,fun b o e=> ?_,cO,x.gens,x.os⟩
 by_cases hb:b∈aq
 ·rw[show(s.heap.push (aI vs 0)).get? b=_ from KG b hb] at e
  cases e;obtain⟨us,h1,_⟩:=x.tab B.tab b hb;refine .inr (.inl ⟨?_,rfl,#[],us,rfl,by rw[h1];simp⟩);rcases ZU.mp hb with rfl|hb
  ·exact Fo Bh (Uv _ _)
  ·rw[Z4.mp hb];exact Fo Bh (Uw _ _)
 ·exact .inl (cO b o e hb)
noncomputable abbrev lb:=ae3
theorem T4{R:WRecords}: ∀{ds:List WData},WShape.hasItems R ds .int=true-> ∃xs:List Int,ds=xs.map aek:=by
 intro rr
 induction rr with
 |nil=>
  exact fun z=>⟨[],rfl⟩
 |cons d ds ih=>
  exact fun h=>by
   have h':(WShape.has R d .int&&WShape.hasItems R ds .int)=true:=h;obtain⟨h1,h2⟩:=ZT.mp h';obtain⟨xs,rfl⟩:=ih h2;cases d with
   |int x=>exact⟨x::xs,rfl⟩
   |_=>exact dh h1
theorem UC{args:List WData}(h:lb.row.toRowW.claim.pre args=true): ∃xs:List Int,args=[.list (xs.map aek)]/\xs.length<=63:=by
 have h':(WShape.hasAll [] args [.list .int]&&lb.pre.holds [] {args:=args})=true:=h;obtain⟨h1,h2⟩:=ZT.mp h';cases args with
 |nil=>cases h1
 |cons a r=>
  have h3:(WShape.has [] a (.list .int)&&WShape.hasAll [] r [])=true:=h1;obtain⟨h4,h5⟩:=ZT.mp h3;have hr:r=[]:=by
   cases r with
   |nil=>rfl
   |cons _ _=>cases h5
  subst hr;cases a with
  |list ds=>
   have h6:WShape.hasItems [] ds .int=true:=(Bool.or_false _).symm.trans h4;obtain⟨xs,rfl⟩:=T4 h6;refine⟨xs,rfl,?_⟩;have h7:WTm.holds [] (.and (.not (.lt (.lit (.int 63)) (.len (.arg 0)))) (.lit (.bool true))) {args:=[.list (xs.map aek)]}=true:=h2
   delta WTm.holds at h7
   rw[w_and (w_not (w_lt w_lit (w_len_list (w_arg rfl)))) w_lit] at h7;generalize h8:(!decide ((63:Int)<((xs.map aek).length:Int))&&true)=b at h7;cases b with|false=>exact dh h7|true=>
   have h9:=of_decide_eq_false ((abR _).mp (ZT.mp h8).1);rw[ZQ] at h9;exact aei.mp (abK.mp h9)
  |_=>exact dh h4
theorem UB(args:List WData):lb.row.toRowW.claim.post args (.bool true) args=true:=by kernel_rfl
theorem Js{w:Z2}{s:ZL}(F:sT w s):s.heap.nsMap aaI "law" =some (.ref 369):=by
 obtain⟨tk,frag⟩:=F.frag;have hg:nsFind (rW w.params tk) "law" =some (.ref 369):=by kernel_rfl
 have h: ∃c d es ep sl,(KK w.params tk).lookup 3=some ⟨c,d, .dict es ep,sl⟩:=⟨_,_,_,_,_,rfl⟩;obtain⟨c,d,es,ep,sl,h⟩:=h;rw[<-hg];unfold Heap.nsMap rW;rw[show s.heap.get? aaI=_ from y7 frag _ _ h,h]
noncomputable abbrev Lh:= ∀w:Z2,(∃s,AfterRun (adT PW) w s)/\ ∀s,AfterRun (adT PW) w s-> ∃s₀,fenceModules? PW s=some s₀/\s₀.gens= #[]/\ ∃s₁,TopRan PW w s₀ s₁/\sT w s₁
theorem Xt(hd:Lh)(Xx:lb.row.wellSaid=true)(plain: ∀xs:List Int,xs.length<=63->vE xs):lb.row.Holds:=by
 refine⟨Xx,⟨[.list []],?_,?_⟩,⟨?_,?_,?_⟩,⟨[.list []],?_,?_⟩,fun w=>⟨(hd w).1,fun s' eS=> ?_⟩⟩
 ·decide+kernel
 ·decide+kernel
 ·exact⟨rfl,rfl,rfl,rfl,rfl,by decide+kernel⟩
 ·decide+kernel
 ·rfl
 ·decide+kernel
 ·decide+kernel
 obtain⟨s₀,hf,pI,s,hT,F⟩:=(hd w).2 s' eS;refine⟨s₀,hf,pI,s,hT,fun n hn=> ?_,fun x (hx:x∈[])=>(nomatch hx),fun x (hx:x∈[])=>(nomatch hx),?_⟩
 ·obtain⟨tk,frag⟩:=F.frag
  have mN:n∈([("law" :Str)]:List Str):=hn;rw[Z4.mp mN];have QJ: ∃o,(KK w.params tk).lookup 369=some o/\o.data= .func (bG (ay 37) "law" .none .none (.str "law_ta0133_01" (tk+272)) (.ref 368)):=by
   refine⟨_,rfl,rfl⟩
  obtain⟨o,ho,cG⟩:=QJ;have gF:=Js F;refine⟨369,o,_,_,_,_,(Pin.globalOf_eq F.ns _).trans gF,y7 frag _ _ ho,cG,(by kernel_rfl:PW.theDef "law" =some (J6 (ay 37),aT (ay 37),aJ (ay 37))),by kernel_rfl,by kernel_rfl,by kernel_rfl,by kernel_rfl,by kernel_rfl,by kernel_rfl,by kernel_rfl,by kernel_rfl, .inl ⟨by kernel_rfl,by kernel_rfl⟩,[],by kernel_rfl, .inl ⟨rfl,by kernel_rfl⟩⟩
 ·refine ClaimW.callFrom_of_specG (c:=lb.row.toRowW.claim) F.asleep F.gens fun args Cf Zu ord ZA=> ?_
  obtain⟨xs,rfl,hx⟩:=UC Cf;obtain⟨vs,t,hl,hr⟩:=UD lb.row.toRowW.claim.records (classAt s.heap) w.params ord xs s;have Sb:layAllW lb.row.toRowW.claim.records (classAt s.heap) w.params ord [.list (xs.map aek)] s=some ([.ref s.heap.objs.size],{s with heap:=s.heap.push (aI vs 0),toks:=t}):=by
   unfold layAllW;rw[show layW lb.row.toRowW.claim.records (classAt s.heap) w.params ord (.list (xs.map aek)) s=some (.ref s.heap.objs.size,{s with heap:=s.heap.push (aI vs 0),toks:=t}) by unfold layW;rw[hl];rfl];rfl
  refine⟨_,_,Sb,?_⟩;have hg:s.heap.Ns aaI (s.heap.nsMap aaI):= .of_isNs F.ns;have lN:(s.heap.push (aI vs 0)).get? s.heap.objs.size=some (aI vs 0):=aai _ rfl;refine ZO (wpAny_nsGet (show(s.heap.push (aI vs 0)).Ns mainNs (s.heap.nsMap aaI) from let⟨o,es,ep,ho,r⟩:=hg;⟨o,es,ep,qv _ _ ho,r⟩) ?_);rw[show s.heap.nsMap aaI lb.row.toRowW.name=some (.ref 369) from Js F]
  refine ZO (abJ (NF F hx (plain xs hx) (vs:=vs) (t:=t) hr) (fun v s' D=>ZS ⟨.ret v,rfl,?_⟩) fun z z h=>h.elim);obtain⟨b,rfl,rfl⟩:=D.v;have Bl:s.heap.objs.size∉aq:=fun hm=>by
   obtain⟨tk,frag⟩:=F.frag;have hL:s.heap.get? s.heap.objs.size=none:=ct (aab _);rw[Eh frag _ hm] at hL;cases hL
  have Bi:=D.keep _ _ lN Bl
  refine⟨.inl ⟨.bool true,rfl,fun cls=>rfl,⟨.bool true,[.list (xs.map aek)],[],_, .bool true, .cons (.list Bi rfl rfl (by simpa using Xi (hr fun z=>none))) .nil,UB _,fun z=>⟨acJ,fun a ha=>(nomatch ha),fun a ha=>(nomatch ha)⟩,fun Zh h=>ident_freeW (r:=lb.row.toRowW) rfl rfl rfl _ _⟩,fun i hi=>(nomatch hi),fun b o hb z z=>D.old b o hb,fun i (hi:i∈[])=>(nomatch hi)⟩,D.os,?_,fun q=>(nomatch q)⟩
  rw[D.gens];show AllBare s.gens
  rw[F.gens];intro g hg;simp at hg
theorem Kp:PySem.Challenge.rw_ta0133_01.wellSaid=true:=(congrFun PySem.W.Fast.te9446332074065402090 _).trans Xy
theorem fin(plain: ∀xs:List Int,xs.length<=63->vE xs):PySem.Challenge.rw_ta0133_01.Holds:=⟨Kp,Xt RD (row_said Kp) plain⟩
theorem Hw(g:Str): ∀(r:List Str) (acc:Array Nat),(r.foldl (fun acc p=>acc++g.cps++p.cps) acc).toList=acc.toList++r.flatMap fun p=>g.cps.toList++p.cps.toList
 |[],acc=>by simp
 |p::r,acc=>by rw[List.foldl_cons,Hw g r];simp
theorem w8(g p:Str)(r:List Str):(acO g (p::r)).cps.toList=p.cps.toList++r.flatMap fun q=>g.cps.toList++q.cps.toList:=Hw g r p.cps
noncomputable def wF(c:Nat):List Nat:=match dG cV (c:Int) with
 |some y=>y.cps.toList
 |none=>[c]
noncomputable def eO(x:Str):List Nat:=x.cps.toList.flatMap wF
theorem QD{y z:Str}(h:eO z=eO y): ∀parts:List Str,eO (acO z parts)=eO (acO y parts)
 |[]=>rfl
 |p::r=>by
  unfold eO at h⊢;rw[w8,w8,acQ,acQ,List.flatMap_assoc,List.flatMap_assoc]
  congr 1
  induction r with
  |nil=>rfl
  |cons q r ih=>rw[aa3,aa3,acQ,acQ,h,ih]
theorem Xm{x y z:Str}(h:eO z=eO y):eO (aea x y z)=eO x:=by
 unfold aea;split
 ·rfl
 ·rw[QD h,aez]
theorem QE{y z:Str}{c:Nat}: ∀parts:List Str,c∈(acO z parts).cps.toList->c∈(acO y parts).cps.toList\/c∈z.cps.toList
 |[],h=> .inl h
 |p::r,h=>by
  rw[w8] at h⊢;simp only[aaw,acF] at h⊢;rcases h with h|⟨q,hq,h|h⟩
  ·exact .inl (.inl h)
  ·exact .inr h
  ·exact .inl (.inr ⟨q,hq, .inr h⟩)
theorem Xo{x y z:Str}{c:Nat}(h:c∈(aea x y z).cps.toList):c∈x.cps.toList\/c∈z.cps.toList:=by
 unfold aea at h;split at h
 ·exact .inl h
 ·have:=QE (y:=y) _ h
  rwa [aez] at this
theorem CP: ∀l:List Str,(Txt.join "" l).cps.toList=l.flatMap fun x=>x.cps.toList
 |[]=>rfl
 |p::r=>by
  show(acO "" (p::r)).cps.toList=_
  rw[w8,aa3]
  congr 1
theorem WB: ∀k<16,eO ⟨#[(cV.getD k default).1.toNat]⟩=eO (cV.getD k default).2:=by decide+kernel
theorem DX(chosen:Int)(w0:Str): ∀k,k<=16->eO (eH chosen w0 k)=eO w0
 |0,_=>rfl
 |k+1,h=>by
  rw[eH];split
  ·rw[Xm (WB k ‹_›)];exact DX chosen w0 k (by exact abq ‹_›)
  ·exact DX chosen w0 k (by exact abq ‹_›)
noncomputable def xZ:List Nat:=cV.map fun p=>p.1.toNat
theorem K5(chosen:Int)(w0:Str){c:Nat}: ∀k,k<=16->c∈(eH chosen w0 k).cps.toList->c∈w0.cps.toList\/c∈xZ
 |0,_,h=> .inl h
 |k+1,hk,h=>by
  rw[eH] at h;have ih:=K5 chosen w0 (c:=c) k (by exact abq ‹_›);split at h
  ·rcases Xo h with h|h
   ·exact ih h
   ·have hc:c=(cV.getD k default).1.toNat:=by simpa using h
    rw[hc];have: ∀k<16,(cV.getD k default).1.toNat∈xZ:=by decide
    exact .inr (this k ‹_›)
  ·exact ih h
noncomputable def mh:List Nat:=("filsthpamkwb" :Str).cps.toList
noncomputable def yl(gw c:Nat):Bool:=decide ((mY (gw:Int) c).cps.size=1)&& !decide ((((mY (gw:Int) c).cps.getD 0 0:Nat):Int)∈dw)&&decide (i8 ((mY (gw:Int) c).cps.getD 0 0)=(dG cV (c:Int)).getD ⟨#[c]⟩)
theorem XC:(mh.all fun c=>(aac 12).all fun f=>yl f c)=true:=by decide+kernel
theorem XE:(xZ.all fun c=>yl 0 c&&(dG cV (c:Int)).isSome&&decide (((dG cV (c:Int)).getD ⟨#[c]⟩).length<=2))=true:=by decide+kernel
theorem Em:(mh.all fun c=>decide (dG cV (c:Int)=none))=true:=by decide+kernel
noncomputable def oF(p:Str×Str):Prop:= ∃sh:Nat,p.1=⟨#[sh]⟩/\p.2.length<=2/\((decide ((sh:Int)∈dw)=true/\p.2=⟨#[]⟩)\/(decide ((sh:Int)∈dw)=false/\i8 sh=p.2))
theorem Wm{x:Str}(h:x.cps.size=1):x=⟨#[x.cps.getD 0 0]⟩:=by
 obtain⟨⟨l⟩⟩:=x
 match l,h with
 |[u],_=>rfl
theorem JW{gw c:Nat}(h:yl gw c=true)(hl:((dG cV (c:Int)).getD ⟨#[c]⟩).length<=2):oF (mY (gw:Int) c,(dG cV (c:Int)).getD ⟨#[c]⟩):=by
 unfold yl at h;obtain⟨h,h3⟩:=ZT.mp h;obtain⟨h1,h2⟩:=ZT.mp h;refine⟨_,Wm (of_decide_eq_true h1),hl, .inr ⟨by simpa using h2,of_decide_eq_true h3⟩⟩
theorem XD{dress:Int}{c k:Nat}(h:c∈mh\/c∈xZ):oF (mZ dress c k):=by
 unfold mZ;obtain⟨f,hf,RK⟩: ∃f:Nat,mB dress k=f/\f<12:=by
  have:=cj (a:=dress.fdiv (12^(k % 5))) (b:=12) (by decide);exact⟨(mB dress k).toNat,by unfold mB;exact(ZV (adn ‹_›)).symm,by unfold mB;simp[*]⟩
 rw[hf];rcases h with h|h
 ·refine JW (Z3.mp (Z3.mp XC c h) f (aaq.mpr RK)) ?_
  rw[of_decide_eq_true (Z3.mp Em c h)];show 1<=2;decide
 ·have:=Z3.mp XE c h
  obtain⟨h1,h3⟩:=ZT.mp this;obtain⟨h1,h2⟩:=ZT.mp h1;have e:mY (f:Int) c=mY ((0:Nat):Int) c:=by
   unfold mY;rw[h2,Bool.or_true,Bool.or_true];rfl
  rw[e];exact JW h1 (of_decide_eq_true h3)
noncomputable def JV(m:Int):Bool:=decide (0<=m)&& !decide (((m.toNat:Nat):Int)∈dw)&&decide (i8 m.toNat=⟨#[m.toNat]⟩)
theorem Vm:(iU.all JV)=true:=by decide+kernel
theorem LK:(dw.all fun m=>decide (((m.toNat:Nat):Int)=m))=true:=by decide+kernel
theorem Kb{strewn mark:Int}: ∀p∈k0 strewn mark,oF p/\ ∀c∈p.2.cps.toList,∃m∈iU,c=m.toNat:=fun p hp=>by
 unfold k0 at hp;rcases aaw.mp hp with hp|hp
 ·obtain⟨c,hc,rfl⟩:=Z1.mp hp
  have hc:=abx (abl hc);refine⟨⟨c.toNat,rfl,aav _, .inl ⟨?_,rfl⟩⟩,fun c hc=>nomatch hc⟩;rw[of_decide_eq_true (Z3.mp LK c hc)];exact decide_eq_true hc
 ·obtain⟨c,hc,rfl⟩:=Z1.mp hp
  have hc:=abx (abl hc);have h:=Z3.mp Vm c hc;unfold JV at h;obtain⟨h,h3⟩:=ZT.mp h;obtain⟨h1,h2⟩:=ZT.mp h;refine⟨⟨c.toNat,rfl,by show 1<=2;decide, .inr ⟨by simpa using h2,of_decide_eq_true h3⟩⟩,fun d hd=>⟨c,hc,by simpa using hd⟩⟩
noncomputable def aG(n m:Nat):List Int:=((aac n).filter fun i=>m.testBit i).map fun(i:Nat)=>(i:Int)
theorem sd{n m:Nat}{p:Int}:p∈aG n m↔ ∃i:Nat,i<n/\m.testBit i=true/\p=i:=by
 unfold aG;simp only[Z1,aaQ,aaq];constructor
 ·rintro⟨i,⟨h1,h2⟩,rfl⟩;exact⟨i,h1,h2,rfl⟩
 ·rintro⟨i,h1,h2,rfl⟩;exact⟨i,⟨h1,h2⟩,rfl⟩
theorem Vn(q:Nat->Bool): ∀n:Nat,∃m,m<2^n/\ ∀i,i<n->m.testBit i=q i:=by
 intro rr
 induction rr with
 |zero=>
  exact⟨0,by decide,fun i hi=>absurd hi (Nat.not_lt_zero _)⟩
 |succ n ih=>
  exact by
   obtain⟨m,hm,h⟩:=ih;cases hq:q n with
   |false=>
    refine⟨m,aaa hm (aat (by decide) (acU n)),fun i hi=> ?_⟩;rcases Nat.lt_succ_iff_lt_or_eq.mp hi with h1|rfl
    ·exact h i h1
    ·rw[hq];exact adv hm
   |true=>
    refine⟨2^n+m,by rw[Nat.pow_succ];exact "<AB<+BA%B2" hm,fun i hi=> ?_⟩;rcases Nat.lt_succ_iff_lt_or_eq.mp hi with h1|rfl
    ·rw[aeC h1];exact h i h1
    ·rw[Nat.testBit_two_pow_add_eq,adv hm,hq];rfl
theorem PJ{n:Nat}(q:Int->Bool): ∃m,m<2^n/\(aS 0 (n:Int)).filter q=aG n m:=by
 obtain⟨m,hm,h⟩:=Vn (fun i=>q (i:Int)) n;refine⟨m,hm,?_⟩;unfold aS aG;rw[adA];have e:((n:Int) -0).toNat=n:=by exact aaD _
 rw[e];have h2:(aac n).filter (q∘fun(i:Nat)=>(0:Int)+(i:Int))=(aac n).filter fun i=>m.testBit i:=by
  refine ade fun i hi=> ?_
  rw[h i (aaq.mp hi)];simp
 rw[h2];exact aa0 fun i z=>by exact Int.zero_add _
theorem WH{n m:Nat}(hm:m<2^n)(h:aG n m≠[]):0<m:=by
 refine Nat.pos_of_ne_zero fun e=>h ?_
 subst e;unfold aG;simp
theorem XF(c:Int):m4 c=12\/m4 c=8\/m4 c=9\/m4 c=10:=by
 have h:=cj (a:=c) (b:=6) (by decide);unfold m4;obtain⟨k,hk⟩: ∃k:Nat,c.fmod 6=k:=⟨(c.fmod 6).toNat,by exact(ZV (adn ‹_›)).symm⟩;rw[hk,aaD];have: ∀k<6,lW.getD k 0=12\/lW.getD k 0=8\/lW.getD k 0=9\/lW.getD k 0=10:=by decide
 exact this k (by exact ">a6;1#a'A<A6" h.2 hk)
theorem J3(size kind p q u v ahead moved free:Int)(h:0<size):n9 size kind p q u v ahead moved free≠[]:=by
 unfold n9;dsimp only;generalize hd:(if(kind==1)=true then List.drop 1 ((aS 0 (p+1)).flatMap fun j=>(aS 0 (q+1)).map fun k=>j*u+k*v)++[if decide (moved<size)=true then moved else 0] else 0::(aS 0 12).filter fun place=>acK (free.fdiv (2^place.toNat)) 1 !=0)=drawn;have bC:drawn≠[]:=by
  rw[<-hd];split
  ·simp
  ·simp
 obtain⟨x,hx⟩:=aeO _ bC;have dK:=cj (a:=x+ahead) (b:=size) h;refine List.ne_nil_of_mem (a:=(x+ahead).fmod size) (aaQ.mpr ⟨fc.mpr dK,?_⟩);exact decide_eq_true (Z1.mpr ⟨x,hx,rfl⟩)
theorem WG{x:Int}{n:Nat}(h:0<n): ∃m,0<m/\m<2^n/\qt x (n:Int)=aG n m:=by
 have e: ∃kind p q u v ahead moved free,qt x (n:Int)=n9 n kind p q u v ahead moved free:=⟨_,_,_,_,_,_,_,_,rfl⟩;obtain⟨kind,p,q,u,v,ahead,moved,free,e⟩:=e;have bC:=J3 n kind p q u v ahead moved free (by exact acd.mpr ‹_›);rw[e];unfold n9 at bC⊢;dsimp only at bC⊢
 obtain⟨m,hm,hf⟩:=PJ (n:=n) (fun place=>decide (place∈((if(kind==1)=true then List.drop 1 ((aS 0 (p+1)).flatMap fun j=>(aS 0 (q+1)).map fun k=>j*u+k*v)++[if decide (moved<(n:Int))=true then moved else 0] else 0::(aS 0 12).filter fun place=>acK (free.fdiv (2^place.toNat)) 1 !=0).map fun one=>(one+ahead).fmod (n:Int))));rw[hf] at bC⊢;exact⟨m,WH hm bC,hm,rfl⟩
theorem DZ(w:Nat): ∀ds:List Nat,(∀d∈ds,d<2^w)->bb w ds<2^(ds.length*w):=by
 intro rr
 induction rr with
 |nil=>
  exact fun z=>by simp[lZ,fA]
 |cons d ds ih=>
  exact fun h=>by
   have h1:=ih fun x hx=>h x (ZP _ hx)
   have h2:=h d ZR;rw[fA,aaY,acq,acX,acT (ds.length*w),ab5];have h3:2^w*(bb w ds+1)<=2^w*2^(ds.length*w):=adR _ h1;rw[acH,adJ] at h3;exact "<AB[+CBD<+ACD" h2 h3
theorem D6(w:Nat)(hw:1<=w): ∀ds:List Nat,ds≠[]->(∀d∈ds,d+2<=2^w)->bb w ds+2<=2^(ds.length*w)
 |[d],_,h=>by have:=h d ZR;simpa [lZ,fA] using this
 |d::e::ds,_,h=>by
  have h1:=D6 w hw (e::ds) (by simp) fun x hx=>h x (ZP _ hx)
  have h2:=h d ZR;rw[fA,aaY,acq,acX,acT ((e::ds).length*w),ab5];have h3:2^w*(bb w (e::ds)+2)<=2^w*2^((e::ds).length*w):=adR _ h1;rw[acH] at h3;exact "[+A2B[+C%B2D[++AC2D" h2 h3
theorem K6(w:Nat)(ds:List Nat)(k:Nat):bb w (ds++aaB k 0)=bb w ds:=by
 rw[sL];have: ∀k,bb w (aaB k 0)=0:=fun k=>by
  induction k with
  |zero=>rfl
  |succ k ih=>rw[ab7,fA,ih];simp
 rw[this];simp
theorem D3(w:Nat): ∀ds es:List Nat,ds.length=es.length->(∀d∈ds,d<2^w)->(∀d∈es,d<2^w)->bb w ds=bb w es->ds=es
 |[],[],_,_,_,_=>rfl
 |d::ds,e::es,hl,h1,h2,h=>by
  rw[fA,fA] at h;have a1:=h1 d ZR;have a2:=h2 e ZR;have hd:d=e:=by
   have:=congrArg (· % 2^w) h;simp only[Nat.add_mul_mod_self_left] at this
   rwa [ab6 a1,ab6 a2] at this
  subst hd;have hw:bb w ds=bb w es:=Nat.eq_of_mul_eq_mul_left (ab2 w) (Nat.add_left_cancel h);rw[D3 w ds es (by simpa using hl) (fun x hx=>h1 x (ZP _ hx)) (fun x hx=>h2 x (ZP _ hx)) hw]
theorem TH{w:Nat}(hw:1<=w){c:List Nat}(hc: ∀d∈c,d<2^w)(h0:0<bb w c):(eV w (bb w c)).length<=c.length/\eV w (bb w c)++aaB (c.length -(eV w (bb w c)).length) 0=c/\
 (eV w (bb w c)).drop ((eV w (bb w c)).length -1)≠[0]:=by
 generalize ha:bb w c=a at*;have Rg:a<2^(c.length*w):=ha▸DZ w c hc;unfold eV;rw[if_neg (by exact acj ‹_›)];generalize hk:(a.log2+w)/w=k;have iN:k=a.log2/w+1:=by rw[<-hk,Nat.add_div_right _ hw]
 have BO:1<=k:=by rw[iN];exact aeo (aav _)
 have hd:=aan a.log2 w;have hm:=aaR a.log2 hw;have Zv:2^((k -1)*w)<=a:=by
  refine ZW (aat (by decide) ?_) (Nat.log2_self_le (by exact acj ‹_›));rw[iN,Nat.add_sub_cancel,ab1];exact "=+ABC[AC" hd
 have Cu:a<2^(k*w):=by
  refine aaa Nat.lt_log2_self (aat (by decide) ?_);rw[iN,acq,acX,ab1];exact ";1=+ABC<BD[+C1+AD" hd hm
 have xu:k<=c.length:=by
  have h1:a.log2<c.length*w:=(ad9 (by exact acj ‹_›)).mpr Rg;rw[iN];exact Nat.succ_le_of_lt ((aeh hw).mpr h1)
 have hlen:=wq w k a BO;have IZ:=FJ w k a BO Cu;have Tp:=FK w k a BO;generalize ej w k a=ds at*;refine⟨by exact "[AB=CA[CB" xu hlen,?_,?_⟩
 ·refine D3 w _ _ ?_ ?_ hc ?_
  ·rw[aap,List.length_replicate];exact Z5 ("=+ABC[+BAC" (ZM ("[AB=CA[CB" xu hlen))) (";1=+ABC[C+BA" (ZM ("[AB=CA[CB" xu hlen)))
  ·intro d hd
   rcases aaw.mp hd with h|h
   ·exact IZ d h
   ·rw[(List.mem_replicate.mp h).2];exact ab2 w
  ·rw[K6,Tp,ha]
 ·intro e
  have h1:ds=ds.take (k -1)++[0]:=by
   rw[<-e,hlen];exact(adz _ _).symm
  have h2:bb w ds=bb w (ds.take (k -1)):=by
   conv=>lhs;rw[h1]
   exact K6 w _ 1
  have h3:=DZ w (ds.take (k -1)) fun d hd=>IZ d (abl hd)
  rw[aaU,hlen] at h3;have h4:min (k -1) k=k -1:=by simp
  rw[h4] at h3
  grind
theorem WO{α:Type}(x:List α):cm x (some (-1)) none none=x.drop (x.length -1):=by
 cases hx:x with
 |nil=>rfl
 |cons a r=>
  rw[<-hx];have hl:1<=x.length:=by rw[hx];simp
  have e:ab4 (some (-1)) none none x.length=(((x.length -1:Nat):Int),((x.length:Nat):Int),1):=by
   simp only[ab4,Option.getD_none];have h1:((-1:Int)<0):=by decide
   simp only[h1,if_true,show(1:Int)>0 by decide];cases x.length with
   |zero=>decide
   |succ m=>rw[show(-1:Int)+((m+1:Nat):Int)=(m:Int) by exact "@#+~1'+A1'A" (),<-Lean.Omega.Int.ofNat_min,abB (acU m),Int.max_eq_right (Z0 _)];rfl
  unfold cm;rw[e];simp only[sliceRange_one,u5];rw[aaX (by rw[abk];exact aab _)]
noncomputable def cA(w:Nat)(A:List Nat):Nat:=(A.map fun a=>2^(w*a)).sum
noncomputable def lr(w:Nat)(f:Nat->Nat):Nat->Nat
 |0=>0
 |n+1=>lr w f n+2^(w*n)*f n
theorem oA(w:Nat)(f:Nat->Nat)(n:Nat):lr w f (n+1)=lr w f n+2^(w*n)*f n:=rfl
theorem D4(w:Nat)(f:Nat->Nat): ∀n,bb w ((aac n).map f)=lr w f n:=by
 intro rr
 induction rr with
 |zero=>
  exact rfl
 |succ n ih=>
  exact by
   rw[List.range_succ,aaA,sL,ih,oA];simp only[aah,List.map_nil,lZ,fA,ZQ,abw,Nat.mul_zero,adw];rw[ab1 n w]
theorem Zb(w:Nat): ∀n,lr w (fun z=>0) n=0:=by
 intro rr
 induction rr with
 |zero=>
  exact rfl
 |succ n ih=>
  exact by rw[oA,ih,Nat.mul_zero]
theorem Y8(w:Nat)(f g:Nat->Nat): ∀n,lr w (fun i=>f i+g i) n=lr w f n+lr w g n:=by
 intro rr
 induction rr with
 |zero=>
  exact rfl
 |succ n ih=>
  exact by rw[oA,oA,oA,ih,acH];exact "@=++AB+CD++AC+BD" ()
theorem Za(w a:Nat): ∀n,lr w (fun i=>if a=i then 1 else 0) n=if a<n then 2^(w*a) else 0:=by
 intro rr
 induction rr with
 |zero=>
  exact rfl
 |succ n ih=>
  exact by
   rw[oA,ih]
   by_cases h:a=n
   ·subst h;simp
   ·rw[if_neg h,Nat.mul_zero,adw]
    by_cases h2:a<n
    ·rw[if_pos h2,if_pos (by exact Nat.le_succ_of_le ‹_›)]
    ·rw[if_neg h2,if_neg (by exact(aa8 h).elim (fun x2=> "!<AB<AB:0!<A+B1" h2 x2) (fun x2=> "<AB!<B+A1" x2))]
theorem Y9{w:Nat}{f g:Nat->Nat}: ∀{n:Nat},(∀i,i<n->f i=g i)->lr w f n=lr w g n:=by
 intro rr
 induction rr with
 |zero=>exact fun z=>rfl
 |succ n ih=>exact fun h=>by rw[oA,oA,ih fun i hi=>h i (adG hi),h n (acB n)]
theorem sM(w n:Nat): ∀A:List Nat,(∀a∈A,a<n)->bb w ((aac n).map fun i=>A.count i)=cA w A:=by
 intro rr
 induction rr with
 |nil=>
  exact fun z=>by
   rw[D4];exact Zb w n
 |cons a A ih=>
  exact fun h=>by
   rw[D4,Y9 (g:=fun i=>A.count i+if a=i then 1 else 0) (fun i z=>by rw[ac8];congr 1;by_cases e:a=i<;>simp[e]),Y8,Za,if_pos (h a ZR),<-D4,ih fun x hx=>h x (ZP _ hx)];unfold cA;rw[aah,adg,acT]
noncomputable def fY(n:Nat)(A:List Nat)(b:Nat):List Nat:=A.map fun a=>(a+b)% n
theorem WV{w n a b:Nat}(ha:a<n)(hb:b<n):2^(w*(a+b))%(2^(w*n) -1)=2^(w*((a+b)% n))%(2^(w*n) -1):=by
 by_cases h:a+b<n
 ·rw[ab6 h]
 ·have e:a+b=(a+b -n)+n:=by exact Z5 (";1=+AB+CD[+CD+AB" (ZM ("!<+ABC[C+AB" h))) ("=+AB+CD[+AB+CD" (ZM ("!<+ABC[C+AB" h)))
  have h1:(a+b)% n=a+b -n:=by
   rw[e,Nat.add_mod_right,ab6 (by exact "<AB<CB;1=+AC+DB<DB" ha hb e)];simp
  rw[h1]
  conv=>lhs;rw[e,acH,ab5]
  have hp:=ab2 (w*n);have h2:2^(w*(a+b -n))*2^(w*n)=2^(w*(a+b -n))+(2^(w*n) -1)*2^(w*(a+b -n)):=by
   rw[Nat.sub_mul,acX,ab1];have:2^(w*(a+b -n))<=2^(w*n)*2^(w*(a+b -n)):=Nat.le_mul_of_pos_left _ hp;exact Z5 (";1=+ABC[C+BA" (ZM (this))) ("=+ABC[+BAC" (ZM (this)))
  rw[h2,Nat.add_mul_mod_self_left]
theorem W0{w n b:Nat}(hb:b<n): ∀A:List Nat,(∀a∈A,a<n)->(cA w A*2^(w*b))%(2^(w*n) -1)=cA w (fY n A b)%(2^(w*n) -1):=by
 intro rr
 induction rr with
 |nil=>
  exact fun z=>by simp[cA,fY]
 |cons a A ih=>
  exact fun h=>by
   have ih:=ih fun x hx=>h x (ZP _ hx)
   have e1:cA w (a::A)=2^(w*a)+cA w A:=by unfold cA;rw[aah,adg]
   have e2:cA w (fY n (a::A) b)=2^(w*((a+b)% n))+cA w (fY n A b):=by unfold cA fY;rw[aah,aah,adg]
   rw[e1,e2,acq,<-ab5,<-acH,Nat.add_mod,ih,WV (h a ZR) hb,<-Nat.add_mod]
theorem WZ{w n:Nat}{A:List Nat}(hA: ∀a∈A,a<n): ∀B:List Nat,(∀b∈B,b<n)->(cA w A*cA w B)%(2^(w*n) -1)=cA w (B.flatMap (fY n A))%(2^(w*n) -1):=by
 intro rr
 induction rr with
 |nil=>
  exact fun z=>by simp[cA]
 |cons b B ih=>
  exact fun h=>by
   have ih:=ih fun x hx=>h x (ZP _ hx)
   have e1:cA w (b::B)=2^(w*b)+cA w B:=by unfold cA;rw[aah,adg]
   have e2:cA w ((b::B).flatMap (fY n A))=cA w (fY n A b)+cA w (B.flatMap (fY n A)):=by unfold cA;rw[aa3,aaA,List.sum_append]
   rw[e1,e2,acH,Nat.add_mod,ih,W0 (h b ZR) A hA,<-Nat.add_mod]
theorem JD{n a s y:Nat}(ha:a<n)(hs:s<n)(hy:y<n):(a+s)% n=y↔a=(y+n -s)% n:=by
 rw[Nat.add_sub_assoc (abq hs)];constructor
 ·rintro rfl
  rw[Nat.mod_add_mod,Nat.add_assoc,Nat.add_sub_cancel' (abq hs),Nat.add_mod_right,ab6 ha]
 ·rintro rfl
  rw[Nat.mod_add_mod,Nat.add_assoc,ZM (abq hs),Nat.add_mod_right,ab6 hy]
theorem Fw{n b i:Nat}(hb:b<n)(hi:i<n): ∀A:List Nat,(∀a∈A,a<n)->(fY n A b).count i=A.count ((i+n -b)% n):=by
 intro rr
 induction rr with
 |nil=>
  exact fun z=>rfl
 |cons a A ih=>
  exact fun h=>by
   have ih:=ih fun x hx=>h x (ZP _ hx)
   have ha:=h a ZR;have e:fY n (a::A) b=(a+b)% n::fY n A b:=rfl;rw[e,ac8,ac8,ih]
   congr 1
   have:((a+b)% n==i)=(a==(i+n -b)% n):=by
    rw[aa9,beq_iff_eq,beq_iff_eq];exact JD ha hb hi
   rw[this]
noncomputable def eM(n:Nat)(A B:List Nat)(i:Nat):Nat:=(B.map fun b=>A.count ((i+n -b)% n)).sum
theorem Fv{n i:Nat}(hi:i<n){A:List Nat}(hA: ∀a∈A,a<n): ∀B:List Nat,(∀b∈B,b<n)->(B.flatMap (fY n A)).count i=eM n A B i:=by
 intro rr
 induction rr with
 |nil=>
  exact fun z=>rfl
 |cons b B ih=>
  exact fun h=>by
   rw[aa3,List.count_append,Fw (h b ZR) hi A hA,ih fun x hx=>h x (ZP _ hx)];unfold eM;rw[aah,adg]
theorem D0{w n:Nat}{A B:List Nat}(hA: ∀a∈A,a<n)(hB: ∀b∈B,b<n):(cA w A*cA w B)%(2^(w*n) -1)=bb w ((aac n).map (eM n A B))%(2^(w*n) -1):=by
 rw[WZ hA B hB,<-sM w n (B.flatMap (fY n A)) (fun x hx=>by
  obtain⟨b,hb,hx⟩:=acF.mp hx;obtain⟨a,ha,rfl⟩:=Z1.mp hx;exact aaR _ (ZY (aav _) (hB b hb)))]
 congr 2
 exact aa0 fun i hi=>Fv (aaq.mp hi) hA B hB
noncomputable def rU(n:Nat):Bool:=
 let L:=bA (n:Int)
 decide (L.length=n)&&(aac n).all fun(i:Nat)=>
  let a:=bQ L (i:Int)
  let b:=abA a
  decide (found gm a=some false)&&decide (a.cps.size<2^62)&&decide (found gm b=some false)&&decide (b.cps.size<2^62)&&
  decide (b.cps.size=1)&&decide ((abA L).cps[i]?=b.cps[0]?)&&
  decide (a.length<=5592405)&&decide ((aau a).cps.size<2^62)&&decide (found gm (aau a)=some false)&&
  decide (b.length<=5592405)&&decide ((aau b).cps.size<2^62)&&decide (found gm (aau b)=some false)&&aa6 a&&aa6 b
theorem U1:rU 8=true:=by decide+kernel
theorem U2:rU 9=true:=by decide+kernel
theorem UZ:rU 10=true:=by decide+kernel
theorem U0:rU 12=true:=by decide+kernel
theorem xY{n:Nat}(h:rU n=true):qL (bA (n:Int)) (n:Int):=by
 unfold rU at h;dsimp only at h;obtain⟨h1,h2⟩:=ZT.mp h;have h3: ∀i:Int,0<=i->i<n-> ∃k:Nat,i=k/\k<n:=fun i h0 h1=>⟨i.toNat,by exact(ZV ‹_›).symm,by simp[*]⟩
 have h4:=fun k hk=>Z3.mp h2 k (aaq.mpr hk)
 simp only[aax,decide_eq_true_eq] at h4 h1;refine⟨by rw[h1],fun i h0 hi=> ?_,fun i h0 hi=> ?_,fun i h0 hi=> ?_⟩
 ·refine gz fun zq zk=> ?_
  obtain⟨k,rfl,hk⟩:=h3 i h0 hi;obtain⟨⟨⟨⟨⟨⟨⟨⟨⟨⟨⟨⟨⟨a1,a2⟩,a3⟩,a4⟩,a5⟩,a6⟩,a7⟩,a8⟩,a9⟩,ze⟩,zg⟩,zh⟩,zi⟩,zj⟩:=h4 k hk;refine zk ?_;refine⟨⟨⟨a1,a2⟩,a3,a4⟩,?_⟩;obtain⟨u,hu⟩: ∃u,(abA (bQ (bA n) (k:Int))).cps= #[u]:=by
   generalize (abA (bQ (bA n) (k:Int))).cps=x at a5
   match x,a5 with
   |⟨[u]⟩,_=>exact⟨u,rfl⟩
  refine⟨u,?_,?_⟩
  ·rw[aaD,a6,hu];rfl
  ·rw[<-hu]
 ·refine gz fun zq zk=> ?_
  obtain⟨k,rfl,hk⟩:=h3 i h0 hi;obtain⟨⟨⟨⟨⟨⟨⟨⟨⟨⟨⟨⟨⟨a1,a2⟩,a3⟩,a4⟩,a5⟩,a6⟩,a7⟩,a8⟩,a9⟩,ze⟩,zg⟩,zh⟩,zi⟩,zj⟩:=h4 k hk;refine zk ?_;exact⟨⟨a7,a8,a9⟩,ze,zg,zh⟩
 ·refine gz fun zq zk=> ?_
  obtain⟨k,rfl,hk⟩:=h3 i h0 hi;obtain⟨⟨⟨⟨⟨⟨⟨⟨⟨⟨⟨⟨⟨a1,a2⟩,a3⟩,a4⟩,a5⟩,a6⟩,a7⟩,a8⟩,a9⟩,ze⟩,zg⟩,zh⟩,zi⟩,zj⟩:=h4 k hk;refine zk ?_;exact⟨zi,zj⟩
theorem Y0{n:Nat}(h:n=12\/n=8\/n=9\/n=10):qL (bA (n:Int)) (n:Int):=by
 rcases h with rfl|rfl|rfl|rfl
 ·exact xY U0
 ·exact xY U1
 ·exact xY U2
 ·exact xY UZ
theorem vQ{f:Fg}{m:Nat}(h:f.more=m):bl f=2^(m+5)/\br f=m+5:=by
 unfold bl br;rw[h];exact⟨rfl,rfl⟩
noncomputable def sE(n m:Nat):Bool:=sG ((2^(m+5):Nat):Int) [] (ft (n:Int))&&((gf ((2^(m+5):Nat):Int) [] (ft (n:Int))).drop 1).all fun t=>decide (0<t.2.1)&&decide (t.2.1<2^120)&&decide (t.2.2=0)&&decide (1<=t.1)&&decide (t.1<=12)
theorem YS:(aac 6).all (sE 8)=true:=by decide+kernel
theorem YT:(aac 6).all (sE 9)=true:=by decide+kernel
theorem YQ:(aac 6).all (sE 10)=true:=by decide+kernel
theorem YR:(aac 6).all (sE 12)=true:=by decide+kernel
theorem YV{n m:Nat}(h:n=12\/n=8\/n=9\/n=10)(hm:m<6):sE n m=true:=by
 rcases h with rfl|rfl|rfl|rfl
 ·exact Z3.mp YR m (aaq.mpr hm)
 ·exact Z3.mp YS m (aaq.mpr hm)
 ·exact Z3.mp YT m (aaq.mpr hm)
 ·exact Z3.mp YQ m (aaq.mpr hm)
noncomputable def aX(n m:Nat):List Nat:=(aac n).filter fun i=>m.testBit i
noncomputable abbrev bE(l:List Nat):List Int:=l.map fun(i:Nat)=>(i:Int)
theorem dS(n m:Nat):aG n m=bE (aX n m):=rfl
theorem u3{n m:Nat}: ∀a∈aX n m,a<n:=fun a ha=>aaq.mp (aaQ.mp ha).1
theorem J4(n m:Nat):(aX n m).Nodup:=aev _ List.nodup_range
theorem u2(n m i:Nat):(aX n m).count i=if i∈aX n m then 1 else 0:=by
 exact(J4 n m).count
theorem oa(n:Nat):aS 0 (n:Int)=bE (aac n):=by
 unfold aS bE;rw[show((n:Int) -0).toNat=n by exact aaD _];exact aa0 fun i z=>by exact Int.zero_add _
theorem kU{l:List Nat}{i:Nat}:(i:Int)∈bE l↔i∈l:=by
 unfold bE;rw[Z1];constructor
 ·rintro⟨a,h,e⟩
  have:a=i:=by exact adD ‹_›
  exact this▸h
 ·exact fun h=>⟨i,h,rfl⟩
theorem Oi(l:List Nat)(i:Nat):(bE l).count (i:Int)=l.count i:=by
 induction l with
 |nil=>rfl
 |cons a l ih=>
  unfold bE at ih⊢;rw[aah,ac8,ac8,ih]
  congr 1
  by_cases h:a=i
  ·subst h;simp
  ·have: ¬((a:Int)=(i:Int)):=by lia
   simp[h,this]
theorem HP(n m:Nat):pw (n:Int) (aG n m)=(aac n).map fun i=>(aX n m).count i:=by
 unfold pw;rw[oa,bE,aaf];refine aa0 fun i hi=> ?_
 simp only[aaF];rw[u2,dS]
 by_cases h:i∈aX n m
 ·rw[if_pos h,if_pos (decide_eq_true (kU.mpr h))]
 ·rw[if_neg h,if_neg (by simpa using fun q=>h (kU.mp q))]
theorem KO(n:Nat)(row:List Nat):ou (n:Int) (bE row)=(aac n).map fun i=>row.count i:=by
 unfold ou;rw[oa,bE,aaf];exact aa0 fun i z=>Oi row i
theorem DL{n i t:Nat}(hn:0<n)(ht:t<n):((i:Int) -(t:Int)).fmod (n:Int)=(((i+n -t)% n:Nat):Int):=by
 have e:((i:Int) -(t:Int))=((i+n -t:Nat):Int) -(n:Int):=by exact ab0 (";1=+AB+CD]-'C'B-'A'D" (ZM ("<AB[A+CB" ht))) ("=+AB+CD]-'A'D-'C'B" (ZM ("<AB[A+CB" ht)))
 rw[e,Int.sub_fmod_right,<-acN]
theorem XB{n m:Nat}(hn:0<n){row:List Nat}(hr: ∀t∈row,t<n):(cQ (n:Int) (aG n m) (bE row)).map (fun x=>x.length)=(aac n).map (eM n (aX n m) row):=by
 unfold cQ;rw[aaf,oa,bE,aaf];refine aa0 fun i hi=> ?_
 simp only[aaF,ZQ];unfold eM;rw[adA,ZQ];have: ∀row:List Nat,(∀t∈row,t<n)->(row.filter ((fun t:Int=>decide (((i:Int) -t).fmod (n:Int)∈aG n m))∘fun(i:Nat)=>(i:Int))).length=(row.map fun b=>(aX n m).count ((i+n -b)% n)).sum:=fun row=>by
  induction row with
  |nil=>intro _;rfl
  |cons b row ih=>
   intro h;rw[aah,adg,<-ih fun x hx=>h x (ZP _ hx),ado,u2];simp only[aaF];rw[DL hn (h b ZR),dS]
   by_cases hm:(i+n -b)% n∈aX n m
   ·rw[if_pos hm,if_pos (decide_eq_true (kU.mpr hm)),aaY,acT]
   ·rw[if_neg hm,if_neg (by simpa using fun q=>hm (kU.mp q)),acS]
 exact this row hr
theorem Of(n m i:Nat): ∀row:List Nat,eM n (aX n m) row i<=row.length:=by
 intro rr
 induction rr with
 |nil=>
  exact aab _
 |cons b row ih=>
  exact by
   have:=ih;unfold eM at this⊢;rw[aah,adg,aaY,u2];split<;>omega
structure sY(n:Nat)(row:List Nat):Prop where
 ne:row≠[]
 lt: ∀t∈row,t<n
 len:row.length<=13
theorem JE{n:Nat}(h:n=12\/n=8\/n=9\/n=10):8<=n/\n<=12:=by exact⟨h.elim (fun x1=> ";1=A12[8A" x1) (fun x1=>x1.elim (fun x1=> ";1=A8[8A" x1) (fun x1=>x1.elim (fun x1=> ";1=A9[8A" x1) (fun x1=> ";1=A10[8A" x1))),h.elim (fun x1=> "=A12[A12" x1) (fun x1=>x1.elim (fun x1=> "=A8[A12" x1) (fun x1=>x1.elim (fun x1=> "=A9[A12" x1) (fun x1=> "=A10[A12" x1)))⟩
theorem C7{f:Fg}{n m:Nat}:b9 (n:Int) (aG n m) f=cA (br f) (aX n m):=by
 unfold b9;rw[HP,sM _ _ _ u3]
theorem DT{f:Fg}{n:Nat}{row:List Nat}(R:sY n row):dF (n:Int) (bE row) f=cA (br f) row:=by
 unfold dF;rw[KO,sM _ _ _ R.lt]
theorem sI{f:Fg}{n:Nat}:gQ (n:Int) f=2^(br f*n) -1:=by
 unfold gQ bl br;rw[aaD,<-Nat.pow_mul]
theorem yN{f:Fg}(F:f.Ok):5<=br f/\br f<=10:=by have:=F.more;unfold br;(simp at*;exact ">a6]a5" this.2)
theorem D5{w n:Nat}{g:Nat->Nat}(hw:5<=w)(hg: ∀i,g i<=13):bb w ((aac n).map g)<2^(n*w):=by
 have:=DZ w ((aac n).map g) fun d hd=>by
  obtain⟨i,_,rfl⟩:=Z1.mp hd;exact ZY (hg i) (aaa (by decide:13<2^5) (aat (by decide) hw))
 rwa [ZQ,abw] at this
theorem C3{n w:Nat}(hn:n<=12)(hw:w<=10):n*w<=120:=Nat.mul_le_mul hn hw
theorem JO{f:Fg}(F:f.Ok){n m:Nat}(hn:n<=12):b9 (n:Int) (aG n m) f<2^120:=by
 obtain⟨w1,w2⟩:=yN F;unfold b9;rw[HP];refine aaa (D5 w1 fun i=> ?_) (aat (by decide) (C3 hn w2));rw[u2];split<;>decide
theorem Wd{f:Fg}(F:f.Ok){n m:Nat}(h8:8<=n)(h12:n<=12){row:List Nat}(R:sY n row):vA (n:Int) (aG n m) (bE row) f:=by
 obtain⟨w1,w2⟩:=yN F;have xD:=C3 h12 w2;have Sy:40<=br f*n:=by rw[ab1];exact Nat.mul_le_mul h8 w1
 have hW:2^40<=2^(br f*n):=aat (by decide) Sy;have Ra:2^(br f*n)<=2^120:=aat (by decide) (by rw[ab1];exact xD);have hp:(2:Nat)^120<2^150:=by decide+kernel
 have I9:gQ (n:Int) f<2^120:=by rw[sI];exact "[A^120=+B1A<B^120" Ra (ZM ("[^40A[1A" hW))
 refine⟨abh (JO F h12) hp,?_,?_,abh I9 hp,?_⟩
 ·unfold dF
  rw[KO];exact aaa (D5 w1 fun i=>ZW aci R.len) (aat (by decide) (ZW xD (by decide)))
 ·rw[sI]
  exact(Nat.le_log2 (by exact "[^40A;1=+B1A!=B0" hW (ZM ("[^40A[1A" hW)))).mpr (by exact "[^40A;1=+B1A[^4B" hW (ZM ("[^40A[1A" hW)))
 ·have h1:b9 (n:Int) (aG n m) f*dF (n:Int) (bE row) f % gQ (n:Int) f<2^120:=abh (aaR _ (by rw[sI];exact "[^40A;1=+B1A<0B" hW (ZM ("[^40A[1A" hW)))) I9
  have h2:=j4 h1 (by decide);rw[Nat.add_div_right _ (by exact ZY (aav _) ‹_›)];have:=aao (b9 (n:Int) (aG n m) f*dF (n:Int) (bE row) f % gQ (n:Int) f).log2 (br f);show _+1<=128
  exact "<A120[BA[+B1_128" h2 this
theorem Wl{f:Fg}(F:f.Ok){n m:Nat}(h8:8<=n)(h12:n<=12)(hm:aX n m≠[]){row:List Nat}(R:sY n row):
 (fW (n:Int) (aG n m) (bE row) f).map (fun d:Nat=>(d:Int))++aaB ((n:Int) -(fW (n:Int) (aG n m) (bE row) f).length).toNat 0=(cQ (n:Int) (aG n m) (bE row)).map (fun x=>(x.length:Int))/\
 cm ((fW (n:Int) (aG n m) (bE row) f).map fun d:Nat=>(d:Int)) (some (-1)) none none≠[0]:=by
 obtain⟨w1,w2⟩:=yN F;have HS: ∀i,eM n (aX n m) row i<=13:=fun i=>ZW (Of n m i row) R.len
 have Hz:2^5<=2^br f:=aat (by decide) w1;have uo:b9 (n:Int) (aG n m) f*dF (n:Int) (bE row) f % gQ (n:Int) f=bb (br f) ((aac n).map (eM n (aX n m) row)):=by
  rw[C7,DT R,sI,D0 u3 R.lt];refine ab6 ?_;have:=D6 (br f) (by exact ZY (aav _) ‹_›) ((aac n).map (eM n (aX n m) row)) (by simp;exact "[8A!=A0" h8) fun d hd=>by
   obtain⟨i,_,rfl⟩:=Z1.mp hd;have:=HS i;exact "[^5A[B13[+B2A" Hz this
  rw[ZQ,abw,ab1] at this;exact "[+A2B;1=+C1B<AC" this (ZM ("[+A2B[1B" this))
 have jn:0<bb (br f) ((aac n).map (eM n (aX n m) row)):=by
  have e:(aac n).map (eM n (aX n m) row)=(aac n).map fun i=>(row.flatMap (fY n (aX n m))).count i:=(aa0 fun i hi=>Fv (aaq.mp hi) u3 row R.lt).symm
  rw[e,sM _ _ _ (fun x hx=>by
   obtain⟨b,hb,hx⟩:=acF.mp hx;obtain⟨a,ha,rfl⟩:=Z1.mp hx;exact aaR _ (by exact ZY (aav _) ‹_›))]
  obtain⟨b,hb⟩:=aeO _ R.ne;obtain⟨a,ha⟩:=aeO _ hm;have hx:(a+b)% n∈row.flatMap (fY n (aX n m)):=acF.mpr ⟨b,hb,Z1.mpr ⟨a,ha,rfl⟩⟩;have: ∀l:List Nat,∀x∈l,0<cA (br f) l:=fun l=>by
   induction l with
   |nil=>intro x hx;cases hx
   |cons y l ih=>
    intro x _;unfold cA;rw[aah,adg];have:=ab2 (br f*y);exact aaa ‹_› (adM _ _)
  exact this _ _ hx
 obtain⟨p1,p2,p3⟩:=TH (w:=br f) (by exact ZY (aav _) ‹_›) (c:=(aac n).map (eM n (aX n m) row)) (fun d hd=>by
  obtain⟨i,_,rfl⟩:=Z1.mp hd;have:=HS i;exact "[^5A[B13<BA" Hz this) jn
 have ho:fW (n:Int) (aG n m) (bE row) f=eV (br f) (bb (br f) ((aac n).map (eM n (aX n m) row))):=by unfold fW;rw[uo]
 rw[ho];rw[ZQ,abw] at p1 p2;generalize eV (br f) (bb (br f) ((aac n).map (eM n (aX n m) row)))=z at p1 p2 p3⊢;refine⟨?_,?_⟩
 ·have h1:(cQ (n:Int) (aG n m) (bE row)).map (fun x=>(x.length:Int))=((cQ (n:Int) (aG n m) (bE row)).map fun x=>x.length).map fun d:Nat=>(d:Int):=by rw[aaf];rfl
  rw[h1,XB (by exact ZY (aav _) ‹_›) R.lt,<-p2,aaA,List.map_replicate]
  congr 2
  simp
 ·rw[WO,<-aeA,ZQ]
  intro e;apply p3;generalize z.drop _=y at e⊢
  match y,e with
  |[x],e=>simp at e;rw[e]
noncomputable def fy(ty:List (Str×Str)):List (Nat×Str):=ty.map fun p=>(p.1.cps.getD 0 0,p.2)
theorem XA{ty:List (Str×Str)}(h: ∀p∈ty,oF p):ty=(fy ty).map fun p=>((⟨#[p.1]⟩:Str),p.2):=by
 unfold fy;rw[aaf]
 conv=>lhs;rw[<-List.map_id ty]
 refine aa0 fun p hp=> ?_
 obtain⟨sh,h1,_⟩:=h p hp;obtain⟨a,b⟩:=p;cases h1;rfl
theorem XP{x y:Str}(h:x.cps.toList=y.cps.toList):x=y:=by
 obtain⟨⟨a⟩⟩:=x;obtain⟨⟨b⟩⟩:=y;cases h;rfl
theorem yP(ty:List (Str×Str)):(cB (fy ty)).cps.toList=ty.flatMap fun p=>p.2.cps.toList:=by
 unfold cB fy;rw[CP,aaf,List.flatMap_map];rfl
theorem QF{ty:List (Str×Str)}(h: ∀p∈ty,oF p):vc (fy ty)=cB (fy ty):=by
 refine XP ?_;rw[yP];unfold vc;rw[CP]
 induction ty with
 |nil=>rfl
 |cons p ty ih=>
  have ih:=ih fun q hq=>h q (ZP _ hq)
  obtain⟨sh,h1,h2,h3⟩:=h p ZR;obtain⟨a,b⟩:=p;cases h1;rw[show fy ((⟨#[sh]⟩,b)::ty)=(sh,b)::fy ty from rfl,ado,aa3];dsimp only;rcases h3 with⟨h3,h4⟩|⟨h3,h4⟩
  ·rw[h3,if_neg (by decide),ih]
   have h4:b=⟨#[]⟩:=h4;rw[h4];rfl
  ·rw[h3,if_pos (by decide),aah,aa3,ih]
   have h4:i8 sh=b:=h4;rw[h4]
theorem KQ(dress:Int)(word:Str):((fj dress word).flatMap fun p=>p.2.cps.toList)=eO word:=by
 unfold fj eO;rw[List.flatMap_map];have: ∀(l:List Nat) (k:Nat),((l.zipIdx k).flatMap fun a=>(mZ dress a.1 a.2).2.cps.toList)=l.flatMap wF:=fun l=>by
  induction l with
  |nil=>intro k;rfl
  |cons c l ih=>
   intro k;rw[List.zipIdx_cons,aa3,aa3,ih]
   congr 1
   unfold mZ wF;cases dG cV (c:Int)<;>rfl
 exact this _ 0
theorem KP{az:List Int}{letters:Str}{first back strewn spot mark chosen dress:Int}{p:Str×Str}(h:p∈i4 az letters first back strewn spot mark chosen dress):
 p∈fj dress (eH chosen (fk letters (cM az first back)) 16)\/p∈k0 strewn mark:=by
 unfold i4 at h;dsimp only at h;simp only[aaw] at h;rcases h with(h|h)|h
 ·exact .inl (abl h)
 ·exact .inr h
 ·exact .inl (abx h)
theorem YI{az:List Int}{letters:Str}{first back strewn spot mark chosen dress:Int}{p:Str×Str}(h:p∈fj dress (eH chosen (fk letters (cM az first back)) 16)):
 p∈i4 az letters first back strewn spot mark chosen dress:=by
 unfold i4;dsimp only;rw[<-adz spot.toNat (fj dress _)] at h;simp only[aaw] at h⊢;rcases h with h|h
 ·exact .inl (.inl h)
 ·exact .inr h
theorem J9{az:List Int}{first back:Int}(hp:az≠[]){p:Int}:p∈cM az first back↔p∈az:=by
 unfold cM;dsimp only;have h:=cj (a:=first) (b:=az.length) (by have:=acu.mpr hp;exact acd.mpr ‹_›);obtain⟨j,hj,mJ⟩: ∃j:Nat,(first.fmod az.length).toNat=j/\j<=az.length:=⟨_,rfl,by(simp at*;exact ">a'A]a'A" h.2)⟩;rw[hj];have e:((az++az).drop j).take az.length=az.drop j++az.take j:=by
  rw[List.drop_append_of_le_length mJ,List.take_append,aaX (by rw[abk];exact ad5 _ _),abk,show az.length -(az.length -j)=j by exact Z5 ("=+ABC;1=+BDC[AD" (ZM ("=+ABC[AC" (ZM (mJ)))) (ZM (mJ))) (";1=+ABC=+BDC[DA" (ZM ("=+ABC[AC" (ZM (mJ)))) (ZM (mJ)))]
 rw[e];have e2:p∈az.drop j++az.take j↔p∈az:=by
  conv=>rhs;rw[<-adz j az]
  rw[aaw,aaw,or_comm]
 split
 ·rw[List.mem_reverse];exact e2
 ·exact e2
theorem WU{az:List Int}{first back:Int}(hp:az≠[]):(cM az first back).length<=az.length:=by
 unfold cM;dsimp only;split
 ·rw[aeG];exact aeH _ _
 ·exact aeH _ _
theorem K4(letters:Str)(places:List Int):(fk letters places).cps.toList=places.map fun p=>letters.cps.getD p.toNat 0:=by
 unfold fk;rw[CP,List.flatMap_map]
 induction places with
 |nil=>rfl
 |cons p r ih=>rw[aa3,ih];rfl
theorem O7{x:Str}(h: ∀c∈x.cps.toList,c∈mh):eO x=x.cps.toList:=by
 unfold eO;generalize x.cps.toList=l at h
 induction l with
 |nil=>rfl
 |cons c l ih=>
  rw[aa3,ih fun d hd=>h d (ZP _ hd)];unfold wF;rw[of_decide_eq_true (Z3.mp Em c (h c ZR))];rfl
theorem YK{az:List Int}{letters:Str}{first back strewn spot mark chosen dress:Int}(hp:az≠[])(hl: ∀p∈az,letters.cps.getD p.toNat 0∈mh)(hlen:az.length<=12):
 (∀p∈i4 az letters first back strewn spot mark chosen dress,oF p)/\(i4 az letters first back strewn spot mark chosen dress).length<=100/\
 (∀c∈(i4 az letters first back strewn spot mark chosen dress).flatMap (fun p=>p.2.cps.toList),(∃p∈az,c=letters.cps.getD p.toNat 0)\/ ∃m∈iU,c=m.toNat)/\
 ∀p∈az,letters.cps.getD p.toNat 0∈(i4 az letters first back strewn spot mark chosen dress).flatMap fun p=>p.2.cps.toList:=by
 have jV: ∀c,c∈(fk letters (cM az first back)).cps.toList↔ ∃p∈az,c=letters.cps.getD p.toNat 0:=fun c=>by
  rw[K4,Z1];constructor
  ·rintro⟨p,jm,rfl⟩;exact⟨p,(J9 hp).mp jm,rfl⟩
  ·rintro⟨p,jm,rfl⟩;exact⟨p,(J9 hp).mpr jm,rfl⟩
 have HK: ∀c∈(fk letters (cM az first back)).cps.toList,c∈mh:=fun c hc=>by
  obtain⟨p,jm,rfl⟩:=(jV c).mp hc;exact hl p jm
 have hex:eO (eH chosen (fk letters (cM az first back)) 16)=(fk letters (cM az first back)).cps.toList:=by
  rw[DX _ _ 16 (aab _),O7 HK]
 refine⟨fun p h=> ?_,?_,fun c hc=> ?_,fun p jm=> ?_⟩
 ·rcases KP h with h|h
  ·unfold fj at h
   obtain⟨q,hq,rfl⟩:=Z1.mp h;refine XD ?_;rcases K5 chosen _ 16 (aab _) (List.fst_mem_of_mem_zipIdx hq) with h|h
   ·exact .inl (HK _ h)
   ·exact .inr h
  ·exact(Kb p h).1
 ·have h1:(eH chosen (fk letters (cM az first back)) 16).length<=12:=by
   refine ZW (DY _ _ 16 (aab _)) ?_;have:(fk letters (cM az first back)).length=(fk letters (cM az first back)).cps.toList.length:=by rw[abr];rfl
   rw[this,K4,ZQ];exact ZW (WU hp) hlen
  have h2:(fj dress (eH chosen (fk letters (cM az first back)) 16)).length<=12:=by
   unfold fj;rw[ZQ,List.length_zipIdx,abr];exact h1
  have h3:(k0 strewn mark).length<=2:=by
   unfold k0;rw[aap,ZQ,ZQ];have a:=aeH 1 (dw.drop strewn.toNat);have b:=aeH 1 (iU.drop mark.toNat);exact "[A1[B1[+AB2" a b
  unfold i4;dsimp only;simp only[aap,aaU,abk];exact ":2[A12[B2[CA[DA[++CBD100" h2 h3 (abj _ _) (ad5 _ _)
 ·obtain⟨p,jm,hc⟩:=acF.mp hc
  rcases KP jm with h|h
  ·have:c∈eO (eH chosen (fk letters (cM az first back)) 16):=by
    rw[<-KQ dress];exact acF.mpr ⟨p,h,hc⟩
   rw[hex] at this;exact .inl ((jV c).mp this)
  ·exact .inr ((Kb p h).2 c hc)
 ·have:letters.cps.getD p.toNat 0∈eO (eH chosen (fk letters (cM az first back)) 16):=by
   rw[hex];exact(jV _).mpr ⟨p,jm,rfl⟩
  rw[<-KQ dress] at this;obtain⟨q,hq,hc⟩:=acF.mp this;exact acF.mpr ⟨q,YI hq,hc⟩
noncomputable def qh(n:Nat):Bool:=let L:=bA (n:Int)
 decide (L.cps.size=n)&&(aac n).all fun(i:Nat)=>decide (aau (abA (bQ L (i:Int)))=aau (bQ L (i:Int)))&&(aac n).all fun(j:Nat)=>(aau (bQ L (i:Int))==aau (bQ L (j:Int)))==decide (i=j)
theorem Vh:qh 8=true:=by decide+kernel
theorem Vi:qh 9=true:=by decide+kernel
theorem Vf:qh 10=true:=by decide+kernel
theorem Vg:qh 12=true:=by decide+kernel
theorem x9{n:Nat}(h:n=12\/n=8\/n=9\/n=10):qh n=true:=by
 rcases h with rfl|rfl|rfl|rfl
 ·exact Vg
 ·exact Vh
 ·exact Vi
 ·exact Vf
theorem ya{n:Nat}(h:qh n=true):(bA (n:Int)).cps.size=n/\ ∀i,i<n->aau (abA (bQ (bA (n:Int)) (i:Int)))=aau (bQ (bA (n:Int)) (i:Int))/\ ∀j,j<n->(aau (bQ (bA (n:Int)) (i:Int))==aau (bQ (bA (n:Int)) (j:Int)))=decide (i=j):=by
 unfold qh at h;dsimp only at h;obtain⟨h1,h2⟩:=ZT.mp h;refine⟨of_decide_eq_true h1,fun i hi=> ?_⟩;obtain⟨h3,h4⟩:=ZT.mp (Z3.mp h2 i (aaq.mpr hi));exact⟨of_decide_eq_true h3,fun j hj=>eq_of_beq (Z3.mp h4 j (aaq.mpr hj))⟩
theorem Vl{α β:Type}(s:β): ∀l:List α,(l.map fun z=>s)=aaB l.length s:=by
 intro rr
 induction rr with
 |nil=>
  exact rfl
 |cons a l ih=>
  exact by rw[aah,aaY,ab7,ih]
theorem zl(p t n:Nat):((p:Int)+(t:Int)).fmod (n:Int)=(((p+t)% n:Nat):Int):=by rw[<-Int.natCast_add,acN]
theorem Wr{n m i t:Nat}(hi:i<n)(ht:t<n):((aG n m).filter fun p=>decide ((p+(t:Int)).fmod (n:Int)=(i:Int))).length=if(i+n -t)% n∈aX n m then 1 else 0:=by
 rw[<-u2,<-Fw ht hi _ u3,dS];unfold fY;generalize aX n m=A
 induction A with
 |nil=>rfl
 |cons a A ih=>
  rw[aah,ac8,<-ih];show(List.filter _ ((a:Int)::bE A)).length=_
  rw[ado,zl]
  by_cases h:(a+t)% n=i
  ·rw[h];simp
  ·have: ¬((((a+t)% n:Nat):Int)=(i:Int)):=fun q=>h (by exact adD ‹_›)
   rw[if_neg (by simpa using this),if_neg (by simpa using h),adw]
theorem P9{n m:Nat}(h4:n=12\/n=8\/n=9\/n=10){row:List Nat}(hr: ∀t∈row,t<n):tG (bA (n:Int)) (eX (bA (n:Int)) (n:Int) (aG n m) (bE row))=cQ (n:Int) (aG n m) (bE row):=by
 obtain⟨hs,hl⟩:=ya (x9 h4);have hn:0<n:=by exact h4.elim (fun x1=> ";1=A12<0A" x1) (fun x1=>x1.elim (fun x1=> ";1=A8<0A" x1) (fun x1=>x1.elim (fun x1=> ";1=A9<0A" x1) (fun x1=> ";1=A10<0A" x1)))
 have hz:(bA (n:Int)).cps.toList.zipIdx=(aac n).map fun i=>((bA (n:Int)).cps.getD i 0,i):=by
  refine List.ext_getElem? fun k=> ?_
  rw[List.getElem?_zipIdx,aal]
  by_cases hk:k<n
  ·rw[List.getElem?_range hk]
   have h5:k<(bA (n:Int)).cps.size:=by simp[*]
   rw[ac0,acw h5];simp[Array.getD,h5]
  ·rw[ac2 (by rw[abr];exact "=AB!<CB[AC" hs hk),ac2 (by rw[abw];exact adV.mp ‹_›)];rfl
 unfold tG cQ;rw[hz,oa,bE,aaf,aaf];refine aa0 fun i hi=> ?_
 have hi:=aaq.mp hi;simp only[aaF];have kL:aau (if((i:Int).fmod 2 !=0)=true then abA ⟨#[(bA (n:Int)).cps.getD i 0]⟩ else⟨#[(bA (n:Int)).cps.getD i 0]⟩)=aau (bQ (bA (n:Int)) (i:Int)):=by
  have e:(⟨#[(bA (n:Int)).cps.getD i 0]⟩:Str)=bQ (bA (n:Int)) (i:Int):=by unfold bQ;rw[aaD]
  rw[e];split
  ·exact(hl i hi).1
  ·rfl
 unfold ru;rw[kL];unfold eX;rw[List.filter_flatMap,aes];have hF:((bE row).filter fun t=>decide (((i:Int) -t).fmod (n:Int)∈aG n m)).map (fun t=>((toString t:String):Str))=(bE row).flatMap fun t=>if decide (((i:Int) -t).fmod (n:Int)∈aG n m) then[((toString t:String):Str)] else[]:=(rj _ _ _).symm
 rw[hF];have dK: ∀(l:List Int) (f g:Int->List Str),(∀a∈l,f a=g a)->l.flatMap f=l.flatMap g:=fun l f g h=>by
  induction l with
  |nil=>rfl
  |cons a l ih=>rw[aa3,aa3,h a ZR,ih fun b hb=>h b (ZP _ hb)]
 refine dK _ _ _ fun t ht=> ?_
 obtain⟨b,hb,rfl⟩:=Z1.mp ht;have tU:=hr b hb;rw[adA,aaf];have h2:(aG n m).filter ((fun p:Str×Str=>aau p.1==aau (bQ (bA (n:Int)) (i:Int)))∘ek (bA (n:Int)) (n:Int) (b:Int))=(aG n m).filter fun p=>decide ((p+(b:Int)).fmod (n:Int)=(i:Int)):=by
  refine ade fun p hp=> ?_
  obtain⟨a,ha,_,rfl⟩:=sd.mp hp;simp only[aaF];have hj:(a+b)% n<n:=aaR _ hn;have h3:aau (ek (bA (n:Int)) (n:Int) (b:Int) (a:Int)).1=aau (bQ (bA (n:Int)) (((a+b)% n:Nat):Int)):=by
   unfold ek;rw[zl];split
   ·rfl
   ·exact(hl _ hj).1
  rw[h3,(hl _ hj).2 i hi,zl];exact decide_eq_decide.mpr ⟨fun q=>by rw[q],fun q=>by exact adD ‹_›⟩
 rw[h2];have h4:((aG n m).filter fun p=>decide ((p+(b:Int)).fmod (n:Int)=(i:Int))).map ((fun p:Str×Str=>p.2)∘ek (bA (n:Int)) (n:Int) (b:Int))=((aG n m).filter fun p=>decide ((p+(b:Int)).fmod (n:Int)=(i:Int))).map fun z=>((toString (b:Int):String):Str):=rfl
 rw[h4,Vl,Wr hi tU,DL hn tU,dS]
 by_cases hm:(i+n -b)% n∈aX n m
 ·rw[if_pos hm,if_pos (decide_eq_true (kU.mpr hm))];rfl
 ·rw[if_neg hm,if_neg (by simpa using fun q=>hm (kU.mp q))];rfl
theorem DM{α:Type}[DecidableEq α]: ∀{l m:List α},l.Nodup->(∀a∈l,a∈m)->l.length<=m.length
 |[],m,_,_=>aav _
 |a::l,m,hn,h=>by
  have h1:=h a ZR;obtain⟨ha,hn⟩:=abC.mp hn;have:=DM (l:=l) (m:=m.erase a) hn fun b hb=>(List.mem_erase_of_ne (fun e:b=a=>ha (e▸hb))).mpr (h b (ZP _ hb))
  rw[List.length_erase_of_mem h1] at this;have h2:=List.length_pos_of_mem h1;rw[aaY];exact "[AB=+B1C[+A1C" this (ZM ("<0A[1A" h2))
theorem Kw{α:Type}(q:α->Bool): ∀l:List α,(l.filter q).length+(l.filter fun a=> !q a).length=l.length:=by
 intro rr
 induction rr with
 |nil=>
  exact rfl
 |cons a l ih=>
  exact by
   have:=ih;rw[ado,ado];cases h:q a<;>simp<;>lia
theorem PS{n o1 o2 c:Int}(hn:n=12\/n=8\/n=9\/n=10)(h1:0<=o1/\o1<n)(h2:0<=o2/\o2<n)(e:(o1+c).fmod n=(o2+c).fmod n):o1=o2:=by
 have hp:0<=n:=by exact "]0a>ab]0b" h1.1 h1.2
 rw[aco _ hp,aco _ hp] at e;have:=(Int.emod_add_cancel_right c).mp e
 rwa [Int.emod_eq_of_lt h1.1 h1.2,Int.emod_eq_of_lt h2.1 h2.2] at this
set_option tactic.hygienic true in
theorem Om{pal:List Int}{n:Int}(hn:n=12\/n=8\/n=9\/n=10)(hp:pal.Nodup)(dY: ∀p∈pal,0<=p/\p<n)(k:Nat): ∀(left l:List Int),left.Nodup->ja pal n k left=some l->left.length=pal.length*l.length/\ ∀t∈l,0<=t/\t<n:=by
 induction k with
 |zero=>exact fun z z z h=>fM h
 |succ k ih=>
  intro left l hl h;cases left with
  |nil=>cases gR h;exact⟨rfl,fun t ht=>vw ht⟩
  |cons x r=>
   rw[wj] at h;obtain⟨aN,h1,h2⟩:=List.exists_of_findSome?_eq_some h;unfold lg at h2;split at h2
   ·rename_i hc
    cases e:ja pal n k ((x::r).filter fun p=> !decide (p∈bT pal n x aN)) with
    |none=>rw[e] at h2;cases h2
    |some l'=>
     rw[e] at h2;cases h2;obtain⟨i1,i2⟩:=ih _ l' (aev _ hl) e;have Rp:(bT pal n x aN).Nodup:=by
      unfold bT;refine List.pairwise_map.mpr (List.Pairwise.imp_of_mem (fun{a b} ha hb mD q=>mD ?_) hp);have e1:a+x -aN=a+(x -aN):=by exact "@#-+abc+a-bc" ()
      have e2:b+x -aN=b+(x -aN):=by exact "@#-+abc+a-bc" ()
      rw[e1,e2] at q;exact PS hn (dY a ha) (dY b hb) q
     have dk: ∀a∈bT pal n x aN,a∈x::r:=fun a ha=>of_decide_eq_true (Z3.mp hc a ha)
     have b7:((x::r).filter fun p=>decide (p∈bT pal n x aN)).length=pal.length:=by
      have ha:=DM Rp (m:=(x::r).filter fun p=>decide (p∈bT pal n x aN)) fun a ha=>aaQ.mpr ⟨dk a ha,decide_eq_true ha⟩
      have hb:=DM (l:=(x::r).filter fun p=>decide (p∈bT pal n x aN)) (m:=bT pal n x aN) (aev _ hl) fun a ha=>of_decide_eq_true (aaQ.mp ha).2
      have hc:(bT pal n x aN).length=pal.length:=by unfold bT;rw[ZQ]
      exact Z5 ("[AB=BC[AC" hb hc) ("[AB;1=AC[CB" ha hc)
     have hs:=Kw (fun p=>decide (p∈bT pal n x aN)) (x::r);refine⟨?_,fun t ht=> ?_⟩
     ·rw[aaY (a:=(x -aN).fmod n),acH,adJ,<-i1]
      exact "@;1=AB=+ACD=D+CB" b7 hs
     ·rcases ZU.mp ht with rfl|ht
      ·exact cj (by exact hn.elim (fun x1=> ";1#a12>0a" x1) (fun x1=>x1.elim (fun x1=> ";1#a8>0a" x1) (fun x1=>x1.elim (fun x1=> ";1#a9>0a" x1) (fun x1=> ";1#a10>0a" x1))))
      ·exact i2 t ht
   ·cases h2
theorem JU{n m:Nat}:(kZ (n:Int) (aG n m)).length+(aX n m).length=n:=by
 have h:=Kw (fun i=>decide (i∈aX n m)) (aac n);rw[abw] at h;have h1:(aac n).filter (fun i=>decide (i∈aX n m))=aX n m:=by
  unfold aX;refine ade fun i hi=> ?_
  by_cases h:m.testBit i=true
  ·rw[h];exact decide_eq_true (aaQ.mpr ⟨hi,h⟩)
  ·rw[show m.testBit i=false by simpa using h];exact decide_eq_false fun q=>h (aaQ.mp q).2
 have h2:(kZ (n:Int) (aG n m)).length=((aac n).filter fun i=> !decide (i∈aX n m)).length:=by
  unfold kZ;rw[oa,adA,ZQ]
  congr 1
  refine ade fun i hi=> ?_
  simp only[aaF];rw[dS]
  congr 1
  exact decide_eq_decide.mpr kU
 rw[h1] at h;exact "@;1=+ABC;1=DB=+DAC" h h2
theorem E8{l:List Nat}(h:l.Nodup):(bE l).Nodup:=List.pairwise_map.mpr (List.Pairwise.imp (fun mD q=>mD (by exact adD ‹_›)) h)
theorem vg{n m:Nat}(h4:n=12\/n=8\/n=9\/n=10)(hm:aX n m≠[]){r:List Int}(h:cW (n:Int) (aG n m)=some r):n=(aX n m).length*(1+r.length)/\(∀t∈r,0<=t/\t<(n:Int))/\r.length<=12:=by
 have ry:(n:Int)=12\/(n:Int)=8\/(n:Int)=9\/(n:Int)=10:=by lia
 have dY: ∀p∈aG n m,0<=p/\p<(n:Int):=fun p hp=>by
  obtain⟨i,hi,_,rfl⟩:=sd.mp hp;exact⟨Z0 _,acd.mpr ‹_›⟩
 have eR:(kZ (n:Int) (aG n m)).Nodup:=by
  unfold kZ;rw[oa];exact aev _ (E8 List.nodup_range)
 obtain⟨a,b⟩:=Om ry (E8 (J4 n m)) dY 13 _ r eR h;have hlen:(aG n m).length=(aX n m).length:=by rw[dS,bE,ZQ]
 have ho:=JU (n:=n) (m:=m);have jn:=acu.mpr hm;have a':(kZ (n:Int) (aG n m)).length=(aG n m).length*r.length:=a;have e:n=(aX n m).length*(1+r.length):=by rw[acH,adJ,<-hlen,<-a'];exact "@=AB=+CBD=D+AC" hlen ho
 refine⟨e,b,?_⟩;have:1*(1+r.length)<=(aX n m).length*(1+r.length):=acM _ jn;exact ry.elim (fun x3=> ";1=AB[*1+1CB#'A12[C12" e this x3) (fun x3=>x3.elim (fun x3=> ";1=AB[*1+1CB#'A8[C12" e this x3) (fun x3=>x3.elim (fun x3=> ";1=AB[*1+1CB#'A9[C12" e this x3) (fun x3=> ";1=AB[*1+1CB#'A10[C12" e this x3)))
noncomputable def vK(n k:Nat):List T3:=(gf ((2^(k+5):Nat):Int) [] (ft (n:Int))).drop 1
noncomputable def pick:List T3->Nat->List T3
 |[],_=>[]
 |t::L,c=>if c % 2=1 then t::pick L (c/2) else pick L (c/2)
theorem WS(t:T3)(L:List T3)(c:Nat):pick (t::L) c=if c % 2=1 then t::pick L (c/2) else pick L (c/2):=rfl
noncomputable def Ka(ins:List (Int×Int)):Int:=(2:Int)^((ins.map (·.2)).count 2)*3^((ins.map (·.2)).count 3)*5^((ins.map (·.2)).count 5)
noncomputable def z7(ins:List (Int×Int)):Bool:=decide (((n8 (ins.map (·.1))).filter fun s=> !decide (s∈ins.map (·.1)))=[])
noncomputable def gU(k:Nat)(t:T3):Int×Int:=(t.1,t.2.1.fmod (((2^(k+5):Nat):Int) -1))
noncomputable def vr(n:Nat):List Nat:=match n with
 |8=>[1,2,2,4,2,4,4,8]
 |9=>[1,3,3,9]
 |10=>[1,2,5,0,1,2,5,10]
 |12=>[1,2,3,0,2,4,0,0,1,2,3,6,2,4,0,0,1,2,3,0,2,4,6,0,1,2,3,6,2,4,6,12]
 |_=>[]
noncomputable def gP(n k:Nat):List Nat:=match n,k with
 |8,0=>[33,1025,1048577]|8,1=>[65,4097,16777217]|8,2=>[129,16385,268435457]|8,3=>[257,65537,4294967297]|8,4=>[513,262145,68719476737]|8,5=>[1025,1048577,1099511627777]
 |9,0=>[1057,1073774593]|9,1=>[4161,68719738881]|9,2=>[16513,4398048608257]|9,3=>[65793,281474993487873]|9,4=>[262657,18014398643699713]|9,5=>[1049601,1152921505680588801]
 |10,0=>[33,1082401,1016801]|10,1=>[65,17043521,16519105]|10,2=>[129,270549121,266354561]|10,3=>[257,4311810305,4278255361]|10,4=>[513,68853957121,68585520641]|10,5=>[1025,1100586419201,1098438933505]
 |12,0=>[33,1057,1025,993,1047553]|12,1=>[65,4161,4097,4033,16773121]|12,2=>[129,16513,16385,16257,268419073]|12,3=>[257,65793,65537,65281,4294901761]|12,4=>[513,262657,262145,261633,68719214593]|12,5=>[1025,1049601,1048577,1047553,1099510579201]
 |_,_=>[]
noncomputable def sA(n k:Nat):Bool:=decide ((vK n k).map (fun t=>t.2.1)=(gP n k).map fun(v:Nat)=>(v:Int))&&((gP n k).all fun v=>decide (0<v))&&
 ((aac (2^(vK n k).length)).all fun c=>let i:=(pick (vK n k) c).map (gU k);decide (((vr n).getD c 0:Int)=if z7 i then Ka i else 0))
theorem Yq:(aac 6).all (sA 8)=true:=by decide+kernel
theorem Yr:(aac 6).all (sA 9)=true:=by decide+kernel
theorem Yo:(aac 6).all (sA 10)=true:=by decide+kernel
theorem Yp:(aac 6).all (sA 12)=true:=by decide+kernel
theorem Ys{n k:Nat}(h:n=12\/n=8\/n=9\/n=10)(hk:k<6):sA n k=true:=by
 rcases h with rfl|rfl|rfl|rfl
 ·exact Z3.mp Yp k (aaq.mpr hk)
 ·exact Z3.mp Yq k (aaq.mpr hk)
 ·exact Z3.mp Yr k (aaq.mpr hk)
 ·exact Z3.mp Yo k (aaq.mpr hk)
noncomputable def eL:List Nat->Nat->Nat
 |[],_=>0
 |v::vs,N=>(if aak (N % v) 0 then 1 else 0)+2*eL vs N
theorem z5(v:Nat)(vs:List Nat)(N:Nat):eL (v::vs) N=(if aak (N % v) 0 then 1 else 0)+2*eL vs N:=rfl
theorem Fm(N:Nat): ∀vs:List Nat,eL vs N<2^vs.length:=by
 intro rr
 induction rr with
 |nil=>
  exact Nat.one_pos
 |cons v vs ih=>
  exact by
   have:=ih;rw[z5,aaY,Nat.pow_succ];split<;>lia
theorem WT(N:Nat)(L:List T3): ∀(vs:List Nat),L.map (fun t=>t.2.1)=vs.map (fun(v:Nat)=>(v:Int))->(L.filter fun t=>(N:Int).fmod t.2.1==0)=pick L (eL vs N):=by
 induction L with
 |nil=>exact fun z z=>rfl
 |cons t L ih=>
  intro vs h;cases vs with
  |nil=>exact absurd h (ael _ _)
  |cons v vs=>
   obtain⟨h1,h2⟩:=List.cons.inj h;have h1:t.2.1=(v:Int):=h1;rw[ado,ih vs h2,h1,<-acN,z5,WS]
   by_cases hz:N % v=0
   ·have e1:aak (N % v) 0=true:=by rw[hz];rfl
    rw[e1,hz];have e2:(1+2*eL vs N)% 2=1:=by simp
    have e3:(1+2*eL vs N)/2=eL vs N:=by exact Z5 ("=+*2AB+1*2C:2[AC" (aan _ _)) ("=A1;1=+*2BA+1*2C:2[CB" e2 (aan _ _))
    rw[if_pos (show(((0:Nat):Int)==0)=true from rfl)];simp only[if_true];rw[if_pos e2,e3]
   ·have e1:aak (N % v) 0=false:=by
     cases h:aak (N % v) 0 with
     |false=>rfl
     |true=>exact absurd (aa7 h) hz
    rw[e1];have e2: ¬((0+2*eL vs N)% 2=1):=by simp
    have e3:(0+2*eL vs N)/2=eL vs N:=by simp
    have e4: ¬((((N % v:Nat):Int)==0)=true):=by
     rw[beq_iff_eq];lia
    rw[if_neg e4];simp only[abU,if_false];rw[if_neg e2,e3]
theorem Yw{n k m:Nat}{f:Fg}(h4:n=12\/n=8\/n=9\/n=10)(hk:k<6)(hf:f.more=k)(hm:aX n m≠[]):
 oj (ju (n:Int) (aG n m) f) (aG n m)=((vr n).getD (eL (gP n k) (b9 (n:Int) (aG n m) f)) 0==(aX n m).length):=by
 have ht:=Ys h4 hk;unfold sA at ht;dsimp only at ht;obtain⟨ht,t3⟩:=ZT.mp ht;obtain⟨t1,t2⟩:=ZT.mp ht;have t1:=of_decide_eq_true t1;obtain⟨hb,hw⟩:=vQ hf;have RZ:ju (n:Int) (aG n m) f=(pick (vK n k) (eL (gP n k) (b9 (n:Int) (aG n m) f))).map (gU k):=by
  unfold ju jZ cR;rw[hb];rw[show(gf ((2^(k+5):Nat):Int) [] (ft (n:Int))).drop 1=vK n k from rfl,WT _ _ _ t1];rfl
 have hlen:(vK n k).length=(gP n k).length:=by have:=congrArg List.length t1;simpa using this
 have hc:=Z3.mp t3 _ (aaq.mpr (by rw[hlen];exact Fm (b9 (n:Int) (aG n m) f) (gP n k)));have hc:=of_decide_eq_true hc;rw[<-RZ] at hc;generalize eL (gP n k) (b9 (n:Int) (aG n m) f)=c at hc;have rH:(aG n m).length=(aX n m).length:=by rw[dS,bE,ZQ]
 have jn:=acu.mpr hm;have jt:oj (ju (n:Int) (aG n m) f) (aG n m)=((Ka (ju (n:Int) (aG n m) f)==((aG n m).length:Int))&&z7 (ju (n:Int) (aG n m) f)):=rfl;rw[jt,rH];cases mF:z7 (ju (n:Int) (aG n m) f) with
 |true=>
  rw[mF,if_pos rfl] at hc;rw[<-hc,acn,aa9,beq_iff_eq,beq_iff_eq];exact⟨fun x1=> "@;1#'A'B=AB" x1,fun x1=> "@;1=AB#'A'B" x1⟩
 |false=>
  rw[mF,if_neg aa5] at hc;rw[Bool.and_false];have:(vr n).getD c 0=0:=by exact "@;1#'A0=A0" hc
  rw[this]
  symm
  rw[beq_eq_false_iff_ne];exact abV ‹_›
noncomputable def iA(w m:Nat):Nat->Nat
 |0=>0
 |n+1=>iA w m n+(if m.testBit n then 2^(w*n) else 0)
noncomputable def fq(m:Nat):Nat->Nat
 |0=>0
 |n+1=>fq m n+(if m.testBit n then 1 else 0)
theorem yk(w m n:Nat):iA w m (n+1)=iA w m n+(if m.testBit n then 2^(w*n) else 0):=rfl
theorem we(m n:Nat):fq m (n+1)=fq m n+(if m.testBit n then 1 else 0):=rfl
theorem J5(n m:Nat):aX (n+1) m=aX n m++if m.testBit n then[n] else[]:=by
 unfold aX;rw[List.range_succ,List.filter_append]
 congr 1
 cases h:m.testBit n<;>simp[h]
theorem JN(w m:Nat): ∀n,cA w (aX n m)=iA w m n:=by
 intro rr
 induction rr with
 |zero=>
  exact rfl
 |succ n ih=>
  exact by
   rw[J5,yk,<-ih];unfold cA;rw[aaA,List.sum_append];split<;>simp
theorem z4(m:Nat): ∀n,(aX n m).length=fq m n:=by
 intro rr
 induction rr with
 |zero=>
  exact rfl
 |succ n ih=>
  exact by
   rw[J5,we,<-ih,aap];split<;>simp
noncomputable def k8(n m s:Nat):Nat:=Nat.land (Nat.lor (aay m s) (adp m (aaO n s))) (aaO (Nat.pow 2 n) 1)
noncomputable def nE(n m:Nat):Nat->Nat->Option (List Nat)
 |0,_=>none
 |k+1,L=>match aX n L with
  |[]=>some []
  |x::_=>(aX n m).findSome? fun i=>match aak (Nat.land (k8 n m (acR (aaO (acr x n) i) n)) L) (k8 n m (acR (aaO (acr x n) i) n)) with
   |true=>(nE n m k (Nat.xor L (k8 n m (acR (aaO (acr x n) i) n)))).map fun l=>acR (aaO (acr x n) i) n::l
   |false=>none
theorem Km{n m s y:Nat}(hm:m<2^n)(hs:s<n):(k8 n m s).testBit y=(decide (y<n)&&m.testBit ((y+n -s)% n)):=by
 show((m<<<s|||m>>>(n -s))&&&(2^n -1)).testBit y=_
 rw[Nat.and_two_pow_sub_one_eq_mod,Nat.testBit_mod_two_pow]
 by_cases hy:y<n
 ·rw[decide_eq_true hy,adU,adU,Nat.testBit_or,Nat.testBit_shiftLeft,Nat.testBit_shiftRight]
  by_cases h:s<=y
  ·have e1:(y+n -s)% n=y -s:=by
    have e:y+n -s=(y -s)+n:=by exact Z5 ("=+AB+CD;1=+EBC[A+ED" (ZM ("<AB[A+CB" hs)) (ZM (h))) ("=+ABC;1=+DB+CE[+AED" (ZM (h)) (ZM ("<AB[A+CB" hs)))
    rw[e,Nat.add_mod_right,ab6 (by exact ZY (ad5 _ _) ‹_›)]
   have e2:m.testBit (n -s+y)=false:=adv (aaa hm (aat (by decide) (by exact "[AB;1=+CAD[D+CB" h (ZM ("<AB[AB" hs)))));rw[e1,e2,decide_eq_true (show y>=s from h)];simp
  ·have e1:(y+n -s)% n=n -s+y:=by
    rw[show y+n -s=n -s+y by exact Z5 ("=+AB+CD;1=+EBD[A+EC" (ZM ("<AB[A+CB" hs)) (ZM ("<AB[AB" hs))) ("=+ABC;1=+DB+EC[+AED" (ZM ("<AB[AB" hs)) (ZM ("<AB[A+CB" hs))),ab6 (by exact "![AB=+CAD<+CBD" h (ZM ("<AB[AB" hs)))]
   rw[e1,decide_eq_false (show¬y>=s from h)];simp
 ·rw[decide_eq_false hy];simp
theorem qu{n m i:Nat}:i∈aX n m↔i<n/\m.testBit i=true:=by
 unfold aX;rw[aaQ,aaq]
theorem Og{n m x i y:Nat}(hm:m<2^n)(hx:x<n)(hi:i<n)(hy:y<n):(y:Int)∈bT (aG n m) (n:Int) (x:Int) (i:Int)↔(k8 n m ((x+n -i)% n)).testBit y=true:=by
 have hn:0<n:=by exact ZY (aav _) ‹_›
 have hs:(x+n -i)% n<n:=aaR _ hn;rw[Km hm hs,decide_eq_true hy,adU];generalize xJ:(x+n -i)% n=s at*;have I7: ∀a:Nat,((a:Int)+(x:Int) -(i:Int)).fmod (n:Int)=(((a+s)% n:Nat):Int):=fun a=>by
  have e:(a:Int)+(x:Int) -(i:Int)=((a+(x+n -i):Nat):Int) -(n:Int):=by exact ab0 (";1=+AB+CD]-+'E'C'B-'+EA'D" (ZM ("<AB[A+CB" hi))) ("=+AB+CD]-'+EA'D-+'E'C'B" (ZM ("<AB[A+CB" hi)))
  rw[e,Int.sub_fmod_right,<-acN,<-xJ]
  congr 1
  rw[Nat.add_mod_mod]
 unfold bT;rw[dS,bE,aaf,Z1];have hinv: ∀a,a<n->((a+s)% n=y↔a=(y+n -s)% n):=fun a ha=>JD ha hs hy
 constructor
 ·rintro⟨a,ha,e⟩
  simp only[aaF] at e;rw[I7] at e;obtain⟨a1,a2⟩:=qu.mp ha;have:=(hinv a a1).mp (by exact adD ‹_›);rw[<-this];exact a2
 ·intro h
  have hb:(y+n -s)% n<n:=aaR _ hn;refine⟨(y+n -s)% n,qu.mpr ⟨hb,h⟩,?_⟩;simp only[aaF];rw[I7,(hinv _ hb).mpr rfl]
theorem PL{α β γ:Type}(g:α->γ)(f:γ->Option β)(h:α->Option β): ∀l:List α,(∀a∈l,f (g a)=h a)->(l.map g).findSome? f=l.findSome? h:=by
 intro rr
 induction rr with
 |nil=>
  exact fun z=>rfl
 |cons a l ih=>
  exact fun hh=>by
   rw[aah,aeI,aeI,hh a ZR,ih fun b hb=>hh b (ZP _ hb)]
theorem PM{α β γ:Type}(g:β->γ)(f:α->Option β): ∀l:List α,(l.findSome? f).map g=l.findSome? fun a=>(f a).map g:=by
 intro rr
 induction rr with
 |nil=>
  exact rfl
 |cons a l ih=>
  exact by
   rw[aeI,aeI];cases h:f a with
   |none=>rw[ih];rfl
   |some b=>rfl
theorem Ol{n m:Nat}(hm:m<2^n): ∀(k L:Nat),L<2^n->ja (aG n m) (n:Int) k (aG n L)=(nE n m k L).map bE:=by
 intro rr
 induction rr with
 |zero=>
  exact fun L q=>rfl
 |succ k ih=>
  exact fun L hL=>by
   unfold nE;rw[dS n L];cases hp:aX n L with
   |nil=>rfl
   |cons x r=>
    have xM:x∈aX n L:=by rw[hp];exact ZR
    obtain⟨hx,_⟩:=qu.mp xM;rw[show bE (x::r)=(x:Int)::bE r from rfl,wj,PM];refine PL (fun(i:Nat)=>(i:Int)) _ _ (aX n m) fun i hi=> ?_
    obtain⟨hi,_⟩:=qu.mp hi;have hn:0<n:=by exact ZY (aav _) ‹_›
    show lg (aG n m) (n:Int) (x:Int) (bE r) k (i:Int)=Option.map bE (match aak ((k8 n m ((x+n -i)% n))&&&L) (k8 n m ((x+n -i)% n)) with
     |true=>(nE n m k (L^^^(k8 n m ((x+n -i)% n)))).map fun l=>(x+n -i)% n::l
     |false=>none)
    unfold lg;have Tt:(x:Int)::bE r=aG n L:=by rw[dS,hp];rfl
    rw[Tt];have S2:((x:Int) -(i:Int)).fmod (n:Int)=(((x+n -i)% n:Nat):Int):=DL hn hi;have Bu: ∀y:Nat,y<n->((y:Int)∈bT (aG n m) (n:Int) (x:Int) (i:Int)↔(k8 n m ((x+n -i)% n)).testBit y=true):=fun y hy=>Og hm hx hi hy
    have fx: ∀y,(k8 n m ((x+n -i)% n)).testBit y=true->y<n:=fun y h=>by
     rw[Km hm (aaR _ hn)] at h;exact of_decide_eq_true (ZT.mp h).1
    have mG: ∀z∈bT (aG n m) (n:Int) (x:Int) (i:Int),∃y:Nat,y<n/\z=y:=fun z hz=>by
     unfold bT at hz;obtain⟨a,_,rfl⟩:=Z1.mp hz;have:=cj (a:=a+x -i) (b:=(n:Int)) (by exact acd.mpr ‹_›);exact⟨((a+x -i).fmod (n:Int)).toNat,by simp[*],by exact(ZV (adn ‹_›)).symm⟩
    generalize hR:k8 n m ((x+n -i)% n)=R at*;have fD:(bT (aG n m) (n:Int) (x:Int) (i:Int)).all (fun p=>decide (p∈aG n L))=aak (R&&&L) R:=by
     rw[aa9,Z3];constructor
     ·intro h
      have:R&&&L=R:=by
       refine Nat.eq_of_testBit_eq fun y=> ?_
       rw[Nat.testBit_and];cases hb:R.testBit y with
       |false=>rfl
       |true=>
        have hy:=fx y hb;have:=of_decide_eq_true (h _ ((Bu y hy).mpr hb));rw[dS] at this;rw[(qu.mp (kU.mp this)).2];rfl
      rw[this];exact Nat.beq_refl R
     ·intro h z hz
      have h:=aa7 h;obtain⟨y,hy,rfl⟩:=mG z hz;have hb:=(Bu y hy).mp hz;refine decide_eq_true ?_;rw[dS];refine kU.mpr (qu.mpr ⟨hy,?_⟩);have:=congrArg (fun t=>Nat.testBit t y) h;simp only[Nat.testBit_and,hb,adU] at this;exact this
    rw[fD];cases Rm:aak (R&&&L) R with
    |false=>rfl
    |true=>
     rw[if_pos rfl];have eB:=aa7 Rm;have t7:(aG n L).filter (fun p=> !decide (p∈bT (aG n m) (n:Int) (x:Int) (i:Int)))=aG n (L^^^R):=by
      rw[dS n L,dS n (L^^^R)];unfold bE;rw[adA]
      congr 1
      unfold aX;rw[List.filter_filter];refine ade fun y hy=> ?_
      have hy:=aaq.mp hy;simp only[aaF];rw[Nat.testBit_xor];have:=congrArg (fun t=>Nat.testBit t y) eB;simp only[Nat.testBit_and] at this;have hd:decide ((y:Int)∈bT (aG n m) (n:Int) (x:Int) (i:Int))=R.testBit y:=by
       rw[aa9,decide_eq_true_eq];exact Bu y hy
      rw[hd];cases h1:R.testBit y<;>cases h2:L.testBit y<;>simp_all
     have Q6:R<2^n:=by
      rw[<-hR];show _&&&(2^n -1)<_
      rw[Nat.and_two_pow_sub_one_eq_mod];exact aaR _ (ab2 n)
     rw[t7,ih (L^^^R) (Nat.xor_lt_two_pow hL Q6),S2];cases nE n m k (L^^^R) with
     |none=>rfl
     |some l=>rfl
theorem Wj{n m:Nat}(hm:m<2^n):kZ (n:Int) (aG n m)=aG n (2^n -1 -m):=by
 unfold kZ;rw[oa,dS n (2^n -1 -m)];unfold bE;rw[adA]
 congr 1
 unfold aX;refine ade fun i hi=> ?_
 have hi:=aaq.mp hi;simp only[aaF];have e:2^n -1 -m=2^n -(m+1):=by lia
 rw[e,Nat.testBit_two_pow_sub_succ hm,decide_eq_true hi,adU];have:decide ((i:Int)∈aG n m)=m.testBit i:=by
  rw[aa9,decide_eq_true_eq,dS,kU,qu];exact⟨fun h=>h.2,fun h=>⟨hi,h⟩⟩
 rw[this]
theorem rest_eq{n m:Nat}(hm:m<2^n):cW (n:Int) (aG n m)=(nE n m 13 (2^n -1 -m)).map bE:=by
 unfold cW;rw[Wj hm,Ol hm 13 _ (by exact "=+ABC=+C1D<AD" (ZM ("<AB;1=+C1B[AC" hm (ZM ("<AB[1B" hm)))) (ZM ("<AB[1B" hm)))]
noncomputable def bh{α:Type}(x:Nat)(f:Nat->α):α:=Nat.rec (f 0) (fun p z=>f (adN p)) x
theorem cX{α:Type}(x:Nat)(f:Nat->α):bh x f=f x:=by cases x<;>rfl
noncomputable def bK(leaf:Nat->Nat->Nat->Bool)(w d:Nat):Nat->Nat->Nat->Bool:=Nat.rec leaf (fun d ih m c N=>Bool.rec false (bh (acr m (Nat.pow 2 d)) fun m'=>bh (acr N (Nat.pow 2 (adq w d))) fun N'=>ih m' (adN c) N') (ih m c N)) d
theorem m9(leaf:Nat->Nat->Nat->Bool)(w d m c N:Nat):bK leaf w (d+1) m c N=(bK leaf w d m c N&&bK leaf w d (m+2^d) (c+1) (N+2^(w*d))):=by
 show(Bool.rec false (bh (acr m (Nat.pow 2 d)) fun m'=>bh (acr N (Nat.pow 2 (adq w d))) fun N'=>bK leaf w d m' (adN c) N') (bK leaf w d m c N):Bool)=_
 rw[cX,cX];cases bK leaf w d m c N<;>rfl
theorem N6{x d:Nat}: ∀{i:Nat},i<=d->fq (2^d+x) i=fq x i:=by
 intro rr
 induction rr with
 |zero=>exact fun z=>rfl
 |succ i ih=>exact fun h=>by rw[we,we,ih (by exact abq ‹_›),aeC ‹_›]
theorem Wc{w x d:Nat}: ∀{i:Nat},i<=d->iA w (2^d+x) i=iA w x i:=by
 intro rr
 induction rr with
 |zero=>exact fun z=>rfl
 |succ i ih=>exact fun h=>by rw[yk,yk,ih (by exact abq ‹_›),aeC ‹_›]
theorem K0{leaf:Nat->Nat->Nat->Bool}{w:Nat}{d:Nat}: ∀{m c N:Nat},bK leaf w d m c N=true-> ∀{x:Nat},x<2^d->leaf (m+x) (c+fq x d) (N+iA w x d)=true:=by
 induction d with
 |zero=>
  intro m c N h x hx;cases Nat.lt_one_iff.mp hx;exact h
 |succ d ih=>
  intro m c N h x hx;rw[m9] at h;obtain⟨h1,h2⟩:=ZT.mp h;rw[we,yk]
  by_cases hc:x<2^d
  ·rw[adv hc]
   exact ih h1 hc
  ·obtain⟨y,rfl⟩: ∃y,x=2^d+y:=⟨x -2^d,by exact Z5 (";1=+ABC[C+BA" (ZM ("!<AB[BA" hc))) ("=+ABC[+BAC" (ZM ("!<AB[BA" hc)))⟩
   have hy:y<2^d:=by rw[Nat.pow_succ] at hx;exact "<+AB%A2<BA" hx
   have:=ih h2 hy;rw[Nat.testBit_two_pow_add_eq,adv hy,N6 (aab d),Wc (aab d)];rw[show m+(2^d+y)=m+2^d+y by exact(Nat.add_assoc _ _ _).symm,show c+(fq y d+if(!false)=true then 1 else 0)=c+1+fq y d by simp;exact "@=+A+B1++A1B" (),show N+(iA w y d+if(!false)=true then 2^(w*d) else 0)=N+2^(w*d)+iA w y d by simp;exact "@=+A+BC++ACB" ()];exact this
noncomputable def wg(vs:List Nat)(N:Nat):Nat:=List.rec 0 (fun v z ih=>Bool.rec (adq 2 ih) (adN (adq 2 ih)) (aak (acR N v) 0)) vs
theorem Ob(N:Nat): ∀vs:List Nat,wg vs N=eL vs N:=by
 intro rr
 induction rr with
 |nil=>
  exact rfl
 |cons v vs ih=>
  exact by
   show(Bool.rec (adq 2 (wg vs N)) (adN (adq 2 (wg vs N))) (aak (acR N v) 0):Nat)=_
   rw[ih,z5];rw[show acR N v=N % v from rfl];cases h:aak (N % v) 0 with
   |true=>show adN (2*eL vs N)=(if true=true then 1 else 0)+2*eL vs N;simp;exact acT _ _
   |false=>show 2*eL vs N=(if false=true then 1 else 0)+2*eL vs N;simp
noncomputable def lA(t m:Nat):Nat:=Nat.land (adp t m) 1
noncomputable def cP(vs:List Nat)(T tile m c N:Nat):Bool:=Bool.rec (aak (lA tile m) 0) (aak (lA tile m) 1) (aak (Nat.land (adp T (adq 4 (wg vs N))) 15) c)
noncomputable def iz(n:Nat)(A:List Nat)(k:Nat):List Nat:=A.map fun a=>a*k % n
noncomputable def Gh(n c:Nat):List Nat:=(aac n).filter fun k=>decide (0<k)&&aak (Nat.gcd k c) 1
noncomputable def Ag(n m c:Nat)(row:List Nat):Bool:=
 ((Gh n c).all fun k=>aak (acR (adq (cA 4 (iz n (aX n m) k)) (cA 4 row)) (aaO (Nat.pow 2 (adq 4 n)) 1)) (bb 4 (aaB n 1)))&&
 (aac 6).all fun k=> !(og (n:Int) ((iA (k+5) m n:Nat):Int) ((cA (k+5) row:Nat):Int) ((2^(k+5):Nat):Int) ((2^((k+5)*n) -1:Nat):Int)).isEmpty
noncomputable def eY(n tile m c _N:Nat):Bool:=aak m 0||match aak (acR n c) 0 with
 |false=>aak (lA tile m) 0
 |true=>match nE n m 13 (2^n -1 -m) with
  |none=>aak (lA tile m) 0
  |some r=>aak (lA tile m) 1&&Ag n m c (0::r)
noncomputable def om:Nat:=57897811519644440702477834399906381750386768450375419113255833734109684275070
noncomputable def oq:Nat:=6703903964971298550513851223398529964454724316853976999976004762649658366946721802413347260398632246522793668378569617180489544077216240728659780157129110
noncomputable def m8:Nat:=89884656784971600374169454795875119260271634588122283856204695038020894891500241256591995789697970638666951976966992319955922050410105863387803931970062607213131170537298821114984021799121982278651264023409479810754038117199877865180005183028099646230469355435640321195947758230386531537263941776747436249950
noncomputable def iB:Nat:=522194440706576253402492790065704481789951099360849025696456321817311613287576304435817145960755793762674575073268543839687498263801826659697087481303797275606028769997870828584478585398590433776343981742581911321519346114866211955515472738886969300385429571718183226602206173061642361601496649758606228191174953566468310558388409405633866304840803464639968490435600134817253063282603585051145604612840042433940777335672762368996984925840416468813476492760908861491093616202296113696176742873368911442664334432579062186303494549783450047071038217112685283137468519698593871345403354119292244950907306710802133547189124018130430144248850346152433543854650374025355812115976474468063489924708387533872629922632277117275067336824438571703754657646800206034151747328343332029396316087996929346936804194775157047886307974769915892634390618272017615901233361390736059213819867354568429251062611203936131411919053568838123624726492119882248584796863167577922430215730782455503925791424475280459866114063088074751806208164533458317060449695687205348055715278943222729980547079001645230214755214322923758452747506562096608671058506982583266697459893729352695152873657717984291643336256675609329588796017221610740031972766163148643815380080638
noncomputable def qo:Nat:=2218934817
noncomputable def qp:Nat:=37681
noncomputable def qm:Nat:=2770404641
noncomputable def qn:Nat:=263531845333093479883415247379146867489
noncomputable def fK(n:Nat):Nat:=match n with
 |8=>om
 |9=>oq
 |10=>m8
 |12=>iB
 |_=>0
noncomputable def qq(n:Nat):Nat:=match n with
 |8=>qo
 |9=>qp
 |10=>qm
 |12=>qn
 |_=>0
theorem LD:bK (eY 8 om) 0 8 0 0 0=true:=by decide+kernel
theorem A8:bK (eY 8 (fK 8)) 0 8 0 0 0=true:=LD
theorem X9:bK (cP [33,1025,1048577] qo om) 5 8 0 0 0=true:=by decide+kernel
theorem Ya:bK (cP [65,4097,16777217] qo om) 6 8 0 0 0=true:=by decide+kernel
theorem Yb:bK (cP [129,16385,268435457] qo om) 7 8 0 0 0=true:=by decide+kernel
theorem Yc:bK (cP [257,65537,4294967297] qo om) 8 8 0 0 0=true:=by decide+kernel
theorem Yd:bK (cP [513,262145,68719476737] qo om) 9 8 0 0 0=true:=by decide+kernel
theorem Ye:bK (cP [1025,1048577,1099511627777] qo om) 10 8 0 0 0=true:=by decide+kernel
theorem LF:bK (eY 9 oq) 0 9 0 0 0=true:=by decide+kernel
theorem A9:bK (eY 9 (fK 9)) 0 9 0 0 0=true:=LF
theorem Yf:bK (cP [1057,1073774593] qp oq) 5 9 0 0 0=true:=by decide+kernel
theorem Yg:bK (cP [4161,68719738881] qp oq) 6 9 0 0 0=true:=by decide+kernel
theorem Yh:bK (cP [16513,4398048608257] qp oq) 7 9 0 0 0=true:=by decide+kernel
theorem Yi:bK (cP [65793,281474993487873] qp oq) 8 9 0 0 0=true:=by decide+kernel
theorem Yj:bK (cP [262657,18014398643699713] qp oq) 9 9 0 0 0=true:=by decide+kernel
theorem Yk:bK (cP [1049601,1152921505680588801] qp oq) 10 9 0 0 0=true:=by decide+kernel
theorem Ls:bK (eY 10 m8) 0 9 0 0 0=true:=by decide+kernel
theorem Lu:bK (eY 10 m8) 0 9 512 1 1=true:=by decide+kernel
theorem Ld:bK (eY 10 (fK 10)) 0 10 0 0 0=true:=(by rw[m9,aax];exact⟨Ls,Lu⟩)
theorem XX:bK (cP [33,1082401,1016801] qm m8) 5 10 0 0 0=true:=by decide+kernel
theorem XY:bK (cP [65,17043521,16519105] qm m8) 6 10 0 0 0=true:=by decide+kernel
theorem XZ:bK (cP [129,270549121,266354561] qm m8) 7 10 0 0 0=true:=by decide+kernel
theorem X0:bK (cP [257,4311810305,4278255361] qm m8) 8 10 0 0 0=true:=by decide+kernel
theorem X1:bK (cP [513,68853957121,68585520641] qm m8) 9 10 0 0 0=true:=by decide+kernel
theorem X2:bK (cP [1025,1100586419201,1098438933505] qm m8) 10 10 0 0 0=true:=by decide+kernel
theorem Lv:bK (eY 12 iB) 0 9 0 0 0=true:=by decide+kernel
theorem Lw:bK (eY 12 iB) 0 9 512 1 1=true:=by decide+kernel
theorem Lx:bK (eY 12 iB) 0 9 1024 1 1=true:=by decide+kernel
theorem Ly:bK (eY 12 iB) 0 9 1536 2 2=true:=by decide+kernel
theorem Lz:bK (eY 12 iB) 0 9 2048 1 1=true:=by decide+kernel
theorem LA:bK (eY 12 iB) 0 9 2560 2 2=true:=by decide+kernel
theorem LB:bK (eY 12 iB) 0 9 3072 2 2=true:=by decide+kernel
theorem LC:bK (eY 12 iB) 0 9 3584 3 3=true:=by decide+kernel
theorem Le:bK (eY 12 (fK 12)) 0 12 0 0 0=true:=(by rw[m9,aax];exact⟨(by rw[m9,aax];exact⟨(by rw[m9,aax];exact⟨Lv,Lw⟩),(by rw[m9,aax];exact⟨Lx,Ly⟩)⟩),(by rw[m9,aax];exact⟨(by rw[m9,aax];exact⟨Lz,LA⟩),(by rw[m9,aax];exact⟨LB,LC⟩)⟩)⟩)
theorem X3:bK (cP [33,1057,1025,993,1047553] qn iB) 5 12 0 0 0=true:=by decide+kernel
theorem X4:bK (cP [65,4161,4097,4033,16773121] qn iB) 6 12 0 0 0=true:=by decide+kernel
theorem X5:bK (cP [129,16513,16385,16257,268419073] qn iB) 7 12 0 0 0=true:=by decide+kernel
theorem X6:bK (cP [257,65793,65537,65281,4294901761] qn iB) 8 12 0 0 0=true:=by decide+kernel
theorem X7:bK (cP [513,262657,262145,261633,68719214593] qn iB) 9 12 0 0 0=true:=by decide+kernel
theorem X8:bK (cP [1025,1049601,1048577,1047553,1099510579201] qn iB) 10 12 0 0 0=true:=by decide+kernel
theorem UW{n m:Nat}(h4:n=12\/n=8\/n=9\/n=10)(hm:m<2^n):eY n (fK n) m (fq m n) (iA 0 m n)=true:=by
 have: ∀{n:Nat},bK (eY n (fK n)) 0 n 0 0 0=true->m<2^n->eY n (fK n) m (fq m n) (iA 0 m n)=true:=fun h hm=>by
  have:=K0 h hm;rwa [acS,acS,acS] at this
 rcases h4 with rfl|rfl|rfl|rfl
 ·exact this Le hm
 ·exact this A8 hm
 ·exact this A9 hm
 ·exact this Ld hm
theorem Yt{n k:Nat}(h4:n=12\/n=8\/n=9\/n=10)(hk:k<6):bK (cP (gP n k) (qq n) (fK n)) (k+5) n 0 0 0=true:=by
 rcases h4 with rfl|rfl|rfl|rfl
 ·exact uF (P:=fun k=>bK (cP (gP 12 k) (qq 12) (fK 12)) (k+5) 12 0 0 0=true) hk X3 X4 X5 X6 X7 X8
 ·exact uF (P:=fun k=>bK (cP (gP 8 k) (qq 8) (fK 8)) (k+5) 8 0 0 0=true) hk X9 Ya Yb Yc Yd Ye
 ·exact uF (P:=fun k=>bK (cP (gP 9 k) (qq 9) (fK 9)) (k+5) 9 0 0 0=true) hk Yf Yg Yh Yi Yj Yk
 ·exact uF (P:=fun k=>bK (cP (gP 10 k) (qq 10) (fK 10)) (k+5) 10 0 0 0=true) hk XX XY XZ X0 X1 X2
theorem UX{n m k:Nat}(h4:n=12\/n=8\/n=9\/n=10)(hk:k<6)(hm:m<2^n):cP (gP n k) (qq n) (fK n) m (fq m n) (iA (k+5) m n)=true:=by
 have:=K0 (Yt h4 hk) hm;rwa [acS,acS,acS] at this
noncomputable def J0(n k:Nat):Bool:=(aac (2^(gP n k).length)).all fun q=>aak (Nat.land (adp (qq n) (adq 4 q)) 15) ((vr n).getD q 0)
theorem WA:([8,9,10,12].all fun n=>(aac 6).all fun k=>J0 n k)=true:=by decide+kernel
theorem Yv{n m k:Nat}{f:Fg}(h4:n=12\/n=8\/n=9\/n=10)(hk:k<6)(hf:f.more=k)(aV:m<2^n)(hm:aX n m≠[]):
 oj (ju (n:Int) (aG n m) f) (aG n m)=aak (lA (fK n) m) 1:=by
 rw[Yw h4 hk hf hm,C7,(vQ hf).2,JN,z4];have h:=UX (m:=m) h4 hk aV;have hp:J0 n k=true:=by
  have h1:=Z3.mp WA n (by rcases h4 with rfl|rfl|rfl|rfl<;>simp);exact Z3.mp h1 k (aaq.mpr hk)
 have hq:=aa7 (Z3.mp hp _ (aaq.mpr (Fm (iA (k+5) m n) (gP n k))));unfold cP at h;rw[Ob,hq] at h;generalize (vr n).getD (eL (gP n k) (iA (k+5) m n)) 0=a at h⊢;generalize fq m n=c at h⊢;have ha:(a==c)=aak a c:=by rw[aa9,beq_iff_eq,ad7]
 rw[ha];cases hb:aak a c with
 |true=>rw[hb] at h;exact h.symm
 |false=>
  rw[hb] at h;have h0:aak (lA (fK n) m) 0=true:=h;rw[aa7 h0];rfl
theorem Fx{n m:Nat}(h4:n=12\/n=8\/n=9\/n=10)(h0:0<m)(aV:m<2^n)(hm:aX n m≠[]):
 (cW (n:Int) (aG n m)).isSome=aak (lA (fK n) m) 1/\ ∀r,cW (n:Int) (aG n m)=some r-> ∃rn,r=bE rn/\Ag n m (fq m n) (0::rn)=true:=by
 have hA:=UW (m:=m) h4 aV;unfold eY at hA;have nQ:aak m 0=false:=by
  cases h:aak m 0 with
  |false=>rfl
  |true=>have:=aa7 h;omega
 rw[nQ,Bool.false_or] at hA;have hz:aak (lA (fK n) m) 0=true->aak (lA (fK n) m) 1=false:=fun h=>by rw[aa7 h];rfl
 have nT:=rest_eq aV;cases hd:aak (acR n (fq m n)) 0 with
 |false=>
  rw[hd] at hA;have hn:cW (n:Int) (aG n m)=none:=by
   cases hr:cW (n:Int) (aG n m) with
   |none=>rfl
   |some r=>
    obtain⟨e,_⟩:=vg h4 hm hr;rw[z4] at e;have h9:(fq m n*(1+r.length))% fq m n=0:=Nat.mul_mod_right _ _;rw[<-e] at h9;rw[show acR n (fq m n)=0 from h9] at hd;cases hd
  rw[hn];exact⟨(hz hA).symm,fun r h=>nomatch h⟩
 |true=>
  rw[hd] at hA;cases hc:nE n m 13 (2^n -1 -m) with
  |none=>
   rw[hc] at hA nT;rw[nT];exact⟨(hz hA).symm,fun r h=>nomatch h⟩
  |some rn=>
   rw[hc] at hA nT;rw[nT];obtain⟨h1,h2⟩:=ZT.mp hA;exact⟨h1.symm,fun r h=>⟨rn,by cases h;rfl,h2⟩⟩
theorem NQ{n m k:Nat}{f:Fg}(h4:n=12\/n=8\/n=9\/n=10)(hk:k<6)(hf:f.more=k)(h0:0<m)(aV:m<2^n)(hm:aX n m≠[]):
 oj (ju (n:Int) (aG n m) f) (aG n m)=(cW (n:Int) (aG n m)).isSome:=by
 rw[Yv h4 hk hf aV hm,(Fx h4 h0 aV hm).1]
theorem U3{n:Nat}(hs:(bA (n:Int)).cps.size=n):(bA (n:Int)).cps.toList=(aac n).map fun i=>(bA (n:Int)).cps.getD i 0:=by
 refine List.ext_getElem? fun k=> ?_
 rw[aal]
 by_cases hk:k<n
 ·rw[List.getElem?_range hk]
  have h5:k<(bA (n:Int)).cps.size:=by simp[*]
  rw[ac0,acw h5];simp[Array.getD,h5]
 ·rw[ac2 (by rw[abr];exact "=AB!<CB[AC" hs hk),ac2 (by rw[abw];exact adV.mp ‹_›)];rfl
theorem NP{n i j:Nat}(h4:n=12\/n=8\/n=9\/n=10)(hi:i<n)(hj:j<n)(e:bQ (bA (n:Int)) (i:Int)=bQ (bA (n:Int)) (j:Int)):i=j:=by
 have:=((ya (x9 h4)).2 i hi).2 j hj;rw[e,beq_self_eq_true] at this;exact of_decide_eq_true this.symm
theorem uP{n k:Nat}(hn:0<n)(A:List Nat): ∀a∈iz n A k,a<n:=fun a ha=>by
 obtain⟨b,_,rfl⟩:=Z1.mp ha;exact aaR _ hn
theorem XI{n k:Nat}(h4:n=12\/n=8\/n=9\/n=10)(A:List Nat):ki (bA (n:Int)) (gK (bA (n:Int)) (n:Int) (bE A) (k:Int))=(aac n).map fun i=>(iz n A k).count i:=by
 have hn:0<n:=by exact h4.elim (fun x1=> ";1=A12<0A" x1) (fun x1=>x1.elim (fun x1=> ";1=A8<0A" x1) (fun x1=>x1.elim (fun x1=> ";1=A9<0A" x1) (fun x1=> ";1=A10<0A" x1)))
 unfold ki;rw[U3 (ya (x9 h4)).1,aaf];refine aa0 fun i hi=> ?_
 have hi:=aaq.mp hi;simp only[aaF];have e:(⟨#[(bA (n:Int)).cps.getD i 0]⟩:Str)=bQ (bA (n:Int)) (i:Int):=by unfold bQ;rw[aaD]
 rw[e];have hm:gK (bA (n:Int)) (n:Int) (bE A) (k:Int)=(iz n A k).map fun(j:Nat)=>bQ (bA (n:Int)) (j:Int):=by
  unfold gK iz bE;rw[aaf,aaf];refine aa0 fun a z=> ?_
  simp only[aaF];rw[<-aeN,<-acN]
 rw[hm];have: ∀l:List Nat,(∀a∈l,a<n)->(l.map fun(j:Nat)=>bQ (bA (n:Int)) (j:Int)).count (bQ (bA (n:Int)) (i:Int))=l.count i:=fun l=>by
  induction l with
  |nil=>intro _;rfl
  |cons a l ih=>
   intro h;rw[aah,ac8,ac8,ih fun x hx=>h x (ZP _ hx)]
   congr 1
   by_cases Bp:a=i
   ·subst Bp;simp
   ·have: ¬(bQ (bA (n:Int)) (a:Int)=bQ (bA (n:Int)) (i:Int)):=fun q=>Bp (NP h4 (h a ZR) hi q)
    simp[Bp,this]
 exact this _ (uP hn A)
theorem Pz{n:Nat}(h:2<=n)(c:Int):(1:Int)∈eP (n:Int) c:=by
 unfold eP;refine aaQ.mpr ⟨fc.mpr ⟨by exact Int.le_refl _,by exact acd.mpr ‹_›⟩,decide_eq_true ?_⟩;unfold qU;rw[show aS 2 (1+1)=[] by decide];rfl
theorem Py{n c:Nat}{k:Int}(h:k∈eP (n:Int) (c:Int)): ∃q:Nat,k=q/\q∈Gh n c/\q<n:=by
 unfold eP at h;obtain⟨h1,h2⟩:=aaQ.mp h;have h1:=fc.mp h1;have h2:=of_decide_eq_true h2;obtain⟨q,rfl⟩: ∃q:Nat,k=q:=⟨k.toNat,by exact ab0 (";1#'Aa]a'A" (ZV ("]1a]0a" h1.1))) ("#'Aa]'Aa" (ZV ("]1a]0a" h1.1)))⟩;have hq:0<q:=by exact "]1'A<0A" h1.1
 refine⟨q,rfl,aaQ.mpr ⟨aaq.mpr (by exact ">'A'B<AB" h1.2),?_⟩,by exact ">'A'B<AB" h1.2⟩;have hg:Nat.gcd q c=1:=by
  have pI:0<Nat.gcd q c:=Nat.gcd_pos_of_pos_left _ hq;refine aeM fun bC=> ?_
  have fT:((Nat.gcd q c:Nat):Int)∈qU (c:Int) (q:Int):=by
   unfold qU;refine aaQ.mpr ⟨fc.mpr ⟨by exact(aa8 bC).elim (fun x2=> "<0A<A1:0]2'A" pI x2) (fun x2=> "<1A]2'A" x2),?_⟩,?_⟩
   ·have:=Nat.gcd_le_left c hq;exact "[AB>'A+'B1" this
   ·rw[<-acN,<-acN,Nat.mod_eq_zero_of_dvd (Nat.gcd_dvd_left q c),Nat.mod_eq_zero_of_dvd (Nat.gcd_dvd_right q c)];rfl
  rw[h2] at fT;cases fT
 rw[hg,decide_eq_true hq];rfl
theorem Ws{w n:Nat}(hw:1<=w)(hn:1<=n):bb w (aaB n 1)*(2^w -1)=2^(w*n) -1:=by
 have h2:1<=2^w:=Nat.one_le_two_pow
 induction n with
 |zero=>contradiction
 |succ n ih=>
  rw[ab7,fA,acq,acX,Nat.mul_assoc]
  by_cases pP:n=0
  ·subst pP;simp[lZ,fA]
  ·rw[ih (by exact Nat.pos_of_ne_zero ‹_›),Nat.mul_sub,adJ,<-ab5,acH,adJ,acT w (w*n)]
   have h3:2^w<=2^(w*n+w):=aat (by decide) (by exact abf _ _);exact Z5 ("=+A1B=+CBD;1=+E1D[+ACE" (ZM (h2)) (ZM (h3)) (ZM ("[1A[AB[1B" h2 h3))) ("=+A1B;1=+C1D;1=+EDB[A+CE" (ZM ("[1A[AB[1B" h2 h3)) (ZM (h2)) (ZM (h3)))
theorem Oe(n:Nat)(A:List Nat)(i:Nat): ∀row:List Nat,eM n A row i<=A.length*row.length:=by
 intro rr
 induction rr with
 |nil=>
  exact aab _
 |cons b row ih=>
  exact by
   have:=ih;unfold eM at this⊢;rw[aah,adg,aaY,acH,adJ,acT];exact Nat.add_le_add this aci
structure zc(n:Nat):Prop where
 sum: ∀(p:Nat) (s v t:Int),p<=2*(n -1)->1<=s->s<=4->1<=v->v<=7->0<=t->t<=3->j3 (n:Int) (p:Int) s v t=true
 prod: ∀(p k:Nat) (s v t:Int),p<n->k<n->1<=s->s<=4->1<=v->v<=7->0<=t->t<=3->j3 (n:Int) ((p:Int)*(k:Int)) s v t=true
theorem OD{n m k:Nat}{f:Fg}(h4:n=12\/n=8\/n=9\/n=10)(hk:k<6)(hf:f.more=k)(F:f.Ok)(hL:zc n)(h0:0<m)(aV:m<2^n)(hm:aX n m≠[]){r:List Int}(hr:cW (n:Int) (aG n m)=some r):
 yZ (bA (n:Int)) (n:Int) (aG n m) (some r) f:=by
 obtain⟨rn,Ci,he⟩:=(Fx h4 h0 aV hm).2 r hr;obtain⟨e1,e2,e3⟩:=vg h4 hm hr;have gH:aK (n:Int) f (some r)=bE (0::rn):=by
  show(0:Int)::r=_
  rw[Ci];rfl
 have fx:r.length=rn.length:=by rw[Ci,bE,ZQ]
 have R:sY n (0::rn):=⟨by simp,fun t ht=>by
  rcases ZU.mp ht with rfl|ht
  ·exact aaa (by decide) (JE h4).1
  ·have:=e2 (t:Int) (by rw[Ci];exact kU.mpr ht);(simp at*;omega),by rw[aaY];exact "[A12;1=AB[+B1_13" e3 fx⟩
 have IW:(0::rn).length=1+r.length:=by rw[aaY,fx];exact acT _ _
 generalize 0::rn=row at he gH R IW;unfold Ag at he;obtain⟨g1,g2⟩:=ZT.mp he;have rH:((aG n m).length:Int)=((fq m n:Nat):Int):=by rw[dS,bE,ZQ,z4]
 obtain⟨w1,w2⟩:=yN F;obtain⟨hb,hw⟩:=vQ hf;have bC:=Pz (n:=n) (by exact h4.elim (fun x2=> ";1=A12[2A" x2) (fun x2=>x2.elim (fun x2=> ";1=A8[2A" x2) (fun x2=>x2.elim (fun x2=> ";1=A9[2A" x2) (fun x2=> ";1=A10[2A" x2)))) ((aG n m).length:Int);have xB:eP (n:Int) ((aG n m).length:Int)≠[]:=List.ne_nil_of_mem bC;have pW:dW (n:Int) (aG n m) f∈eP (n:Int) ((aG n m).length:Int):=by
  have hl:=acu.mpr xB;have t6:=cj (a:=f.factor) (b:=(eP (n:Int) ((aG n m).length:Int)).length) (by exact acd.mpr ‹_›);unfold dW;rw[aaG];have:(f.factor.fmod (eP (n:Int) ((aG n m).length:Int)).length).toNat<(eP (n:Int) ((aG n m).length:Int)).length:=by exact ">a'A#'Ba<BA" t6.2 (ZV (t6.1))
  rw[aaT this];exact List.getElem_mem this
 rw[rH] at pW;obtain⟨q,hq,SQ,rN⟩:=Py pW;have I6:bb (br f) (ki (bA (n:Int)) (gK (bA (n:Int)) (n:Int) (aG n m) (dW (n:Int) (aG n m) f)))=cA (br f) (iz n (aX n m) q):=by
  rw[hq,dS,XI h4,sM _ _ _ (uP (by exact ZY (aav _) ‹_›) _)]
 have xE:(aac n).map (eM n (iz n (aX n m) q) row)=aaB n 1:=by
  have hc:=aa7 (Z3.mp g1 q SQ);have hc:(cA 4 (iz n (aX n m) q)*cA 4 row)%(2^(4*n) -1)=bb 4 (aaB n 1):=hc;rw[D0 (uP (by exact ZY (aav _) ‹_›) _) R.lt] at hc;have b7: ∀i,eM n (iz n (aX n m) q) row i<=13:=fun i=>by
   have h1:=Oe n (iz n (aX n m) q) i row;have h2:(iz n (aX n m) q).length*row.length=n:=by
    have h3:(iz n (aX n m) q).length=(aX n m).length:=by unfold iz;rw[ZQ]
    rw[h3,IW];exact e1.symm
   exact h4.elim (fun x4=> "[AB=BC=C12[A13" h1 h2 x4) (fun x4=>x4.elim (fun x4=> "[AB=BC=C8[A13" h1 h2 x4) (fun x4=>x4.elim (fun x4=> "[AB=BC=C9[A13" h1 h2 x4) (fun x4=> "[AB=BC=C10[A13" h1 h2 x4)))
  have BS:=D6 4 (by decide) ((aac n).map (eM n (iz n (aX n m) q) row)) (by simp;exact "<AB!=B0" rN) fun d hd=>by
   obtain⟨i,_,rfl⟩:=Z1.mp hd;have:=b7 i;exact "[A13[+A2^4" this
  rw[ZQ,abw,ab1] at BS;rw[ab6 (by exact "[+A2B;1=+C1B<AC" BS (ZM ("[+A2B[1B" BS)))] at hc;refine D3 4 _ _ (by rw[ZQ,abw,List.length_replicate]) (fun d hd=> ?_) (fun d hd=> ?_) hc
  ·obtain⟨i,_,rfl⟩:=Z1.mp hd
   have:=b7 i;exact ZY ‹_› (by decide)
  ·rw[(List.mem_replicate.mp hd).2];decide
 have xD:=C3 (n:=n) (w:=br f) (by exact h4.elim (fun x2=> "=A12[A12" x2) (fun x2=>x2.elim (fun x2=> "=A8[A12" x2) (fun x2=>x2.elim (fun x2=> "=A9[A12" x2) (fun x2=> "=A10[A12" x2)))) w2;have how:=Ws (w:=br f) (n:=n) (by exact ZY (aav _) ‹_›) (by exact ZY (aav _) ‹_›);have rv:2^5<=2^br f:=aat (by decide) w1;refine⟨xB,fun p hp=> ?_,?_,?_,?_,?_⟩
 ·obtain⟨i,hi,_,rfl⟩:=sd.mp hp
  rw[hq];have a:=F.share;have b:=F.value;have c:=F.turns;exact hL.prod i q _ _ _ hi rN (by exact "]0a]1+a1" a.1) (by exact aej ‹_›) (by exact "]0a]1+a1" b.1) (by exact aej ‹_›) (by simp[*]) (by exact ">a4]a3" c.2)
 ·rw[hq];exact⟨"]0'A" (),h4.elim (fun x3=> "<AB=B12>'A12" rN x3) (fun x3=>x3.elim (fun x3=> "<AB=B8>'A12" rN x3) (fun x3=>x3.elim (fun x3=> "<AB=B9>'A12" rN x3) (fun x3=> "<AB=B10>'A12" rN x3)))⟩
 ·rw[I6,<-sM _ _ _ (uP (by exact ZY (aav _) ‹_›) _)]
  refine aaa (D5 w1 fun i=>ZW aci ?_) (aat (by decide) (ZW xD (by decide)));unfold iz;rw[ZQ];have:=JU (n:=n) (m:=m)
  lia
 ·rw[I6,gH,DT R,oz,sI,<-acN,D0 (uP (by exact ZY (aav _) ‹_›) _) R.lt,xE,beq_iff_eq]
  have fE:((bl f:Nat):Int) -1=((2^br f -1:Nat):Int):=by
   have:bl f=2^br f:=rfl;rw[this];exact ab0 (";1=+A1B]-'B1'A" (ZM ("[^5A[1A" rv))) ("=+A1B]'A-'B1" (ZM ("[^5A[1A" rv)))
  rw[fE,<-how];have jn:0<2^br f -1:=by exact "[^5A;1=+B1A<0B" rv (ZM ("[^5A[1A" rv))
  have Si:bb (br f) (aaB n 1)<bb (br f) (aaB n 1)*(2^br f -1):=by
   have h1:0<bb (br f) (aaB n 1):=Nat.pos_of_ne_zero fun e=>by
    rw[e,Nat.zero_mul] at how;have:2^1<=2^(br f*n):=aat (by decide) (Nat.mul_pos (by exact ZY (aav _) ‹_›) (by exact ZY (aav _) ‹_›));exact(Nat.sub_ne_zero_of_lt (aaa (by decide) this) how.symm).elim
   have h2:bb (br f) (aaB n 1)*2<=bb (br f) (aaB n 1)*(2^br f -1):=adR _ (by exact "[^5A;1=+B1A[2B" rv (ZM ("[^5A[1A" rv)));exact "<0A[%A2B<AB" h1 h2
  rw[ab6 Si,rY,Nat.mul_div_cancel _ jn]
 ·have g3:=Z3.mp g2 k (aaq.mpr hk)
  rw[gH,DT R,C7,hw,JN,oz,sI,hb,hw];intro e;rw[e] at g3;cases g3
noncomputable def tY(letters:Str):List (Str×Str):=letters.cps.toList.zipIdx.map fun p=>(if((p.2:Int).fmod 2 !=0) then abA ⟨#[p.1]⟩ else⟨#[p.1]⟩,((toString (p.2:Int):String):Str))
theorem xp(letters again:Str):ig letters again=tY letters++[(again,("again" :Str))]:=rfl
theorem Hv(ps:List (Str×Str))(q:Str×Str)(x:Str):ia (ps++[q]) x=match ia ps x with
 |some y=>some y
 |none=>ia [q] x:=by
 unfold ia;rw[List.find?_append];cases ps.find? (fun p=>aau p.1==aau x)<;>rfl
noncomputable def q9(c:Nat):Bool:=(decide (ip c=some true)||decide (ip c=some false))&&decide ((aau ⟨#[c]⟩).cps.size<2^62)&&decide ((aau ⟨#[c]⟩).length<=5592405)&&decide (c<0x110000)
noncomputable def u0(p:Str×Str):Bool:=decide (found gm p.1=some false)&&decide (p.1.cps.size<2^62)&&decide (found oY p.2=some false)&&decide (p.2.cps.size<2^62)&&decide (p.1.length<=5592405)
noncomputable def mq(i:Nat):Str:=((toString (i:Int):String):Str)
noncomputable def Yu(L:Str)(n:Nat):Bool:=(aac n).all fun i=>
 let c:=L.cps.getD i 0
 decide (c∈mh)&&decide (ip c=some false)&&decide (ia (tY L) ⟨#[c]⟩=some (mq i))&&decide (cS L c=some (mq i))&&q9 c&&u0 (⟨#[c]⟩,("again" :Str))
noncomputable def Jz(L:Str)(n:Nat)(m:Int):Bool:=
 let c:=m.toNat
 (match ip c with
  |some true=>decide (cS L c=some (("ValueError: " :Str)++jb))
  |_=>decide (cS L c=none)&&decide (ia (tY L) ⟨#[c]⟩=none)&&(aac n).all fun i=>decide (ia [((⟨#[L.cps.getD i 0]⟩:Str),("again" :Str))] ⟨#[c]⟩=none))&&q9 c
noncomputable def sq(L:Str)(n:Nat):Bool:=decide (L.cps.size=n)&&Yu L n&&iU.all (Jz L n)&&(tY L).all u0
theorem Xe:sq (bA (8:Int)) 8=true:=by decide+kernel
theorem Xf:sq (bA (9:Int)) 9=true:=by decide+kernel
theorem Xc:sq (bA (10:Int)) 10=true:=by decide+kernel
theorem Xd:sq (bA (12:Int)) 12=true:=by decide+kernel
theorem z9: ∀i,i<12->aa6 (mq i)=true/\mq i≠("ValueError: " :Str)++jb/\ ∀j,j<12->mq i=mq j->i=j:=by decide+kernel
theorem Oq:aa6 (("ValueError: " :Str)++jb)=true:=by decide+kernel
theorem Xg{n:Nat}(h:n=12\/n=8\/n=9\/n=10):sq (bA (n:Int)) n=true:=by
 rcases h with rfl|rfl|rfl|rfl
 ·exact Xd
 ·exact Xe
 ·exact Xf
 ·exact Xc
theorem Aw{c:Nat}(h:q9 c=true):(ip c=some true\/ip c=some false)/\(aau ⟨#[c]⟩).cps.size<2^62/\(aau ⟨#[c]⟩).length<=5592405/\c<0x110000:=by
 unfold q9 at h;simp only[aax,Bool.or_eq_true,decide_eq_true_eq] at h;obtain⟨⟨⟨a,b⟩,c⟩,d⟩:=h;exact⟨a,b,c,d⟩
theorem Dj{p:Str×Str}(h:u0 p=true):qr p/\p.1.length<=5592405:=by
 unfold u0 at h;simp only[aax,decide_eq_true_eq] at h;obtain⟨⟨⟨⟨a,b⟩,c⟩,d⟩,e⟩:=h;exact⟨⟨⟨a,b⟩,c,d⟩,e⟩
theorem VL{n:Nat}(h:n=12\/n=8\/n=9\/n=10):n<=12:=by rcases h with rfl|rfl|rfl|rfl<;>decide
theorem Xh{n m:Nat}(h4:n=12\/n=8\/n=9\/n=10)(bC:aX n m≠[]){x:Int}{d0 c:Nat}(hd:d0<n)(hc:(bA (n:Int)).cps[d0]?=some c):
 ∃sg,vG (bA (n:Int)) (qS c) (vt (aG n m) (bA (n:Int)) x) sg/\u4 (n:Int) (lk (bA (n:Int)) sg)=aG n m:=by
 have hr:=Xg h4;have h12:=VL h4;generalize bA (n:Int)=L at hr hc⊢;unfold sq at hr;obtain⟨hr,hh⟩:=ZT.mp hr;obtain⟨hr,rI⟩:=ZT.mp hr;obtain⟨hsz,jq⟩:=ZT.mp hr;have hsz:=of_decide_eq_true hsz
 have jq: ∀i,i<n->L.cps.getD i 0∈mh/\ip (L.cps.getD i 0)=some false/\ia (tY L) ⟨#[L.cps.getD i 0]⟩=some (mq i)/\cS L (L.cps.getD i 0)=some (mq i)/\q9 (L.cps.getD i 0)=true/\u0 (⟨#[L.cps.getD i 0]⟩,("again" :Str))=true:=fun i hi=>by
  have:=Z3.mp jq i (aaq.mpr hi);simp only[aax,decide_eq_true_eq] at this;obtain⟨⟨⟨⟨⟨a,b⟩,c⟩,d⟩,e⟩,f⟩:=this;exact⟨a,b,c,d,e,f⟩
 have mF:c=L.cps.getD d0 0:=by
  rw[Array.getD_eq_getD_getElem?,hc];rfl
 have rI: ∀k∈iU,q9 k.toNat=true/\fC (ig L (qS c)) k.toNat=cS L k.toNat/\(cS L k.toNat=none\/cS L k.toNat=some (("ValueError: " :Str)++jb)):=fun k hk=>by
  have:=Z3.mp rI k hk;unfold Jz at this;dsimp only at this;obtain⟨h1,h2⟩:=ZT.mp this;refine⟨h2,?_⟩;have h3:=(Aw h2).1;unfold fC;rcases h3 with h3|h3
  ·rw[h3] at h1
   have h1:=of_decide_eq_true h1;rw[if_pos h3,h1];exact⟨rfl, .inr rfl⟩
  ·rw[h3] at h1
   dsimp only at h1;obtain⟨h1,h6⟩:=ZT.mp h1;obtain⟨ry,h5⟩:=ZT.mp h1;have ry:=of_decide_eq_true ry;have h5:=of_decide_eq_true h5;have h6:=of_decide_eq_true (Z3.mp h6 d0 (aaq.mpr hd));rw[<-mF] at h6;rw[if_neg (by rw[h3];simp),ry,xp,Hv,h5];exact⟨h6, .inl rfl⟩
 have pK: ∀i,i<n->fC (ig L (qS c)) (L.cps.getD i 0)=cS L (L.cps.getD i 0):=fun i hi=>by
  obtain⟨a1,a2,a3,a4,a5,a6⟩:=jq i hi;unfold fC;rw[if_neg (by rw[a2];simp),xp,Hv,a3,a4]
 have dM: ∀p∈aG n m,∃i:Nat,i<n/\p=i:=fun p hp=>by
  obtain⟨i,h1,_,h3⟩:=sd.mp hp;exact⟨i,h1,h3⟩
 have SN:aG n m≠[]:=by
  rw[dS];unfold bE;simpa using bC
 have rK:(aG n m).length<=12:=by
  rw[dS];unfold bE;rw[ZQ];have:(aX n m).length<=(aac n).length:=aaE _ _;rw[abw] at this;exact ZW this h12
 have RU: ∀p∈aG n m,L.cps.getD p.toNat 0∈mh:=fun p hp=>by
  obtain⟨i,hi,rfl⟩:=dM p hp;rw[aaD];exact(jq i hi).1
 obtain⟨first,back,strewn,spot,mark,chosen,dress,Cq⟩: ∃first back strewn spot mark chosen dress,vt (aG n m) L x=i4 (aG n m) L first back strewn spot mark chosen dress:=⟨_,_,_,_,_,_,_,rfl⟩;rw[Cq];obtain⟨g1,g2,g3,g4⟩:=YK (first:=first) (back:=back) (strewn:=strewn) (spot:=spot) (mark:=mark) (chosen:=chosen) (dress:=dress) SN RU rK
 generalize i4 (aG n m) L first back strewn spot mark chosen dress=ty at g1 g2 g3 g4;have fT: ∀d∈(cB (fy ty)).cps.toList,(∃i:Nat,i<n/\(i:Int)∈aG n m/\d=L.cps.getD i 0)\/ ∃k∈iU,d=k.toNat:=fun d hd=>by
  rw[yP] at hd;rcases g3 d hd with⟨p,hp,rfl⟩|h
  ·obtain⟨i,hi,rfl⟩:=dM p hp
   exact .inl ⟨i,hi,hp,rfl⟩
  ·exact .inr h
 have iQ:(fy ty).length<=100:=by unfold fy;rw[ZQ];exact g2
 have hb: ∀p∈fy ty,p.2.length<=2:=fun p hp=>by
  unfold fy at hp;obtain⟨q,hq,rfl⟩:=Z1.mp hp;obtain⟨sh,_,h2,_⟩:=g1 q hq;exact h2
 refine⟨fy ty,⟨XA g1,iQ,?_,?_,?_,?_,?_,QF g1,?_,?_,?_,?_⟩,?_⟩
 ·intro p hp
  rw[xp] at hp;rcases aaw.mp hp with hp|hp
  ·exact(Dj (Z3.mp hh p hp)).1
  ·rw[Z4.mp hp,mF];exact(Dj (jq d0 hd).2.2.2.2.2).1
 ·intro p hp
  rw[xp] at hp;rcases aaw.mp hp with hp|hp
  ·exact(Dj (Z3.mp hh p hp)).2
  ·rw[Z4.mp hp];show 1<=_;decide
 ·refine CO (b:=2) (fun y hy=> ?_) ?_
  ·obtain⟨q,hq,rfl⟩:=Z1.mp hy
   obtain⟨hq,xH⟩:=aaQ.mp hq;unfold fy at hq;obtain⟨p,hp,rfl⟩:=Z1.mp hq;obtain⟨sh,h1,h2,h3⟩:=g1 p hp;obtain⟨a,b⟩:=p;cases h1;rcases h3 with⟨h3,h4⟩|⟨h3,h4⟩
   ·have xH:(!decide ((sh:Int)∈dw))=true:=xH
    rw[h3] at xH;cases xH
   ·have h4:i8 sh=b:=h4
    show(i8 sh).length<=2
    rw[h4];exact h2
  ·rw[ZQ]
   have:=aaE (fun p:Nat×Str=> !decide ((p.1:Int)∈dw)) (fy ty);exact ":2[A100:2[BA[%B2_16777216" iQ this
 ·refine CO (b:=2) (fun y hy=> ?_) ?_
  ·obtain⟨q,hq,rfl⟩:=Z1.mp hy
   exact hb q hq
  ·rw[ZQ];exact ":2[A100[%A2_16777216" iQ
 ·have e:(cB (fy ty)).length=(cB (fy ty)).cps.toList.length:=by rw[abr];rfl
  rw[e,yP];have: ∀l:List (Str×Str),(∀p∈l,oF p)->(l.flatMap fun p=>p.2.cps.toList).length<=2*l.length:=fun l=>by
   induction l with
   |nil=>intro _;exact aab _
   |cons p l ih=>
    intro h;have:=ih fun q hq=>h q (ZP _ hq)
    obtain⟨sh,_,h2,_⟩:=h p ZR;have h2:p.2.cps.size<=2:=h2;rw[aa3,aap,aaY,abr];exact "[A*2B[C2[+CA*2+B1" this h2
  have:=this ty g1;exact ":2[A100[B*2A[B1000" g2 this
 ·intro d cG
  rcases fT d cG with⟨i,hi,_,rfl⟩|⟨k,hk,rfl⟩
  ·exact pK i hi
  ·exact(rI k hk).2.1
 ·intro d cG
  rcases fT d cG with⟨i,hi,_,rfl⟩|⟨k,hk,rfl⟩
  ·exact Aw (jq i hi).2.2.2.2.1
  ·exact Aw (rI k hk).1
 ·intro d cG i rest ho
  have:=(PySem.StrLaws.occ_spec _ _ _ _ _ i (by rw[ho];exact ZR)).1;have e1:(⟨#[d]⟩:Str).length=1:=rfl;have e2:L.length=n:=hsz;rw[e1,e2] at this;exact ZW this h12
 ·intro d cG y hy
  rcases fT d cG with⟨i,hi,_,rfl⟩|⟨k,hk,rfl⟩
  ·rw[(jq i hi).2.2.2.1] at hy
   cases hy;exact(z9 i (aaa hi h12)).1
  ·rcases (rI k hk).2.2 with h|h
   ·rw[h] at hy;cases hy
   ·rw[h] at hy;cases hy;exact Oq
 ·unfold u4 aG
  rw[oa];unfold bE;rw[adA]
  congr 1
  refine ade fun i hi=> ?_
  have hi:=aaq.mp hi;show decide (some (mq i)∈lk L (fy ty))=m.testBit i
  have dk:m.testBit i=decide ((i:Int)∈aG n m):=by
   rw[aa9,decide_eq_true_eq,sd];constructor
   ·intro h;exact⟨i,hi,h,rfl⟩
   ·rintro⟨j,_,h,e⟩;rw[show i=j by exact adD ‹_›];exact h
  rw[dk]
  congr 1
  rw[eq_iff_iff];unfold lk;constructor
  ·intro h
   obtain⟨d,cG,e⟩:=Z1.mp h;rcases fT d cG with⟨j,hj,R2,rfl⟩|⟨k,hk,rfl⟩
   ·rw[(jq j hj).2.2.2.1] at e
    have e:=abM e;have:=(z9 j (aaa hj h12)).2.2 i (aaa hi h12) e;rw[<-this];exact R2
   ·rcases (rI k hk).2.2 with h|h
    ·rw[h] at e;cases e
    ·rw[h] at e
     exact absurd (abM e).symm (z9 i (aaa hi h12)).2.1
  ·intro h
   have:=g4 _ h;rw[aaD,<-yP] at this;exact Z1.mpr ⟨_,this,(jq i hi).2.2.2.1⟩
noncomputable abbrev U(x:Nat):UInt64:=x.toUInt64
noncomputable def k9(n d:Nat):Nat:=
 if n=0 then 0 else
 let ln:=n.log2
 let ld:=d.log2
 let c:=if ld<=ln then(if d*2^(ln -ld)<=n then 0 else 1) else(if d<=n*2^(ld -ln) then 0 else 1)
 let E:=ln+1022 -(ld+c)
 let a:=if E<=1074 then n*2^(1074 -E) else n
 let b:=if E<=1074 then d else d*2^(E -1074)
 min ads (E*2^52+adP a b)
theorem vm{n d:Nat}{k:Int}(h:0<=k):aeD n d k=(n*2^k.toNat,d):=by unfold aeD;rw[if_pos h]
theorem yz{n d:Nat}{k:Int}(h: ¬0<=k):aeD n d k=(n,d*2^(-k).toNat):=by unfold aeD;rw[if_neg h]
theorem Pw(A B C:Nat):max ((A:Int) -B -52 -C) (-1074)=((A+1022 -(B+C):Nat):Int) -1074:=by
 by_cases h:B+C<=A+1022
 ·have k:=ZM h
  generalize A+1022 -(B+C)=K at k⊢;rw[Int.max_eq_left (by exact "[+AB+C1022]~1074---'C'A52'B" h)];exact "@=+A+BC+D1022#---'D'B52'C-'A1074" k
 ·rw[Nat.sub_eq_zero_of_le (abq (Nat.not_le.mp h)),Int.max_eq_right (by exact "![+AB+C1022]---'C'A52'B~1074" h)];rfl
theorem Xs(n d:Nat):Float64.roundMag n d=k9 n d:=by
 unfold Float64.roundMag k9
 by_cases h0:n=0
 ·subst h0
  rw[if_pos (show((0:Nat)==0)=true from by decide),if_pos (show(0:Nat)=0 from Eq.refl 0)]
 rw[if_neg (by simpa using h0),if_neg h0];dsimp only;have hc:(if(aeD n d (-((n.log2:Int) -(d.log2:Int)))).1>=(aeD n d (-((n.log2:Int) -(d.log2:Int)))).2 then(n.log2:Int) -(d.log2:Int) -52 else(n.log2:Int) -(d.log2:Int) -53)
  =(n.log2:Int) -(d.log2:Int) -52 -((if d.log2<=n.log2 then(if d*2^(n.log2 -d.log2)<=n then 0 else 1) else(if d<=n*2^(d.log2 -n.log2) then 0 else 1):Nat):Int):=by
  by_cases hl:d.log2<=n.log2
  ·rw[if_pos hl]
   by_cases hz:d.log2=n.log2
   ·rw[vm (by simp[*])]
    have e:(-((n.log2:Int) -(d.log2:Int))).toNat=0:=by rw[hz,Int.sub_self];rfl
    have e2:n.log2 -d.log2=0:=by simp[*]
    rw[e,e2,Nat.pow_zero,adJ,adJ]
    by_cases hq:d<=n
    ·rw[if_pos hq,if_pos hq];simp
    ·rw[if_neg hq,if_neg hq];simp[*]
   ·rw[yz (by exact(aa8 hz).elim (fun x2=> "<AB!]0~-'B'A" x2) (fun x2=> "[AB<BA:0!]0~-'B'A" hl x2))]
    have e:(- -((n.log2:Int) -(d.log2:Int))).toNat=n.log2 -d.log2:=by simp
    rw[e]
    by_cases hq:d*2^(n.log2 -d.log2)<=n
    ·rw[if_pos hq,if_pos hq];simp[*]
    ·rw[if_neg hq,if_neg hq];exact "@#--'A'B53---'A'B52'1" ()
  ·rw[if_neg hl,vm (by exact "![AB]0~-'B'A" hl)]
   have e:(-((n.log2:Int) -(d.log2:Int))).toNat=d.log2 -n.log2:=by exact Z5 ("#'A~-'B'C;1=+DBC[AD" (ZV ("![AB]0~-'B'A" hl)) (ZM ("![AB[BA" hl))) ("=+ABC;1#'D~-'B'C[AD" (ZM ("![AB[BA" hl)) (ZV ("![AB]0~-'B'A" hl)))
   rw[e]
   by_cases hq:d<=n*2^(d.log2 -n.log2)
   ·rw[if_pos hq,if_pos hq];simp[*]
   ·rw[if_neg hq,if_neg hq];exact "@#--'A'B53---'A'B52'1" ()
 generalize mF:(if d.log2<=n.log2 then(if d*2^(n.log2 -d.log2)<=n then 0 else 1) else(if d<=n*2^(d.log2 -n.log2) then 0 else 1):Nat)=c at hc⊢;rw[hc];rw[Pw];generalize n.log2+1022 -(d.log2+c)=K;rw[Int.sub_add_cancel,aaD]
 by_cases hq:K<=1074
 ·rw[if_pos hq,if_pos hq,vm (by exact "[A1074]0~-'A1074" hq),Int.neg_sub];exact congrArg (fun z=>min ads (K*2^52+adP (n*2^z) d)) (Int.toNat_sub 1074 K)
 ·rw[if_neg hq,if_neg hq,yz (by exact "![A1074!]0~-'A1074" hq),Int.neg_neg];exact congrArg (fun z=>min ads (K*2^52+adP n (d*2^z))) (Int.toNat_sub K 1074)
theorem yJ{x:Nat}(h:x<2^64):(U x).toNat=x:=by
 show(UInt64.ofNat x).toNat=x
 exact UInt64.toNat_ofNat_of_lt' h
noncomputable def bX(x:Nat):Bool:=aak (x/2^63) 1
noncomputable def lH(x:Nat):Nat:=x/2^52 % 2048
noncomputable def bH(x:Nat):Nat:=if lH x=0 then x % 2^52 else 2^52+x % 2^52
noncomputable def aC(x:Nat):Nat:=lH x -1
theorem gX{x:Nat}(h:x<2^64)(hf:lH x≠2047):aeg (U x)= .fin (bX x) (bH x) ((aC x:Int) -1074):=by
 unfold aeg;rw[yJ h];dsimp only;have e1:(x/2^63==1)=bX x:=by
  unfold bX;rw[aa9,beq_iff_eq,ad7]
 rw[e1];have e2:x/2^52 % 2048=lH x:=rfl;rw[e2];unfold bH aC;generalize lH x=e at hf;rw[if_neg (show¬((e==2047)=true) by simpa using hf)]
 by_cases h0:e=0
 ·rw[if_pos (show(e==0)=true by simpa using h0),if_pos h0,h0];rfl
 ·rw[if_neg (show¬((e==0)=true) by simpa using h0),if_neg h0]
  congr 1
  exact ab0 ("[A+B1]-'A1075-'B1074" (zsb _ _)) ((aa8 h0).elim (fun x1=> "<A0:0]-'B1074-'A1075" x1) (fun x1=> "=+A1B]-'A1074-'B1075" (ZM ("<0A[1A" x1))))
noncomputable def kg(neg:Bool)(iT:Nat):Nat:=(if neg then 2^63 else 0)+iT
theorem Dw(n d:Nat):k9 n d<=ads:=by
 unfold k9;split
 ·exact aav _
 ·exact abD _ _
theorem yq{neg:Bool}{iT:Nat}(h:iT<=ads):kg neg iT<2^64:=by
 have:ads<2^63:=by decide
 unfold kg;split<;>lia
theorem uW(neg:Bool)(n d:Nat):aef neg n d=U (kg neg (k9 n d)):=by
 unfold aef Float64.pack kg;rw[Xs]
noncomputable def jO(o:Nat)(neg:Bool)(n S:Nat):Nat:=kg neg (if o<=S then k9 (n*2^(S -o)) 1 else k9 n (2^(o -S)))
theorem nv{o:Nat}{neg:Bool}{n S:Nat}:jO o neg n S<2^64:=by
 unfold jO;refine yq ?_;split<;>exact Dw _ _
theorem De(neg:Bool)(n S o:Nat):Float64.ofBin neg n ((S:Int) -(o:Int))=U (jO o neg n S):=by
 unfold Float64.ofBin jO
 by_cases h:o<=S
 ·rw[vm (by(simp at*;omega)),if_pos h]
  dsimp only;rw[uW,show((S:Int) -(o:Int)).toNat=S -o by simp]
 ·rw[yz (by simp[*]),if_neg h]
  dsimp only;rw[uW,show(-((S:Int) -(o:Int))).toNat=o -S by exact Z5 ("#'A~-'B'C;1=+DBC[AD" (ZV ("![AB]0~-'B'A" h)) (ZM ("![AB[BA" h))) ("=+ABC;1#'D~-'B'C[AD" (ZM ("![AB[BA" h)) (ZV ("![AB]0~-'B'A" h))),acX]
noncomputable def bB(x:Nat):Bool:= !aak (lH x) 2047
theorem g7{x:Nat}(h:bB x=true):lH x≠2047:=fun e=>by unfold bB at h;rw[e] at h;cases h
noncomputable def ro(x y:Nat):Nat:=if bB x&&bB y then jO 2148 (bX x !=bX y) (bH x*bH y) (aC x+aC y) else(aaC (U x) (U y)).toNat
theorem sZ(z:UInt64):U z.toNat=z:=by
 show UInt64.ofNat z.toNat=z
 exact UInt64.ofNat_toNat
theorem PX{x y:Nat}(hx:x<2^64)(hy:y<2^64):aaC (U x) (U y)=U (ro x y)/\ro x y<2^64:=by
 unfold ro
 by_cases h:(bB x&&bB y)=true
 ·rw[if_pos h]
  obtain⟨h1,h2⟩:=ZT.mp h;refine⟨?_,nv⟩;unfold aaC;rw[gX hx (g7 h1),gX hy (g7 h2)];dsimp only;rw[<-De]
  congr 1
  push_cast;exact "@#+-'A1074-'B1074-+'A'B2148" ()
 ·rw[if_neg h]
  exact⟨(sZ _).symm,aeP _⟩
noncomputable def rh(x y:Nat):Nat:=if bB x&&bB y&& !aak (bH y) 0 then kg (bX x !=bX y) (if aC y<=aC x then k9 (bH x*2^(aC x -aC y)) (bH y) else k9 (bH x) (bH y*2^(aC y -aC x))) else(acG (U x) (U y)).toNat
theorem PE{x y:Nat}(hx:x<2^64)(hy:y<2^64):acG (U x) (U y)=U (rh x y)/\rh x y<2^64:=by
 unfold rh
 by_cases h:(bB x&&bB y&& !aak (bH y) 0)=true
 ·rw[if_pos h]
  obtain⟨h,h3⟩:=ZT.mp h;obtain⟨h1,h2⟩:=ZT.mp h;have QI: ¬((bH y==0)=true):=by
   rw[beq_iff_eq];intro e;rw[e] at h3;cases h3
  refine⟨?_,yq (by split<;>exact Dw _ _)⟩;unfold acG;rw[gX hx (g7 h1),gX hy (g7 h2)];dsimp only;rw[if_neg QI]
  by_cases hq:aC y<=aC x
  ·rw[if_pos hq,vm (by(simp at*;omega))]
   dsimp only;rw[uW,show((aC x:Int) -1074 -((aC y:Int) -1074)).toNat=aC x -aC y by exact Z5 ("#'A--'B1074-'C1074;1=+DCB[AD" (ZV ("[AB]0--'B1074-'A1074" hq)) (ZM (hq))) ("=+ABC;1#'D--'C1074-'B1074[AD" (ZM (hq)) (ZV ("[AB]0--'B1074-'A1074" hq)))]
  ·rw[if_neg hq,yz (by simp[*])]
   dsimp only;rw[uW,show(-((aC x:Int) -1074 -((aC y:Int) -1074))).toNat=aC y -aC x by exact Z5 ("#'A~--'B1074-'C1074;1=+DBC[AD" (ZV ("![AB]0~--'B1074-'A1074" hq)) (ZM ("![AB[BA" hq))) ("=+ABC;1#'D~--'B1074-'C1074[AD" (ZM ("![AB[BA" hq)) (ZV ("![AB]0~--'B1074-'A1074" hq)))]
 ·rw[if_neg h]
  exact⟨(sZ _).symm,aeP _⟩
theorem Lq{a b:Nat}(ha:a<2^64)(hb:b<2^64):U a^^^U b=U (a^^^b)/\a^^^b<2^64:=by
 have h:=Nat.xor_lt_two_pow ha hb;refine⟨?_,h⟩;apply UInt64.toNat_inj.mp;rw[UInt64.toNat_xor,yJ ha,yJ hb,yJ h]
theorem VM{x:Nat}(h:x<2^64)(hf:bB x=true):Float64.isNaN (U x)=false:=by
 unfold Float64.isNaN;rw[gX h (g7 hf)]
noncomputable def pq(x:Nat):Nat:=if bB x then x^^^2^63 else(Float64.neg (U x)).toNat
theorem PZ{x:Nat}(hx:x<2^64):Float64.neg (U x)=U (pq x)/\pq x<2^64:=by
 unfold pq
 by_cases h:bB x=true
 ·rw[if_pos h]
  obtain⟨h1,h2⟩:=Lq hx (show 2^63<2^64 by decide);refine⟨?_,h2⟩;unfold Float64.neg;rw[VM hx h,if_neg aa5,<-h1];rfl
 ·rw[if_neg h]
  exact⟨(sZ _).symm,aeP _⟩
noncomputable def nJ(x y:Nat):Nat:=if bB x&&bB y then
 let G:=min (aC x) (aC y)
 let P:=bH x*2^(aC x -G)
 let Q:=bH y*2^(aC y -G)
 if bX x==bX y then(if P+Q=0 then kg (bX x) 0 else jO 1074 (bX x) (P+Q) G)
 else if P=Q then kg false 0 else if Q<P then jO 1074 (bX x) (P -Q) G else jO 1074 (bX y) (Q -P) G
 else(abE (U x) (U y)).toNat
theorem zo(a b:Bool)(m k E F:Nat):Float64.align a m ((E:Int) -1074) b k ((F:Int) -1074)=(abg a (m*2^(E -min E F)),abg b (k*2^(F -min E F)),((min E F:Nat):Int) -1074):=by
 unfold Float64.align
 have e1:min ((E:Int) -1074) ((F:Int) -1074)=((min E F:Nat):Int) -1074:=by exact ab0 ((Int.le_total (↑E -1074) (↑F -1074)).elim (fun x0=> ";1=AB#a-'B1074]a-'A1074" (abB ("]-'A1074-'B1074[AB" x0)) (Int.min_eq_left (x0))) (fun x0=> ";1=AB#a-'B1074]a-'A1074" (adl ("]-'A1074-'B1074[AB" x0)) (Int.min_eq_right (x0)))) ((Nat.le_total (E) (F)).elim (fun x0=> "=AB;1#a-'B1074]-'A1074a" (abB (x0)) (Int.min_eq_left ("[AB]-'A1074-'B1074" x0))) (fun x0=> "=AB;1#a-'B1074]-'A1074a" (adl (x0)) (Int.min_eq_right ("[AB]-'A1074-'B1074" x0))))
 rw[e1];have e2:((E:Int) -1074 -(((min E F:Nat):Int) -1074)).toNat=E -min E F:=by exact Z5 ("#'A--'B1074-'C1074;1=+DCB[AD" (ZV ("[AB]0--'B1074-'A1074" (abD _ _))) (ZM ("[AB[AB" (abD _ _)))) ("=+ABC;1#'D--'C1074-'B1074[AD" (ZM ("[AB[AB" (abD _ _))) (ZV ("[AB]0--'B1074-'A1074" (abD _ _))))
 have e3:((F:Int) -1074 -(((min E F:Nat):Int) -1074)).toNat=F -min E F:=by exact Z5 ("#'A--'B1074-'C1074;1=+DCB[AD" (ZV ("[AB]0--'B1074-'A1074" (abj _ _))) (ZM ("[AB[AB" (abj _ _)))) ("=+ABC;1#'D--'C1074-'B1074[AD" (ZM ("[AB[AB" (abj _ _))) (ZV ("[AB]0--'B1074-'A1074" (abj _ _))))
 dsimp only;rw[e2,e3]
theorem yT(b:Bool):Float64.zero b=U (kg b 0):=rfl
theorem yp{b:Bool}:kg b 0<2^64:=yq (aav _)
theorem Av{x y:Nat}(hx:x<2^64)(hy:y<2^64):abE (U x) (U y)=U (nJ x y)/\nJ x y<2^64:=by
 unfold nJ
 by_cases h:(bB x&&bB y)=true
 ·rw[if_pos h]
  obtain⟨h1,h2⟩:=ZT.mp h;unfold abE;rw[gX hx (g7 h1),gX hy (g7 h2)];dsimp only;rw[zo];dsimp only;generalize bH x*2^(aC x -min (aC x) (aC y))=P;generalize bH y*2^(aC y -min (aC x) (aC y))=Q;generalize min (aC x) (aC y)=G;have wt: ∀(neg:Bool) (n:Nat),Float64.ofBin neg n ((G:Int) -1074)=U (jO 1074 neg n G):=fun neg n=>De neg n G 1074
  cases ZC:bX x<;>cases ZD:bX y
  ·rw[if_pos (show(false==false)=true from rfl)]
   have hs:abg false P+abg false Q=((P+Q:Nat):Int):=by unfold abg;simp
   rw[hs]
   by_cases hz:P+Q=0
   ·rw[if_pos hz,if_pos (by rw[hz];rfl)]
    exact⟨yT _,yp⟩
   ·rw[if_neg hz,if_neg (by rw[beq_iff_eq];lia),wt]
    have hd:decide (((P+Q:Nat):Int)<0)=false:=decide_eq_false (by exact abK.mpr (Z0 _));rw[hd,aaK];exact⟨rfl,nv⟩
  ·rw[if_neg (show¬((false==true)=true) from aa5)]
   have hs:abg false P+abg true Q=(P:Int) -(Q:Int):=by unfold abg;simp;rfl
   rw[hs]
   by_cases hz:P=Q
   ·rw[if_pos hz,if_pos (by rw[beq_iff_eq];simp[*])]
    exact⟨yT _,yp⟩
   ·rw[if_neg hz,if_neg (by rw[beq_iff_eq];lia),wt]
    by_cases hq:Q<P
    ·rw[if_pos hq]
     have hd:decide ((P:Int) -(Q:Int)<0)=false:=decide_eq_false (by exact "<AB!>-'B'A0" hq);rw[hd,show((P:Int) -(Q:Int)).natAbs=P -Q by exact Z5 ("#'A-'B'C;1=+DCB[AD" (aas ("<AB]0-'B'A" hq)) (ZM ("<AB[AB" hq))) ("=+ABC;1#'D-'C'B[AD" (ZM ("<AB[AB" hq)) (aas ("<AB]0-'B'A" hq)))];exact⟨rfl,nv⟩
    ·rw[if_neg hq]
     have hd:decide ((P:Int) -(Q:Int)<0)=true:=decide_eq_true (by exact(aa8 hz).elim (fun x2=> "<AB>-'A'B0" x2) (fun x2=> "!<AB<AB:0>-'B'A0" hq x2));rw[hd,show((P:Int) -(Q:Int)).natAbs=Q -P by exact Z5 ("#'A~-'B'C;1=+DBC[AD" (aaS ("!<AB]-'B'A0" hq)) (ZM ("!<AB[BA" hq))) ("=+ABC;1#'D~-'B'C[AD" (ZM ("!<AB[BA" hq)) (aaS ("!<AB]-'B'A0" hq)))];exact⟨rfl,nv⟩
  ·rw[if_neg (show¬((true==false)=true) from aa5)]
   have hs:abg true P+abg false Q=(Q:Int) -(P:Int):=by unfold abg;simp;exact Int.add_comm _ _
   rw[hs]
   by_cases hz:P=Q
   ·rw[if_pos hz,if_pos (by rw[beq_iff_eq];simp[*])]
    exact⟨yT _,yp⟩
   ·rw[if_neg hz,if_neg (by rw[beq_iff_eq];lia),wt]
    by_cases hq:Q<P
    ·rw[if_pos hq]
     have hd:decide ((Q:Int) -(P:Int)<0)=true:=decide_eq_true (by exact "<AB>-'A'B0" hq);rw[hd,show((Q:Int) -(P:Int)).natAbs=P -Q by exact Z5 ("#'A~-'B'C;1=+DBC[AD" (aaS ("<AB]-'A'B0" hq)) (ZM ("<AB[AB" hq))) ("=+ABC;1#'D~-'B'C[AD" (ZM ("<AB[AB" hq)) (aaS ("<AB]-'A'B0" hq)))];exact⟨rfl,nv⟩
    ·rw[if_neg hq]
     have hd:decide ((Q:Int) -(P:Int)<0)=false:=decide_eq_false (by(simp at*;omega));rw[hd,show((Q:Int) -(P:Int)).natAbs=Q -P by exact Z5 ("#'A-'B'C;1=+DCB[AD" (aas ("!<AB]0-'A'B" hq)) (ZM ("!<AB[BA" hq))) ("=+ABC;1#'D-'C'B[AD" (ZM ("!<AB[BA" hq)) (aas ("!<AB]0-'A'B" hq)))];exact⟨rfl,nv⟩
  ·rw[if_pos (show(true==true)=true from rfl)]
   have hs:abg true P+abg true Q= -((P+Q:Nat):Int):=by unfold abg;simp;exact "@#+~'A~'B~+'A'B" ()
   rw[hs]
   by_cases hz:P+Q=0
   ·rw[if_pos hz,if_pos (by rw[hz];rfl)]
    exact⟨yT _,yp⟩
   ·rw[if_neg hz,if_neg (by rw[beq_iff_eq];lia),wt]
    have hd:decide (-((P+Q:Nat):Int)<0)=true:=decide_eq_true (by exact(aa8 hz).elim (fun x1=> "<+AB0:0>~'+AB0" x1) (fun x1=> "<0+AB>~'+AB0" x1));rw[hd,Int.natAbs_neg,aaK];exact⟨rfl,nv⟩
 ·rw[if_neg h]
  exact⟨(sZ _).symm,aeP _⟩
noncomputable def wW(x y:Nat):Nat:=nJ x (pq y)
theorem Qe{x y:Nat}(hx:x<2^64)(hy:y<2^64):aaJ (U x) (U y)=U (wW x y)/\wW x y<2^64:=by
 obtain⟨h1,h2⟩:=PZ hy;obtain⟨h3,h4⟩:=Av hx h2;exact⟨by unfold aaJ;rw[h1,h3];rfl,h4⟩
noncomputable def oM(x y:Nat):Nat:=bH x*2^(aC x -min (aC x) (aC y))
theorem Fi{x y:Nat}(hx:x<2^64)(hy:y<2^64)(h:(bB x&&bB y)=true):aaW (U x) (U y)=some (compare (abg (bX x) (oM x y)) (abg (bX y) (bH y*2^(aC y -min (aC x) (aC y))))):=by
 obtain⟨h1,h2⟩:=ZT.mp h;unfold aaW;rw[gX hx (g7 h1),gX hy (g7 h2)];dsimp only;rw[zo];rfl
noncomputable def ri(x y:Nat):Bool:=if bB x&&bB y then
 let P:=oM x y
 let Q:=bH y*2^(aC y -min (aC x) (aC y))
 if bX x==bX y then aak P Q else aak P 0&&aak Q 0
 else iJ (U x) (U y)
noncomputable def dj(x y:Nat):Bool:=if bB x&&bB y then
 let P:=oM x y
 let Q:=bH y*2^(aC y -min (aC x) (aC y))
 match bX x,bX y with
 |false,false=>Nat.blt P Q
 |true,true=>Nat.blt Q P
 |true,false=>Nat.blt 0 (P+Q)
 |false,true=>false
 else nI (U x) (U y)
theorem N4(a b:Int):(some (compare a b)==some Ordering.eq)=decide (a=b):=by
 rw[aa9,beq_iff_eq,decide_eq_true_eq,adF];exact Int.compare_eq_eq
theorem N5(a b:Int):(some (compare a b)==some aeF)=decide (a<b):=by
 rw[aa9,beq_iff_eq,decide_eq_true_eq,adF];exact Int.compare_eq_lt
theorem yg(a b:Nat):aak a b=decide (a=b):=by rw[aa9,decide_eq_true_eq,ad7]
theorem VP(a b:Nat):Nat.blt a b=decide (a<b):=by rw[aa9,decide_eq_true_eq,Nat.blt_eq]
theorem GK{x y:Nat}(hx:x<2^64)(hy:y<2^64):iJ (U x) (U y)=ri x y:=by
 unfold ri
 by_cases h:(bB x&&bB y)=true
 ·rw[if_pos h]
  unfold iJ;rw[Fi hx hy h,N4];dsimp only;generalize oM x y=P;generalize bH y*2^(aC y -min (aC x) (aC y))=Q;rw[yg,yg,yg,aa9];unfold abg;cases bX x<;>cases bX y<;>simp<;>lia
 ·rw[if_neg h]
theorem mA{x y:Nat}(hx:x<2^64)(hy:y<2^64):nI (U x) (U y)=dj x y:=by
 unfold dj
 by_cases h:(bB x&&bB y)=true
 ·rw[if_pos h]
  unfold nI;rw[Fi hx hy h,N5];dsimp only;generalize oM x y=P;generalize bH y*2^(aC y -min (aC x) (aC y))=Q;unfold abg;cases bX x<;>cases bX y<;>(simp only[VP];rw[aa9];simp<;>exact⟨fun x0=> ">~'A'B<0+AB" x0,fun x0=> "<0+AB>~'A'B" x0⟩)
 ·rw[if_neg h]
noncomputable def AE(x y:Nat):Bool:=dj x y||ri x y
theorem PQ{x y:Nat}(hx:x<2^64)(hy:y<2^64):pg (U x) (U y)=AE x y:=by
 show(nI (U x) (U y)||iJ (U x) (U y))=_
 rw[mA hx hy,GK hx hy];rfl
noncomputable def qF(x:Nat):Bool:=if bB x then aak (bH x) 0 else abT (U x)
theorem La{x:Nat}(hx:x<2^64):abT (U x)=qF x:=by
 unfold qF
 by_cases h:bB x=true
 ·rw[if_pos h]
  unfold abT;rw[gX hx (g7 h)];rw[yg];generalize bH x=m;cases m with
  |zero=>rfl
  |succ m=>rfl
 ·rw[if_neg h]
theorem TL{x:Nat}(hx:x<2^64)(h:bB x=true):adB (U x)=false:=by
 unfold adB;rw[gX hx (g7 h)]
theorem PK{x:Nat}(hx:x<2^64)(h:bB x=true):mz (U x)=true:=by
 unfold mz;rw[gX hx (g7 h)]
noncomputable def yK(x:Nat):Nat:=if 1074<=aC x then bH x*2^(aC x -1074) else bH x/2^(1074 -aC x)
theorem YC{x:Nat}(hx:x<2^64)(h:bB x=true)(hs:bX x=false):i3 (U x)=(yK x:Int):=by
 unfold i3;rw[gX hx (g7 h),hs];unfold Float64.truncOf Float64.floorOf yK;dsimp only;rw[if_neg aa5]
 by_cases hq:1074<=aC x
 ·rw[if_pos (show((aC x:Int) -1074)>=0 by exact "[1074A]0-'A1074" hq),if_pos hq]
  rw[show((aC x:Int) -1074).toNat=aC x -1074 by exact Z5 ("#'A-'B1074;1=+C1074B[AC" (ZV ("[1074A]0-'A1074" hq)) (ZM (hq))) ("=+A1074B;1#'C-'B1074[AC" (ZM (hq)) (ZV ("[1074A]0-'A1074" hq)))];unfold abg;simp
 ·rw[if_neg (show¬((aC x:Int) -1074)>=0 by exact "![1074A!]0-'A1074" hq),if_neg hq]
  rw[show(-((aC x:Int) -1074)).toNat=1074 -aC x by exact Z5 ("#'A~-'B1074;1=+CB1074[AC" (ZV ("![1074A]0~-'A1074" hq)) (ZM ("![1074A[A1074" hq))) ("=+AB1074;1#'C~-'B1074[AC" (ZM ("![1074A[A1074" hq)) (ZV ("![1074A]0~-'A1074" hq)))];have:abg false (bH x)=(bH x:Int):=by unfold abg;simp
  rw[this,show((2:Int)^(1074 -aC x))=((2^(1074 -aC x):Nat):Int) by push_cast;rfl,rY]
noncomputable def iY:Nat:=4607182418800017408
noncomputable def gv(x:Nat):Nat:=let G:=min (aC x) (aC iY);jO 1074 (bX x) (bH x*2^(aC x -G)%(bH iY*2^(aC iY -G))) G
theorem JX:iY<2^64:=by decide
theorem Wo:bB iY=true:=by decide+kernel
theorem PT{x:Nat}(hx:x<2^64)(h:bB x=true):Float64.fmod (U x) (U iY)=U (gv x):=by
 unfold Float64.fmod gv;rw[gX hx (g7 h),gX JX (g7 Wo)];dsimp only;rw[if_neg (show¬((bH iY==0)=true) by decide+kernel),zo];dsimp only;have hp: ∀n:Nat,(abg false n).toNat=n:=fun n=>by unfold abg;simp
 rw[hp,hp];exact De _ _ _ 1074
theorem wR{x:Nat}:gv x<2^64:=nv
noncomputable def rX(x:Nat):Nat:=if bB x&&bB (gv x) then(if qF (gv x) then 0 else if dj (gv x) 0 then nJ (gv x) iY else gv x) else(adL (U x) (U iY)).snd.toNat
theorem Oh:Float64.copysign (Float64.zero false) (U iY)=U 0:=by decide+kernel
theorem Vj:Float64.lt (U iY) (Float64.zero false)=false:=by decide+kernel
theorem VI{x:Nat}(hx:x<2^64):(adL (U x) (U iY)).snd=U (rX x)/\rX x<2^64:=by
 unfold rX
 by_cases h:(bB x&&bB (gv x))=true
 ·rw[if_pos h]
  obtain⟨h1,h2⟩:=ZT.mp h;unfold adL;dsimp only;rw[PT hx h1,La wR,Vj];have aV:Float64.lt (U (gv x)) (Float64.zero false)=dj (gv x) 0:=mA wR (by decide);rw[aV]
  by_cases hz:qF (gv x)=true
  ·rw[if_pos hz,if_pos hz]
   exact⟨Oh,by decide⟩
  ·rw[if_neg hz,if_neg hz]
   cases hn:dj (gv x) 0 with
   |true=>
    rw[if_pos (show(false !=true)=true from rfl),if_pos rfl];exact Av wR JX
   |false=>
    rw[if_neg (show¬((false !=false)=true) from aa5),if_neg aa5];exact⟨rfl,wR⟩
 ·rw[if_neg h]
  exact⟨(sZ _).symm,aeP _⟩
noncomputable def uI(a b c:Nat):Nat:=let x:=if dj a b then b else a;if dj x c then c else x
noncomputable def uM(a b c:Nat):Nat:=let x:=if dj b a then b else a;if dj c x then c else x
theorem Vq{a b c:Nat}(ha:a<2^64)(hb:b<2^64)(hc:c<2^64):eD (U a) (U b) (U c)=U (uI a b c)/\uI a b c<2^64:=by
 unfold eD uI;dsimp only;rw[show(aaW (U a) (U b)==some aeF)=dj a b from mA ha hb];cases dj a b with
 |true=>
  rw[if_pos rfl,if_pos rfl,show(aaW (U b) (U c)==some aeF)=dj b c from mA hb hc];cases dj b c<;>simp[hb,hc]
 |false=>
  rw[if_neg aa5,if_neg aa5,show(aaW (U a) (U c)==some aeF)=dj a c from mA ha hc];cases dj a c<;>simp[ha,hc]
theorem VC{a b c:Nat}(ha:a<2^64)(hb:b<2^64)(hc:c<2^64):iy (U a) (U b) (U c)=U (uM a b c)/\uM a b c<2^64:=by
 unfold iy uM;dsimp only;rw[show(aaW (U b) (U a)==some aeF)=dj b a from mA hb ha];cases dj b a with
 |true=>
  rw[if_pos rfl,if_pos rfl,show(aaW (U c) (U b)==some aeF)=dj c b from mA hc hb];cases dj c b<;>simp[hb,hc]
 |false=>
  rw[if_neg aa5,if_neg aa5,show(aaW (U c) (U a)==some aeF)=dj c a from mA hc ha];cases dj c a<;>simp[ha,hc]
noncomputable abbrev aY{α:Type}(b:Bool)(x y:α):α:=Bool.rec y x b
theorem cg{α:Type}(b:Bool)(x y:α):(aY b x y:α)=if b=true then x else y:=by cases b<;>rfl
set_option tactic.hygienic true in
noncomputable def jx(k:Nat)(next:Nat->Nat->Nat)(n acc:Nat):Nat:=bh (adp n k) fun m=>aY (aak m 0) (next n acc) (bh (acr acc k) fun a=>next m a)
set_option tactic.hygienic true in
theorem kT{k:Nat}{next:Nat->Nat->Nat}(h: ∀n acc,n≠0->next n acc=acc+n.log2): ∀n acc,n≠0->jx k next n acc=acc+n.log2:=fun n acc hn=>by
 unfold jx;rw[cX,cX,cg];simp only[ad7];rw[show adp n k=n/2^k from adH _ _]
 by_cases hz:n/2^k=0
 ·rw[if_pos hz];exact h n acc hn
 ·rw[if_neg hz,h _ _ hz]
  have hle:2^k<=n:=by
   rcases Nat.lt_or_ge n (2^k) with h|h
   ·exact absurd (Nat.div_eq_of_lt h) hz
   ·exact h
  have hk:k<=n.log2:=(Nat.le_log2 hn).mpr hle;have e:(n/2^k).log2=n.log2 -k:=(Nat.log2_eq_iff hz).mpr ⟨by
   rw[Nat.le_div_iff_mul_le (ab2 k),<-ab5,ZM hk];exact(Nat.le_log2 hn).mp (aab _),by
   rw[aeh (ab2 k),<-ab5,show n.log2 -k+1+k=n.log2+1 by exact Z5 ("=+ABC[++A1B+C1" (ZM (hk))) (";1=+ABC[+C1++A1B" (ZM (hk)))];exact(ad9 hn).mp (acB _)⟩
  rw[e];show acc+k+_=_
  exact Z5 ("=+ABC[++DBA+DC" (ZM (hk))) (";1=+ABC[+DC++DBA" (ZM (hk)))
noncomputable def CS(n acc:Nat):Nat:=aY (aak n 1) acc (acr acc (Nat.log2 n))
theorem U4: ∀n acc,n≠0->CS n acc=acc+n.log2:=fun n acc hn=>by
 unfold CS;rw[cg];simp only[ad7]
 by_cases h:n=1
 ·subst h;rw[if_pos rfl];exact(adw acc).symm
 ·rw[if_neg h];rfl
noncomputable def CR:Nat->Nat->Nat:=jx 32 (jx 16 (jx 8 (jx 4 (jx 2 (jx 1 CS)))))
noncomputable def Jt:Nat->Nat->Nat:=jx 1024 (jx 512 (jx 256 (jx 128 (jx 64 CR))))
noncomputable def x8(n:Nat):Nat:=aY (aak n 1) 0 (aY (abt n 18446744073709551615) (CR n 0) (Jt n 0))
theorem U7(n:Nat):x8 n=n.log2:=by
 by_cases h:n=0
 ·subst h;kernel_rfl
 have HB: ∀n acc,n≠0->CR n acc=acc+n.log2:=kT (kT (kT (kT (kT (kT U4)))));have hB: ∀n acc,n≠0->Jt n acc=acc+n.log2:=kT (kT (kT (kT (kT HB))));unfold x8;rw[cg,cg,HB n 0 h,hB n 0 h,acS];simp only[ad7]
 by_cases h1:n=1
 ·subst h1;rw[if_pos rfl];rfl
 ·rw[if_neg h1];split<;>rfl
noncomputable def Dv(I P n d:Nat):Nat:=aY (aak n 0) 0 (bh (x8 n) fun ln=>bh (x8 d) fun ld=>
 bh (aY (abt ld ln) (aY (abt (aay d (aaO ln ld)) n) 0 1) (aY (abt d (aay n (aaO ld ln))) 0 1)) fun c=>
 bh (aaO (acr ln 1022) (acr ld c)) fun E=>
 bh (aY (abt E 1074) (aay n (aaO 1074 E)) n) fun a=>
 bh (aY (abt E 1074) d (aay d (aaO E 1074))) fun b=>
 bh (Nat.div a b) fun q=>bh (adq 2 (acR a b)) fun r=>
 bh (aY (abt r b) (aY (aak r b) (acr q (Nat.land q 1)) q) (adN q)) fun h=>
 bh (acr (adq E P) h) fun iT=>aY (abt I iT) I iT)
noncomputable def Dx(I P n d:Nat):Nat:=
 if n=0 then 0 else
 let ln:=n.log2
 let ld:=d.log2
 let c:=if ld<=ln then(if d*2^(ln -ld)<=n then 0 else 1) else(if d<=n*2^(ld -ln) then 0 else 1)
 let E:=ln+1022 -(ld+c)
 let a:=if E<=1074 then n*2^(1074 -E) else n
 let b:=if E<=1074 then d else d*2^(E -1074)
 min I (E*P+adP a b)
theorem Xr(n d:Nat):Dx ads (2^52) n d=k9 n d:=rfl
noncomputable def cq(n d:Nat):Nat:=Dv 9218868437227405312 4503599627370496 n d
theorem Rh(n d:Nat):adP n d=aY (abt (2*(n % d)) d) (aY (aak (2*(n % d)) d) (n/d+(n/d&&&1)) (n/d)) (n/d+1):=by
 unfold adP;dsimp only;generalize n/d=q;generalize 2*(n % d)=r;rw[cg,cg,Nat.and_one_is_mod]
 by_cases h1:r<=d
 ·rw[if_pos (acy.mpr h1:abt r d=true)]
  by_cases h2:r=d
  ·subst h2
   have hb:aak r r=true:=Nat.beq_refl r;rw[if_pos hb]
   by_cases h3:q % 2=1
   ·rw[if_pos (by simp[h3]),h3]
   ·have:q % 2=0:=by(simp at*;omega)
    rw[if_neg (by simp[h3]),this];exact(adw q).symm
  ·have hb: ¬(aak r d=true):=fun e=>h2 (aa7 e)
   rw[if_neg hb,if_neg (by simp[h2];omega)]
 ·rw[if_neg (show¬(abt r d=true) from fun e=>h1 (acy.mp e)),if_pos (by simp;exact .inl ("![AB<BA" h1))]
theorem Xq(I P n d:Nat):Dv I P n d=Dx I P n d:=by
 unfold Dv Dx
 by_cases h0:n=0
 ·subst h0
  rw[if_pos (Eq.refl 0)];rfl
 rw[if_neg h0,cg,if_neg (show¬(aak n 0=true) from fun e=>h0 (aa7 e))];simp only[cX,U7];have hc:(aY (abt d.log2 n.log2) (aY (abt (aay d (aaO n.log2 d.log2)) n) 0 1) (aY (abt d (aay n (aaO d.log2 n.log2))) 0 1):Nat)=(if d.log2<=n.log2 then(if d*2^(n.log2 -d.log2)<=n then 0 else 1) else(if d<=n*2^(d.log2 -n.log2) then 0 else 1)):=by
  rw[cg,cg,cg];simp only[acy];rw[show aay d (aaO n.log2 d.log2)=d*2^(n.log2 -d.log2) from abe _ _,show aay n (aaO d.log2 n.log2)=n*2^(d.log2 -n.log2) from abe _ _]
 rw[hc];generalize (if d.log2<=n.log2 then(if d*2^(n.log2 -d.log2)<=n then 0 else 1) else(if d<=n*2^(d.log2 -n.log2) then 0 else 1):Nat)=c;rw[show aaO (acr n.log2 1022) (acr d.log2 c)=n.log2+1022 -(d.log2+c) from rfl];generalize n.log2+1022 -(d.log2+c)=E;have ha:(aY (abt E 1074) (aay n (aaO 1074 E)) n:Nat)=if E<=1074 then n*2^(1074 -E) else n:=by
  rw[cg];simp only[acy];rw[show aay n (aaO 1074 E)=n*2^(1074 -E) from abe _ _]
 have hb:(aY (abt E 1074) d (aay d (aaO E 1074)):Nat)=if E<=1074 then d else d*2^(E -1074):=by
  rw[cg];simp only[acy];rw[show aay d (aaO E 1074)=d*2^(E -1074) from abe _ _]
 rw[ha,hb,Rh];generalize (if E<=1074 then n*2^(1074 -E) else n)=a;generalize (if E<=1074 then d else d*2^(E -1074))=b;show aY (abt I (E*P+aY (abt (2*(a % b)) b) (aY (aak (2*(a % b)) b) (a/b+(a/b&&&1)) (a/b)) (a/b+1))) I (E*P+aY (abt (2*(a % b)) b) (aY (aak (2*(a % b)) b) (a/b+(a/b&&&1)) (a/b)) (a/b+1))=_
 generalize E*P+(aY (abt (2*(a % b)) b) (aY (aak (2*(a % b)) b) (a/b+(a/b&&&1)) (a/b)) (a/b+1):Nat)=z;rw[cg];simp only[acy];split<;>grind
theorem vh(n d:Nat):cq n d=k9 n d:=by
 unfold cq;rw[Xq,<-Xr,show ads=9218868437227405312 from by decide,show(2:Nat)^52=4503599627370496 from by decide]
theorem HA:(2:Nat)^52=4503599627370496:=by decide
theorem Bd:(2:Nat)^63=9223372036854775808:=by decide
noncomputable def tj(x:Nat):Nat:=acR (Nat.div x 4503599627370496) 2048
theorem Ao(x:Nat):tj x=lH x:=by unfold tj lH;rw[HA];rfl
noncomputable def iV(x:Nat):Nat:=bh (acR x 4503599627370496) fun f=>aY (aak (tj x) 0) f (acr 4503599627370496 f)
theorem kX(x:Nat):iV x=bH x:=by
 unfold iV bH;rw[cX,cg,Ao,HA];simp only[ad7];rfl
noncomputable def jQ(x:Nat):Nat:=aaO (tj x) 1
theorem lF(x:Nat):jQ x=aC x:=by unfold jQ aC;rw[Ao];rfl
noncomputable def fh(x:Nat):Bool:=aak (Nat.div x 9223372036854775808) 1
theorem kh(x:Nat):fh x=bX x:=by unfold fh bX;rw[Bd];rfl
noncomputable def dH(x:Nat):Bool:=aY (aak (tj x) 2047) false true
theorem gu(x:Nat):dH x=bB x:=by
 unfold dH bB;rw[Ao];cases aak (lH x) 2047<;>rfl
noncomputable def cy(neg:Bool)(iT:Nat):Nat:=aY neg (acr 9223372036854775808 iT) iT
theorem yr(neg:Bool)(iT:Nat):cy neg iT=kg neg iT:=by
 unfold cy kg;rw[Bd];cases neg
 ·exact(acS iT).symm
 ·rfl
noncomputable def oP(o:Nat)(neg:Bool)(n S:Nat):Nat:=cy neg (aY (abt o S) (bh (aay n (aaO S o)) fun a=>cq a 1) (bh (aay 1 (aaO o S)) fun d=>cq n d))
theorem s8(o:Nat)(neg:Bool)(n S:Nat):oP o neg n S=jO o neg n S:=by
 unfold oP jO;rw[yr,cg,cX,cX,vh,vh];simp only[acy];rw[show aay n (aaO S o)=n*2^(S -o) from abe _ _,show aay 1 (aaO o S)=2^(o -S) from Nat.one_shiftLeft _]
noncomputable def cK(x y:Nat):Nat:=aY (aY (dH x) (dH y) false) (bh (adq (iV x) (iV y)) fun m=>bh (acr (jQ x) (jQ y)) fun e=>oP 2148 (aY (fh x) (aY (fh y) false true) (fh y)) m e) (ro x y)
theorem PV(x y:Nat):cK x y=ro x y:=by
 unfold cK;rw[cg,gu,gu]
 by_cases h:(bB x&&bB y)=true
 ·have h':(aY (bB x) (bB y) false:Bool)=true:=by
   obtain⟨a,b⟩:=ZT.mp h;rw[a,b]
  rw[if_pos h',cX,cX,s8,kX,kX,lF,lF,kh,kh];unfold ro;rw[if_pos h];have:(aY (bX x) (aY (bX y) false true) (bX y):Bool)=(bX x !=bX y):=by cases bX x<;>cases bX y<;>rfl
  rw[this];rfl
 ·have h': ¬((aY (bB x) (bB y) false:Bool)=true):=fun e=>h (by
   cases a:bB x<;>rw[a] at e
   ·cases e
   ·exact(adU _).trans e)
  rw[if_neg h']
noncomputable abbrev nq(a b:Bool):Bool:=aY a b false
theorem oN(a b:Bool):nq a b=(a&&b):=by cases a<;>rfl
noncomputable abbrev yR(a b:Bool):Bool:=aY a (aY b false true) b
theorem D8(a b:Bool):yR a b=(a !=b):=by cases a<;>cases b<;>rfl
noncomputable abbrev JM(a:Bool):Bool:=aY a false true
theorem Wb(a:Bool):JM a= !a:=by cases a<;>rfl
noncomputable def kE(x y:Nat):Nat:=bh (iV y) fun k=>aY (nq (nq (dH x) (dH y)) (JM (aak k 0))) (bh (jQ x) fun E=>bh (jQ y) fun F=>bh (iV x) fun m=>cy (yR (fh x) (fh y)) (aY (abt F E) (bh (aay m (aaO E F)) fun a=>cq a k) (bh (aay k (aaO F E)) fun d=>cq m d))) (rh x y)
theorem PC(x y:Nat):kE x y=rh x y:=by
 unfold kE;simp only[cX];rw[cg,oN,oN,Wb,gu,gu,kX]
 by_cases h:(bB x&&bB y&& !aak (bH y) 0)=true
 ·rw[if_pos h,yr,D8,kh,kh,cg,vh,vh,lF,lF,kX]
  unfold rh;rw[if_pos h];simp only[acy];rw[show aay (bH x) (aaO (aC x) (aC y))=bH x*2^(aC x -aC y) from abe _ _,show aay (bH y) (aaO (aC y) (aC x))=bH y*2^(aC y -aC x) from abe _ _]
 ·rw[if_neg h]
noncomputable def AI(x:Nat):Nat:=aY (dH x) (Nat.xor x 9223372036854775808) (pq x)
theorem PY(x:Nat):AI x=pq x:=by
 unfold AI;rw[cg,gu]
 by_cases h:bB x=true
 ·rw[if_pos h];unfold pq;rw[if_pos h,Bd];rfl
 ·rw[if_neg h]
noncomputable def uN(a b:Nat):Nat:=aY (abt a b) a b
theorem CZ(a b:Nat):uN a b=min a b:=by
 unfold uN;rw[cg];simp only[acy];rw[Nat.min_def]
noncomputable def fP(x y:Nat):Nat:=aY (nq (dH x) (dH y))
 (bh (jQ x) fun E=>bh (jQ y) fun F=>bh (uN E F) fun G=>bh (aay (iV x) (aaO E G)) fun P=>bh (aay (iV y) (aaO F G)) fun Q=>
  aY (yR (fh x) (fh y)) (aY (aak P Q) 0 (aY (abt P Q) (bh (aaO Q P) fun z=>oP 1074 (fh y) z G) (bh (aaO P Q) fun z=>oP 1074 (fh x) z G)))
   (bh (acr P Q) fun z=>aY (aak z 0) (cy (fh x) 0) (oP 1074 (fh x) z G)))
 (nJ x y)
theorem Au(x y:Nat):fP x y=nJ x y:=by
 unfold fP;simp only[cX];rw[cg,oN,gu,gu]
 by_cases h:(bB x&&bB y)=true
 ·rw[if_pos h]
  unfold nJ;rw[if_pos h];dsimp only;rw[lF,lF,CZ,kX,kX,kh,kh];rw[show aay (bH x) (aaO (aC x) (min (aC x) (aC y)))=bH x*2^(aC x -min (aC x) (aC y)) from abe _ _,show aay (bH y) (aaO (aC y) (min (aC x) (aC y)))=bH y*2^(aC y -min (aC x) (aC y)) from abe _ _];generalize bH x*2^(aC x -min (aC x) (aC y))=P;generalize bH y*2^(aC y -min (aC x) (aC y))=Q;generalize min (aC x) (aC y)=G
  rw[cg,cg,cg,cg,D8,s8,s8,s8,yr];simp only[ad7,acy];show _=_
  by_cases hs:(bX x !=bX y)=true
  ·rw[if_pos hs,if_neg (show¬((bX x==bX y)=true) by intro e;unfold bne at hs;rw[e] at hs;cases hs)]
   by_cases hz:P=Q
   ·rw[if_pos hz,if_pos hz];rfl
   ·rw[if_neg hz,if_neg hz]
    by_cases hq:P<=Q
    ·rw[if_pos hq,if_neg (by exact adV.mpr ‹_›)];rfl
    ·rw[if_neg hq,if_pos (by exact Nat.not_le.mp ‹_›)];rfl
  ·rw[if_neg hs,if_pos (show(bX x==bX y)=true by
    unfold bne at hs;simpa using hs)]
   rfl
 ·rw[if_neg h]
noncomputable def cT(x y:Nat):Nat:=bh (AI y) fun z=>fP x z
theorem Qd(x y:Nat):cT x y=wW x y:=by unfold cT wW;rw[cX,Au,PY]
noncomputable def vO{α:Type}(x y:Nat)(k:Nat->Nat->α):α:=bh (jQ x) fun E=>bh (jQ y) fun F=>bh (uN E F) fun G=>bh (aay (iV x) (aaO E G)) fun P=>bh (aay (iV y) (aaO F G)) fun Q=>k P Q
theorem Ep{α:Type}(x y:Nat)(k:Nat->Nat->α):vO x y k=k (oM x y) (bH y*2^(aC y -min (aC x) (aC y))):=by
 unfold vO oM;simp only[cX];rw[lF,lF,CZ,kX,kX];rw[show aay (bH x) (aaO (aC x) (min (aC x) (aC y)))=bH x*2^(aC x -min (aC x) (aC y)) from abe _ _,show aay (bH y) (aaO (aC y) (min (aC x) (aC y)))=bH y*2^(aC y -min (aC x) (aC y)) from abe _ _]
noncomputable def lJ(x y:Nat):Bool:=aY (nq (dH x) (dH y)) (vO x y fun P Q=>aY (yR (fh x) (fh y)) (nq (aak P 0) (aak Q 0)) (aak P Q)) (ri x y)
theorem GJ(x y:Nat):lJ x y=ri x y:=by
 unfold lJ;rw[cg,oN,gu,gu,Ep]
 by_cases h:(bB x&&bB y)=true
 ·rw[if_pos h]
  unfold ri;rw[if_pos h];dsimp only;rw[cg,D8,kh,kh,oN];cases bX x<;>cases bX y<;>rfl
 ·rw[if_neg h]
noncomputable def jS(x y:Nat):Bool:=aY (nq (dH x) (dH y)) (vO x y fun P Q=>aY (fh x) (aY (fh y) (abt (adN Q) P) (abt 1 (acr P Q))) (aY (fh y) false (abt (adN P) Q))) (dj x y)
theorem pj(x y:Nat):jS x y=dj x y:=by
 unfold jS;rw[cg,oN,gu,gu,Ep]
 by_cases h:(bB x&&bB y)=true
 ·rw[if_pos h]
  unfold dj;rw[if_pos h];dsimp only;rw[kh,kh];cases bX x<;>cases bX y<;>rfl
 ·rw[if_neg h]
noncomputable def rk(x y:Nat):Bool:=aY (jS x y) true (lJ x y)
theorem PO(x y:Nat):rk x y=AE x y:=by
 unfold rk AE;rw[pj,GJ];cases dj x y<;>rfl
noncomputable def ng(x:Nat):Bool:=aY (dH x) (aak (iV x) 0) (qF x)
theorem K9(x:Nat):ng x=qF x:=by
 unfold ng;rw[cg,gu,kX]
 by_cases h:bB x=true
 ·rw[if_pos h];unfold qF;rw[if_pos h]
 ·rw[if_neg h]
noncomputable def ll(x:Nat):Nat:=bh (jQ x) fun E=>aY (abt 1074 E) (aay (iV x) (aaO E 1074)) (adp (iV x) (aaO 1074 E))
theorem YB(x:Nat):ll x=yK x:=by
 unfold ll yK;rw[cX,cg,lF,kX];simp only[acy];rw[show aay (bH x) (aaO (aC x) 1074)=bH x*2^(aC x -1074) from abe _ _,show adp (bH x) (aaO 1074 (aC x))=bH x/2^(1074 -aC x) from adH _ _]
theorem Wn:aC iY=1022:=by decide
theorem Wq:bH iY=4503599627370496:=by decide
noncomputable def AH(x:Nat):Nat:=bh (jQ x) fun E=>bh (uN E 1022) fun G=>bh (aay (iV x) (aaO E G)) fun P=>bh (aay 4503599627370496 (aaO 1022 G)) fun Q=>bh (acR P Q) fun z=>oP 1074 (fh x) z G
theorem PR(x:Nat):AH x=gv x:=by
 unfold AH gv;simp only[cX];rw[s8,lF,CZ,kX,kh,Wn,Wq];rw[show aay (bH x) (aaO (aC x) (min (aC x) 1022))=bH x*2^(aC x -min (aC x) 1022) from abe _ _];generalize 4503599627370496=c;rw[show aay c (aaO 1022 (min (aC x) 1022))=c*2^(1022 -min (aC x) 1022) from abe _ _];rfl
noncomputable def uO(x:Nat):Nat:=bh (AH x) fun m=>aY (nq (dH x) (dH m)) (aY (ng m) 0 (aY (jS m 0) (fP m 4607182418800017408) m)) (rX x)
theorem VH(x:Nat):uO x=rX x:=by
 unfold uO;rw[cX,cg,oN,PR,gu,gu]
 by_cases h:(bB x&&bB (gv x))=true
 ·rw[if_pos h]
  unfold rX;rw[if_pos h,cg,cg,K9,pj,Au];rfl
 ·rw[if_neg h]
noncomputable def jy(a b c:Nat):Nat:=bh (aY (jS a b) b a) fun x=>aY (jS x c) c x
theorem Vp(a b c:Nat):jy a b c=uI a b c:=by
 unfold jy uI;rw[cX,cg,cg,pj,pj]
noncomputable def lU(a b c:Nat):Nat:=bh (aY (jS b a) b a) fun x=>aY (jS c x) c x
theorem VB(a b c:Nat):lU a b c=uM a b c:=by
 unfold lU uM;rw[cX,cg,cg,pj,pj]
noncomputable def Is(z:UInt64)(x:Nat):Prop:=z=U x/\x<2^64
theorem j0{a b:UInt64}{x y:Nat}(h:Is a x)(k:Is b y):Is (abE a b) (fP x y):=by obtain⟨rfl,hx⟩:=h;obtain⟨rfl,hy⟩:=k;rw[Au];exact Av hx hy
theorem dg{a b:UInt64}{x y:Nat}(h:Is a x)(k:Is b y):Is (aaJ a b) (cT x y):=by obtain⟨rfl,hx⟩:=h;obtain⟨rfl,hy⟩:=k;rw[Qd];exact Qe hx hy
theorem eC{a b:UInt64}{x y:Nat}(h:Is a x)(k:Is b y):Is (aaC a b) (cK x y):=by obtain⟨rfl,hx⟩:=h;obtain⟨rfl,hy⟩:=k;rw[PV];exact PX hx hy
theorem nY{a b:UInt64}{x y:Nat}(h:Is a x)(k:Is b y):Is (acG a b) (kE x y):=by obtain⟨rfl,hx⟩:=h;obtain⟨rfl,hy⟩:=k;rw[PC];exact PE hx hy
theorem lR{a b c:UInt64}{x y z:Nat}(h:Is a x)(k:Is b y)(l:Is c z):Is (eD a b c) (jy x y z):=by obtain⟨rfl,hx⟩:=h;obtain⟨rfl,hy⟩:=k;obtain⟨rfl,hz⟩:=l;rw[Vp];exact Vq hx hy hz
theorem qa{a b c:UInt64}{x y z:Nat}(h:Is a x)(k:Is b y)(l:Is c z):Is (iy a b c) (lU x y z):=by obtain⟨rfl,hx⟩:=h;obtain⟨rfl,hy⟩:=k;obtain⟨rfl,hz⟩:=l;rw[VB];exact VC hx hy hz
theorem Jj{a:UInt64}{x:Nat}(h:Is a x):Is (adL a 4607182418800017408).snd (uO x):=by obtain⟨rfl,hx⟩:=h;rw[VH];exact VI hx
theorem uv{a b:UInt64}{x y:Nat}(h:Is a x)(k:Is b y):iJ a b=lJ x y:=by obtain⟨rfl,hx⟩:=h;obtain⟨rfl,hy⟩:=k;rw[GJ];exact GK hx hy
theorem CH{a b:UInt64}{x y:Nat}(h:Is a x)(k:Is b y):nI a b=jS x y:=by obtain⟨rfl,hx⟩:=h;obtain⟨rfl,hy⟩:=k;rw[pj];exact mA hx hy
theorem CF{a b:UInt64}{x y:Nat}(h:Is a x)(k:Is b y):pg a b=rk x y:=by obtain⟨rfl,hx⟩:=h;obtain⟨rfl,hy⟩:=k;rw[PO];exact PQ hx hy
theorem uw{a:UInt64}{x:Nat}(h:Is a x):abT a=ng x:=by obtain⟨rfl,hx⟩:=h;rw[K9];exact La hx
theorem pZ{c d:Bool}{a b:UInt64}{x y:Nat}(e:c=d)(h:Is a x)(k:Is b y):Is (if c then a else b) (if d then x else y):=by
 subst e;cases c
 ·exact k
 ·exact h
theorem Jk(neg:Bool)(n d:Nat):Is (aef neg n d) (cy neg (cq n d)):=by rw[yr,vh];exact⟨uW neg n d,yq (Dw n d)⟩
theorem lS(n:Nat):Is (abb (n:Int)) (cy false (cq n 1)):=by
 unfold abb;have e:decide ((n:Int)<0)=false:=decide_eq_false (by exact abK.mpr (Z0 _));rw[e,aaK];exact Jk _ _ _
theorem c2:Is 4611686018427387904 4611686018427387904:=⟨rfl,by decide⟩
theorem c4:Is 4616189618054758400 4616189618054758400:=⟨rfl,by decide⟩
theorem c6:Is 4618441417868443648 4618441417868443648:=⟨rfl,by decide⟩
theorem c1:Is 4607182418800017408 4607182418800017408:=⟨rfl,by decide⟩
theorem ch:Is 4602678819172646912 4602678819172646912:=⟨rfl,by decide⟩
theorem Oo:Is 4595172819793696085 4595172819793696085:=⟨rfl,by decide⟩
theorem Fz:Is 4604180019048437077 4604180019048437077:=⟨rfl,by decide⟩
theorem Fj:Is 4599676419421066581 4599676419421066581:=⟨rfl,by decide⟩
noncomputable def Cr(r g b:Nat):Nat:=
 bh (jy r g b) fun mx=>bh (cT mx (lU r g b)) fun rg=>
 let rc:=kE (cT mx r) rg
 let gc:=kE (cT mx g) rg
 let bc:=kE (cT mx b) rg
 let h:=if lJ r mx then cT bc gc else if lJ g mx then cT (fP 4611686018427387904 rc) bc else cT (fP 4616189618054758400 gc) rc
 uO (kE h 4618441417868443648)
theorem T9{r g b:UInt64}{x y z:Nat}(h:Is r x)(k:Is g y)(l:Is b z):Is (iR r g b) (Cr x y z):=by
 have mx:=lR h k l;have rg:=dg mx (qa h k l);have rc:=nY (dg mx h) rg;have gc:=nY (dg mx k) rg;have bc:=nY (dg mx l) rg;unfold Cr;rw[cX,cX];exact Jj (nY (pZ (uv h mx) (dg bc gc) (pZ (uv k mx) (dg (j0 c2 rc) bc) (dg (j0 c4 gc) rc))) c6)
noncomputable def x6(r g b:Nat):Nat:=kE (fP (jy r g b) (lU r g b)) 4611686018427387904
theorem CG{r g b:UInt64}{x y z:Nat}(h:Is r x)(k:Is g y)(l:Is b z):Is (mS r g b) (x6 x y z):=nY (j0 (lR h k l) (qa h k l)) c2
noncomputable def Kq(r g b:Nat):Nat:=
 let mx:=jy r g b
 let mn:=lU r g b
 if rk (x6 r g b) 4602678819172646912 then kE (cT mx mn) (fP mx mn) else kE (cT mx mn) (cT (cT 4611686018427387904 mx) mn)
theorem Uh{r g b:UInt64}{x y z:Nat}(h:Is r x)(k:Is g y)(l:Is b z):Is (vj r g b) (Kq x y z):=by
 have mx:=lR h k l;have mn:=qa h k l;exact pZ (CF (CG h k l) ch) (nY (dg mx mn) (j0 mx mn)) (nY (dg mx mn) (dg (dg c2 mx) mn))
noncomputable def Kr(r g b:Nat):Nat:=kE (cT (jy r g b) (lU r g b)) (jy r g b)
theorem Ui{r g b:UInt64}{x y z:Nat}(h:Is r x)(k:Is g y)(l:Is b z):Is (vk r g b) (Kr x y z):=nY (dg (lR h k l) (qa h k l)) (lR h k l)
noncomputable def vN(m1 m2 aN:Nat):Nat:=
 let h:=uO aN
 if jS h 4595172819793696085 then fP m1 (cK (cK (cT m2 m1) h) 4618441417868443648) else if jS h 4602678819172646912 then m2 else if jS h 4604180019048437077 then fP m1 (cK (cK (cT m2 m1) (cT 4604180019048437077 h)) 4618441417868443648) else m1
theorem CJ{a b c:UInt64}{x y z:Nat}(h:Is a x)(k:Is b y)(l:Is c z):Is (vF a b c) (vN x y z):=by
 have m:=Jj l;exact pZ (CH m Oo) (j0 h (eC (eC (dg k h) m) c6)) (pZ (CH m ch) k (pZ (CH m Fz) (j0 h (eC (eC (dg k h) (dg Fz m)) c6)) h))
noncomputable def y6(z:UInt64×UInt64×UInt64)(x:Nat×Nat×Nat):Prop:=Is z.1 x.1/\Is z.2.1 x.2.1/\Is z.2.2 x.2.2
noncomputable def Du(h l s:Nat):Nat×Nat×Nat:=
 let m2:=if rk l 4602678819172646912 then cK l (fP 4607182418800017408 s) else cT (fP l s) (cK l s)
 let m1:=cT (cK 4611686018427387904 l) m2
 (vN m1 m2 (fP h 4599676419421066581),vN m1 m2 h,vN m1 m2 (cT h 4599676419421066581))
theorem Ue{h l s:UInt64}{x y z:Nat}(a:Is h x)(b:Is l y)(c:Is s z):y6 (yx h l s) (Du x y z):=by
 have m2:=pZ (CF b ch) (eC b (j0 c1 c)) (dg (j0 b c) (eC b c));have m1:=dg (eC c2 b) m2;exact⟨CJ m1 m2 (j0 a Fj),CJ m1 m2 a,CJ m1 m2 (dg a Fj)⟩
noncomputable def si(x:Nat):Bool:=dH x&& !fh x
theorem xR{z:UInt64}{x:Nat}(a:Is z x)(h:si x=true):i3 z=(ll x:Int)/\mz z=true:=by
 obtain⟨rfl,hx⟩:=a;obtain⟨h1,h2⟩:=ZT.mp h;rw[gu] at h1;rw[kh] at h2;rw[YB];exact⟨YC hx h1 (by simpa using h2),PK hx h1⟩
theorem xP{z:UInt64}{x:Nat}(a:Is z x)(h:dH x=true):adB z=false:=by
 obtain⟨rfl,hx⟩:=a;exact TL hx (gu x▸h)
noncomputable def yy(h s v:Nat):Nat×Nat×Nat:=
 let i:=ll (cK h 4618441417868443648)
 let f:=cT (cK h 4618441417868443648) (cy false (cq i 1))
 let p:=cK v (cT 4607182418800017408 s)
 let q:=cK v (cT 4607182418800017408 (cK s f))
 let t:=cK v (cT 4607182418800017408 (cK s (cT 4607182418800017408 f)))
 let j:=i % 6
 if j=0 then(v,t,p) else if j=1 then(q,v,p) else if j=2 then(p,v,t) else if j=3 then(p,q,v) else if j=4 then(t,p,v) else(v,p,q)
theorem Ug{h s v:UInt64}{x y z:Nat}(a:Is h x)(b:Is s y)(c:Is v z)(hp:si (cK x 4618441417868443648)=true):y6 (sy h s v) (yy x y z):=by
 have h6:=eC a c6;obtain⟨ht,_⟩:=xR h6 hp;unfold sy yy;dsimp only;rw[ht];have f:=dg h6 (lS (ll (cK x 4618441417868443648)));have p:=eC c (dg c1 b);have q:=eC c (dg c1 (eC b f));have t:=eC c (dg c1 (eC b (dg c1 f)));generalize ll (cK x 4618441417868443648)=i at*;have hj:((i:Int)).fmod 6=((i % 6:Nat):Int):=wQ i 6;rw[hj];have h6:i % 6<6:=aaR _ (by decide);generalize i % 6=j at*
 revert j;intro j _ h6;apply uF (k:=j) h6
 ·exact⟨c,t,p⟩
 ·exact⟨q,c,p⟩
 ·exact⟨p,c,t⟩
 ·exact⟨p,q,c⟩
 ·exact⟨t,p,c⟩
 ·exact⟨c,p,q⟩
noncomputable def Dg(r g b:Nat):Bool:= !lJ (lU r g b) (jy r g b)&& !ng (cT (jy r g b) (lU r g b))&& !ng (jy r g b)
theorem Ub{r g b:UInt64}{x y z:Nat}(h:Is r x)(k:Is g y)(l:Is b z):r9 r g b=Dg x y z:=by
 unfold r9 Dg;rw[uv (qa h k l) (lR h k l),uw (dg (lR h k l) (qa h k l)),uw (lR h k l)]
noncomputable def Df(r g b:Nat):Bool:=
 let mx:=jy r g b
 let mn:=lU r g b
 !lJ mn mx&& !ng (cT mx mn)&&(if rk (x6 r g b) 4602678819172646912 then !ng (fP mx mn) else !ng (cT (cT 4611686018427387904 mx) mn))
theorem Ua{r g b:UInt64}{x y z:Nat}(h:Is r x)(k:Is g y)(l:Is b z):r8 r g b=Df x y z:=by
 have mx:=lR h k l;have mn:=qa h k l;unfold r8 Df;dsimp only;rw[uv mn mx,uw (dg mx mn),CF (CG h k l) ch,uw (j0 mx mn),uw (dg (dg c2 mx) mn)]
noncomputable def Dl(one n:Nat):Nat:=fP (cK (cK one (cy false (cq n 1))) (cy false (cq 2097152 1))) (cy false (cq 1 1))
noncomputable def Dm(one:Nat):Nat:=fP (cK one (cy false (cq 2097152 1))) (cy false (cq 1 1))
theorem Uc{z:UInt64}{x n:Nat}(h:Is z x):Is (yt z (n:Int)) (Dl x n):=j0 (eC (eC h (lS n)) (lS 2097152)) (lS 1)
theorem Ud{z:UInt64}{x:Nat}(h:Is z x):Is (u7 z) (Dm x):=j0 (eC h (lS 2097152)) (lS 1)
theorem zS(t:Nat):((t*1048576:Nat):Int)=(t:Int)*2^20:=by
 rw[aeN,show((1048576:Nat):Int)=(2:Int)^20 from by decide]
theorem NJ(t:Nat):((t*1048576:Nat):Int)=(t:Int)*2^(20:Int).toNat:=zS t
theorem HL(x:Nat):(x:Int).fdiv 2=((x/2:Nat):Int):=rY x 2
noncomputable def u6(z yI:Nat):Bool:=si (Dm z)&&aak (ll (Dm z)/2) (yI*1048576)
theorem xQ{a:UInt64}{z yI:Nat}(h:Is a z)(k:u6 z yI=true):mz (u7 a)=true/\tx a=(yI:Int)*2^20:=by
 obtain⟨h1,h2⟩:=ZT.mp k;obtain⟨e1,e2⟩:=xR (Ud h) h1;refine⟨e2,?_⟩;unfold tx;rw[e1,HL,aa7 h2,zS]
noncomputable def Kj(n r mo le mm R G B:Nat):Bool:=bh (Cr R G B) fun hu=>
 Dg R G B&&Df R G B&&si (Dl hu n)&&aak (ll (Dl hu n)/2 %(n*1048576)) (r*1048576)&&
 (u6 (cK (Kr R G B) (cy false (cq mo 1))) (mo -le)&&u6 (cK (jy R G B) (cy false (cq 32 1))) mo&&u6 (cK (x6 R G B) (cy false (cq 64 1))) (mo+le)&&u6 (cK (Kq R G B) (cy false (cq mm 1))) (mo -le))
noncomputable def sx(n r mo le mm:Nat)(p:Nat×Nat×Nat):Bool:=bh p.1 fun R=>bh p.2.1 fun G=>bh p.2.2 fun B=>Kj n r mo le mm R G B
theorem Kk{n r mo le mm:Nat}{place most least:Int}{p:UInt64×UInt64×UInt64}{q:Nat×Nat×Nat}(hp:y6 p q)(h:sx n r mo le mm q=true)(hle:le<=mo)(BZ:most=mo)(hl:least=le)(hm:uL (most+least) (64 -most -least)=(mm:Int))(hr:place.fmod (n:Int)=(r:Int)):vf (n:Int) place most least p=true:=by
 obtain⟨p1,p2,p3⟩:=hp;unfold sx Kj at h;rw[cX,cX,cX,cX] at h;obtain⟨h,g⟩:=ZT.mp h;obtain⟨h,h4⟩:=ZT.mp h;obtain⟨h,h3⟩:=ZT.mp h;obtain⟨h1,h2⟩:=ZT.mp h;obtain⟨g,g4⟩:=ZT.mp g;obtain⟨g,g3⟩:=ZT.mp g;obtain⟨g1,g2⟩:=ZT.mp g;obtain⟨t1,t2⟩:=xR (Uc (n:=n) (T9 p1 p2 p3)) h3;obtain⟨a1,b1⟩:=xQ (eC (Ui p1 p2 p3) (lS mo)) g1;obtain⟨a2,b2⟩:=xQ (eC (lR p1 p2 p3) (lS 32)) g2
 obtain⟨a3,b3⟩:=xQ (eC (CG p1 p2 p3) (lS 64)) g3;obtain⟨a4,b4⟩:=xQ (eC (Uh p1 p2 p3) (lS mm)) g4;subst BZ hl;unfold vf;rw[Ub p1 p2 p3,Ua p1 p2 p3,h1,h2,t2,hr];have RM:nK (iR p.1 p.2.1 p.2.2) (n:Int)=(r:Int)*2^20:=by
  unfold nK;rw[t1,HL];rw[show(n:Int)*(2:Int)^(20:Int).toNat=((n*1048576:Nat):Int) from(NJ n).symm,<-acN,aa7 h4,zS]
 rw[RM];have jt:sC p (mo:Int) (le:Int)=[aaC (vk p.1 p.2.1 p.2.2) (abb (mo:Int)),aaC (eD p.1 p.2.1 p.2.2) (abb ((32:Nat):Int)),aaC (mS p.1 p.2.1 p.2.2) (abb ((64:Nat):Int)),aaC (vj p.1 p.2.1 p.2.2) (abb (mm:Int))]:=by
  unfold sC;rw[hm];rfl
 rw[jt];simp only[List.all_cons,List.all_nil,aah,List.map_nil,a1,a2,a3,a4,b1,b2,b3,b4,acn,adU,beq_self_eq_true];have e1:((mo -le:Nat):Int)=(mo:Int) -(le:Int):=by exact ab0 ("=+ABC]'A-'C'B" (ZM (hle))) (";1=+ABC]-'C'B'A" (ZM (hle)))
 have e2:((mo+le:Nat):Int)=(mo:Int)+(le:Int):=by exact Int.natCast_add _ _
 rw[e1,e2];simp
noncomputable def rV(n r:Nat)(neg:Bool)(A:Nat)(odd:Bool)(s v mo le mm:Nat):Bool:=
 bh (cy false (cq s 4)) fun S=>bh (cy false (cq v 8)) fun V=>bh (cy neg (cq A n)) fun h=>
 dH S&&(dH V&&(!lJ S 0&&(dH h&&(abt le mo&&aY odd (sx n r mo le mm (Du h V S)) (si (cK h 4618441417868443648)&&(abt (ll (cK h 4618441417868443648)) 1000000&&sx n r mo le mm (yy h S V)))))))
theorem U5{n r:Nat}{neg:Bool}{A:Nat}{odd:Bool}{s v mo le mm:Nat}(h:rV n r neg A odd s v mo le mm=true):
 dH (cy false (cq s 4))=true/\dH (cy false (cq v 8))=true/\lJ (cy false (cq s 4)) 0=false/\dH (cy neg (cq A n))=true/\le<=mo/\
 (odd=true->sx n r mo le mm (Du (cy neg (cq A n)) (cy false (cq v 8)) (cy false (cq s 4)))=true)/\
 (odd=false->si (cK (cy neg (cq A n)) 4618441417868443648)=true/\ll (cK (cy neg (cq A n)) 4618441417868443648)<=1000000/\sx n r mo le mm (yy (cy neg (cq A n)) (cy false (cq s 4)) (cy false (cq v 8)))=true):=by
 unfold rV at h;rw[cX,cX,cX] at h;obtain⟨h1,h⟩:=ZT.mp h;obtain⟨h2,h⟩:=ZT.mp h;obtain⟨h3,h⟩:=ZT.mp h;obtain⟨h4,h⟩:=ZT.mp h;obtain⟨h5,h⟩:=ZT.mp h;refine⟨h1,h2,(abR _).mp h3,h4,acy.mp h5,fun e=> ?_,fun e=> ?_⟩
 ·rw[e] at h;exact h
 ·rw[e] at h
  obtain⟨h6,h⟩:=ZT.mp h;obtain⟨h7,h⟩:=ZT.mp h;exact⟨h6,acy.mp h7,h⟩
theorem Cz{a:Int}{neg:Bool}{A n:Nat}(h1:decide (a<0)=neg)(h2:a.natAbs=A):Is (fB a (n:Int)) (cy neg (cq A n)):=by
 subst h1 h2;unfold fB;have e:decide ((n:Int)<0)=false:=decide_eq_false (by exact abK.mpr (Z0 _));rw[e,aaK,show(decide (a<0) !=false)=decide (a<0) by cases decide (a<0)<;>rfl];exact Jk _ _ _
theorem Ji(a n:Nat):Is (fB (a:Int) (n:Int)) (cy false (cq a n)):=Cz (decide_eq_false (by exact abK.mpr (Z0 _))) (aaK a)
noncomputable def kY(t s v:Nat):Nat:=if t % 2=0 then 4*v else 4*v+s*min v (8 -v)
noncomputable def kR(t s v:Nat):Nat:=if t % 2=0 then(4 -s)*v else 4*v -s*min v (8 -v)
theorem VG: ∀t:Nat,t<4-> ∀s:Nat,s<5-> ∀v:Nat,v<8->ye (s:Int) (v:Int) (t:Int)=(kY t s v:Nat)/\xW (s:Int) (v:Int) (t:Int)=(kR t s v:Nat)/\uL (((kY t s v:Nat):Int)+(kR t s v:Nat)) (64 -(kY t s v:Nat) -(kR t s v:Nat))=((min (kY t s v+kR t s v) (64 -kY t s v -kR t s v):Nat):Int):=by decide+kernel
theorem CT{n p t s v r A mo le mm:Nat}{neg odd:Bool}(h:rV n r neg A odd s v mo le mm=true)(hn:0<n)(ht:t<4)(hs:s<5)(hv:v<8)(ho:odd=(t % 2 !=0))(hr:r=p % n)
 (hA:if odd then decide ((p:Int) -(n:Int)*(t:Int)<0)=neg/\((p:Int) -(n:Int)*(t:Int)).natAbs=A else decide ((p:Int)+(n:Int)*(t:Int)<0)=neg/\((p:Int)+(n:Int)*(t:Int)).natAbs=A)
 (BZ:mo=kY t s v) (hle:le=kR t s v) (BX:mm=min (kY t s v+kR t s v) (64 -kY t s v -kR t s v)):j3 (n:Int) (p:Int) (s:Int) (v:Int) (t:Int)=true:=by
 obtain⟨h1,h2,h3,h4,h5,h6,h7⟩:=U5 h;obtain⟨m1,m2,m3⟩:=VG t ht s hs v hv;subst BZ hle BX hr;have S:Is (fB (s:Int) 4) (cy false (cq s 4)):=Ji s 4;have V:Is (fB (v:Int) 8) (cy false (cq v 8)):=Ji v 8;have hz:Is (0:UInt64) 0:=⟨rfl,by decide⟩;have Tf:(t:Int).fmod 2=((t % 2:Nat):Int):=wQ t 2;have IQ:(p:Int).fmod (n:Int)=((p % n:Nat):Int):=wQ p n;unfold j3 yn;rw[m1,m2,xP S h1,xP V h2,uv S hz,h3,Tf]
 by_cases ev:t % 2=0
 ·have eu:odd=false:=by rw[ho,ev];rfl
  rw[eu,if_neg aa5] at hA;obtain⟨k1,k2,k3⟩:=h7 eu;have Hh:=Cz (n:=n) hA.1 hA.2;rw[ev];have e0:((((0:Nat):Int))==0)=true:=rfl;rw[if_pos e0,if_pos e0,xP Hh h4];obtain⟨q1,q2⟩:=xR (eC Hh c6) k1;have cU:r7 (fB ((p:Int)+(n:Int)*(t:Int)) (n:Int))=true:=by
   unfold r7;rw[q1,q2,aaK];have:ll (cK (cy neg (cq A n)) 4618441417868443648)<2^1023:=ZY k2 (by decide);rw[decide_eq_true this];rfl
  rw[cU,Kk (Ug Hh S V k1) k3 h5 rfl rfl m3 IQ];rfl
 ·have FX:t % 2=1:=(Nat.mod_two_eq_zero_or_one t).resolve_left ev
  have eu:odd=true:=by rw[ho,FX];rfl
  rw[eu,if_pos rfl] at hA;have Hh:=Cz (n:=n) hA.1 hA.2;rw[FX];have e0: ¬(((((1:Nat):Int))==0)=true):=by decide
  rw[if_neg e0,if_neg e0,xP Hh h4,Kk (Ue Hh V S) (h6 eu) h5 rfl rfl m3 IQ];rfl
noncomputable def zR(n p t s v:Nat):Bool:=
 bh (acR p n) fun r=>bh (adq n t) fun w=>bh (kY t s v) fun mo=>bh (kR t s v) fun le=>bh (min (kY t s v+kR t s v) (64 -kY t s v -kR t s v)) fun mm=>
 aY (aak (acR t 2) 0) (bh (acr p w) fun A=>rV n r false A false s v mo le mm)
  (aY (abt w p) (bh (aaO p w) fun A=>rV n r false A true s v mo le mm) (bh (aaO w p) fun A=>rV n r true A true s v mo le mm))
theorem NI{n p t s v:Nat}(h:zR n p t s v=true)(hn:0<n)(ht:t<4)(hs:s<5)(hv:v<8):j3 (n:Int) (p:Int) (s:Int) (v:Int) (t:Int)=true:=by
 unfold zR at h;simp only[cX] at h;rw[cg,cg] at h;simp only[ad7,acy] at h;have hc:((n*t:Nat):Int)=(n:Int)*(t:Int):=aeN n t
 by_cases e:t % 2=0
 ·rw[if_pos (show acR t 2=0 from e)] at h
  refine CT h hn ht hs hv (by rw[e];rfl) rfl ?_ rfl rfl rfl;rw[if_neg aa5];refine⟨decide_eq_false (by exact abK.mpr (Z0 _)),?_⟩;rw[<-hc];show _=p+n*t;exact aaD _
 ·rw[if_neg (show¬(acR t 2=0) from e)] at h
  have e1:t % 2=1:=(Nat.mod_two_eq_zero_or_one t).resolve_left e
  by_cases q:n*t<=p
  ·rw[if_pos (show adq n t<=p from q)] at h
   refine CT h hn ht hs hv (by rw[e1];rfl) rfl ?_ rfl rfl rfl;rw[if_pos rfl];refine⟨decide_eq_false (by rw[<-hc];exact "[AB!>-'B'A0" q),?_⟩;rw[<-hc];show _=p -n*t;exact Z5 ("#'A-'B'C;1=+DCB[AD" (aas ("[AB]0-'B'A" q)) (ZM (q))) ("=+ABC;1#'D-'C'B[AD" (ZM (q)) (aas ("[AB]0-'B'A" q)))
  ·rw[if_neg (show¬(adq n t<=p) from q)] at h
   refine CT h hn ht hs hv (by rw[e1];rfl) rfl ?_ rfl rfl rfl;rw[if_pos rfl];refine⟨decide_eq_true (by rw[<-hc];exact "![AB>-'B'A0" q),?_⟩;rw[<-hc];show _=n*t -p;exact Z5 ("#'A~-'B'C;1=+DBC[AD" (aaS ("![AB]-'B'A0" q)) (ZM ("![AB[BA" q))) ("=+ABC;1#'D~-'B'C[AD" (ZM ("![AB[BA" q)) (aaS ("![AB]-'B'A0" q)))
noncomputable def yu(n:Nat):List Nat:=match n with
 |8=>[0,1,2,3,4,5,6,7,8,9,10,11,12,13,14,15,16,18,20,21,24,25,28,30,35,36,42,49]
 |9=>[0,1,2,3,4,5,6,7,8,9,10,11,12,13,14,15,16,18,20,21,24,25,28,30,32,35,36,40,42,48,49,56,64]
 |10=>[0,1,2,3,4,5,6,7,8,9,10,11,12,13,14,15,16,17,18,20,21,24,25,27,28,30,32,35,36,40,42,45,48,49,54,56,63,64,72,81]
 |12=>[0,1,2,3,4,5,6,7,8,9,10,11,12,13,14,15,16,17,18,19,20,21,22,24,25,27,28,30,32,33,35,36,40,42,44,45,48,49,50,54,55,56,60,63,64,66,70,72,77,80,81,88,90,99,100,110,121]
 |_=>[]
noncomputable def fV(n t:Nat):Bool:=(yu n).all fun p=>[1,2,3,4].all fun s=>[1,2,3,4,5,6,7].all fun v=>zR n p t s v
theorem UN:fV 8 0=true:=by decide+kernel
theorem UO:fV 8 1=true:=by decide+kernel
theorem UP:fV 8 2=true:=by decide+kernel
theorem UQ:fV 8 3=true:=by decide+kernel
theorem UR:fV 9 0=true:=by decide+kernel
theorem US:fV 9 1=true:=by decide+kernel
theorem UT:fV 9 2=true:=by decide+kernel
theorem UU:fV 9 3=true:=by decide+kernel
theorem UE:fV 10 0=true:=by decide+kernel
theorem UG:fV 10 1=true:=by decide+kernel
theorem UH:fV 10 2=true:=by decide+kernel
theorem UI:fV 10 3=true:=by decide+kernel
theorem UJ:fV 12 0=true:=by decide+kernel
theorem UK:fV 12 1=true:=by decide+kernel
theorem UL:fV 12 2=true:=by decide+kernel
theorem UM:fV 12 3=true:=by decide+kernel
theorem WW: ∀n∈[8,9,10,12],(∀p,p<2*(n -1)+1->p∈yu n)/\ ∀p,p<n-> ∀k,k<n->p*k∈yu n:=by decide+kernel
theorem x7{n:Nat}(hm:n∈[8,9,10,12])(hn:0<n)(h: ∀t,t<4->fV n t=true):zc n:=by
 obtain⟨h1,h2⟩:=WW n hm;have key: ∀(p:Nat) (s v t:Int),p∈yu n->1<=s->s<=4->1<=v->v<=7->0<=t->t<=3->j3 (n:Int) (p:Int) s v t=true:=fun p s v t hp s1 s2 v1 v2 t1 t2=>by
  obtain⟨s,rfl⟩: ∃k:Nat,s=k:=⟨s.toNat,by exact ab0 (";1#'Aa]a'A" (ZV ("]1a]0a" s1))) ("#'Aa]'Aa" (ZV ("]1a]0a" s1)))⟩;obtain⟨v,rfl⟩: ∃k:Nat,v=k:=⟨v.toNat,by exact ab0 (";1#'Aa]a'A" (ZV ("]1a]0a" v1))) ("#'Aa]'Aa" (ZV ("]1a]0a" v1)))⟩;obtain⟨t,rfl⟩: ∃k:Nat,t=k:=⟨t.toNat,by exact(ZV ‹_›).symm⟩;have a:=Z3.mp (h t (by exact "]'A3<A4" t2)) p hp;have hs:s∈[1,2,3,4]:=by
   have:s=1\/s=2\/s=3\/s=4:=by lia
   simpa using this
  have hv:v∈[1,2,3,4,5,6,7]:=by
   have:v=1\/v=2\/v=3\/v=4\/v=5\/v=6\/v=7:=by lia
   simpa using this
  exact NI (Z3.mp (Z3.mp a s hs) v hv) hn (by exact "]'A3<A4" t2) (by exact "]'A4<A5" s2) (by exact "]'A7<A8" v2)
 refine⟨fun p s v t hp=>key p s v t (h1 p (by exact Nat.lt_succ_of_le ‹_›)),fun p k s v t hp hk s1 s2 v1 v2 t1 t2=> ?_⟩;rw[<-aeN];exact key _ s v t (h2 p hp k hk) s1 s2 v1 v2 t1 t2
theorem wV{q:Nat->Prop}(a:q 0)(b:q 1)(c:q 2)(d:q 3): ∀t,t<4->q t:=fun t ht=>by
 match t,ht with
 |0,_=>exact a
 |1,_=>exact b
 |2,_=>exact c
 |3,_=>exact d
theorem Ju{n:Nat}(h4:n=12\/n=8\/n=9\/n=10):zc n:=by
 rcases h4 with rfl|rfl|rfl|rfl
 ·exact x7 (by decide) (by decide) (wV UJ UK UL UM)
 ·exact x7 (by decide) (by decide) (wV UN UO UP UQ)
 ·exact x7 (by decide) (by decide) (wV UR US UT UU)
 ·exact x7 (by decide) (by decide) (wV UE UG UH UI)
theorem PG(x:Int): ∃f:Fg,jg x xV=f.ls/\f.Ok:=by
 refine⟨⟨_,_,_,_,_,_,_,_⟩,rfl,?_⟩;exact⟨cj (by decide),cj (by decide),cj (by decide),cj (by decide),cj (by decide),cj (by decide),cj (by decide),cj (by decide)⟩
theorem WI{x:Int}{n m:Nat}(h:0<n)(e:qt x (n:Int)=aG n m):aX n m≠[]:=by
 have e2: ∃kind p q u v ahead moved free,qt x (n:Int)=n9 n kind p q u v ahead moved free:=⟨_,_,_,_,_,_,_,_,rfl⟩;obtain⟨kind,p,q,u,v,ahead,moved,free,e2⟩:=e2;have bC:=J3 n kind p q u v ahead moved free (by exact acd.mpr ‹_›);rw[<-e2,e,dS] at bC;intro q;rw[q] at bC;exact bC rfl
theorem Xu{n m:Nat}{f:Fg}(h4:n=12\/n=8\/n=9\/n=10)(F:f.Ok)(hm:aX n m≠[]): ∃row:List Nat,aK (n:Int) f (cW (n:Int) (aG n m))=bE row/\sY n row:=by
 have hf: ∀a:Int,∃k:Nat,k<n/\a.fmod (n:Int)=k:=fun a=>by
  have:=cj (a:=a) (b:=(n:Int)) (by exact h4.elim (fun x1=> ";1=A12>0'A" x1) (fun x1=>x1.elim (fun x1=> ";1=A8>0'A" x1) (fun x1=>x1.elim (fun x1=> ";1=A9>0'A" x1) (fun x1=> ";1=A10>0'A" x1))));exact⟨(a.fmod (n:Int)).toNat,by simp[*],by exact(ZV (adn ‹_›)).symm⟩
 cases e:cW (n:Int) (aG n m) with
 |none=>
  obtain⟨a,ha,ea⟩:=hf f.one;obtain⟨b,hb,eb⟩:=hf f.two;refine⟨[a,b],by show[f.one.fmod n,f.two.fmod n]=_;rw[ea,eb];rfl,⟨by simp,fun t ht=> ?_,by show 2<=13;decide⟩⟩;simp only[ZU,aaz,or_false] at ht;rcases ht with rfl|rfl
  ·exact ha
  ·exact hb
 |some r=>
  obtain⟨e1,e2,e3⟩:=vg h4 hm e;refine⟨0::r.map Int.toNat,?_,⟨by simp,fun t ht=> ?_,?_⟩⟩
  ·show(0:Int)::r=bE (0::r.map Int.toNat)
   unfold bE;rw[aah,aaf]
   congr 1
   conv=>lhs;rw[<-List.map_id r]
   exact aa0 fun t ht=>by have:=e2 t ht;show t=((t.toNat:Nat):Int);exact(ZV (adn ‹_›)).symm
  ·rcases ZU.mp ht with rfl|ht
   ·exact h4.elim (fun x1=> ";1=A12<0A" x1) (fun x1=>x1.elim (fun x1=> ";1=A8<0A" x1) (fun x1=>x1.elim (fun x1=> ";1=A9<0A" x1) (fun x1=> ";1=A10<0A" x1)))
   ·obtain⟨q,hq,rfl⟩:=Z1.mp ht
    have:=e2 q hq;exact ">a'A#'Ba<BA" this.2 (ZV (this.1))
  ·rw[aaY,ZQ];exact Nat.lt_succ_of_le ‹_›
theorem plain(xs:List Int)(_hx:xs.length<=63):vE xs:=by
 obtain⟨c0,c1,c2,b7⟩: ∃c0 c1 c2,qR xs=[c0,c1,c2]:=⟨_,_,_,rfl⟩;obtain⟨n,hn,h4⟩: ∃n:Nat,m4 c0=n/\(n=12\/n=8\/n=9\/n=10):=by
  have:=XF c0;exact⟨(m4 c0).toNat,by exact ab0 ("]a'A]a'A" (Int.self_le_toNat _)) (this.elim (fun x1=> "#'Aa]'Aa" (ZV (";1#a12]0a" x1))) (fun x1=>x1.elim (fun x1=> "#'Aa]'Aa" (ZV (";1#a8]0a" x1))) (fun x1=>x1.elim (fun x1=> "#'Aa]'Aa" (ZV (";1#a9]0a" x1))) (fun x1=> "#'Aa]'Aa" (ZV (";1#a10]0a" x1)))))),by lia⟩
 obtain⟨h8,h12⟩:=JE h4;obtain⟨m,h0,aV,IM⟩:=WG (x:=c0.fdiv 6) (n:=n) (by exact ZY (aav _) ‹_›);have hm:=WI (by exact ZY (aav _) ‹_›) IM;obtain⟨f,RN,F⟩:=PG c2;obtain⟨k,hk,BH⟩: ∃k:Nat,k<6/\f.more=k:=by
  have:=F.more;exact⟨f.more.toNat,by simp[*],by exact(ZV (adn ‹_›)).symm⟩
 obtain⟨row,gH,R⟩:=Xu h4 F hm;have L:=Y0 h4;obtain⟨d0,rest,hd⟩: ∃d0 rest,aX n m=d0::rest:=by
  cases e:aX n m with
  |nil=>exact absurd e hm
  |cons a b=>exact⟨a,b,rfl⟩
 have cw:d0<n:=u3 d0 (by rw[hd];exact ZR);have hsz:(bA (n:Int)).cps.size=n:=(ya (x9 h4)).1;obtain⟨c,hc⟩: ∃c,(bA (n:Int)).cps[d0]?=some c:=⟨_,acw (by simp[*])⟩;obtain⟨sg,hR,SP⟩:=Xh (x:=c1) h4 hm cw hc;obtain⟨b1,b2⟩:=vQ BH;have hV:=YV h4 hk;unfold sE at hV;obtain⟨v1,v2⟩:=ZT.mp hV;have uq:cR (n:Int) f=gf ((2^(k+5):Nat):Int) [] (ft (n:Int)):=by unfold cR;rw[b1]
 have v2: ∀t∈(cR (n:Int) f).drop 1,0<t.2.1/\t.2.1<2^120/\t.2.2=0/\1<=t.1/\t.1<=12:=fun t ht=>by
  rw[uq] at ht;have:=Z3.mp v2 t ht;simp only[aax,decide_eq_true_eq] at this;obtain⟨⟨⟨⟨a,b⟩,c⟩,d⟩,e⟩:=this;exact⟨a,b,c,d,e⟩
 have dY: ∀p∈aG n m,∃i:Nat,i<n/\p=i:=fun p hp=>by
  obtain⟨i,h1,_,h3⟩:=sd.mp hp;exact⟨i,h1,h3⟩
 have rK:(aG n m).length=(aX n m).length:=by rw[dS];unfold bE;rw[ZQ]
 have SM:(aX n m).length<=n:=by
  have:(aX n m).length<=(aac n).length:=aaE _ _
  rwa [abw] at this
 have hO:=Wl F h8 h12 hm R;refine⟨c0,c1,c2,bA (n:Int),(n:Int),aG n m,d0,c,sg,f,b7,?_⟩
 refine{sz:=hn.symm,lt:=rfl,h8:=by exact aei.mpr ‹_›,h12:=by exact aei.mpr ‹_›,L:=L,pa:=IM.symm,dz:= ?_,pm:= ?_,pl:= ?_,hc:=hc,R:=hR,pt:=SP,fg:=RN,F:=F,vo:= ?_,vs:= ?_,vd:= ?_,vl:= ?_,nN:=JO F h12,tl:=NQ h4 hk BH h0 aV hm,tq:= ?_,rl:= ?_,rm:= ?_,light:= ?_,found:= ?_,N:= ?_,oft:= ?_,last:= ?_,E:= ?_}
 ·rw[dS,hd];rfl
 ·intro p hp
  obtain⟨i,hi,rfl⟩:=dY p hp;exact⟨Z0 _,acd.mpr ‹_›⟩
 ·exact "[A12=BC[CA[B12" h12 rK SM
 ·rw[b1];exact v1
 ·intro t ht
  obtain⟨a,b,c,d,e⟩:=v2 t ht;exact⟨⟨a,b⟩,c⟩
 ·intro t ht
  obtain⟨a,b,c,d,e⟩:=v2 t ht;exact⟨d,e⟩
 ·rw[uq,KV]
  unfold ft;have:((aS 1 ((n:Int)+1)).filter fun s=>(n:Int).fmod s==0).length<=(aS 1 ((n:Int)+1)).length:=aaE _ _;have e:(aS 1 ((n:Int)+1)).length=n:=by unfold aS;rw[ZQ,abw];simp
  rw[e] at this;show 0+_<=64
  exact "[A12[BA[+0B64" h12 this
 ·intro r hr
  obtain⟨e1,_,_⟩:=vg h4 hm hr;have e3:(n:Int)=(aG n m).length*(1+r.length:Int):=by
   rw[rK];exact_mod_cast e1
  constructor
  ·conv=>lhs;rw[e3]
   exact Int.mul_fdiv_cancel _ (by exact "!#+1'A0" ())
  ·conv=>lhs;rw[e3]
   exact Int.mul_fmod_left _ _
 ·intro r hr
  exact(vg h4 hm hr).2.2
 ·intro t ht
  rw[gH] at ht;obtain⟨q,hq,rfl⟩:=Z1.mp ht;have:=R.lt q hq;exact⟨Z0 _,acd.mpr ‹_›⟩
 ·intro t ht p hp
  rw[gH] at ht;obtain⟨q,hq,rfl⟩:=Z1.mp ht;obtain⟨i,hi,rfl⟩:=dY p hp;have:=R.lt q hq;have hs:=F.share;have hv:=F.value;have Tg:=F.turns;rw[<-Int.natCast_add];exact(Ju h4).sum (i+q) _ _ _ (by exact "<AB<CB;2=+D1B[+AC*2D" hi this (ZM ("[8A[1A" h8))) (by exact "]0a]1+a1" hs.1) (by exact aej ‹_›) (by exact "]0a]1+a1" hv.1) (by exact aej ‹_›) (by simp[*]) (by exact ">a4]a3" Tg.2)
 ·rw[gH];exact P9 h4 R.lt
 ·rw[gH];exact Wd F h8 h12 R
 ·rw[gH];exact hO.1
 ·rw[gH];exact hO.2
 ·intro h
  cases e:cW (n:Int) (aG n m) with
  |none=>rw[e] at h;cases h
  |some r=>exact OD h4 hk BH F (Ju h4) h0 aV hm e
theorem all_holds:PySem.Challenge.rw_ta0133_01.Holds:=fin plain
end Mine.Internal
theorem PySem.Challenge.cw_ta0133_01_holds : PySem.Challenge.rw_ta0133_01.Holds :=
 Mine.Internal.all_holds
