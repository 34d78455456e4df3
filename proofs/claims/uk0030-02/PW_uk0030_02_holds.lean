import PyProof.Rows.All
import Wide.All
import OpenK.AllK
import Wide.FinOn
import PySem.Challenge.RW_uk0030_02
set_option Elab.async false
set_option maxRecDepth 100000
set_option linter.unusedVariables false
set_option maxHeartbeats 0
section
set_option genInjectivity false
set_option genSizeOf false
namespace Z
noncomputable def ev:List Nat→List Nat→Nat
 | c::cs,xs=>match xs with
  | x::xs=>c*x+ev cs xs
  | []=>0
 | [],_=>0
noncomputable def ad:List Nat→List Nat→List Nat
 | x::a,b=>match b with
  | y::b=>(x+y)::ad a b
  | []=>x::a
 | [],b=>b
noncomputable def un:Nat→List Nat
 | 0=>[1]
 | i+1=>0::un i
noncomputable def nth:List Nat→Nat→Nat
 | x::l,i=>match i with
  | 0=>x
  | i+1=>nth l i
 | [],_=>0
inductive T where
 | v (i:Nat) | k (n:Nat) | a (x y:T) | m (n:Nat) (x:T) | r (x:T) (n:Nat)
noncomputable def T.den:T→List Nat→Nat
 | .v i,e=>nth e i
 | .k n,_=>n
 | .a x y,e=>x.den e+y.den e
 | .m n x,e=>n*x.den e
 | .r x n,e=>x.den e*n
noncomputable def T.lin:T→List Nat
 | .v i=>0::un i
 | .k n=>[n]
 | .a x y=>ad x.lin y.lin
 | .m n x=>x.lin.map (n*·)
 | .r x n=>x.lin.map (n*·)
theorem ev_nil:∀ b:List Nat,ev [] b=0
 | []=>rfl
 | _::_=>rfl
theorem ev_ad:∀ a b e:List Nat,ev (ad a b) e=ev a e+ev b e
 | [],b,e=>by rw[ev_nil,Nat.zero_add];rfl
 | x::a,[],e=>by rw[ev_nil];rfl
 | x::a,y::b,[]=>rfl
 | x::a,y::b,z::e=>by
  show (x+y)*z+ev (ad a b) e=(x*z+ev a e)+(y*z+ev b e)
  rw[ev_ad a b e,Nat.add_mul,Nat.add_add_add_comm]
theorem ev_sm(n:Nat):∀ a e:List Nat,ev (a.map (n*·)) e=n*ev a e
 | [],e=>by rw[List.map_nil,ev_nil];rfl
 | x::a,[]=>rfl
 | x::a,z::e=>by
  show n*x*z+ev (a.map (n*·)) e=n*(x*z+ev a e)
  rw[ev_sm n a e,Nat.mul_add,Nat.mul_assoc]
theorem ev_un:∀ (i:Nat) (e:List Nat),ev (un i) e=nth e i
 | 0,[]=>rfl
 | 0,x::e=>(congrArg (1*x+·) (ev_nil e)).trans (Nat.one_mul x)
 | i+1,[]=>rfl
 | i+1,x::e=>by
  show 0*x+ev (un i) e=nth e i
  rw[ev_un i e,Nat.zero_mul,Nat.zero_add]
theorem lin_ok:∀ (t:T) (e:List Nat),ev t.lin (1::e)=t.den e
 | .v i,e=>by
  show 0*1+ev (un i) e=nth e i
  rw[ev_un,Nat.zero_mul,Nat.zero_add]
 | .k n,e=>(congrArg (n*1+·) (ev_nil e)).trans (Nat.mul_one n)
 | .a x y,e=>(ev_ad _ _ _).trans (congr (congrArg _ (lin_ok x e)) (lin_ok y e))
 | .m n x,e=>(ev_sm n _ _).trans (congrArg _ (lin_ok x e))
 | .r x n,e=>(ev_sm n _ _).trans ((congrArg _ (lin_ok x e)).trans (Nat.mul_comm _ _))
noncomputable abbrev F:=List Nat × List Nat
def Ok(e:List Nat)(fs:List F):Prop:=∀ f∈fs,ev f.1 (1::e)≤ev f.2 (1::e)
theorem Ok.cons{e:List Nat}{fs:List F}{a b:List Nat}(h:ev a (1::e)≤ev b (1::e))(g:Ok e fs):Ok e ((a,b)::fs):=fun f m=>(List.mem_cons.mp m).elim (fun q=>q▸h) (g f)
noncomputable def comb:List Nat→List F→F
 | l::ls,fs=>match fs with
  | f::fs=>(ad (f.1.map (l*·)) (comb ls fs).1,ad (f.2.map (l*·)) (comb ls fs).2)
  | []=>([],[])
 | [],_=>([],[])
theorem comb_ok{e:List Nat}:∀ (ls:List Nat) (fs:List F),Ok e fs→ev (comb ls fs).1 (1::e)≤ev (comb ls fs).2 (1::e)
 | [],_,_=>Nat.le_refl _
 | l::ls,[],_=>Nat.le_refl _
 | l::ls,f::fs,h=>by
  show ev (ad _ _) _≤ev (ad _ _) _
  rw[ev_ad,ev_ad,ev_sm,ev_sm]
  exact Nat.add_le_add (Nat.mul_le_mul_left l (h f (.head _))) (comb_ok ls fs fun g m=>h g (.tail _ m))
noncomputable def ge:List Nat→List Nat→Bool
 | x::a,b=>match b with
  | y::b=>Nat.ble y x&&ge a b
  | []=>true
 | [],b=>b.all (Nat.beq 0)
theorem ge_nil:∀ b e:List Nat,b.all (Nat.beq 0)=true→ev b e=0
 | [],e,_=>ev_nil e
 | y::b,[],_=>rfl
 | y::b,z::e,h=>by
  obtain⟨h1,h2⟩:=Bool.and_eq_true_iff.mp h
  show y*z+ev b e=0
  rw[ge_nil b e h2,←Nat.eq_of_beq_eq_true h1,Nat.zero_mul]
theorem ge_ok:∀ a b e:List Nat,ge a b=true→ev b e≤ev a e
 | [],b,e,h=>Nat.le_of_eq ((ge_nil b e h).trans (ev_nil e).symm)
 | x::a,[],e,_=>Nat.le_trans (Nat.le_of_eq (ev_nil e)) (Nat.zero_le _)
 | x::a,y::b,[],_=>Nat.le_refl _
 | x::a,y::b,z::e,h=>by
  obtain⟨h1,h2⟩:=Bool.and_eq_true_iff.mp h
  exact Nat.add_le_add (Nat.mul_le_mul_right z (Nat.le_of_ble_eq_true h1)) (ge_ok a b e h2)
noncomputable def ref(ls:List Nat)(fs:List F):Bool:=ge (comb ls fs).1 (ad [1] (comb ls fs).2)
theorem ref_ok{e:List Nat}{ls:List Nat}{fs:List F}(h:ref ls fs=true)(o:Ok e fs):False:=by
 have h1:=ge_ok _ _ (1::e) h
 rw[ev_ad] at h1
 have h2:=comb_ok ls fs o
 have h3:ev [1] (1::e)=1:=congrArg (1+·) (ev_nil e)
 rw[h3,Nat.add_comm] at h1
 exact Nat.not_succ_le_self _ (Nat.le_trans h1 h2)
noncomputable def sh:List Nat→List Nat
 | c::cs=>c::0::cs
 | []=>[]
theorem ev_sh{x:Nat}{e:List Nat}:∀ a,ev (sh a) (1::x::e)=ev a (1::e)
 | []=>rfl
 | c::cs=>by
  show c*1+(0*x+ev cs e)=c*1+ev cs e
  rw[Nat.zero_mul,Nat.zero_add]
inductive Tr where
 | lf (ls:List Nat) | sp (a b:Tr) | sk (a:Tr)
inductive P where
 | no
 | df (x y:T) (ls:List Nat) (p:P)
 | dl (x y:T) (p:P)
 | dv (n:Nat) (x:T) (p:P)
 | mn (x y:T) (p:P)
 | hy (r:Nat) (x y:T) (p:P)
 | an (r:Nat) (x y:T) (q:Nat) (u v:T) (p:P)
 | gl (r:Nat) (x y:T) (l1 l2:Tr)
noncomputable abbrev Fs:=List F × List (F × F)
def Ho(e:List Nat)(f:F):Prop:=ev f.1 (1::e)≤ev f.2 (1::e)
def Oks(e:List Nat)(s:Fs):Prop:=Ok e s.1∧∀ d∈s.2,Ho e d.1∨Ho e d.2
noncomputable def refT:Tr→List F→List (F × F)→Bool
 | .lf ls,fs,_=>ref ls fs
 | .sp a b,fs,ds=>match ds with
  | d::ds=>refT a (d.1::fs) ds&&refT b (d.2::fs) ds
  | []=>false
 | .sk a,fs,ds=>match ds with
  | _::ds=>refT a fs ds
  | []=>false
theorem refT_ok{e:List Nat}:∀ (t:Tr) (fs:List F) (ds:List (F × F)),refT t fs ds=true→Ok e fs→(∀ d∈ds,Ho e d.1∨Ho e d.2)→False
 | .lf ls,fs,_,h,o,_=>ref_ok h o
 | .sp a b,fs,d::ds,h,o,g=>by
  obtain⟨h1,h2⟩:=Bool.and_eq_true_iff.mp h
  have g':=fun d m=>g d (.tail _ m)
  exact(g d (.head _)).elim (fun q=>refT_ok a _ _ h1 (.cons q o) g') fun q=>refT_ok b _ _ h2 (.cons q o) g'
 | .sp a b,fs,[],h,_,_=>nomatch h
 | .sk a,fs,d::ds,h,o,g=>refT_ok a fs ds h o fun d m=>g d (.tail _ m)
 | .sk a,fs,[],h,_,_=>nomatch h
def rel(r a b:Nat):Prop:=match r with
 | 0=>a≤b
 | 1=>a<b
 | 2=>a=b
 | 3=>¬a<b
 | 4=>¬a≤b
 | 5=>a≠b
 | _=>True
def grel(r a b:Nat):Prop:=match r with
 | 0=>a≤b
 | 1=>a<b
 | 2=>a=b
 | 3=>¬a<b
 | 4=>¬a≤b
 | _=>False
noncomputable def P.den:P→List Nat→Prop
 | .no,_=>True
 | .df x y _ p,e=>p.den ((x.den e-y.den e)::e)
 | .dl x y p,e=>p.den ((x.den e-y.den e)::e)
 | .dv n x p,e=>p.den ((x.den e / n)::e)
 | .mn x y p,e=>p.den (min (x.den e) (y.den e)::e)
 | .hy r x y p,e=>rel r (x.den e) (y.den e)→p.den e
 | .an r x y q u v p,e=>(rel r (x.den e) (y.den e)∧rel q (u.den e) (v.den e))→p.den e
 | .gl r x y _ _,e=>grel r (x.den e) (y.den e)
noncomputable def suc(a:List Nat):List Nat:=ad [1] a
noncomputable def fact(r:Nat)(a b:List Nat)(s:Fs):Fs:=match r with
 | 0=>((a,b)::s.1,s.2)
 | 1=>((suc a,b)::s.1,s.2)
 | 2=>((a,b)::(b,a)::s.1,s.2)
 | 3=>((b,a)::s.1,s.2)
 | 4=>((suc b,a)::s.1,s.2)
 | 5=>(s.1,((suc a,b),(suc b,a))::s.2)
 | _=>s
noncomputable def goal(r:Nat)(a b:List Nat)(s:Fs)(l1 l2:Tr):Bool:=match r with
 | 0=>refT l1 ((suc b,a)::s.1) s.2
 | 1=>refT l1 ((b,a)::s.1) s.2
 | 2=>refT l1 ((suc b,a)::s.1) s.2&&refT l2 ((suc a,b)::s.1) s.2
 | 3=>refT l1 ((suc a,b)::s.1) s.2
 | 4=>refT l1 ((a,b)::s.1) s.2
 | _=>refT l1 s.1 s.2
noncomputable def sh2(f:F):F:=(sh f.1,sh f.2)
noncomputable def shF(s:Fs):Fs:=(s.1.map sh2,s.2.map fun d=>(sh2 d.1,sh2 d.2))
noncomputable def P.chk:P→Fs→Bool
 | .no,_=>false
 | .df x y ls p,s=>ref ls ((suc x.lin,y.lin)::s.1)&&p.chk ((ad [0,1] (sh y.lin),sh x.lin)::(sh x.lin,ad [0,1] (sh y.lin))::(shF s).1,(shF s).2)
 | .dl x y p,s=>p.chk (([0,1],sh x.lin)::(sh x.lin,ad [0,1] (sh y.lin))::(shF s).1,((ad [0,1] (sh y.lin),sh x.lin),([0,1],[]))::(shF s).2)
 | .dv n x p,s=>match n with
  | 0=>false
  | n+1=>p.chk (([0,n+1],sh x.lin)::(suc (sh x.lin),[n+1,n+1])::(shF s).1,(shF s).2)
 | .mn x y p,s=>p.chk (([0,1],sh x.lin)::([0,1],sh y.lin)::(shF s).1,((sh x.lin,[0,1]),(sh y.lin,[0,1]))::(shF s).2)
 | .hy r x y p,s=>p.chk (fact r x.lin y.lin s)
 | .an r x y q u v p,s=>p.chk (fact q u.lin v.lin (fact r x.lin y.lin s))
 | .gl r x y l1 l2,s=>goal r x.lin y.lin s l1 l2
theorem suc_ok{a e:List Nat}:ev (suc a) (1::e)=ev a (1::e)+1:=by
 unfold suc
 rw[ev_ad,show ev [1] (1::e)=1 from congrArg (1+·) (ev_nil e),Nat.add_comm]
theorem ev2{a b x:Nat}{e:List Nat}:ev [a,b] (1::x::e)=a*1+b*x:=by
 show a*1+(b*x+ev [] e)=_
 rw[ev_nil];rfl
theorem ev01{x:Nat}{e:List Nat}:ev [0,1] (1::x::e)=x:=by rw[ev2,Nat.zero_mul,Nat.one_mul,Nat.zero_add]
theorem ho_sh{x:Nat}{e:List Nat}{f:F}(h:Ho e f):Ho (x::e) (sh2 f):=by
 show ev (sh f.1) _≤ev (sh f.2) _
 rw[ev_sh,ev_sh];exact h
theorem shF_ok{x:Nat}{e:List Nat}{s:Fs}(o:Oks e s):Oks (x::e) (shF s):=by
 refine⟨fun f m=>?_,fun d m=>?_⟩
 ·obtain⟨g,hg,rfl⟩:=List.mem_map.mp m
  exact ho_sh (o.1 g hg)
 ·obtain⟨g,hg,rfl⟩:=List.mem_map.mp m
  exact(o.2 g hg).imp ho_sh ho_sh
theorem Oks.cons{e:List Nat}{s:Fs}{a b:List Nat}(h:ev a (1::e)≤ev b (1::e))(o:Oks e s):Oks e ((a,b)::s.1,s.2):=⟨o.1.cons h,o.2⟩
theorem Oks.dis{e:List Nat}{s:Fs}{f g:F}(h:Ho e f∨Ho e g)(o:Oks e s):Oks e (s.1,(f,g)::s.2):=⟨o.1,fun d m=>(List.mem_cons.mp m).elim (fun q=>q▸h) (o.2 d)⟩
theorem fact_ok{e:List Nat}{s:Fs}(x y:T)(o:Oks e s):∀ r,rel r (x.den e) (y.den e)→Oks e (fact r x.lin y.lin s)
 | 0,h=>o.cons (by rw[lin_ok,lin_ok];exact h)
 | 1,h=>o.cons (by rw[suc_ok,lin_ok,lin_ok];exact h)
 | 2,h=>(o.cons (by rw[lin_ok,lin_ok];exact Nat.le_of_eq (Eq.symm h))).cons (by rw[lin_ok,lin_ok];exact Nat.le_of_eq h)
 | 3,h=>o.cons (by rw[lin_ok,lin_ok];exact Nat.le_of_not_lt h)
 | 4,h=>o.cons (by rw[suc_ok,lin_ok,lin_ok];exact Nat.lt_of_not_le h)
 | 5,h=>o.dis (by
  unfold Ho
  rw[suc_ok,suc_ok,lin_ok,lin_ok]
  exact Nat.lt_or_gt_of_ne h)
 | _+6,_=>o
theorem ref_le{e:List Nat}{fs:List F}{ls:List Nat}{x y:T}(o:Ok e fs)(h:ref ls ((suc y.lin,x.lin)::fs)=true):x.den e≤y.den e:=
 Nat.le_of_not_lt fun q=>ref_ok h (.cons (by rw[suc_ok,lin_ok,lin_ok];exact q) o)
theorem refT_le{e:List Nat}{s:Fs}{t:Tr}{x y:T}(o:Oks e s)(h:refT t ((suc y.lin,x.lin)::s.1) s.2=true):x.den e≤y.den e:=
 Nat.le_of_not_lt fun q=>refT_ok t _ _ h (.cons (by rw[suc_ok,lin_ok,lin_ok];exact q) o.1) o.2
theorem goal_ok{e:List Nat}{s:Fs}(x y:T)(o:Oks e s)(l1 l2:Tr):∀ r,goal r x.lin y.lin s l1 l2=true→grel r (x.den e) (y.den e)
 | 0,h=>refT_le o h
 | 1,h=>Nat.lt_of_not_le fun q=>refT_ok l1 _ _ h (.cons (by rw[lin_ok,lin_ok];exact q) o.1) o.2
 | 2,h=>Nat.le_antisymm (refT_le o (Bool.and_eq_true_iff.mp h).1) (refT_le o (Bool.and_eq_true_iff.mp h).2)
 | 3,h=>fun q=>refT_ok l1 _ _ h (.cons (by rw[suc_ok,lin_ok,lin_ok];exact q) o.1) o.2
 | 4,h=>fun q=>refT_ok l1 _ _ h (.cons (by rw[lin_ok,lin_ok];exact q) o.1) o.2
 | _+5,h=>refT_ok l1 _ _ h o.1 o.2
theorem sound:∀ (p:P) (e:List Nat) (s:Fs),Oks e s→p.chk s=true→p.den e
 | .no,_,_,_,h=>nomatch h
 | .df x y ls p,e,s,o,h=>by
  obtain⟨h1,h2⟩:=Bool.and_eq_true_iff.mp h
  have hle:=ref_le o.1 h1
  refine sound p _ _ (Oks.cons (s:=(_::_,_)) ?_ (.cons ?_ (shF_ok o))) h2 <;> rw[ev_ad,ev_sh,ev_sh,lin_ok,lin_ok,ev01,Nat.sub_add_cancel hle] <;> exact Nat.le_refl _
 | .dl x y p,e,s,o,h=>by
  refine sound p _ _ (Oks.cons (s:=(_::_,_)) ?_ (Oks.cons (s:=(_,_::_)) ?_ (.dis ?_ (shF_ok o)))) h
  ·rw[ev_sh,lin_ok,ev01];exact Nat.sub_le _ _
  ·rw[ev_ad,ev_sh,ev_sh,lin_ok,lin_ok,ev01];exact Nat.le_add_of_sub_le (Nat.le_refl _)
  ·unfold Ho
   rw[ev_ad,ev_sh,ev_sh,lin_ok,lin_ok,ev01,ev_nil]
   exact(Nat.le_total (y.den e) (x.den e)).imp (fun q=>Nat.le_of_eq (Nat.sub_add_cancel q)) fun q=>Nat.le_of_eq (Nat.sub_eq_zero_of_le q)
 | .dv 0 x p,e,s,o,h=>nomatch h
 | .dv (n+1) x p,e,s,o,h=>by
  refine sound p _ _ (Oks.cons (s:=(_::_,_)) ?_ (.cons ?_ (shF_ok o))) h
  ·rw[ev_sh,lin_ok,ev2,Nat.zero_mul,Nat.zero_add];exact Nat.mul_div_le _ _
  ·rw[suc_ok,ev_sh,lin_ok,ev2,Nat.mul_one]
   have:=Nat.lt_mul_div_succ (x.den e) (Nat.succ_pos n)
   rw[Nat.mul_succ,Nat.add_comm] at this
   exact this
 | .mn x y p,e,s,o,h=>by
  refine sound p _ _ (Oks.cons (s:=(_::_,_)) ?_ (Oks.cons (s:=(_,_::_)) ?_ (.dis ?_ (shF_ok o)))) h
  ·rw[ev_sh,lin_ok,ev01];exact Nat.min_le_left _ _
  ·rw[ev_sh,lin_ok,ev01];exact Nat.min_le_right _ _
  ·unfold Ho
   rw[ev_sh,ev_sh,lin_ok,lin_ok,ev01]
   exact(Nat.le_total (x.den e) (y.den e)).imp (fun q=>Nat.le_min.mpr ⟨Nat.le_refl _,q⟩) fun q=>Nat.le_min.mpr ⟨q,Nat.le_refl _⟩
 | .hy r x y p,e,s,o,h=>fun q=>sound p e _ (fact_ok x y o r q) h
 | .an r x y r2 u v p,e,s,o,h=>fun q=>sound p e _ (fact_ok u v (fact_ok x y o r q.1) r2 q.2) h
 | .gl r x y l1 l2,e,s,o,h=>goal_ok x y o l1 l2 r h
noncomputable def gT:Nat→Nat→(T→Nat→P)→P
 | 0,_,_=>.no
 | f+1,n,k=>
  bif Nat.blt (n % 32) 20 then k (.v (n % 32)) (n / 32)
  else bif Nat.beq (n % 32) 20 then gT f (n / 32) fun x n=>gT f n fun y n=>k (.a x y) n
  else bif Nat.beq (n % 32) 21 then k (.k (n / 32 % 32)) (n / 1024)
  else bif Nat.beq (n % 32) 22 then k (.k (n / 32 % 32768)) (n / 1048576)
  else bif Nat.beq (n % 32) 23 then gT f (n / 1024) fun x m=>k (.m (n / 32 % 32) x) m
  else bif Nat.beq (n % 32) 24 then gT f (n / 1024) fun x m=>k (.r x (n / 32 % 32)) m
  else bif Nat.beq (n % 32) 25 then k (.k (n / 32 % 33554432)) (n / 1073741824)
  else bif Nat.beq (n % 32) 26 then gT f (n / 32768) fun x m=>k (.m (n / 32 % 1024) x) m
  else bif Nat.beq (n % 32) 27 then gT f (n / 32768) fun x m=>k (.r x (n / 32 % 1024)) m
  else .no
noncomputable def gL:Nat→Nat→(List Nat→Nat→P)→P
 | 0,_,_=>.no
 | f+1,n,k=>bif Nat.beq (n % 32) 31 then k [] (n / 32) else gL f (n / 32) fun l m=>k (n % 32::l) m
noncomputable def gR:Nat→Nat→(Tr→Nat→P)→P
 | 0,_,_=>.no
 | f+1,n,k=>
  bif Nat.beq (n % 32) 30 then gR f (n / 32) fun a n=>gR f n fun b n=>k (.sp a b) n
  else bif Nat.beq (n % 32) 29 then gR f (n / 32) fun a n=>k (.sk a) n
  else gL 40 n fun l m=>k (.lf l) m
noncomputable def gP:Nat→Nat→P
 | 0,_=>.no
 | f+1,n=>
  bif Nat.blt (n % 32) 6 then gT 20 (n / 32) fun x m=>gT 20 m fun y m=>.hy (n % 32) x y (gP f m)
  else bif Nat.beq (n % 32) 6 then gT 20 (n / 32) fun x m=>gT 20 m fun y m=>gL 40 m fun ls m=>.df x y ls (gP f m)
  else bif Nat.beq (n % 32) 7 then gT 20 (n / 32) fun x m=>gT 20 m fun y m=>.dl x y (gP f m)
  else bif Nat.beq (n % 32) 8 then gT 20 (n / 1024) fun x m=>.dv (n / 32 % 32) x (gP f m)
  else bif Nat.beq (n % 32) 9 then gT 20 (n / 1024) fun x m=>gT 20 m fun y m=>gT 20 (m / 32) fun u l=>gT 20 l fun v l=>.an (n / 32 % 32) x y (m % 32) u v (gP f l)
  else bif Nat.blt (n % 32) 16 then gT 20 (n / 32) fun x m=>gT 20 m fun y m=>gR 20 m fun l1 m=>gR 20 m fun l2 m=>.gl (n % 32-10) x y l1 l2
  else bif Nat.beq (n % 32) 16 then gT 20 (n / 32) fun x m=>gT 20 m fun y m=>.mn x y (gP f m)
  else .no
def run(c:Nat)(e:List Nat):Prop:=bif (gP 40 c).chk ([],[]) then (gP 40 c).den e else True
end Z
theorem z(c:Nat)(e:List Nat):Z.run c e:=by
 unfold Z.run
 cases h:(Z.gP 40 c).chk ([],[]) with
 | true=>exact Z.sound _ e ([],[]) ⟨nofun,nofun⟩ h
 | false=>trivial
theorem Z.s62{i:Int}(h:-100≤i∧i≤100):-(2 ^ 62)<i∧i<2 ^ 62:=⟨Int.lt_of_lt_of_le (by decide) h.1,Int.lt_of_le_of_lt h.2 (by decide)⟩
theorem Z.n62{i:Nat}(h:i<2 ^ 62):-(2 ^ 62)<(i:Int)∧(i:Int)<2 ^ 62:=⟨Int.lt_of_lt_of_le (by decide) (Int.natCast_nonneg i),Int.ofNat_lt.mpr h⟩
theorem Z.r100{a:Nat}(h:a≤100):-100≤(a:Int)∧(a:Int)≤100:=⟨Int.le_trans (by decide) (Int.natCast_nonneg a),Int.ofNat_le.mpr h⟩
theorem Z.m100{a:Nat}(h:a≤100):-100≤-(a:Int)∧-(a:Int)≤100:=⟨Int.neg_le_neg (Int.ofNat_le.mpr h),Int.le_trans (Int.neg_nonpos_of_nonneg (Int.natCast_nonneg a)) (by decide)⟩
theorem z0(n:Nat):Z.run n []:=z n _
theorem z1(n:Nat){a:Nat}:Z.run n [a]:=z n _
theorem z2(n:Nat){a b:Nat}:Z.run n [a,b]:=z n _
theorem z3(n:Nat){a b c:Nat}:Z.run n [a,b,c]:=z n _
theorem z4(n:Nat){a b c d:Nat}:Z.run n [a,b,c,d]:=z n _
theorem z5(n:Nat){a b c d e:Nat}:Z.run n [a,b,c,d,e]:=z n _
theorem z6(n:Nat){a b c d e f:Nat}:Z.run n [a,b,c,d,e,f]:=z n _
end
section
open PySem PySem.W PySem.Calls PyProof.Rows
namespace HL
section
section
variable{p:Program}{w:World}{n₀:Nat}{ann:Option Value}
theorem segGo_add{n m:Nat}{s s' s'':Shared}{t t' t'':Thread}(h:segGo treeTable p w n₀ ann 1 n s t=some (s',t'))(k:segGo treeTable p w n₀ ann 1 m s' t'=some (s'',t'')) :
  segGo treeTable p w n₀ ann 1 (n+m) s t=some (s'',t''):=by
 induction n generalizing s t with
 | zero=>
  obtain⟨rfl,rfl⟩:s=s'∧t=t':=by simpa [segGo] using h
  rw[Nat.zero_add];exact k
 | succ n ih=>
  rw[show n+1+m=n+m+1 by exact z2 0x1f0fc21a8414a04350528c]
  unfold segGo at h ⊢
  cases he:endAt 1 t with
  | some f=>rw[he] at h;cases h
  | none=>
   rw[he] at h
   cases hk:stepOk n₀ ann t with
   | false=>rw[hk] at h;cases h
   | true=>
    rw[hk] at h
    cases hs:step (denote treeTable) p w s t with
    | halt o s₂=>rw[hs] at h;cases h
    | go s₂ t₂=>rw[hs] at h;exact ih h
variable(p w n₀ ann) in
def GoTo(s:Shared)(t:Thread)(s':Shared)(t':Thread):Prop:=∃ n,segGo treeTable p w n₀ ann 1 n s t=some (s',t')
theorem GoTo.trans{s s' s'':Shared}{t t' t'':Thread}(h:GoTo p w n₀ ann s t s' t')(k:GoTo p w n₀ ann s' t' s'' t''):GoTo p w n₀ ann s t s'' t'':=
 let ⟨n,h⟩:=h;let ⟨m,k⟩:=k;⟨n+m,segGo_add h k⟩
theorem GoTo.refl{s:Shared}{t:Thread}:GoTo p w n₀ ann s t s t:=⟨0,rfl⟩
theorem GoTo.one{s s':Shared}{t t':Thread}(he:endAt 1 t=none)(hk:stepOk n₀ ann t=true)(hs:step (denote treeTable) p w s t=.go s' t'):GoTo p w n₀ ann s t s' t':=by
 refine⟨1,?_⟩
 unfold segGo
 rw[he,hk,hs];rfl
variable(p w n₀ ann) in
def Does{α:Type}(b:List Stmt)(env:Env)(q:Pos)(m:Sem α)(s:Shared)(a:α)(s':Shared):Prop:=
 ∀ (K:α→Sem Fin) (H:Value→Sem Fin) (gd:Bool→Bool) (lv:List Value→List Value) (pos:Pos),
  ∃ pos',GoTo p w n₀ ann s ⟨m.wrap K H gd lv,.body b env,pos,[topFrame q]⟩ s' ⟨K a,.body b env,pos',[topFrame q]⟩
variable{b:List Stmt}{env:Env}{q:Pos}{α β:Type}{s s' s'':Shared}
theorem does_pure{a:α}:Does p w n₀ ann b env q (pure a:Sem α) s a s:=fun K H gd lv pos=>⟨pos,.refl⟩
theorem does_bind{m:Sem α}{f:α→Sem β}{a:α}{c:β}(h:Does p w n₀ ann b env q m s a s')(k:Does p w n₀ ann b env q (f a) s' c s''):Does p w n₀ ann b env q (m >>= f) s c s'':=fun K H gd lv pos=>by
 rw[Sem.bind_eq_wrap',Sem.wrap_wrap]
 obtain⟨p1,h1⟩:=h (fun a=>(f a).wrap K H gd lv) H gd lv pos
 obtain⟨p2,h2⟩:=k K H gd lv p1
 exact⟨p2,h1.trans h2⟩
theorem does_wrapP{m:Sem α}{a:α}{H:Value→Sem α}{gd:Bool→Bool}{lv:List Value→List Value}(h:Does p w n₀ ann b env q m s a s'):Does p w n₀ ann b env q (m.wrap .pure H gd lv) s a s':=fun K H' gd' lv' pos=>by
 rw[Sem.wrap_wrap]
 exact h (fun a=>K a) _ _ _ pos
theorem does_keep{m:Sem α}{a:α}{vs:List Value}(h:Does p w n₀ ann b env q m s a s'):Does p w n₀ ann b env q (m.keep vs) s a s':=by rw[Sem.keep_eq_wrap];exact does_wrapP h
theorem does_tryCatch{m:Sem α}{a:α}{f:Value→Sem α}(h:Does p w n₀ ann b env q m s a s'):Does p w n₀ ann b env q (m.tryCatch f) s a s':=by rw[Sem.tryCatch_eq_wrap];exact does_wrapP h
theorem does_onRaise{m:Sem α}{a:α}{f:Value→Sem Unit}(h:Does p w n₀ ann b env q m s a s'):Does p w n₀ ann b env q (m.onRaise f) s a s':=by rw[Sem.onRaise_eq_wrap];exact does_wrapP h
theorem does_holding{m:Sem α}{a:α}{vs:List Value}(h:Does p w n₀ ann b env q m s a s'):Does p w n₀ ann b env q (holding vs m) s a s':=by
 unfold holding
 split
 ·exact h
 ·exact does_keep h
theorem does_load{a:Addr}{part:Option Value}{o:Obj}(ho:s.heap.get? a=some o):Does p w n₀ ann b env q (loadPart a part) s o s:=fun K H gd lv pos=>⟨pos,.one rfl rfl (by
 obtain⟨h,g,d,t,os⟩:=s
 show (match h.get? a with | some o=>_ | none=>_)=_
 rw[ho];rfl)⟩
theorem does_update{a:Addr}{part:Option Value}{f:Obj→Obj}(ho:(s.heap.get? a).isSome=true)(ha:n₀≤a∨a=mainNs):Does p w n₀ ann b env q (updatePart a part f) s () { s with heap:=s.heap.update a f }:=fun K H gd lv pos=>⟨pos,.one rfl (by
 show (true&&(Nat.ble n₀ a || a==mainNs || a==cStatics || ann==some (.ref a)))=true
 rcases ha with h | h
 ·rw[Nat.ble_eq_true_of_le h];rfl
 ·subst h;simp) (by
 obtain⟨h,g,d,t,os⟩:=s
 show (if (h.get? a).isSome=true then _ else _)=_
 rw[if_pos ho];rfl)⟩
theorem does_alloc{o:Obj}:Does p w n₀ ann b env q (alloc o) s s.heap.objs.size { s with heap:=s.heap.push o }:=fun K H gd lv pos=>⟨pos,.one rfl rfl rfl⟩
theorem does_fresh:Does p w n₀ ann b env q fresh s s.toks { s with toks:=s.toks+1 }:=fun K H gd lv pos=>⟨pos,.one rfl rfl rfl⟩
theorem does_rule{t:String}:Does p w n₀ ann b env q (rule t) s () s:=fun K H gd lv pos=>⟨pos,.one rfl rfl rfl⟩
theorem does_at{r:Pos}:Does p w n₀ ann b env q (standAt r) s () s:=fun K H gd lv pos=>⟨r,.one rfl rfl rfl⟩
theorem does_ask:Does p w n₀ ann b env q ask s ⟨p,w.params⟩ s:=fun K H gd lv pos=>⟨pos,.one rfl rfl rfl⟩
theorem does_mkInt{i:Int}:Does p w n₀ ann b env q (mkInt i) s (.int i s.toks) { s with toks:=s.toks+1 }:=does_bind does_fresh does_pure
theorem does_mkText{x:Str}:Does p w n₀ ann b env q (mkText x) s (.str x s.toks) { s with toks:=s.toks+1 }:=does_bind does_fresh does_pure
end
end
section
section
variable{p:Program}{w:World}{n₀:Nat}{ann:Option Value}
variable{b:List Stmt}{env:Env}{q:Pos}{α β:Type}{s s' s'':Shared}
theorem qGo:@segGo=@PySem.W.Fast.tw3277212676724774461:=PySem.W.Fast.te3277212676724774461
theorem qTab:treeTable=PySem.W.Fast.tw14364793385576792824:=PySem.W.Fast.te14364793385576792824
theorem qCall:@PySem.call=@PySem.W.Fast.tw11478286150595567475:=PySem.W.Fast.te11478286150595567475
theorem hashcall_go(k:Int)(t:Tok)(K:Value→Sem Fin)(H:Value→Sem Fin)(gd:Bool→Bool)(lv:List Value→List Value)(pos:Pos)(h:Heap)(g:Array GenState)(d:Drawn)(tk:Nat)(os:OsState) :
  segGo treeTable p w n₀ ann 1 4 ⟨h,g,d,tk,os⟩ ⟨(PySem.call (.builtin "int.__hash__") [.int k t]).wrap K H gd lv,.body b env,pos,[topFrame q]⟩=some (⟨h,g,d,tk+1,os⟩,⟨K (.int (rawHash k) tk),.body b env,pos,[topFrame q]⟩):=by
 rw[qGo,qTab,qCall]
 kernel_rfl
theorem does_hashcall{k:Int}{t:Tok}:Does p w n₀ ann b env q (PySem.call (.builtin "int.__hash__") [.int k t]) s (.int (rawHash k) s.toks) { s with toks:=s.toks+1 }:=fun K H gd lv pos=>
 ⟨pos,4,hashcall_go k t K H gd lv pos s.heap s.gens s.drawn s.toks s.os⟩
theorem does_specialOf_val{v:Value}{T:String}{name:Str}{r:Option Value}(ht:typeOf v=pure (.type T))(h:typeLookup (.type T) name=pure r):Does p w n₀ ann b env q (specialOf v name) s r s:=by
 unfold specialOf
 rw[ht]
 exact does_bind does_pure (by rw[h];exact does_pure)
theorem does_typeOf_ref{a:Addr}{o:Obj}{T:String}(ho:s.heap.get? a=some o)(hc:o.cls=.type T):Does p w n₀ ann b env q (typeOf (.ref a)) s (.type T) s:=
 does_bind (does_load ho) (by rw[hc];exact does_pure)
theorem does_specialOf_ref{a:Addr}{o:Obj}{T:String}{name:Str}{r:Option Value}(ho:s.heap.get? a=some o)(hc:o.cls=.type T)(h:typeLookup (.type T) name=pure r):Does p w n₀ ann b env q (specialOf (.ref a) name) s r s:=by
 unfold specialOf
 exact does_bind (does_typeOf_ref ho hc) (by rw[h];exact does_pure)
theorem does_isInstance_ref{a:Addr}{o:Obj}{T U:String}{r:Bool}(ho:s.heap.get? a=some o)(hc:o.cls=.type T)(h:isSubtype (.type T) (.type U)=pure r):Does p w n₀ ann b env q (isInstance (.ref a) (.type U)) s r s:=by
 unfold isInstance
 exact does_bind (does_typeOf_ref ho hc) (by rw[h];exact does_pure)
theorem does_callHash{k:Int}{t:Tok}{refuse:Sem Value}:Does p w n₀ ann b env q (callSpecialIfBoundUnlessNone? (.int k t) "__hash__" refuse) s (some (.int (rawHash k) s.toks)) { s with toks:=s.toks+1 }:=by
 simp only[callSpecialIfBoundUnlessNone?,bindSpecialIfBound?]
 refine does_holding (does_bind (a:=some (.builtin "int.__hash__",[.int k t])) (s':=s) (does_bind (does_specialOf_val rfl slot_int_hash.lookup) ?_) ?_)
 ·simp only[slot_int_hash.bind]
  refine does_bind does_ask ?_
  split
  ·exact does_bind does_pure does_pure
  ·exact does_tryCatch (does_bind does_pure does_pure)
 ·simp only[builtin_beq_none,Bool.false_eq_true,if_false]
  exact does_bind does_hashcall does_pure
theorem does_pyHash_int{k:Int}{t:Tok}:Does p w n₀ ann b env q (pyHash (.int k t)) s (hashInt k) { s with toks:=s.toks+1 }:=by
 have hr:=rawHash_range k
 unfold pyHash
 have hv:[Value.int k t].any Value.onHeap=false:=rfl
 refine does_bind (a:=()) (s':=s) ?_ ?_
 ·rw[cRoomFor,if_neg (by rw[hv];exact Bool.false_ne_true)];exact does_pure
 refine does_bind (does_specialOf_val rfl slot_int_hash.lookup) ?_
 show Does p w n₀ ann b env q (if (some (Value.builtin "int.__hash__")==some Value.none)=true then _ else _) _ _ _
 rw[if_neg (by rw[beq_builtin_none];exact Bool.false_ne_true)]
 refine does_bind (does_specialOf_val rfl slot_int_hash.lookup) ?_
 show Does p w n₀ ann b env q (callSpecialIfBoundUnlessNone? (.int k t) "__hash__" _ >>= _) _ _ _
 refine does_bind does_callHash ?_
 show Does p w n₀ ann b env q (if (decide (-(2:Int) ^ 63≤rawHash k)&&decide (rawHash k<2 ^ 63))=true then _ else _) _ _ _
 rw[if_pos (by rw[decide_eq_true hr.1,decide_eq_true hr.2];rfl)]
 exact does_pure
theorem places_none{es:Array DictEntry}{h:Int}(hk:∀ e∈es.toList,e.hash≠h):placesWithHash es.size (fun i=>es[i]?.map (·.hash)) h=[]:=by
 unfold placesWithHash
 refine List.filter_eq_nil_iff.mpr fun i _=>?_
 have:∀ x,es[i]?=some x→¬x.hash=h:=fun e he=>hk e (Array.mem_toList_iff.mpr (Array.mem_of_getElem? he))
 simpa using this
theorem does_dictEntries{d:Addr}{part:Option Value}{o:Obj}{es:Array DictEntry}{ep:Nat}(ho:s.heap.get? d=some o)(hd:o.data=.dict es ep):Does p w n₀ ann b env q (dictEntries d part) s es s:=
 does_bind (does_load ho) (by rw[hd];exact does_pure)
theorem does_dictEpoch{d:Addr}{part:Option Value}{o:Obj}{es:Array DictEntry}{ep:Nat}(ho:s.heap.get? d=some o)(hd:o.data=.dict es ep):Does p w n₀ ann b env q (dictEpoch d part) s ep s:=
 does_bind (does_load ho) (by rw[hd];exact does_pure)
theorem does_dictFind_absent{d:Addr}{o:Obj}{es:Array DictEntry}{ep:Nat}{k:Int}{t:Tok}(ho:s.heap.get? d=some o)(hd:o.data=.dict es ep)(hk:∀ e∈es.toList,e.hash≠hashInt k) :
  Does p w n₀ ann b env q (dictFind d (.int k t) (hashInt k)) s none s:=by
 unfold dictFind
 refine does_holding (does_bind (does_dictEntries ho hd) ?_)
 dsimp only
 rw[places_none hk]
 rw[if_pos (by rfl)]
 exact does_bind (a:=(none,())) (s':=s) does_pure does_pure
theorem does_updateKeys{d:Addr}{part:Option Value}{es:Array DictEntry}{ep:Nat}{c:Value}{di:Option Addr}{sl:Array (Option Value)}{f:Array DictEntry→Array DictEntry}(ho:s.heap.get? d=some ⟨c,di,.dict es ep,sl⟩)(ha:n₀≤d∨d=mainNs)
  (hz:(f es).size≤sizeLine+1):Does p w n₀ ann b env q (updateDictKeys d f part) s () { s with heap:=s.heap.update d (Obj.mapDictKeys f) }:=by
 unfold updateDictKeys
 refine does_bind (does_load ho) ?_
 dsimp only
 refine does_bind (does_update (by rw[ho];rfl) ha) ?_
 unfold lookBehind
 refine does_bind (does_load (o:=Obj.mapDictKeys f ⟨c,di,.dict es ep,sl⟩) (Heap.get?_update_self _ ho rfl)) ?_
 have e:(Obj.mapDictKeys f ⟨c,di,.dict es ep,sl⟩).data.pastItsLine=none:=pastItsLine_dict hz
 rw[e]
 exact does_pure
end
end
section
noncomputable def dObj(es:List DictEntry)(ep:Nat):Obj:=⟨.type "dict",none,.dict es.toArray ep,#[]⟩
noncomputable def SS(s0:Shared)(l:List Obj)(tk:Nat):Shared:=⟨⟨s0.heap.objs++l.toArray,s0.heap.life⟩,s0.gens,s0.drawn,tk,s0.os⟩
theorem ss_get{s0:Shared}{l:List Obj}{tk i:Nat}{es:List DictEntry}{ep:Nat}(h:l[i]?=some (dObj es ep)):(SS s0 l tk).heap.get? (s0.heap.objs.size+i)=some (dObj es ep):=by
 show (match (s0.heap.objs++l.toArray)[s0.heap.objs.size+i]? with | some ⟨_,_,.freed,_⟩=>none | o=>o)=_
 rw[Array.getElem?_append_right (Nat.le_add_right ..),Nat.add_sub_cancel_left,List.getElem?_toArray,h]
 rfl
theorem ss_size{s0:Shared}{l:List Obj}{tk:Nat}:(SS s0 l tk).heap.objs.size=s0.heap.objs.size+l.length:=by simp [SS]
theorem ss_push{s0:Shared}{l:List Obj}{tk:Nat}{o:Obj}:{ SS s0 l tk with heap:=(SS s0 l tk).heap.push o }=SS s0 (l++[o]) tk:=by
 simp [SS,Heap.push]
theorem ss_update{s0:Shared}{l:List Obj}{tk i:Nat}{f:Obj→Obj}{o:Obj}(h:l[i]?=some o):{ SS s0 l tk with heap:=(SS s0 l tk).heap.update (s0.heap.objs.size+i) f }=SS s0 (l.set i (f o)) tk:=by
 have e:(s0.heap.objs++l.toArray).modify (s0.heap.objs.size+i) f=s0.heap.objs++(l.set i (f o)).toArray:=by
  apply Array.ext_getElem?
  intro j
  rw[Array.getElem?_modify]
  by_cases hj:j<s0.heap.objs.size
  ·rw[Array.getElem?_append_left hj,Array.getElem?_append_left hj,if_neg (by(revert hj;exact z3 0x3ff08020a82af1041410041))]
  ·have hj':s0.heap.objs.size≤j:=by(revert hj;exact z2 0x3ff0842050023)
   rw[Array.getElem?_append_right hj',Array.getElem?_append_right hj',List.getElem?_toArray,List.getElem?_toArray,List.getElem?_set]
   by_cases q:s0.heap.objs.size+i=j
   ·subst q
    rw[Nat.add_sub_cancel_left,if_pos rfl,if_pos rfl,h]
    have:=(List.getElem?_eq_some_iff.mp h).1
    simp [this]
   ·rw[if_neg q,if_neg (by(revert hj' q;exact z3 0x7fe10043f080200f815055e008be1088260805428440))]
 show Shared.mk ⟨_,_⟩ _ _ _ _=Shared.mk ⟨_,_⟩ _ _ _ _
 rw[←e];rfl
section
variable{p:Program}{w:World}{n₀:Nat}{ann:Option Value}
variable{b:List Stmt}{env:Env}{q:Pos}{α β:Type}{s s' s'':Shared}
theorem does_put{s0:Shared}{l:List Obj}{tk i:Nat}{es:List DictEntry}{ep:Nat}{part:Option Value}{e:DictEntry}(hn:n₀≤s0.heap.objs.size)(hl:l[i]?=some (dObj es ep))(hz:es.length<100000) :
  Does p w n₀ ann b env q (updateDictKeys (s0.heap.objs.size+i) (·.push e) part) (SS s0 l tk) () (SS s0 (l.set i (dObj (es++[e]) (ep+1))) tk):=by
 have h:=does_updateKeys (p:=p) (w:=w) (ann:=ann) (b:=b) (env:=env) (q:=q) (part:=part) (f:=(·.push e)) (s:=SS s0 l tk) (ss_get (s0:=s0) (tk:=tk) hl) (.inl (Nat.le_trans hn (Nat.le_add_right ..)))
  (by rw[sizeLine_eq];simp;(revert hz;exact z1 0xffc21800000640a00c3506401))
 rw[ss_update hl] at h
 have e':Obj.mapDictKeys (·.push e) (dObj es ep)=dObj (es++[e]) (ep+1):=by simp [dObj,Obj.mapDictKeys]
 rw[e'] at h
 exact h
theorem does_dictSet{s0:Shared}{l:List Obj}{tk i:Nat}{es:List DictEntry}{ep:Nat}{k:Int}{t:Tok}{v:Value}(hn:n₀≤s0.heap.objs.size)(hl:l[i]?=some (dObj es ep))(hz:es.length<100000)(hk:∀ e∈es,e.hash≠hashInt k) :
  Does p w n₀ ann b env q (dictSet (s0.heap.objs.size+i) (.int k t) v) (SS s0 l tk) () (SS s0 (l.set i (dObj (es++[⟨hashInt k,.int k t,v⟩]) (ep+1))) (tk+1)):=by
 unfold dictSet
 refine does_holding (does_bind does_pyHash_int ?_)
 unfold dictSetHashed
 refine does_holding (does_bind (does_dictFind_absent (es:=es.toArray) (ss_get hl) rfl (by simpa using hk)) ?_)
 dsimp only
 refine does_bind does_rule ?_
 exact does_put hn hl hz
theorem does_dictPut{s0:Shared}{l:List Obj}{tk i:Nat}{es:List DictEntry}{ep:Nat}{k:Int}{t:Tok}{v:Value}(hn:n₀≤s0.heap.objs.size)(hl:l[i]?=some (dObj es ep))(hz:es.length<100000)(hk:∀ e∈es,e.hash≠hashInt k) :
  Does p w n₀ ann b env q (dictPut (s0.heap.objs.size+i) (hashInt k) (.int k t) v) (SS s0 l tk) () (SS s0 (l.set i (dObj (es++[⟨hashInt k,.int k t,v⟩]) (ep+1))) tk):=by
 unfold dictPut
 refine does_bind (does_dictFind_absent (es:=es.toArray) (ss_get hl) rfl (by simpa using hk)) ?_
 dsimp only
 exact does_put hn hl hz
noncomputable abbrev Pair:=Int × Str
noncomputable abbrev keyT(k:Int):Sem Value:=mkInt k
noncomputable abbrev valT(r:Pos)(x:Str):Sem Value:=do let v ←mkText x;standAt r;pure v
theorem does_valT{r:Pos}{x:Str}:Does p w n₀ ann b env q (valT r x) s (.str x s.toks) { s with toks:=s.toks+1 }:=does_bind does_mkText (does_bind does_at does_pure)
noncomputable def ents:List Pair→Nat→List DictEntry
 | [],_=>[]
 | (k,x)::r,tk=>⟨hashInt k,.int k tk,.str x (tk+1)⟩::ents r (tk+3)
noncomputable def Fresh(es:List DictEntry):List Pair→Prop
 | []=>True
 | (k,_)::r=>(∀ e∈es,e.hash≠hashInt k)∧(∀ y∈r,hashInt y.1≠hashInt k)∧Fresh es r
theorem Fresh.push{es:List DictEntry}{e:DictEntry}:∀ {ps:List Pair},Fresh es ps→(∀ y∈ps,hashInt y.1≠e.hash)→Fresh (es++[e]) ps
 | [],_,_=>trivial
 | (k,x)::r,⟨h1,h2,h3⟩,h=>⟨fun d hd=>by
   rcases List.mem_append.mp hd with q | q
   ·exact h1 d q
   ·simp only[List.mem_singleton] at q
    subst q
    exact fun z=>h _ (.head _) z.symm,h2,h3.push fun y hy=>h y (.tail _ hy)⟩
theorem does_subLong{s0:Shared}{r:Pos}{i:Nat}(hn:n₀≤s0.heap.objs.size):∀ (ps:List Pair) (l:List Obj) (es:List DictEntry) (ep tk:Nat),l[i]?=some (dObj es ep)→es.length+ps.length<100000→Fresh es ps →
  Does p w n₀ ann b env q (forIn (ps.map fun y=>(keyT y.1,valT r y.2)) PUnit.unit fun (y:Sem Value × Sem Value) (_:PUnit)=>(do
    let kv ←y.1
    let vv ←holding [kv] y.2
    holding [kv,vv] (dictSet (s0.heap.objs.size+i) kv vv)
    pure (ForInStep.yield PUnit.unit):Sem (ForInStep PUnit))) (SS s0 l tk) PUnit.unit (SS s0 (l.set i (dObj (es++ents ps tk) (ep+ps.length))) (tk+3*ps.length))
 | [],l,es,ep,tk,hl,_,_=>by
  have:l.set i (dObj es ep)=l:=by
   obtain⟨h,e⟩:=List.getElem?_eq_some_iff.mp hl
   rw[←e];exact List.set_getElem_self h
  simp only[List.map_nil,List.forIn_nil,ents,List.append_nil,List.length_nil,Nat.mul_zero,Nat.add_zero,this]
  exact does_pure
 | (k,x)::ps,l,es,ep,tk,hl,hz,⟨h1,h2,h3⟩=>by
  rw[List.length_cons] at hz
  rw[List.map_cons,List.forIn_cons]
  refine does_bind (a:=ForInStep.yield PUnit.unit) (s':=SS s0 (l.set i (dObj (es++[⟨hashInt k,.int k tk,.str x (tk+1)⟩]) (ep+1))) (tk+3)) ?_ ?_
  ·refine does_bind (does_mkInt (i:=k) (s:=SS s0 l tk)) (does_bind (does_holding (does_valT (s:=SS s0 l (tk+1)))) ?_)
   exact does_bind (does_holding (does_dictSet (tk:=tk+2) hn hl (by(revert hz;exact z2 0x1ff8420186a0c8160186a0c86a1a0281)) h1)) does_pure
  ·have hi:=(List.getElem?_eq_some_iff.mp hl).1
   have ih:=does_subLong (r:=r) hn ps (l.set i (dObj (es++[⟨hashInt k,.int k tk,.str x (tk+1)⟩]) (ep+1))) (es++[⟨hashInt k,.int k tk,.str x (tk+1)⟩]) (ep+1) (tk+3)
    (by rw[List.getElem?_set_self hi]) (by simp;(revert hz;exact z2 0x3ff084030d419086a0a5160186a0c86a1a0281)) (h3.push h2)
   rw[List.set_set] at ih
   have e1:es++[⟨hashInt k,.int k tk,.str x (tk+1)⟩]++ents ps (tk+3)=es++ents ((k,x)::ps) tk:=by simp [ents]
   have e2:ep+1+ps.length=ep+((k,x)::ps).length:=by simp;exact z2 0x1f0fc21a8680a04350528c
   have e3:tk+3+3*ps.length=tk+3*((k,x)::ps).length:=by simp;exact z2 0x1f0fc21a8683b82811dc750528c
   rw[e1,e2,e3] at ih
   exact ih
end
end
section
section
variable{p:Program}{w:World}{n₀:Nat}{ann:Option Value}
variable{b:List Stmt}{env:Env}{q:Pos}{α β:Type}{s s' s'':Shared}
theorem set_last{l:List Obj}{o o':Obj}:(l++[o]).set l.length o'=l++[o']:=by simp
theorem does_subDictLong{s0:Shared}{r:Pos}{ps:List Pair}{l:List Obj}{tk:Nat}(hn:n₀≤s0.heap.objs.size)(h1:15<ps.length)(h2:ps.length<100000)(hf:Fresh [] ps) :
  Does p w n₀ ann b env q (subDict (ps.map fun y=>(keyT y.1,valT r y.2))) (SS s0 l tk) (s0.heap.objs.size+l.length) (SS s0 (l++[dObj (ents ps tk) ps.length]) (tk+3*ps.length)):=by
 unfold subDict
 refine does_bind does_alloc ?_
 have e:{ SS s0 l tk with heap:=(SS s0 l tk).heap.push { cls:=.type "dict",data:=.dict #[] } }=SS s0 (l++[dObj [] 0]) tk:=ss_push
 rw[e,ss_size]
 refine does_bind (a:=()) (does_holding ?_) does_pure
 rw[if_neg (by rw[List.length_map];(revert h1;exact z1 0xffc217d40e03ea1))]
 refine does_bind does_rule (does_bind (a:=PUnit.unit) ?_ does_pure)
 have h:=does_subLong (p:=p) (w:=w) (ann:=ann) (b:=b) (env:=env) (q:=q) (r:=r) (i:=l.length) hn ps (l++[dObj [] 0]) [] 0 tk (by simp) (by simpa using h2) hf
 rw[set_last,List.nil_append,Nat.zero_add] at h
 exact h
noncomputable def entsS:List Pair→Nat→List DictEntry
 | [],_=>[]
 | (k,x)::r,tk=>⟨hashInt k,.int k tk,.str x (tk+1)⟩::entsS r (tk+2)
noncomputable def vsS:List Pair→Nat→List (Value × Value)
 | [],_=>[]
 | (k,x)::r,tk=>(.int k tk,.str x (tk+1))::vsS r (tk+2)
theorem does_evalPairs{r:Pos}:∀ (ps:List Pair) (s:Shared),Does p w n₀ ann b env q (evalPairs (ps.map fun y=>(keyT y.1,valT r y.2))) s (vsS ps s.toks) { s with toks:=s.toks+2*ps.length }
 | [],s=>does_pure
 | (k,x)::ps,s=>by
  rw[List.map_cons,evalPairs]
  refine does_bind does_mkInt (does_bind (does_holding does_valT) (does_bind (does_holding (does_evalPairs ps _)) ?_))
  have e:s.toks+1+1+2*ps.length=s.toks+2*((k,x)::ps).length:=by simp;exact z2 0xf87e10d43415c1408ae1a86a0a528c
  dsimp only
  rw[e]
  exact does_pure
theorem does_storeShort{s0:Shared}{i:Nat}(hn:n₀≤s0.heap.objs.size):∀ (ps:List Pair) (l:List Obj) (es:List DictEntry) (ep tk tk':Nat),l[i]?=some (dObj es ep)→es.length+ps.length<100000→Fresh es ps →
  Does p w n₀ ann b env q (forIn (vsS ps tk') PUnit.unit fun (x:Value × Value) (_:PUnit)=>(do dictSet (s0.heap.objs.size+i) x.1 x.2;pure (ForInStep.yield PUnit.unit):Sem (ForInStep PUnit))) (SS s0 l tk) PUnit.unit (SS s0 (l.set i (dObj (es++entsS ps tk') (ep+ps.length))) (tk+ps.length))
 | [],l,es,ep,tk,tk',hl,_,_=>by
  have:l.set i (dObj es ep)=l:=by
   obtain⟨h,e⟩:=List.getElem?_eq_some_iff.mp hl
   rw[←e];exact List.set_getElem_self h
  simp only[vsS,List.forIn_nil,entsS,List.append_nil,List.length_nil,Nat.add_zero,this]
  exact does_pure
 | (k,x)::ps,l,es,ep,tk,tk',hl,hz,⟨h1,h2,h3⟩=>by
  rw[List.length_cons] at hz
  rw[vsS,List.forIn_cons]
  refine does_bind (a:=ForInStep.yield PUnit.unit) (s':=SS s0 (l.set i (dObj (es++[⟨hashInt k,.int k tk',.str x (tk'+1)⟩]) (ep+1))) (tk+1)) ?_ ?_
  ·exact does_bind (does_dictSet hn hl (by(revert hz;exact z2 0x1ff8420186a0c8160186a0c86a1a0281)) h1) does_pure
  ·have hi:=(List.getElem?_eq_some_iff.mp hl).1
   have ih:=does_storeShort hn ps (l.set i (dObj (es++[⟨hashInt k,.int k tk',.str x (tk'+1)⟩]) (ep+1))) (es++[⟨hashInt k,.int k tk',.str x (tk'+1)⟩]) (ep+1) (tk+1) (tk'+2)
    (by rw[List.getElem?_set_self hi]) (by simp;(revert hz;exact z2 0x3ff084030d419086a0a5160186a0c86a1a0281)) (h3.push h2)
   rw[List.set_set] at ih
   have e1:es++[⟨hashInt k,.int k tk',.str x (tk'+1)⟩]++entsS ps (tk'+2)=es++entsS ((k,x)::ps) tk':=by simp [entsS]
   have e2:ep+1+ps.length=ep+((k,x)::ps).length:=by simp;exact z2 0x1f0fc21a8680a04350528c
   have e3:tk+1+ps.length=tk+((k,x)::ps).length:=by simp;exact z2 0x1f0fc21a8680a04350528c
   rw[e1,e2,e3] at ih
   exact ih
theorem does_subDictShort{s0:Shared}{r:Pos}{ps:List Pair}{l:List Obj}{tk:Nat}(hn:n₀≤s0.heap.objs.size)(h1:ps.length≤15)(hf:Fresh [] ps) :
  Does p w n₀ ann b env q (subDict (ps.map fun y=>(keyT y.1,valT r y.2))) (SS s0 l tk) (s0.heap.objs.size+l.length) (SS s0 (l++[dObj (entsS ps tk) ps.length]) (tk+3*ps.length)):=by
 unfold subDict
 refine does_bind does_alloc ?_
 have e:{ SS s0 l tk with heap:=(SS s0 l tk).heap.push { cls:=.type "dict",data:=.dict #[] } }=SS s0 (l++[dObj [] 0]) tk:=ss_push
 rw[e,ss_size]
 refine does_bind (a:=()) (does_holding ?_) does_pure
 rw[if_pos (by rw[List.length_map];(revert h1;exact z1 0xffc217d40a7d400))]
 refine does_bind (does_evalPairs ps _) (does_holding (does_bind (a:=PUnit.unit) ?_ does_pure))
 have h:=does_storeShort (p:=p) (w:=w) (ann:=ann) (b:=b) (env:=env) (q:=q) (i:=l.length) hn ps (l++[dObj [] 0]) [] 0 (tk+2*ps.length) tk (by simp) (by simp;(revert h1;exact z1 0xffc2100c350640b7d400)) hf
 rw[set_last,List.nil_append,Nat.zero_add] at h
 have e3:tk+2*ps.length+ps.length=tk+3*ps.length:=by exact z2 0x1f0fc211dc14084570528c
 rw[e3] at h
 exact h
def IntEnt(e:DictEntry):Prop:=∃ k t,e.key=.int k t∧e.hash=hashInt k
theorem ents_int:∀ (ps:List Pair) (tk:Nat),∀ e∈ents ps tk,IntEnt e
 | [],_,e,he=>nomatch he
 | (k,x)::ps,tk,e,he=>by
  rcases List.mem_cons.mp he with rfl | he
  ·exact⟨k,tk,rfl,rfl⟩
  ·exact ents_int ps _ e he
theorem entsS_int:∀ (ps:List Pair) (tk:Nat),∀ e∈entsS ps tk,IntEnt e
 | [],_,e,he=>nomatch he
 | (k,x)::ps,tk,e,he=>by
  rcases List.mem_cons.mp he with rfl | he
  ·exact⟨k,tk,rfl,rfl⟩
  ·exact entsS_int ps _ e he
theorem does_mergeLoop{s0:Shared}{tk j:Nat}{ss:List DictEntry}{eps:Nat}{f:Nat→PUnit→Sem (ForInStep PUnit)}(hn:n₀≤s0.heap.objs.size)(hj:0<j)(hi:∀ e∈ss,IntEnt e)
  (hf:∀ i,f i PUnit.unit=(do
   let es ←dictEntries (s0.heap.objs.size+j)
   match es[i]? with
   | some e=>do
    holding [e.key,e.val] (dictPut (s0.heap.objs.size+0) e.hash e.key e.val)
    let ep ←dictEpoch (s0.heap.objs.size+j)
    if (ep != eps)=true then do unsupported "dict.changed-during-merge";pure (ForInStep.yield PUnit.unit) else pure (ForInStep.yield PUnit.unit)
   | none=>do unsupported "dict.changed-during-merge";pure (ForInStep.yield PUnit.unit))):∀ (m i:Nat) (l:List Obj) (es:List DictEntry) (ep:Nat),i+m=ss.length→l[0]?=some (dObj es ep)→l[j]?=some (dObj ss eps)→es.length+m<100000 →
   (∀ e∈ss.drop i,∀ d∈es,d.hash≠e.hash)→(ss.drop i).Pairwise (fun d e=>d.hash≠e.hash) →
  Does p w n₀ ann b env q (forIn (List.range' i m) PUnit.unit f) (SS s0 l tk) PUnit.unit (SS s0 (l.set 0 (dObj (es++ss.drop i) (ep+m))) tk)
 | 0,i,l,es,ep,hm,h0,_,_,_,_=>by
  have:l.set 0 (dObj es ep)=l:=by
   obtain⟨h,e⟩:=List.getElem?_eq_some_iff.mp h0
   rw[←e];exact List.set_getElem_self h
  have hd:ss.drop i=[]:=List.drop_eq_nil_of_le (by(revert hm;exact z2 0x3ff0802102800a8682))
  rw[hd,List.append_nil]
  simp only[List.range'_zero,List.forIn_nil,Nat.add_zero,this]
  exact does_pure
 | m+1,i,l,es,ep,hm,h0,hl,hz,ha,hp=>by
  have hlt:i<ss.length:=by(revert hm;exact z3 0x7fe10840b086a2a0282)
  have hdr:ss.drop i=ss[i]::ss.drop (i+1):=List.drop_eq_getElem_cons hlt
  obtain⟨k,t,hk,hh⟩:=hi ss[i] (List.getElem_mem hlt)
  rw[hdr] at ha hp
  obtain⟨hp1,hp2⟩:=List.pairwise_cons.mp hp
  rw[List.range'_succ,List.forIn_cons]
  have h0':=(List.getElem?_eq_some_iff.mp h0).1
  refine does_bind (a:=ForInStep.yield PUnit.unit) (s':=SS s0 (l.set 0 (dObj (es++[ss[i]]) (ep+1))) tk) ?_ ?_
  ·rw[hf]
   refine does_bind (does_dictEntries (es:=ss.toArray) (ss_get hl) rfl) ?_
   have:ss.toArray[i]?=some ss[i]:=by simp [hlt]
   rw[this]
   dsimp only
   have hput:=does_dictPut (p:=p) (w:=w) (ann:=ann) (b:=b) (env:=env) (q:=q) (t:=t) (v:=ss[i].val) (k:=k) (tk:=tk) hn h0 (by(revert hz;exact z2 0x1ff8420186a0c8160186a0c86a1a0281)) (fun d hd=>by rw[←hh];exact ha _ (.head _) d hd)
   have he:(⟨hashInt k,.int k t,ss[i].val⟩:DictEntry)=ss[i]:=by rw[←hh,←hk]
   rw[he,←hh,←hk] at hput
   refine does_bind (does_holding hput) ?_
   refine does_bind (does_dictEpoch (es:=ss.toArray) (ep:=eps) (ss_get (by rw[List.getElem?_set_ne (by(revert hj;exact z1 0x3ff08400a82af002a2002a1))];exact hl)) rfl) ?_
   rw[if_neg (by simp)]
   exact does_pure
  ·have ih:=does_mergeLoop (tk:=tk) hn hj hi hf m (i+1) (l.set 0 (dObj (es++[ss[i]]) (ep+1))) (es++[ss[i]]) (ep+1) (by(revert hm;exact z3 0x7c200fc21104350528c106a1a0282)) (by rw[List.getElem?_set_self h0']) (by rw[List.getElem?_set_ne (by(revert hj;exact z1 0x3ff08400a82af002a2002a1))];exact hl) (by simp;(revert hz;exact z2 0x3ff084030d419086a0a5160186a0c86a1a0281))
    (fun e he d hd=>by
     rcases List.mem_append.mp hd with z | z
     ·exact ha e (.tail _ he) d z
     ·simp only[List.mem_singleton] at z
      subst z
      exact hp1 e he) hp2
   rw[List.set_set] at ih
   have e1:es++[ss[i]]++ss.drop (i+1)=es++ss.drop i:=by rw[hdr];simp
   have e2:ep+1+m=ep+(m+1):=by exact z2 0x1f0fc21a8680a04350528c
   rw[e1,e2] at ih
   exact ih
end
end
section
section
variable{p:Program}{w:World}{n₀:Nat}{ann:Option Value}
variable{b:List Stmt}{env:Env}{q:Pos}{α β:Type}{s s' s'':Shared}
theorem does_merge{s0:Shared}{tk j:Nat}{l:List Obj}{ss es:List DictEntry}{eps ep:Nat}(hn:n₀≤s0.heap.objs.size)(hN:2≤s0.heap.objs.size)(hj:0<j)(hi:∀ e∈ss,IntEnt e)
  (h0:l[0]?=some (dObj es ep)) (hl:l[j]?=some (dObj ss eps)) (hne:es≠[]) (hz:es.length+ss.length<100000) (ha:∀ e∈ss,∀ d∈es,d.hash≠e.hash) (hp:ss.Pairwise (fun d e=>d.hash≠e.hash)) :
  Does p w n₀ ann b env q (mergeMapping (s0.heap.objs.size+0) (.ref (s0.heap.objs.size+j)) false) (SS s0 l tk) () (SS s0 (l.set 0 (dObj (es++ss) (ep+ss.length))) tk):=by
 unfold mergeMapping
 refine does_bind (does_isInstance_ref (ss_get hl) rfl sub_dict_dict) ?_
 dsimp only
 rw[if_pos rfl]
 refine does_bind (does_specialOf_ref (ss_get hl) rfl (PySem.F.slot_dict_iter).lookup) ?_
 have e1:(some (Value.builtin "dict.__iter__")==some (.builtin "dict.__iter__"))=true:=by decide +kernel
 have e2:((s0.heap.objs.size+j)==sysModules)=false:=by
  show ((s0.heap.objs.size+j)==1)=false
  simp;(revert hN;exact z2 0xffc20082a0abc350828200aa0)
 rw[e1]
 refine does_bind does_pure ?_
 dsimp only
 rw[e2,if_neg Bool.false_ne_true]
 refine does_bind (does_dictEntries (es:=es.toArray) (ss_get h0) rfl) ?_
 rw[if_neg (by simpa using hne)]
 refine does_bind (does_dictEntries (es:=ss.toArray) (ss_get hl) rfl) ?_
 refine does_bind (does_dictEpoch (es:=ss.toArray) (ep:=eps) (ss_get hl) rfl) ?_
 refine does_bind (a:=PUnit.unit) ?_ does_pure
 have e:ss.toArray.size=ss.length:=by simp
 rw[e]
 have h:=fun f hf=>does_mergeLoop (p:=p) (w:=w) (ann:=ann) (b:=b) (env:=env) (q:=q) (tk:=tk) (f:=f) hn hj hi hf ss.length 0 l es ep (by exact z1 0x3e1f84000568c) h0 hl hz (by simpa using ha) (by simpa using hp)
 rw[List.drop_zero,←List.range_eq_range'] at h
 refine h _ fun i=>?_
 refine congrArg _ (funext fun es'=>?_)
 cases es'[i]? <;> rfl
end
end
section
abbrev Dis (ps:List Pair):Prop:=ps.Pairwise fun x y=>hashInt x.1≠hashInt y.1
theorem Dis.fresh:∀ {ps:List Pair},Dis ps→Fresh [] ps
 | [],_=>trivial
 | (k,x)::r,h=>⟨(fun e he=>by cases he),(fun y hy=>Ne.symm ((List.pairwise_cons.mp h).1 y hy)),Dis.fresh (List.pairwise_cons.mp h).2⟩
theorem ents_mem:∀ {ps:List Pair} {tk:Nat} {e:DictEntry},e∈ents ps tk→∃ y∈ps,e.hash=hashInt y.1
 | [],_,_,h=>nomatch h
 | (k,x)::r,tk,e,h=>by
  rcases List.mem_cons.mp h with rfl | h
  ·exact⟨_,.head _,rfl⟩
  ·obtain⟨y,hy,e⟩:=ents_mem h;exact⟨y,.tail _ hy,e⟩
theorem entsS_mem:∀ {ps:List Pair} {tk:Nat} {e:DictEntry},e∈entsS ps tk→∃ y∈ps,e.hash=hashInt y.1
 | [],_,_,h=>nomatch h
 | (k,x)::r,tk,e,h=>by
  rcases List.mem_cons.mp h with rfl | h
  ·exact⟨_,.head _,rfl⟩
  ·obtain⟨y,hy,e⟩:=entsS_mem h;exact⟨y,.tail _ hy,e⟩
theorem ents_pair:∀ {ps:List Pair} {tk:Nat},Dis ps→(ents ps tk).Pairwise fun d e=>d.hash≠e.hash
 | [],_,_=>.nil
 | (k,x)::r,tk,h=>by
  obtain⟨h1,h2⟩:=List.pairwise_cons.mp h
  refine List.pairwise_cons.mpr ⟨fun e he=>?_,ents_pair h2⟩
  obtain⟨y,hy,q⟩:=ents_mem he
  rw[q];exact h1 y hy
theorem entsS_pair:∀ {ps:List Pair} {tk:Nat},Dis ps→(entsS ps tk).Pairwise fun d e=>d.hash≠e.hash
 | [],_,_=>.nil
 | (k,x)::r,tk,h=>by
  obtain⟨h1,h2⟩:=List.pairwise_cons.mp h
  refine List.pairwise_cons.mpr ⟨fun e he=>?_,entsS_pair h2⟩
  obtain⟨y,hy,q⟩:=entsS_mem he
  rw[q];exact h1 y hy
theorem ents_len:∀ {ps:List Pair} {tk:Nat},(ents ps tk).length=ps.length
 | [],_=>rfl
 | (k,x)::r,tk=>by rw[ents,List.length_cons,List.length_cons,ents_len]
theorem entsS_len:∀ {ps:List Pair} {tk:Nat},(entsS ps tk).length=ps.length
 | [],_=>rfl
 | (k,x)::r,tk=>by rw[entsS,List.length_cons,List.length_cons,entsS_len]
theorem ents_app:∀ {ps qs:List Pair} {tk:Nat},ents (ps++qs) tk=ents ps tk++ents qs (tk+3*ps.length)
 | [],qs,tk=>by simp [ents]
 | (k,x)::r,qs,tk=>by
  rw[List.cons_append,ents,ents,ents_app,List.cons_append]
  have:tk+3+3*r.length=tk+3*((k,x)::r).length:=by simp;exact z2 0x1f0fc21a8683b82811dc750528c
  rw[this]
noncomputable abbrev mkI(r:Pos)(y:Pair):Option (Sem Value) × Sem Value:=(some (keyT y.1),valT r y.2)
noncomputable abbrev mkP(r:Pos)(y:Pair):Sem Value × Sem Value:=(keyT y.1,valT r y.2)
noncomputable def flushT(run:List (Sem Value × Sem Value)):Option Addr→Sem (Option Addr)
 | none=>do let x ←subDict run;pure (some x)
 | some d=>do
  let sub ←holding [Value.ref d] (subDict run)
  (holding [Value.ref d,Value.ref sub] (mergeMapping d (Value.ref sub) false)).onRaise fun x=>do
   let _ ←holding [Value.ref d,x] (runValue (Code.builtin "proto.let_go" { }))
   pure ()
  pure (some d)
section
variable{p:Program}{w:World}{n₀:Nat}{ann:Option Value}
variable{b:List Stmt}{env:Env}{q:Pos}{α β:Type}{s s' s'':Shared}
theorem does_gather{γ:Type}{r:Pos}{F:Option Addr × List (Sem Value × Sem Value)→Sem γ}{f:(Option (Sem Value) × Sem Value)→(Option Addr × List (Sem Value × Sem Value))→Sem (ForInStep (Option Addr × List (Sem Value × Sem Value)))}{c:γ}{main:Option Addr}
  (h1:∀ y run,run.length+1≠17→f (mkI r y) (main,run)=pure (.yield (main,run++[mkP r y]))) :
  ∀ (xs:List Pair) (run:List (Sem Value × Sem Value)) (rest:List (Option (Sem Value) × Sem Value)),run.length+xs.length<17→Does p w n₀ ann b env q (forIn rest (main,run++xs.map (mkP r)) f >>= F) s c s'→Does p w n₀ ann b env q (forIn (xs.map (mkI r)++rest) (main,run) f >>= F) s c s'
 | [],run,rest,_,h=>by simpa using h
 | x::xs,run,rest,hl,h=>by
  rw[List.length_cons] at hl
  rw[List.map_cons,List.cons_append,List.forIn_cons,h1 x run (by(revert hl;exact z2 0x3ff08400a82af8d43505051a86a1a0281)),pure_bind]
  refine does_gather h1 xs (run++[mkP r x]) rest (by simp;(revert hl;exact z2 0x3ff08635086a0a5171a86a1a0281)) ?_
  rw[List.append_assoc]
  exact h
theorem does_chunk{γ:Type}{r:Pos}{F:Option Addr × List (Sem Value × Sem Value)→Sem γ}{f:(Option (Sem Value) × Sem Value)→(Option Addr × List (Sem Value × Sem Value))→Sem (ForInStep (Option Addr × List (Sem Value × Sem Value)))}{c:γ}{main:Option Addr}{d:Addr}{s1:Shared}
  (h1:∀ y run,run.length+1≠17→f (mkI r y) (main,run)=pure (.yield (main,run++[mkP r y])))
  (h2:∀ y run,run.length+1=17→f (mkI r y) (main,run)=(flushT (run++[mkP r y]) main >>= fun m=>pure (.yield (m,[]))))
  (ch:List Pair) (rest:List (Option (Sem Value) × Sem Value)) (hl:ch.length=17) (hf:Does p w n₀ ann b env q (flushT (ch.map (mkP r)) main) s (some d) s1) (h:Does p w n₀ ann b env q (forIn rest (some d,[]) f >>= F) s1 c s') :
  Does p w n₀ ann b env q (forIn (ch.map (mkI r)++rest) (main,[]) f >>= F) s c s':=by
 obtain⟨xs,y,rfl⟩:∃ xs y,ch=xs++[y]:=by
  have hne:ch≠[]:=by intro e;rw[e] at hl;cases hl
  exact⟨_,_,(List.dropLast_concat_getLast hne).symm⟩
 have hd:xs.length=16:=by simpa using hl
 rw[List.map_append,List.append_assoc]
 refine does_gather h1 xs [] _ (by rw[hd];decide) ?_
 rw[List.map_singleton,List.singleton_append,List.forIn_cons,h2 _ _ (by simp [hd])]
 rw[List.map_append,List.map_singleton] at hf
 simp only[List.nil_append,bind_assoc,pure_bind]
 exact does_bind hf h
theorem does_flush0{s0:Shared}{r:Pos}{ps:List Pair}{tk:Nat}(hn:n₀≤s0.heap.objs.size)(hl:ps.length=17)(hd:Dis ps) :
  Does p w n₀ ann b env q (flushT (ps.map (mkP r)) none) (SS s0 [] tk) (some (s0.heap.objs.size+0)) (SS s0 [dObj (ents ps tk) 17] (tk+51)):=by
 have h:=does_subDictLong (p:=p) (w:=w) (ann:=ann) (b:=b) (env:=env) (q:=q) (r:=r) (l:=[]) (tk:=tk) hn (ps:=ps) (by(revert hl;exact z1 0x1ff840103eab8d402)) (by(revert hl;exact z1 0xffc2100c350640b8d402)) hd.fresh
 rw[hl] at h
 exact does_bind h does_pure
theorem does_flush1{s0:Shared}{r:Pos}{ps:List Pair}{tk tk':Nat}{es se:List DictEntry}{ep:Nat}{subs:List Obj}(hn:n₀≤s0.heap.objs.size)(hN:2≤s0.heap.objs.size)(hne:es≠[])(hz:es.length+ps.length<100000)
  (ha:∀ e∈es,∀ y∈ps,e.hash≠hashInt y.1) (hd:Dis ps)
  (hs:Does p w n₀ ann b env q (subDict (ps.map (mkP r))) (SS s0 (dObj es ep::subs) tk) (s0.heap.objs.size+(dObj es ep::subs).length) (SS s0 (dObj es ep::subs++[dObj se ps.length]) tk'))
  (h1:∀ e∈se,IntEnt e) (h2:∀ e∈se,∃ y∈ps,e.hash=hashInt y.1) (h3:se.Pairwise fun d e=>d.hash≠e.hash) (h4:se.length=ps.length) :
  Does p w n₀ ann b env q (flushT (ps.map (mkP r)) (some (s0.heap.objs.size+0))) (SS s0 (dObj es ep::subs) tk) (some (s0.heap.objs.size+0)) (SS s0 (dObj (es++se) (ep+ps.length)::(subs++[dObj se ps.length])) tk'):=by
 refine does_bind (does_holding hs) (does_bind (a:=()) (does_onRaise (does_holding ?_)) does_pure)
 have h:=does_merge (p:=p) (w:=w) (ann:=ann) (b:=b) (env:=env) (q:=q) (tk:=tk') (j:=(dObj es ep::subs).length) (l:=dObj es ep::subs++[dObj se ps.length]) (ss:=se) (es:=es) (eps:=ps.length) (ep:=ep) hn hN (by simp) h1
  rfl (by simp) hne (by rw[h4];exact hz) (fun e he d hd'=>by obtain⟨y,hy,e'⟩:=h2 e he;rw[e'];exact ha d hd' y hy) h3
 rw[h4] at h
 exact h
end
end
section
noncomputable def subsOf:List (List Pair)→Nat→List Obj
 | [],_=>[]
 | ch::r,tk=>dObj (ents ch tk) 17::subsOf r (tk+51)
section
variable{p:Program}{w:World}{n₀:Nat}{ann:Option Value}
variable{b:List Stmt}{env:Env}{q:Pos}{α β:Type}{s s' s'':Shared}
theorem does_chunks{γ:Type}{r:Pos}{F:Option Addr × List (Sem Value × Sem Value)→Sem γ}{f:(Option (Sem Value) × Sem Value)→(Option Addr × List (Sem Value × Sem Value))→Sem (ForInStep (Option Addr × List (Sem Value × Sem Value)))}{c:γ}{s0:Shared}
  (hn:n₀≤s0.heap.objs.size) (hN:2≤s0.heap.objs.size)
  (h1:∀ main y run,run.length+1≠17→f (mkI r y) (main,run)=pure (.yield (main,run++[mkP r y])))
  (h2:∀ main y run,run.length+1=17→f (mkI r y) (main,run)=(flushT (run++[mkP r y]) main >>= fun m=>pure (.yield (m,[])))) (rest:List (Option (Sem Value) × Sem Value)) :
  ∀ (chs:List (List Pair)) (es:List DictEntry) (ep:Nat) (subs:List Obj) (tk:Nat),(∀ ch∈chs,ch.length=17)→es≠[]→es.length+chs.flatten.length<100000→(∀ e∈es,∀ y∈chs.flatten,e.hash≠hashInt y.1)→Dis chs.flatten →
   Does p w n₀ ann b env q (forIn rest (some (s0.heap.objs.size+0),[]) f >>= F) (SS s0 (dObj (es++ents chs.flatten tk) (ep+chs.flatten.length)::(subs++subsOf chs tk)) (tk+51*chs.length)) c s' →
   Does p w n₀ ann b env q (forIn (chs.flatten.map (mkI r)++rest) (some (s0.heap.objs.size+0),[]) f >>= F) (SS s0 (dObj es ep::subs) tk) c s'
 | [],es,ep,subs,tk,_,_,_,_,_,h=>by simpa [ents,subsOf] using h
 | ch::chs,es,ep,subs,tk,hl,hne,hz,ha,hd,h=>by
  rw[List.flatten_cons] at hz ha hd
  rw[List.length_append] at hz
  have hch:=hl ch (.head _)
  obtain⟨d1,d2,d3⟩:=List.pairwise_append.mp hd
  rw[List.flatten_cons,List.map_append,List.append_assoc]
  have hs:=does_subDictLong (p:=p) (w:=w) (ann:=ann) (b:=b) (env:=env) (q:=q) (r:=r) (l:=dObj es ep::subs) (tk:=tk) hn (ps:=ch) (by(revert hch;exact z1 0x1ff840103eab8d402)) (by(revert hch;exact z1 0xffc2100c350640b8d402)) (Dis.fresh d1)
  refine does_chunk (h1 _) (h2 _) ch _ hch (does_flush1 (r:=r) (ps:=ch) (es:=es) (se:=ents ch tk) hn hN hne (by(revert hz;exact z3 0x3ff084030d4190828b00c3506441a0281)) (fun e he y hy=>ha e he y (List.mem_append_left _ hy)) d1 hs (ents_int _ _) (fun e he=>ents_mem he) (ents_pair d1) ents_len) ?_
  rw[hch]
  refine does_chunks hn hN h1 h2 rest chs (es++ents ch tk) (ep+17) (subs++[dObj (ents ch tk) 17]) (tk+51) (fun c hc=>hl c (.tail _ hc)) (by simp [hne]) (by rw[List.length_append,ents_len];(revert hz;exact z3 0xffc2100c35064410528b00c3506441a0281)) (fun e he y hy=>?_) d2 ?_
  ·rcases List.mem_append.mp he with z | z
   ·exact ha e z y (List.mem_append_right _ hy)
   ·obtain⟨x,hx,e'⟩:=ents_mem z
    rw[e'];exact d3 x hx y hy
  ·have e1:es++ents ch tk++ents chs.flatten (tk+51)=es++ents (ch::chs).flatten tk:=by rw[List.flatten_cons,ents_app,hch,List.append_assoc]
   have e2:ep+17+chs.flatten.length=ep+(ch::chs).flatten.length:=by rw[List.flatten_cons,List.length_append,hch];exact z2 0x1f0fc218d680a06350528c
   have e3:subs++[dObj (ents ch tk) 17]++subsOf chs (tk+51)=subs++subsOf (ch::chs) tk:=by simp [subsOf]
   have e4:tk+51+51*chs.length=tk+51*(ch::chs).length:=by simp;exact z2 0x1f0fc21a86819e8140867a006760528c
   rw[e1,e2,e3,e4]
   exact h
theorem does_display{s0:Shared}{r:Pos}{ch0 last:List Pair}{chs:List (List Pair)}{tk:Nat}(hn:n₀≤s0.heap.objs.size)(hN:2≤s0.heap.objs.size)(hc0:ch0.length=17)(hcs:∀ ch∈chs,ch.length=17)
  (hl1:last≠[]) (hl2:last.length≤15) (hz:chs.flatten.length<50000) (hd:Dis (ch0++(chs.flatten++last))) :
  Does p w n₀ ann b env q (dictDisplay ((ch0++(chs.flatten++last)).map (mkI r))) (SS s0 [] tk) (.ref (s0.heap.objs.size+0))
   (SS s0 (dObj (ents (ch0++chs.flatten) tk++entsS last (tk+51*(chs.length+1))) (17+chs.flatten.length+last.length)::(subsOf chs (tk+51)++[dObj (entsS last (tk+51*(chs.length+1))) last.length])) (tk+51*(chs.length+1)+3*last.length)):=by
 obtain⟨d1,d2,d3⟩:=List.pairwise_append.mp hd
 obtain⟨d4,d5,d6⟩:=List.pairwise_append.mp d2
 unfold dictDisplay
 dsimp only
 rw[List.map_append]
 refine does_chunk (main:=none) (r:=r) (fun y run hr=>?_) (fun y run hr=>?_) ch0 _ hc0 (does_flush0 hn hc0 d1) ?_
 ·have e:((run++[(keyT y.1,valT r y.2)]).length==17)=false:=by simp;(revert hr;exact z1 0x1ff843f0803e054157c2a0146a1a8285)
  dsimp only[mkI]
  rw[e,if_neg Bool.false_ne_true]
 ·have e:((run++[(keyT y.1,valT r y.2)]).length==17)=true:=by simp;(revert hr;exact z1 0x3e1007e10c2a0646a1a8282)
  dsimp only[mkI]
  rw[e,if_pos rfl,if_neg (by simp)]
  rfl
 rw[List.map_append]
 refine does_chunks hn hN (fun main y run hr=>?_) (fun main y run hr=>?_) _ chs (ents ch0 tk) 17 [] (tk+51) hcs (by intro e;have:=congrArg List.length e;rw[ents_len,hc0] at this;cases this) (by rw[ents_len];(revert hc0 hz;exact z2 0x7fe1084030d4190828b0061a864218d402)) (fun e he y hy=>?_) d4 ?_
 ·have e:((run++[(keyT y.1,valT r y.2)]).length==17)=false:=by simp;(revert hr;exact z1 0x1ff843f0803e054157c2a0146a1a8285)
  dsimp only[mkI]
  rw[e,if_neg Bool.false_ne_true]
 ·have e:((run++[(keyT y.1,valT r y.2)]).length==17)=true:=by simp;(revert hr;exact z1 0x3e1007e10c2a0646a1a8282)
  dsimp only[mkI]
  rw[e,if_pos rfl,if_neg (by simp)]
  cases main <;> rfl
 ·obtain⟨x,hx,e'⟩:=ents_mem he
  rw[e'];exact d3 x hx y (List.mem_append_left _ hy)
 have e0:last.map (mkI r)=last.map (mkI r)++[]:=by simp
 rw[e0]
 refine does_gather (r:=r) (fun y run hr=>?_) last [] [] (by simp;(revert hl2;exact z1 0xffc218d40b7d400)) ?_
 ·have e:((run++[(keyT y.1,valT r y.2)]).length==17)=false:=by simp;(revert hr;exact z1 0x1ff843f0803e054157c2a0146a1a8285)
  dsimp only[mkI]
  rw[e,if_neg Bool.false_ne_true]
 rw[List.forIn_nil,pure_bind]
 dsimp only
 rw[if_neg (by simpa using hl1)]
 have e1:ents ch0 tk++ents chs.flatten (tk+51)=ents (ch0++chs.flatten) tk:=by rw[ents_app,hc0]
 have e4:tk+51+51*chs.length=tk+51*(chs.length+1):=by exact z2 0x1f0fc21a86819e8140867a006760528c
 rw[e1,e4,List.nil_append,List.nil_append]
 have hs:=does_subDictShort (p:=p) (w:=w) (ann:=ann) (b:=b) (env:=env) (q:=q) (r:=r) (l:=dObj (ents (ch0++chs.flatten) tk) (17+chs.flatten.length)::subsOf chs (tk+51)) (tk:=tk+51*(chs.length+1)) hn (ps:=last) hl2 (Dis.fresh d5)
 have hf:=does_flush1 (r:=r) (ps:=last) (es:=ents (ch0++chs.flatten) tk) (se:=entsS last (tk+51*(chs.length+1))) hn hN (by intro e;have:=congrArg List.length e;rw[ents_len,List.length_append,hc0] at this;simp at this) (by rw[ents_len,List.length_append];(revert hc0 hl2 hz;exact z3 0x3ff0842100c35064410528b0061a864217d4408d402))
  (fun e he y hy=>?_) d5 hs (entsS_int _ _) (fun e he=>entsS_mem he) (entsS_pair d5) entsS_len
 ·exact does_bind hf does_pure
 ·obtain⟨x,hx,e'⟩:=ents_mem he
  rw[e']
  rcases List.mem_append.mp hx with z | z
  ·exact d3 x z y (List.mem_append_right _ hy)
  ·exact d6 x z y hy
end
end
section
noncomputable def keyOf:Option Expr→Option Int
 | some (.Constant (.int k) _ _)=>some k
 | _=>none
noncomputable def valOf:Expr→Option Str
 | .Constant (.str x) _ _=>some x
 | _=>none
theorem keyOf_is{o:Option Expr}{k:Int}(h:keyOf o=some k):∃ a c,o=some (.Constant (.int k) a c):=by
 unfold keyOf at h
 split at h
 ·cases h;exact⟨_,_,rfl⟩
 ·cases h
theorem valOf_is{o:Expr}{k:Str}(h:valOf o=some k):∃ a c,o=.Constant (.str k) a c:=by
 unfold valOf at h
 split at h
 ·cases h;exact⟨_,_,rfl⟩
 ·cases h
noncomputable def prsOf:List (Option Expr)→List Expr→Option (List Pair)
 | [],[]=>some []
 | o::ks,v::vs=>match keyOf o,valOf v with
  | some k,some x=>(prsOf ks vs).map ((k,x)::·)
  | _,_=>none
 | _,_=>none
theorem prs_items{env:Env}{r:Pos}:∀ {ks:List (Option Expr)} {vs:List Expr} {ps:List Pair},prsOf ks vs=some ps →
  (evalEachOpt ks env).zip ((evalEach vs env).map fun v=>do let x ←v;standAt r;pure x)=ps.map (mkI r)
 | [],[],ps,h=>by
  simp only[prsOf,Option.some.injEq] at h
  subst h;rfl
 | [],_::_,ps,h=>by cases h
 | _::_,[],ps,h=>by cases h
 | o::ks,v::vs,ps,h=>by
  unfold prsOf at h
  split at h
  ·rename_i k x h1 h2
   obtain⟨a,c,rfl⟩:=keyOf_is h1
   obtain⟨a',c',rfl⟩:=valOf_is h2
   simp only[Option.map_eq_some_iff] at h
   obtain⟨ps',h',rfl⟩:=h
   have ih:=prs_items (env:=env) (r:=r) h'
   show (some (eval (.Constant (.int k) a c) env),(do let x ←eval (.Constant (.str x) a' c') env;standAt r;pure x))::_=_
   rw[List.map_cons]
   exact(congrArg (List.cons _) ih).trans rfl
  ·cases h
theorem hashInt_small{k:Int}(h0:0≤k)(h1:k<2 ^ 60):hashInt k=k:=by
 have hn:¬(k==-1)=true:=fun h=>absurd h0 (by rw[eq_of_beq h];decide)
 have e:rawHash k=k:=by
  unfold rawHash
  have:((k.natAbs:Int) % ((2 ^ 61-1:Nat):Int))=k:=by
   rw[Int.natAbs_of_nonneg h0]
   exact Int.emod_eq_of_lt h0 (Int.lt_trans h1 (by decide))
  simp only[if_neg (Int.not_lt.mpr h0)]
  rw[this,if_neg hn]
 unfold hashInt
 rw[e,if_neg hn]
noncomputable def incr:Int→List Pair→Bool
 | _,[]=>true
 | m,(k,_)::r=>decide (m<k)&&decide (k<2 ^ 60)&&incr k r
theorem incr_above:∀ {ps:List Pair} {m:Int},0≤m→incr m ps=true→∀ y∈ps,m<y.1∧y.1<2 ^ 60
 | (k,x)::r,m,h0,h,y,hy=>by
  simp only[incr,Bool.and_eq_true,decide_eq_true_eq] at h
  obtain⟨⟨h1,h2⟩,h3⟩:=h
  rcases List.mem_cons.mp hy with rfl | hy
  ·exact⟨h1,h2⟩
  ·have:=incr_above (Int.le_trans h0 (Int.le_of_lt h1)) h3 y hy
   exact⟨Int.lt_trans h1 this.1,this.2⟩
theorem incr_dis:∀ {ps:List Pair} {m:Int},0≤m→incr m ps=true→Dis ps
 | [],_,_,_=>.nil
 | (k,x)::r,m,h0,h=>by
  have hb:=incr_above h0 h
  simp only[incr,Bool.and_eq_true,decide_eq_true_eq] at h
  obtain⟨⟨h1,h2⟩,h3⟩:=h
  refine List.pairwise_cons.mpr ⟨fun y hy=>?_,incr_dis (Int.le_trans h0 (Int.le_of_lt h1)) h3⟩
  have hk:=Int.le_trans h0 (Int.le_of_lt h1)
  have h4:=incr_above hk h3 y hy
  show hashInt k≠hashInt y.1
  rw[hashInt_small hk h2,hashInt_small (Int.le_trans hk (Int.le_of_lt h4.1)) h4.2]
  exact Int.ne_of_lt h4.1
noncomputable def chunksN:Nat→List Pair→List (List Pair)
 | 0,_=>[]
 | n+1,l=>l.take 17::chunksN n (l.drop 17)
theorem chunksN_len:∀ (n:Nat) {l:List Pair},17*n≤l.length→∀ ch∈chunksN n l,ch.length=17
 | 0,l,h,ch,hc=>by cases hc
 | n+1,l,h,ch,hc=>by
  rcases List.mem_cons.mp hc with rfl | hc
  ·rw[List.length_take];(revert h;exact z2 0x1f080010fc21f7c218d40c046b0006a1a46e0)
  ·exact chunksN_len n (by rw[List.length_drop];(revert h;exact z2 0x3ff084010063757c218d426086a0a46e0)) ch hc
theorem chunksN_flat:∀ (n:Nat) {l:List Pair},(chunksN n l).flatten=l.take (17*n)
 | 0,l=>by simp [chunksN]
 | n+1,l=>by
  rw[chunksN,List.flatten_cons,chunksN_flat n,show 17*(n+1)=17+17*n by exact z1 0x1f0fc208de35a06a0a46ec,List.take_add]
theorem chunksN_count:∀ (n:Nat) {l:List Pair},(chunksN n l).length=n
 | 0,_=>rfl
 | n+1,l=>by rw[chunksN,List.length_cons,chunksN_count n]
noncomputable def dictLeft(n:Nat)(ps:List Pair)(tk:Nat):List Obj:=
 dObj (ents (ps.take (17*(n+1))) tk++entsS (ps.drop (17*(n+1))) (tk+51*(n+1))) ps.length::(subsOf (chunksN n (ps.drop 17)) (tk+51)++[dObj (entsS (ps.drop (17*(n+1))) (tk+51*(n+1))) (ps.drop (17*(n+1))).length])
noncomputable def tailT(env:Env)(nm:Str)(np:Pos)(ks:List (Option Expr))(vs:List Expr)(dp:Pos)(v:Value):Sem Flow:=do
 assignStores env v (←swappedStores [.Name nm np] (.Dict ks vs dp) env) ((assignEach [.Name nm np] env).map (·.2))
section
variable{p:Program}{w:World}{n₀:Nat}{ann:Option Value}
variable{b:List Stmt}{env:Env}{q:Pos}{α β:Type}{s s' s'':Shared}
theorem does_evalDict{s0:Shared}{ks:List (Option Expr)}{vs:List Expr}{dp:Pos}{ps:List Pair}{n tk:Nat}(hps:prsOf ks vs=some ps)(hi:incr 0 ps=true)(hn:n₀≤s0.heap.objs.size)(hN:2≤s0.heap.objs.size)
  (h1:17*(n+1)<ps.length) (h2:ps.length≤17*(n+1)+15) (hz:ps.length<50000) :
  Does p w n₀ ann b env q (eval (.Dict ks vs dp) env) (SS s0 [] tk) (.ref (s0.heap.objs.size+0)) (SS s0 (dictLeft n ps tk) (tk+3*ps.length)):=by
 show Does p w n₀ ann b env q (do standAt dp;dictDisplay ((evalEachOpt ks env).zip ((evalEach vs env).map fun v=>do let x ←v;standAt dp;pure x))) _ _ _
 refine does_bind does_at ?_
 rw[prs_items hps]
 have hd:=incr_dis (Int.le_refl 0) hi
 have e0:ps.take 17++((chunksN n (ps.drop 17)).flatten++ps.drop (17*(n+1)))=ps:=by
  rw[chunksN_flat,←List.append_assoc,←List.take_add,show 17+17*n=17*(n+1) by exact z1 0x1f0fc21a8291b82378d68c,List.take_append_drop]
 have e1:ps.take 17++(chunksN n (ps.drop 17)).flatten=ps.take (17*(n+1)):=by
  rw[chunksN_flat,←List.take_add,show 17+17*n=17*(n+1) by exact z1 0x1f0fc21a8291b82378d68c]
 have l1:(chunksN n (ps.drop 17)).flatten.length=17*n:=by rw[chunksN_flat,List.length_take,List.length_drop];(revert h1;exact z2 0xf842000021f843ef84228dc0c0063787c218d426086a0a46e1)
 have l2:(ps.drop (17*(n+1))).length=ps.length-17*(n+1):=List.length_drop
 have h:=does_display (p:=p) (w:=w) (ann:=ann) (b:=b) (env:=env) (q:=q) (r:=dp) (tk:=tk) hn hN (ch0:=ps.take 17) (last:=ps.drop (17*(n+1))) (chs:=chunksN n (ps.drop 17)) (by rw[List.length_take];(revert h1;exact z2 0x1f080010fc21f7c218d40c046b0006a1a46e1))
  (chunksN_len n (by rw[List.length_drop];(revert h1;exact z2 0x3ff084010063757c218d426086a0a46e1))) (by intro e;have:=congrArg List.length e;rw[l2] at this;simp only[List.length_nil] at this;(revert h1 this;exact z2 0x7fe10800105415782a017c210d4148dc26086a0a46e1)) (by rw[l2];(revert h2;exact z2 0x3ff087e100021f3ea0506a1a46e03bea1a8691bd000)) (by rw[l1];(revert h1 hz;exact z2 0x7fe10840186a19046eb0061a86421086a0a46e1)) (by rw[e0];exact hd)
 rw[e0,e1,chunksN_count] at h
 have e2:17+(chunksN n (ps.drop 17)).flatten.length+(ps.drop (17*(n+1))).length=ps.length:=by rw[l1,l2];(revert h1;exact z2 0xf8401f8422006378d69467c210d4148dc26086a0a46e1)
 have e3:tk+51*(n+1)+3*(ps.drop (17*(n+1))).length=tk+3*ps.length:=by rw[l2];(revert l1 e2;exact z5 0x1f1803f18463b86801dc3515033d069467c2000421a8691b88c220e35a50418dc62)
 rw[e2,e3] at h
 exact h
theorem goto_dict{s0:Shared}{nm:Str}{np ap:Pos}{ks:List (Option Expr)}{vs:List Expr}{dp:Pos}{ps:List Pair}{n tk:Nat}(hps:prsOf ks vs=some ps)(hi:incr 0 ps=true)(hn:n₀≤s0.heap.objs.size)(hN:2≤s0.heap.objs.size)
  (h1:17*(n+1)<ps.length) (h2:ps.length≤17*(n+1)+15) (hz:ps.length<50000) (K:Flow→Sem Fin) (H:Value→Sem Fin) (gd:Bool→Bool) (lv:List Value→List Value) (pos:Pos) :
  ∃ pos',GoTo p w n₀ ann (SS s0 [] tk) ⟨(exec (.Assign [.Name nm np] (.Dict ks vs dp) ap) env).wrap K H gd lv,.body b env,pos,[topFrame q]⟩ (SS s0 (dictLeft n ps tk) (tk+3*ps.length))
   ⟨(tailT env nm np ks vs dp (.ref (s0.heap.objs.size+0))).wrap K H gd lv,.body b env,pos',[topFrame q]⟩:=by
 have e:exec (.Assign [.Name nm np] (.Dict ks vs dp) ap) env=(do standAt ap;eval (.Dict ks vs dp) env:Sem Value) >>= fun v=>tailT env nm np ks vs dp v:=rfl
 rw[e,Sem.bind_eq_wrap',Sem.wrap_wrap]
 exact does_bind (does_at (r:=ap)) (does_evalDict (env:=env) hps hi hn hN h1 h2 hz) (fun v=>(tailT env nm np ks vs dp v).wrap K H gd lv) H gd lv pos
end
end
noncomputable def insAll:BT→Nat→List Obj→BT
 | T,_,[]=>T
 | T,n,o::r=>insAll (T.ins n o) (n+1) r
noncomputable def insOk:BT→Nat→List Obj→Bool
 | _,_,[]=>true
 | T,n,o::r=>((T.ins n o).get n).isSome&&insOk (T.ins n o) (n+1) r
theorem abs_insAll{life:Life}:∀ {l:List Obj} {T:BT} {n:Nat},insOk T n l=true→absHeap (insAll T n l) (n+l.length) life=⟨(absHeap T n life).objs++l.toArray,life⟩
 | [],T,n,_=>by simp [insAll,absHeap]
 | o::r,T,n,h=>by
  rw[insOk,Bool.and_eq_true] at h
  have ih:=abs_insAll (life:=life) h.2
  have e:=absHeap_ins (life:=life) h.1
  rw[insAll,List.length_cons,show n+(r.length+1)=n+1+r.length by exact z2 0x1f0fc210d414a06a1a028c,ih,e]
  simp [Heap.push]
theorem abs_SS{l:List Obj}{T:BT}{n m tk tk':Nat}{life:Life}{g:Array GenState}{d:Drawn}{os:OsState}(h:insOk T n l=true)(hm:m=n+l.length) :
  (SharedT.mk (insAll T n l) m life g d tk' os).abs=SS (SharedT.mk T n life g d tk os).abs l tk':=by
 subst hm
 have e:=abs_insAll (life:=life) h
 show Shared.mk (absHeap (insAll T n l) (n+l.length) life) g d tk' os=Shared.mk ⟨(absHeap T n life).objs++l.toArray,life⟩ g d tk' os
 rw[e]
noncomputable def dKs:Stmt→List (Option Expr)
 | .Assign _ (.Dict ks _ _) _=>ks
 | _=>[]
noncomputable def dVs:Stmt→List Expr
 | .Assign _ (.Dict _ vs _) _=>vs
 | _=>[]
noncomputable def dPos:Stmt→Pos
 | .Assign _ (.Dict _ _ r) _=>r
 | _=>⟨0,0,0,0⟩
noncomputable def dNm:Stmt→Str
 | .Assign [.Name x _] _ _=>x
 | _=>Str.ofString ""
noncomputable def dNp:Stmt→Pos
 | .Assign [.Name _ r] _ _=>r
 | _=>⟨0,0,0,0⟩
noncomputable def dAp:Stmt→Pos
 | .Assign _ _ r=>r
 | _=>⟨0,0,0,0⟩
noncomputable def restK(rest:List Stmt)(env:Env):Flow→Sem Fin:=fun f=>match f with
 | .next=>(execs rest env).wrap doneF deadEnd id id
 | f=>doneF f
theorem execs_cons_rest{st:Stmt}{rest:List Stmt}{env:Env}:(execs (st::rest) env).wrap doneF deadEnd id id=(exec st env).wrap (restK rest env) deadEnd id id:=execs_cons_wrap st rest
end HL
end
section
open PySem PySem.W PySem.Spec PySem.Calls PyProof.Rows
namespace HL
def Stood(p q:Program)(loose:List Str){α:Type}(Yf:Shared→α)(w:World)(y:α):Prop:=
 ∃ N M s₀ s₁,fencedOpening treeTable p w N=some s₀∧s₀.heap.isNs mainGlobals=true∧s₀.gens=#[] ∧
  topRun treeTable p w s₀.heap.objs.size (s₀.heap.nsMap mainGlobals "__annotations__") M s₀ (topStub p)=some s₁ ∧
  (staticsOk (importedModules p.main.body) s₀.heap s₁.heap&&namesBound p s₁.heap&&gensDone s₁&&laidKept s₀.heap s₁.heap)=true ∧
  openSeen q loose (importedModules p.main.body) (fun _=>true) true s₁=openGood q loose∧Yf s₁=y
theorem Stood.behind{p q:Program}{loose:List Str}{α:Type}{Yf:Shared→α}{w:World}{y:α}(h:Stood p q loose Yf w y)(hch:chainsOk q=true) :
  (∃ s,AfterRun (opening p) w s)∧∀ s,AfterRun (opening p) w s→∃ s₀,fenceModules? p s=some s₀∧s₀.gens=#[]∧∃ s₁,TopRan p w s₀ s₁∧s₁.asleep∧s₁.gens=#[]∧s₁.heap.isNs mainGlobals=true ∧
   Ground q loose [] (fun _ _=>True) w s₁ (s₁.heap.nsMap mainGlobals) (s₁.heap.nsMap builtinsNs) s₁.heap∧Yf s₁=y:=by
 obtain⟨N,M,s₀,s₁,h1,hg,hn,h6,hs,e,ey⟩:=h
 rw[←table_eq_tree] at h1 h6
 obtain⟨s,h4,h5⟩:=Option.bind_eq_some_iff.mp h1
 have A:=AfterImport.of_importEnds h4
 refine⟨⟨s,A⟩,fun s' hs'=>?_⟩
 obtain rfl:s'=s:=AfterImport.unique hs' A
 have z:s₀.asleep:=Shared.asleep_of_life (fence_lifeW h5) A.life
 simp only[Bool.and_eq_true] at hs
 obtain⟨⟨⟨k1,k2⟩,k3⟩,k4⟩:=hs
 obtain⟨a,l,os,fr⟩:=topRun_spec _ _ _ _ z h6
 obtain⟨G,g0,g1,g2,g3,g4,g5⟩:=ground_of_open (w:=w) (XP:=fun _ _=>True) (fun _ _=>trivial) hch e
 exact⟨s₀,h5,hn,s₁,⟨a,l,Shared.rest_eq os,(fun b o hb hnb=>fr b o (Heap.lt_size hb) (fun q=>hnb (.inl q)) (fun q=>hnb (.inr (.inl q))) (fun q=>hnb (.inr (.inr ((Pin.globalOf_eq hg _).trans q)))) hb),
  g2,statics_of_ok k1,g3,g4,g5,gens_of_done k3,names_of_bound k2,laid_of_kept k4⟩,Shared.asleep_of_life l z,Array.eq_empty_of_size_eq_zero (beq_iff_eq.mp g0),g1,G,ey⟩
theorem holds_stood{r:OpenRow}{q:Program}{loose:List Str}{α:Type}{Yf:Shared→α}{Ya:World→α}{d:DefRec}{kwd:List (Str × Expr)}(st:∀ w,Stood r.prog q loose Yf w (Ya w))
  (hrec:r.records=[]) (hdef:defOf q r.name=some (d,kwd)) (hp:r.prog.theDef r.name=some (d.params,d.body,d.scope)) (hk:kwWritten? d.params.kwonlyargs d.params.kw_defaults=some kwd)
  (k1:r.wellSaid=true) (ok:(chainsOk q&&opensWell r.prog&&(frees r.toRowW&&r.within.isEmpty))=true) (hb:r.prog.bare) (hw:r.toRowW.promised)
  (call:WalkX q loose (fun _ _=>True) Yf Ya r.toRowW d kwd fun f vs=>PySem.call f vs):r.Holds:=by
 obtain⟨ok,k5⟩:=Bool.and_eq_true_iff.mp ok
 obtain⟨hch,o1⟩:=Bool.and_eq_true_iff.mp ok
 obtain⟨k5,k6⟩:=Bool.and_eq_true_iff.mp k5
 obtain⟨hsame,hu,ha,hap,hm⟩:=frees_parts k5
 refine⟨k1,hw,⟨hb,o1,by show r.makers.map _=[];rw[hm];rfl⟩,hw.witness,fun w=>⟨((st w).behind hch).1,fun s' hs'=>?_⟩⟩
 obtain⟨s₀,hf,hg0,s,hT,hz,hgens,hg,G,y⟩:=((st w).behind hch).2 s' hs'
 refine⟨s₀,hf,hg0,s,hT,fun n hn=>?_,(by rw[show r.toRowW.claim.records=[] from hrec];exact fun x hx=>(nomatch hx)),(by rw[show r.toRowW.claim.records=[] from hrec];exact fun x hx=>(nomatch hx)),?_⟩
 ·obtain rfl:n=r.name:=by split at hn <;> simp_all
  exact pinned_of_view hg G hdef hp hk
 refine ClaimW.callFrom_of_specG (c:=r.toRowW.claim) (tree:=fun vs=>do match ←nsGet mainNs r.name with
   | some f=>do ret (←PySem.call f vs)
   | none=>unsupported "claim.caller:no-such-global") hz hgens fun args hpre hlay ord hord=>?_
 have G':Ground q loose r.toRowW.records (fun _ _=>True) w s (s.heap.nsMap mainGlobals) (s.heap.nsMap builtinsNs) s.heap:=by
  rw[show r.toRowW.records=[] from hrec];exact G
 obtain⟨⟨vs,s₁⟩,hlaid⟩:=Option.isSome_iff_exists.mp (layAllW_isSome (P:=w.params) (ord:=ord) G'.has args r.args s (pre_splitW hpre).1)
 have keeps:=layAllW_keeps _ _ _ hlaid
 have hal:=layAllW_rest _ _ _ hlaid
 obtain⟨as,hrd,hin,hold⟩:=reads_layAllW hord _ _ _ hlaid hlay s₁.heap (fun _ _ e=>e)
 have L:Laid r.toRowW.records w s s₁ args vs as:=⟨⟨ord,hord,hlaid⟩,hrd,hin,hold,keeps,hal.1.trans hgens,hal.2.2.1⟩
 have G₁:=G'.keeps (fun _ _ _ _ _=>trivial) keeps
 obtain⟨a,o,pm,cd,doc,dV,kV,h1,h2,h3,h4,h5⟩:=G₁.fn hdef
 have hn:s₁.heap.Ns mainGlobals _:=G₁.T.g
 have h:=call w s s₁ _ _ G₁ y a o pm cd doc dV kV h2 h3 h4 h5 (defOf_name hdef▸h1) L.gens args vs as L hpre hlay L.reads L.well (L.low G.low)
 have hi:=ident_freeW hu ha hap
 have hwi:r.toRowW.claim.within=[]:=List.isEmpty_iff.mp k6
 have hwr:(!r.writes || r.toRowW.records.isEmpty)=true:=by rw[show r.toRowW.records=[] from hrec];simp
 refine⟨vs,s₁,hlaid,wpAny_bind (wpAny_nsGet hn ?_)⟩
 rw[h1]
 refine wpAny_bind (wpAny_mono h (fun v s' g=>wpAny_pure ?_) fun e s' g=>?_)
 ·have z:=g.laid (c:=r.toRowW.claim) hsame hwi hi L
  exact⟨_,rfl,z.1,z.2.1,z.2.2,fun q=>⟨namesKept_of hT hg r.keeps keeps g.2.1.old,noTable hwr q⟩⟩
 ·have z:=g.laid (c:=r.toRowW.claim) hsame hwi hi L
  exact⟨z.1,z.2.1,z.2.2,fun q=>⟨namesKept_of hT hg r.keeps keeps g.2.1.old,noTable hwr q⟩⟩
end HL
end
section
open PySem PySem.W PySem.Calls PyProof.Rows
namespace uk0030_02
noncomputable abbrev PW:Program:=PySem.Challenge.pw_uk0030_02
noncomputable def fdOf:Stmt→FuncData
 | .FunctionDef n a b _ _ _ s _ _ _=>{ name:=n,qualname:=n,params:=a,body:=.stmts b,scope:=s,globals:=0,closure:=[],defaults:=.none,kwdefaults:=.none }
 | _=>{ name:=Str.ofString "",qualname:=Str.ofString "",params:=⟨[],[],none,[],[],none,[]⟩,body:=.stmts [],scope:={ kind:=.module,names:=[],isGenerator:=false,isCoroutine:=false,more:=[] },globals:=0,closure:=[],defaults:=.none,kwdefaults:=.none }
noncomputable def stm(i:Nat):Stmt:=PW.main.body.getD i (.Pass ⟨0,0,0,0⟩)
noncomputable def fd1(i:Nat):FuncData:=fdOf (stm i)
noncomputable def clsBody:Stmt→List Stmt
 | .ClassDef _ _ _ b _ _ _ _ _ _ _=>b
 | _=>[]
noncomputable def fd2(i j:Nat):FuncData:=fdOf ((clsBody (stm i)).getD j (.Pass ⟨0,0,0,0⟩))
noncomputable def lf:Life:={ registered:=[],finalised:=[],alive:=[],known:=0,ids:=[],orphanDicts:=[],counting:=false,cnt:=#[],zero:=[],soft:=0,below:=false,collecting:=false,loading:=false,debug:=0,thresholds:=[2000,10,10],woke:=false,asked:=0,gcEnabled:=true,old:=[],middle:=[],young:=0,intoMiddle:=false }
noncomputable def dr:Drawn:=⟨0,0,0,0⟩
noncomputable abbrev nd:=@BT.node
noncomputable abbrev nl:=BT.nil
noncomputable abbrev iS:Nat:=9
noncomputable abbrev iD:Nat:=11
noncomputable abbrev nCells:Nat:=34
noncomputable abbrev n0:Nat:=28
noncomputable abbrev nb:Nat:=32
noncomputable abbrev n1:Nat:=73
noncomputable abbrev n2:Nat:=84
noncomputable abbrev n3:Nat:=91
noncomputable abbrev ne:Nat:=28
noncomputable abbrev ke:Nat:=276
noncomputable abbrev k0:Nat:=276
noncomputable abbrev ka:Nat:=282
noncomputable abbrev kb:Nat:=282
noncomputable abbrev k1:Nat:=350
noncomputable abbrev k2:Nat:=410
noncomputable abbrev k3:Nat:=417
noncomputable abbrev m1:Nat:=221
noncomputable abbrev m2:Nat:=998
noncomputable abbrev m3:Nat:=29
noncomputable abbrev mR:Nat:=1401
noncomputable abbrev nD:Nat:=130
noncomputable abbrev nF:Nat:=368
noncomputable abbrev kF:Nat:=2742
noncomputable abbrev frA:Nat:=31
noncomputable abbrev pPre:Pos:=⟨0,0,0,0⟩
noncomputable abbrev pFr:Pos:=⟨0,0,0,0⟩
noncomputable abbrev pB:Pos:=⟨0,0,0,0⟩
noncomputable abbrev p1:Pos:=⟨82,0,82,8⟩
noncomputable abbrev p2:Pos:=⟨83,0,83,6⟩
noncomputable abbrev p3:Pos:=⟨84,0,85,30⟩
noncomputable abbrev pF:Pos:=⟨283,0,298,74⟩
noncomputable abbrev codeV:Value:=(.ref 30)
noncomputable abbrev annV:Option Value:=(some (.ref 6))
noncomputable abbrev xO:=Params→Obj
noncomputable abbrev xS(s:String)(n:Nat):Value:=.str (Str.ofString s) n
noncomputable abbrev xE(P:Params)(s:String)(n:Nat)(v:Value):DictEntry:=⟨PyData.keyHash P (Str.ofString s),.str (Str.ofString s) n,v⟩
noncomputable abbrev xB(P:Params)(s:String)(n:Nat):DictEntry:=xE P s n (.builtin s)
noncomputable abbrev xY(P:Params)(s:String)(n:Nat):DictEntry:=xE P s n (.type s)
noncomputable abbrev xD(es:Array DictEntry)(n:Nat):Obj:=⟨.type "dict",none,.dict es n,#[]⟩
noncomputable abbrev xT(xs:Array Value):Obj:=⟨.type "tuple",none,.seq xs 0,#[]⟩
noncomputable abbrev xL(xs:List (String × Nat)):Obj:=xT ⟨xs.map fun x=>xS x.1 x.2⟩
noncomputable abbrev xc:String:="/claim/cut.py"
noncomputable abbrev xr(n:Nat):Value:=bif Nat.beq n 0 then .none else .ref n
noncomputable abbrev xQ(n q:String)(a b c d:Nat)(l i1 i2 i3 i4 i5 i6:Int)(x:Bool)(r1 r2 v r3 r4 r5:Nat):Obj:=⟨.type "code",none,.fields #[xS n a,xS q b,xS xc c,.int l 0,.int i1 0,.int i2 0,.int i3 0,.int i4 0,.ref r1,.bool x,.int i5 0,.ref r2,xr v,xr r3,xr r4,xr r5,.int i6 0,.int l 0,xS xc d],#[]⟩
noncomputable abbrev xC(n:String):=xQ n n
noncomputable abbrev xF(f:FuncData)(n q:String)(g:Nat)(df kw doc pm:Value)(an:Option Nat)(cd ct:Value)(b:Nat):FuncData:={ f with name:=Str.ofString n,qualname:=Str.ofString q,globals:=g,closure:=[],defaults:=df,kwdefaults:=kw,doc:=doc,pyModule:=pm,annotations:=an,code:=cd,closureTuple:=ct,builtins:=b }
noncomputable abbrev xU(f:FuncData)(n q:String)(df kw doc:Value)(m:String)(k c:Nat):Obj:=⟨.type "function",none,.func (xF f n q 3 df kw doc (xS m k) none (.ref c) .none 0),#[]⟩
noncomputable abbrev xN(f:FuncData)(n q:String):Obj:=⟨.none,none,.func (xF f n q 0 .none .none .none .none none .none .none 0),#[]⟩
noncomputable def o0e:xO:=fun P=>xD #[xE P "__name__" 1 (xS "builtins" 160),xE P "__doc__" 2 (.builtin "builtins.__doc__:str#opaque"),xE P "__package__" 3 (.builtin "builtins.__package__:str#opaque"),xE P "__loader__" 4 (.builtin "builtins.__loader__:shared#opaque"),xE P "__spec__" 5 (.builtin "builtins.__spec__#opaque"),xB P "__build_class__" 6,xB P "__import__" 7,xB P "abs" 8,xB P "all" 9,xB P "any" 10,xB P "ascii" 11,xB P "bin" 12,xB P "breakpoint" 13,xB P "callable" 14,xB P "chr" 15,xB P "compile" 16,xB P "delattr" 17,xB P "dir" 18,xB P "divmod" 19,xB P "eval" 20,xB P "exec" 21,xB P "format" 22,xB P "getattr" 23,xB P "globals" 24,xB P "hasattr" 25,xB P "hash" 26,xB P "hex" 27,xB P "id" 28,xB P "input" 29,xB P "isinstance" 30,xB P "issubclass" 31,xB P "iter" 32,xB P "aiter" 33,xB P "len" 34,xB P "locals" 35,xB P "max" 36,xB P "min" 37,xB P "next" 38,xB P "anext" 39,xB P "oct" 40,xB P "ord" 41,xB P "pow" 42,xB P "print" 43,xB P "repr" 44,xB P "round" 45,xB P "setattr" 46,xB P "sorted" 47,xB P "sum" 48,xB P "vars" 49,xE P "None" 50 .none,xE P "Ellipsis" 51 .ellipsis,xE P "NotImplemented" 52 .notImplemented,xE P "False" 53 (.bool false),xE P "True" 54 (.bool true),xY P "bool" 55,xY P "memoryview" 56,xY P "bytearray" 57,xY P "bytes" 58,xY P "classmethod" 59,xY P "complex" 60,xY P "dict" 61,xY P "enumerate" 62,xY P "filter" 63,xY P "float" 64,xY P "frozenset" 65,xY P "property" 66,xY P "int" 67,xY P "list" 68,xY P "map" 69,xY P "object" 70,xY P "range" 71,xY P "reversed" 72,xY P "set" 73,xY P "slice" 74,xY P "staticmethod" 75,xY P "str" 76,xY P "super" 77,xY P "tuple" 78,xY P "type" 79,xY P "zip" 80,xE P "__debug__" 81 (.bool true),xY P "BaseException" 82,xY P "BaseExceptionGroup" 83,xY P "Exception" 84,xY P "GeneratorExit" 85,xY P "KeyboardInterrupt" 86,xY P "SystemExit" 87,xY P "ArithmeticError" 88,xY P "AssertionError" 89,xY P "AttributeError" 90,xY P "BufferError" 91,xY P "EOFError" 92,xY P "ImportError" 93,xY P "LookupError" 94,xY P "MemoryError" 95,xY P "NameError" 96,xY P "OSError" 97,xY P "ReferenceError" 98,xY P "RuntimeError" 99,xY P "StopAsyncIteration" 100,xY P "StopIteration" 101,xY P "SyntaxError" 102,xY P "SystemError" 103,xY P "TypeError" 104,xY P "ValueError" 105,xY P "Warning" 106,xY P "FloatingPointError" 107,xY P "OverflowError" 108,xY P "ZeroDivisionError" 109,xY P "BytesWarning" 110,xY P "DeprecationWarning" 111,xY P "EncodingWarning" 112,xY P "FutureWarning" 113,xY P "ImportWarning" 114,xY P "PendingDeprecationWarning" 115,xY P "ResourceWarning" 116,xY P "RuntimeWarning" 117,xY P "SyntaxWarning" 118,xY P "UnicodeWarning" 119,xY P "UserWarning" 120,xY P "BlockingIOError" 121,xY P "ChildProcessError" 122,xY P "ConnectionError" 123,xY P "FileExistsError" 124,xY P "FileNotFoundError" 125,xY P "InterruptedError" 126,xY P "IsADirectoryError" 127,xY P "NotADirectoryError" 128,xY P "PermissionError" 129,xY P "ProcessLookupError" 130,xY P "TimeoutError" 131,xY P "IndentationError" 132,xY P "_IncompleteInputError" 133,xY P "IndexError" 134,xY P "KeyError" 135,xY P "ModuleNotFoundError" 136,xY P "NotImplementedError" 137,xY P "PythonFinalizationError" 138,xY P "RecursionError" 139,xY P "UnboundLocalError" 140,xY P "UnicodeError" 141,xY P "BrokenPipeError" 142,xY P "ConnectionAbortedError" 143,xY P "ConnectionRefusedError" 144,xY P "ConnectionResetError" 145,xY P "TabError" 146,xY P "UnicodeDecodeError" 147,xY P "UnicodeEncodeError" 148,xY P "UnicodeTranslateError" 149,xY P "ExceptionGroup" 150,xE P "EnvironmentError" 151 (.type "OSError"),xE P "IOError" 152 (.type "OSError"),xB P "open" 153,xE P "quit" 154 (.builtin "builtins.quit#opaque"),xE P "exit" 155 (.builtin "builtins.exit#opaque"),xE P "copyright" 156 (.builtin "builtins.copyright#opaque"),xE P "credits" 157 (.builtin "builtins.credits#opaque"),xE P "license" 158 (.builtin "builtins.license#opaque"),xE P "help" 159 (.builtin "builtins.help#opaque")] 159
noncomputable def o1e:xO:=fun P=>xD #[xE P "builtins" 162 (.ref 4),xE P "__main__" 163 (.ref 5),xE P "_sre" 244 (.ref 12)] 3
noncomputable def o2e:xO:=fun P=>⟨.none,none,(.dict #[xE P "\x69mport.loaded._sre" 183 (.bool true),xE P "class._frozen_importlib.BuiltinImporter" 185 (.ref 14),xE P "watched.\x69mport" 206 (.ref 18),xE P "class._frozen_importlib.ModuleSpec" 216 (.ref 22),xE P "sys.modules.booked-epoch" 245 (.int 3 0),xE P "\x69mport.later-laid._sre" 270 (.bool true),xE P "watched.library" 272 (.ref 27),xE P "watched.library-objects" 0 (.str (Str.mk #[12]) 0),xE P "watched.library-deep._sre" 273 (.str (Str.mk #[4,0,0,11,4,0,0,11,4,0,0,3,4,0,0,11,8,4,100,105,99,116,2]) 0)] 9),#[]⟩
noncomputable def o3e:xO:=fun P=>xD #[xE P "__name__" 165 (xS "__main__" 164),xE P "__doc__" 166 .none,xE P "__package__" 167 .none,xE P "__loader__" 168 (.builtin "__main__.__loader__#opaque"),xE P "__spec__" 169 .none,xE P "__annotations__" 170 (.ref 6),xE P "__builtins__" 171 (.ref 4),xE P "__file__" 173 (xS xc 172),xE P "__cached__" 174 .none,xE P "_sre" 275 (.ref 12)] 10
noncomputable def o4e:xO:=fun P=>⟨(.type "module"),(some 0),.plain,#[]⟩
noncomputable def o5e:xO:=fun P=>⟨(.type "module"),(some 3),.plain,#[]⟩
noncomputable def o6e:xO:=fun P=>xD #[] 0
noncomputable def o7e:xO:=fun P=>xT #[]
noncomputable def o8e:xO:=fun P=>⟨.none,none,(.fields #[]),#[]⟩
noncomputable def o9e:xO:=fun P=>xC "<module>" 176 177 178 180 1 0 0 0 0 175 179 false 7 8 0 0 0 0
noncomputable def o10e:xO:=fun P=>⟨(.type "frame"),none,.plain,#[(some (.ref 9)),(some (.ref 3)),(some (.ref 3)),none,(some (xS "__main__" 164)),none,(some (.ref 0))]⟩
noncomputable def o11e:xO:=fun P=>xD #[xE P "__name__" 247 (xS "_sre" 246),xE P "__doc__" 248 .none,xE P "__package__" 250 (xS "" 249),xE P "__loader__" 251 (.ref 14),xE P "__spec__" 252 (.ref 26),xE P "compile" 253 (.builtin "_sre.compile"),xE P "template" 254 (.builtin "_sre.template"),xE P "getcodesize" 255 (.builtin "_sre.getcodesize"),xE P "ascii_iscased" 256 (.builtin "_sre.ascii_iscased"),xE P "unicode_iscased" 257 (.builtin "_sre.unicode_iscased"),xE P "ascii_tolower" 258 (.builtin "_sre.ascii_tolower"),xE P "unicode_tolower" 259 (.builtin "_sre.unicode_tolower"),xE P "MAGIC" 261 (.int 20230612 260),xE P "CODESIZE" 263 (.int 4 262),xE P "MAXREPEAT" 265 (.int 4294967295 264),xE P "MAXGROUPS" 267 (.int 1073741823 266),xE P "copyright" 269 (xS " SRE 2.2.2 Copyright (c) 1997-2002 by Secret Labs AB " 268)] 17
noncomputable def o12e:xO:=fun P=>⟨(.type "module"),(some 11),.plain,#[]⟩
noncomputable def o13e:xO:=fun P=>xD #[xE P "__module__" 189 (xS "_frozen_importlib" 186),xE P "__firstlineno__" 190 (.int 971 187),xE P "__doc__" 191 (.builtin "_frozen_importlib.BuiltinImporter.__doc__:str#opaque"),xE P "_ORIGIN" 192 (xS "built-in" 188),xE P "find_spec" 193 (.builtin "_frozen_importlib.BuiltinImporter.find_spec#opaque"),xE P "create_module" 194 (.builtin "_frozen_importlib.BuiltinImporter.create_module#opaque"),xE P "exec_module" 195 (.builtin "_frozen_importlib.BuiltinImporter.exec_module#opaque"),xE P "get_code" 196 (.builtin "_frozen_importlib.BuiltinImporter.get_code#opaque"),xE P "get_source" 197 (.builtin "_frozen_importlib.BuiltinImporter.get_source#opaque"),xE P "is_package" 198 (.builtin "_frozen_importlib.BuiltinImporter.is_package#opaque"),xE P "load_module" 199 (.builtin "_frozen_importlib.BuiltinImporter.load_module#opaque"),xE P "__static_attributes__" 200 (.ref 15),xE P "__dict__" 202 (.ref 16),xE P "__weakref__" 204 (.ref 17)] 14
noncomputable def o14e:xO:=fun P=>⟨(.type "type"),none,(.cls { name:=(Str.ofString "BuiltinImporter"),bases:=[(.type "object")],mro:=[(.ref 14),(.type "object")],ns:=13,qualname:=(Str.ofString "BuiltinImporter"),hasDict:=true,slotNames:=[],subclasses:=[],abstract:=false,collection:=none,hasDel:=false }),#[]⟩
noncomputable def o15e:xO:=fun P=>xT #[]
noncomputable def o16e:xO:=fun P=>⟨(.type "getset_descriptor"),none,(.fields #[(xS "__dict__" 201),(.ref 14),(.builtin "function.__dict__"),(.builtin "function.__dict__#set")]),#[]⟩
noncomputable def o17e:xO:=fun P=>⟨(.type "getset_descriptor"),none,(.fields #[(xS "__weakref__" 203),(.ref 14),(.builtin "ExceptionGroup.__weakref__"),.none]),#[]⟩
noncomputable def o18e:xO:=fun P=>⟨.none,none,(.seq #[(.int 13 0),(.str (Str.mk #[6,189,10,95,95,109,111,100,117,108,101,95,95,6,186,17,95,102,114,111,122,101,110,95,105,109,112,111,114,116,108,105,98,6,190,15,95,95,102,105,114,115,116,108,105,110,101,110,111,95,95,4,187,0,971,6,191,7,95,95,100,111,99,95,95,9,52,95,102,114,111,122,101,110,95,105,109,112,111,114,116,108,105,98,46,66,117,105,108,116,105,110,73,109,112,111,114,116,101,114,46,95,95,100,111,99,95,95,58,115,116,114,35,111,112,97,113,117,101,6,192,7,95,79,82,73,71,73,78,6,188,8,98,117,105,108,116,45,105,110,6,193,9,102,105,110,100,95,115,112,101,99,9,50,95,102,114,111,122,101,110,95,105,109,112,111,114,116,108,105,98,46,66,117,105,108,116,105,110,73,109,112,111,114,116,101,114,46,102,105,110,100,95,115,112,101,99,35,111,112,97,113,117,101,6,194,13,99,114,101,97,116,101,95,109,111,100,117,108,101,9,54,95,102,114,111,122,101,110,95,105,109,112,111,114,116,108,105,98,46,66,117,105,108,116,105,110,73,109,112,111,114,116,101,114,46,99,114,101,97,116,101,95,109,111,100,117,108,101,35,111,112,97,113,117,101,6,195,11,101,120,101,99,95,109,111,100,117,108,101,9,52,95,102,114,111,122,101,110,95,105,109,112,111,114,116,108,105,98,46,66,117,105,108,116,105,110,73,109,112,111,114,116,101,114,46,101,120,101,99,95,109,111,100,117,108,101,35,111,112,97,113,117,101,6,196,8,103,101,116,95,99,111,100,101,9,49,95,102,114,111,122,101,110,95,105,109,112,111,114,116,108,105,98,46,66,117,105,108,116,105,110,73,109,112,111,114,116,101,114,46,103,101,116,95,99,111,100,101,35,111,112,97,113,117,101,6,197,10,103,101,116,95,115,111,117,114,99,101,9,51,95,102,114,111,122,101,110,95,105,109,112,111,114,116,108,105,98,46,66,117,105,108,116,105,110,73,109,112,111,114,116,101,114,46,103,101,116,95,115,111,117,114,99,101,35,111,112,97,113,117,101,6,198,10,105,115,95,112,97,99,107,97,103,101,9,51,95,102,114,111,122,101,110,95,105,109,112,111,114,116,108,105,98,46,66,117,105,108,116,105,110,73,109,112,111,114,116,101,114,46,105,115,95,112,97,99,107,97,103,101,35,111,112,97,113,117,101,6,199,11,108,111,97,100,95,109,111,100,117,108,101,9,52,95,102,114,111,122,101,110,95,105,109,112,111,114,116,108,105,98,46,66,117,105,108,116,105,110,73,109,112,111,114,116,101,114,46,108,111,97,100,95,109,111,100,117,108,101,35,111,112,97,113,117,101,6,200,21,95,95,115,116,97,116,105,99,95,97,116,116,114,105,98,117,116,101,115,95,95,4,0,0,15,6,202,8,95,95,100,105,99,116,95,95,4,0,0,16,6,204,11,95,95,119,101,97,107,114,101,102,95,95,4,0,0,17]) 0),(.bool true),(.bool true),(xS "" 205),(.int 21 0),(.str (Str.mk #[6,227,10,95,95,109,111,100,117,108,101,95,95,6,217,17,95,102,114,111,122,101,110,95,105,109,112,111,114,116,108,105,98,6,228,15,95,95,102,105,114,115,116,108,105,110,101,110,111,95,95,4,218,0,562,6,229,7,95,95,100,111,99,95,95,9,47,95,102,114,111,122,101,110,95,105,109,112,111,114,116,108,105,98,46,77,111,100,117,108,101,83,112,101,99,46,95,95,100,111,99,95,95,58,115,116,114,35,111,112,97,113,117,101,6,230,8,95,95,105,110,105,116,95,95,9,44,95,102,114,111,122,101,110,95,105,109,112,111,114,116,108,105,98,46,77,111,100,117,108,101,83,112,101,99,46,95,95,105,110,105,116,95,95,35,111,112,97,113,117,101,6,231,8,95,95,114,101,112,114,95,95,9,44,95,102,114,111,122,101,110,95,105,109,112,111,114,116,108,105,98,46,77,111,100,117,108,101,83,112,101,99,46,95,95,114,101,112,114,95,95,35,111,112,97,113,117,101,6,232,6,95,95,101,113,95,95,9,42,95,102,114,111,122,101,110,95,105,109,112,111,114,116,108,105,98,46,77,111,100,117,108,101,83,112,101,99,46,95,95,101,113,95,95,35,111,112,97,113,117,101,6,233,6,99,97,99,104,101,100,9,42,95,102,114,111,122,101,110,95,105,109,112,111,114,116,108,105,98,46,77,111,100,117,108,101,83,112,101,99,46,99,97,99,104,101,100,35,111,112,97,113,117,101,6,234,6,112,97,114,101,110,116,9,42,95,102,114,111,122,101,110,95,105,109,112,111,114,116,108,105,98,46,77,111,100,117,108,101,83,112,101,99,46,112,97,114,101,110,116,35,111,112,97,113,117,101,6,235,12,104,97,115,95,108,111,99,97,116,105,111,110,9,48,95,102,114,111,122,101,110,95,105,109,112,111,114,116,108,105,98,46,77,111,100,117,108,101,83,112,101,99,46,104,97,115,95,108,111,99,97,116,105,111,110,35,111,112,97,113,117,101,6,236,21,95,95,115,116,97,116,105,99,95,97,116,116,114,105,98,117,116,101,115,95,95,4,0,0,23,6,238,8,95,95,100,105,99,116,95,95,4,0,0,24,6,240,11,95,95,119,101,97,107,114,101,102,95,95,4,0,0,25,6,241,8,95,95,104,97,115,104,95,95,0]) 0),(.bool true),(.bool true),(xS "" 242)] 1),#[]⟩
noncomputable def o19e:xO:=fun P=>⟨(.type "list"),none,(.seq #[] 0),#[]⟩
noncomputable def o20e:xO:=fun P=>xD #[xE P "name" 208 (xS "_sre" 207),xE P "loader" 209 (.ref 14),xE P "origin" 210 (xS "built-in" 184),xE P "loader_state" 211 .none,xE P "submodule_search_locations" 212 .none,xE P "_uninitialized_submodules" 213 (.ref 19),xE P "_set_fileattr" 214 (.bool false),xE P "_cached" 215 .none,xE P "_initializing" 243 (.bool false)] 9
noncomputable def o21e:xO:=fun P=>xD #[xE P "__module__" 227 (xS "_frozen_importlib" 217),xE P "__firstlineno__" 228 (.int 562 218),xE P "__doc__" 229 (.builtin "_frozen_importlib.ModuleSpec.__doc__:str#opaque"),xE P "__init__" 230 (.builtin "_frozen_importlib.ModuleSpec.__init__#opaque"),xE P "__repr__" 231 (.builtin "_frozen_importlib.ModuleSpec.__repr__#opaque"),xE P "__eq__" 232 (.builtin "_frozen_importlib.ModuleSpec.__eq__#opaque"),xE P "cached" 233 (.builtin "_frozen_importlib.ModuleSpec.cached#opaque"),xE P "parent" 234 (.builtin "_frozen_importlib.ModuleSpec.parent#opaque"),xE P "has_location" 235 (.builtin "_frozen_importlib.ModuleSpec.has_location#opaque"),xE P "__static_attributes__" 236 (.ref 23),xE P "__dict__" 238 (.ref 24),xE P "__weakref__" 240 (.ref 25),xE P "__hash__" 241 .none] 13
noncomputable def o22e:xO:=fun P=>⟨(.type "type"),none,(.cls { name:=(Str.ofString "ModuleSpec"),bases:=[(.type "object")],mro:=[(.ref 22),(.type "object")],ns:=21,qualname:=(Str.ofString "ModuleSpec"),hasDict:=true,slotNames:=[],subclasses:=[],abstract:=false,collection:=none,hasDel:=false }),#[]⟩
noncomputable def o23e:xO:=fun P=>xL [("_cached",219),("_set_fileattr",220),("_uninitialized_submodules",221),("loader",222),("loader_state",223),("name",224),("origin",225),("submodule_search_locations",226)]
noncomputable def o24e:xO:=fun P=>⟨(.type "getset_descriptor"),none,(.fields #[(xS "__dict__" 237),(.ref 22),(.builtin "function.__dict__"),(.builtin "function.__dict__#set")]),#[]⟩
noncomputable def o25e:xO:=fun P=>⟨(.type "getset_descriptor"),none,(.fields #[(xS "__weakref__" 239),(.ref 22),(.builtin "ExceptionGroup.__weakref__"),.none]),#[]⟩
noncomputable def o26e:xO:=fun P=>⟨(.ref 22),(some 20),.plain,#[]⟩
noncomputable def o27e:xO:=fun P=>⟨.none,none,(.seq #[(.int 11 0),(.str (Str.mk #[6,247,8,95,95,110,97,109,101,95,95,6,246,4,95,115,114,101,6,248,7,95,95,100,111,99,95,95,0,6,250,11,95,95,112,97,99,107,97,103,101,95,95,6,249,0,6,251,10,95,95,108,111,97,100,101,114,95,95,4,0,0,14,6,252,8,95,95,115,112,101,99,95,95,4,0,0,26,6,253,7,99,111,109,112,105,108,101,9,12,95,115,114,101,46,99,111,109,112,105,108,101,6,254,8,116,101,109,112,108,97,116,101,9,13,95,115,114,101,46,116,101,109,112,108,97,116,101,6,255,11,103,101,116,99,111,100,101,115,105,122,101,9,16,95,115,114,101,46,103,101,116,99,111,100,101,115,105,122,101,6,256,13,97,115,99,105,105,95,105,115,99,97,115,101,100,9,18,95,115,114,101,46,97,115,99,105,105,95,105,115,99,97,115,101,100,6,257,15,117,110,105,99,111,100,101,95,105,115,99,97,115,101,100,9,20,95,115,114,101,46,117,110,105,99,111,100,101,95,105,115,99,97,115,101,100,6,258,13,97,115,99,105,105,95,116,111,108,111,119,101,114,9,18,95,115,114,101,46,97,115,99,105,105,95,116,111,108,111,119,101,114,6,259,15,117,110,105,99,111,100,101,95,116,111,108,111,119,101,114,9,20,95,115,114,101,46,117,110,105,99,111,100,101,95,116,111,108,111,119,101,114,6,261,5,77,65,71,73,67,4,260,0,20230612,6,263,8,67,79,68,69,83,73,90,69,4,262,0,4,6,265,9,77,65,88,82,69,80,69,65,84,4,264,0,4294967295,6,267,9,77,65,88,71,82,79,85,80,83,4,266,0,1073741823,6,269,9,99,111,112,121,114,105,103,104,116,6,268,53,32,83,82,69,32,50,46,50,46,50,32,67,111,112,121,114,105,103,104,116,32,40,99,41,32,49,57,57,55,45,50,48,48,50,32,98,121,32,83,101,99,114,101,116,32,76,97,98,115,32,65,66,32]) 0),(.bool true),(.bool false),(xS "_sre" 271)] 0),#[]⟩
noncomputable def Te(P:Params):BT:=(nd (o0e P) (nd (o1e P) (nd (o3e P) (nd (o7e P) (nd (o15e P) nl nl) (nd (o23e P) nl nl)) (nd (o11e P) (nd (o19e P) nl nl) (nd (o27e P) nl nl))) (nd (o5e P) (nd (o9e P) (nd (o17e P) nl nl) (nd (o25e P) nl nl)) (nd (o13e P) (nd (o21e P) nl nl) nl))) (nd (o2e P) (nd (o4e P) (nd (o8e P) (nd (o16e P) nl nl) (nd (o24e P) nl nl)) (nd (o12e P) (nd (o20e P) nl nl) nl)) (nd (o6e P) (nd (o10e P) (nd (o18e P) nl nl) (nd (o26e P) nl nl)) (nd (o14e P) (nd (o22e P) nl nl) nl))))
noncomputable def o11s0:xO:=fun P=>xD #[xE P "__name__" 247 (xS "_sre" 246),xE P "__doc__" 248 .none,xE P "__package__" 250 (xS "" 249),xE P "__loader__" 251 (.builtin "off-the-table:_sre.__loader__:shared#opaque"),xE P "__spec__" 252 (.builtin "off-the-table:_sre.__spec__:shared#opaque"),xE P "compile" 253 (.builtin "_sre.compile"),xE P "template" 254 (.builtin "off-the-table:_sre.template:shared#opaque"),xE P "getcodesize" 255 (.builtin "off-the-table:_sre.getcodesize:shared#opaque"),xE P "ascii_iscased" 256 (.builtin "off-the-table:_sre.ascii_iscased:shared#opaque"),xE P "unicode_iscased" 257 (.builtin "off-the-table:_sre.unicode_iscased:shared#opaque"),xE P "ascii_tolower" 258 (.builtin "off-the-table:_sre.ascii_tolower:shared#opaque"),xE P "unicode_tolower" 259 (.builtin "off-the-table:_sre.unicode_tolower:shared#opaque"),xE P "MAGIC" 261 (.int 20230612 260),xE P "CODESIZE" 263 (.int 4 262),xE P "MAXREPEAT" 265 (.int 4294967295 264),xE P "MAXGROUPS" 267 (.int 1073741823 266),xE P "copyright" 269 (xS " SRE 2.2.2 Copyright (c) 1997-2002 by Secret Labs AB " 268)] 17
noncomputable def H0(P:Params):Heap:={ objs:=#[o0e P,o1e P,o2e P,o3e P,o4e P,o5e P,o6e P,o7e P,o8e P,o9e P,o10e P,o11s0 P,o12e P,o13e P,o14e P,o15e P,o16e P,o17e P,o18e P,o19e P,o20e P,o21e P,o22e P,o23e P,o24e P,o25e P,o26e P,o27e P],life:=lf }
noncomputable def o28sa:xO:=fun P=>xT #[]
noncomputable def o29sa:xO:=fun P=>⟨.none,none,(.fields #[]),#[]⟩
noncomputable def o30sa:xO:=fun P=>xC "<module>" 277 278 279 281 1 0 0 0 0 276 280 false 28 29 0 0 0 0
noncomputable def o31sa:xO:=fun P=>⟨(.type "frame"),none,.plain,#[(some (.ref 30)),(some (.ref 3)),(some (.ref 3)),none,(some (xS "__main__" 164)),none,(some (.ref 0))]⟩
noncomputable def Ha(P:Params):Heap:={ objs:=#[o0e P,o1e P,o2e P,o3e P,o4e P,o5e P,o6e P,o7e P,o8e P,o9e P,o10e P,o11s0 P,o12e P,o13e P,o14e P,o15e P,o16e P,o17e P,o18e P,o19e P,o20e P,o21e P,o22e P,o23e P,o24e P,o25e P,o26e P,o27e P,o28sa P,o29sa P,o30sa P,o31sa P],life:=lf }
noncomputable def Tb(P:Params):BT:=(nd (o0e P) (nd (o1e P) (nd (o3e P) (nd (o7e P) (nd (o15e P) (nd (o31sa P) nl nl) nl) (nd (o23e P) nl nl)) (nd (o11s0 P) (nd (o19e P) nl nl) (nd (o27e P) nl nl))) (nd (o5e P) (nd (o9e P) (nd (o17e P) nl nl) (nd (o25e P) nl nl)) (nd (o13e P) (nd (o21e P) nl nl) (nd (o29sa P) nl nl)))) (nd (o2e P) (nd (o4e P) (nd (o8e P) (nd (o16e P) nl nl) (nd (o24e P) nl nl)) (nd (o12e P) (nd (o20e P) nl nl) (nd (o28sa P) nl nl))) (nd (o6e P) (nd (o10e P) (nd (o18e P) nl nl) (nd (o26e P) nl nl)) (nd (o14e P) (nd (o22e P) nl nl) (nd (o30sa P) nl nl)))))
noncomputable def o3s1:xO:=fun P=>xD #[xE P "__name__" 165 (xS "cpy313.stringprep" 348),xE P "__doc__" 166 .none,xE P "__package__" 167 .none,xE P "__loader__" 168 (.builtin "__main__.__loader__#opaque"),xE P "__spec__" 169 .none,xE P "__annotations__" 170 (.ref 6),xE P "__builtins__" 171 (.ref 4),xE P "__file__" 173 (xS xc 172),xE P "__cached__" 174 .none,xE P "_sre" 275 (.ref 12),xE P "_wall" 288 (.ref 38),xE P "insort_right" 303 (.ref 47),xE P "bisect_right" 317 (.ref 56),xE P "bisect_left" 331 (.ref 65),xE P "ELLIPSIS_MARKER" 335 (xS "..." 334),xE P "_ellipsis_match" 347 (.ref 72)] 16
noncomputable def o29s1:xO:=fun P=>⟨.none,none,(.fields #[(.int 2 0),(.int 0 0),(.ref 37),(.int 6 0),(.int 0 0),(.ref 46),(.int 12 0),(.int 0 0),(.ref 55),(.int 32 0),(.int 0 0),(.ref 64),(.int 54 0),(.int 0 0),(.ref 71)]),#[]⟩
noncomputable def o32s1:xO:=fun P=>xT #[]
noncomputable def o33s1:xO:=fun P=>⟨.none,none,(.fields #[]),#[]⟩
noncomputable def o34s1:xO:=fun P=>xL [("k",285)]
noncomputable def o35s1:xO:=fun P=>xT #[]
noncomputable def o36s1:xO:=fun P=>xN (fd1 1) "_wall" "_wall"
noncomputable def o37s1:xO:=fun P=>xC "_wall" 282 283 284 287 2 1 0 0 3 276 286 true 32 33 0 34 35 36
noncomputable def o38s1:xO:=fun P=>xU (fd1 1) "_wall" "_wall" .none .none .none "__main__" 164 37
noncomputable def o39s1:xO:=fun P=>xT #[(.int 0 291),.none]
noncomputable def o40s1:xO:=fun P=>xD #[xE P "key" 292 .none] 1
noncomputable def o41s1:xO:=fun P=>xT #[]
noncomputable def o42s1:xO:=fun P=>⟨.none,none,(.fields #[]),#[]⟩
noncomputable def o43s1:xO:=fun P=>xL [("a",296),("x",297),("lo",298),("hi",299),("key",300)]
noncomputable def o44s1:xO:=fun P=>xT #[]
noncomputable def o45s1:xO:=fun P=>xN (fd1 3) "insort_right" "insort_right"
noncomputable def o46s1:xO:=fun P=>xC "insort_right" 293 294 295 302 6 4 0 1 3 276 301 true 41 42 0 43 44 45
noncomputable def o47s1:xO:=fun P=>xU (fd1 3) "insort_right" "insort_right" (.ref 39) (.ref 40) .none "cpy313.bisect" 289 46
noncomputable def o48s1:xO:=fun P=>xT #[(.int 0 304),.none]
noncomputable def o49s1:xO:=fun P=>xD #[xE P "key" 305 .none] 1
noncomputable def o50s1:xO:=fun P=>xT #[]
noncomputable def o51s1:xO:=fun P=>⟨.none,none,(.fields #[]),#[]⟩
noncomputable def o52s1:xO:=fun P=>xL [("a",309),("x",310),("lo",311),("hi",312),("key",313),("mid",314)]
noncomputable def o53s1:xO:=fun P=>xT #[]
noncomputable def o54s1:xO:=fun P=>xN (fd1 4) "bisect_right" "bisect_right"
noncomputable def o55s1:xO:=fun P=>xC "bisect_right" 306 307 308 316 12 4 0 1 3 276 315 true 50 51 0 52 53 54
noncomputable def o56s1:xO:=fun P=>xU (fd1 4) "bisect_right" "bisect_right" (.ref 48) (.ref 49) .none "cpy313.bisect" 289 55
noncomputable def o57s1:xO:=fun P=>xT #[(.int 0 318),.none]
noncomputable def o58s1:xO:=fun P=>xD #[xE P "key" 319 .none] 1
noncomputable def o59s1:xO:=fun P=>xT #[]
noncomputable def o60s1:xO:=fun P=>⟨.none,none,(.fields #[]),#[]⟩
noncomputable def o61s1:xO:=fun P=>xL [("a",323),("x",324),("lo",325),("hi",326),("key",327),("mid",328)]
noncomputable def o62s1:xO:=fun P=>xT #[]
noncomputable def o63s1:xO:=fun P=>xN (fd1 5) "bisect_left" "bisect_left"
noncomputable def o64s1:xO:=fun P=>xC "bisect_left" 320 321 322 330 32 4 0 1 3 276 329 true 59 60 0 61 62 63
noncomputable def o65s1:xO:=fun P=>xU (fd1 5) "bisect_left" "bisect_left" (.ref 57) (.ref 58) .none "cpy313.bisect" 289 64
noncomputable def o66s1:xO:=fun P=>xT #[]
noncomputable def o67s1:xO:=fun P=>⟨.none,none,(.fields #[]),#[]⟩
noncomputable def o68s1:xO:=fun P=>xL [("want",339),("got",340),("ws",341),("startpos",342),("endpos",343),("w",344)]
noncomputable def o69s1:xO:=fun P=>xT #[]
noncomputable def o70s1:xO:=fun P=>xN (fd1 8) "_ellipsis_match" "_ellipsis_match"
noncomputable def o71s1:xO:=fun P=>xC "_ellipsis_match" 336 337 338 346 54 2 0 0 3 276 345 true 66 67 0 68 69 70
noncomputable def o72s1:xO:=fun P=>xU (fd1 8) "_ellipsis_match" "_ellipsis_match" .none .none .none "cpy313.doctest" 332 71
noncomputable def T1(P:Params):BT:=(nd (o0e P) (nd (o1e P) (nd (o3s1 P) (nd (o7e P) (nd (o15e P) (nd (o31sa P) (nd (o63s1 P) nl nl) nl) (nd (o47s1 P) nl nl)) (nd (o23e P) (nd (o39s1 P) (nd (o71s1 P) nl nl) nl) (nd (o55s1 P) nl nl))) (nd (o11s0 P) (nd (o19e P) (nd (o35s1 P) (nd (o67s1 P) nl nl) nl) (nd (o51s1 P) nl nl)) (nd (o27e P) (nd (o43s1 P) nl nl) (nd (o59s1 P) nl nl)))) (nd (o5e P) (nd (o9e P) (nd (o17e P) (nd (o33s1 P) (nd (o65s1 P) nl nl) nl) (nd (o49s1 P) nl nl)) (nd (o25e P) (nd (o41s1 P) nl nl) (nd (o57s1 P) nl nl))) (nd (o13e P) (nd (o21e P) (nd (o37s1 P) (nd (o69s1 P) nl nl) nl) (nd (o53s1 P) nl nl)) (nd (o29s1 P) (nd (o45s1 P) nl nl) (nd (o61s1 P) nl nl))))) (nd (o2e P) (nd (o4e P) (nd (o8e P) (nd (o16e P) (nd (o32s1 P) (nd (o64s1 P) nl nl) nl) (nd (o48s1 P) nl nl)) (nd (o24e P) (nd (o40s1 P) (nd (o72s1 P) nl nl) nl) (nd (o56s1 P) nl nl))) (nd (o12e P) (nd (o20e P) (nd (o36s1 P) (nd (o68s1 P) nl nl) nl) (nd (o52s1 P) nl nl)) (nd (o28sa P) (nd (o44s1 P) nl nl) (nd (o60s1 P) nl nl)))) (nd (o6e P) (nd (o10e P) (nd (o18e P) (nd (o34s1 P) (nd (o66s1 P) nl nl) nl) (nd (o50s1 P) nl nl)) (nd (o26e P) (nd (o42s1 P) nl nl) (nd (o58s1 P) nl nl))) (nd (o14e P) (nd (o22e P) (nd (o38s1 P) (nd (o70s1 P) nl nl) nl) (nd (o54s1 P) nl nl)) (nd (o30sa P) (nd (o46s1 P) nl nl) (nd (o62s1 P) nl nl))))))
noncomputable def o3s2:xO:=fun P=>xD #[xE P "__name__" 165 (xS "cpy313.stringprep" 348),xE P "__doc__" 166 .none,xE P "__package__" 167 .none,xE P "__loader__" 168 (.builtin "__main__.__loader__#opaque"),xE P "__spec__" 169 .none,xE P "__annotations__" 170 (.ref 6),xE P "__builtins__" 171 (.ref 4),xE P "__file__" 173 (xS xc 172),xE P "__cached__" 174 .none,xE P "_sre" 275 (.ref 12),xE P "_wall" 288 (.ref 38),xE P "insort_right" 303 (.ref 47),xE P "bisect_right" 317 (.ref 56),xE P "bisect_left" 331 (.ref 65),xE P "ELLIPSIS_MARKER" 335 (xS "..." 334),xE P "_ellipsis_match" 347 (.ref 72),xE P "b1_set" 409 (.ref 80)] 17
noncomputable def o73s2:xO:=fun P=>⟨(.type "list"),none,(.seq #[(.int 173 350),(.int 847 351),(.int 6150 352),(.int 6155 353),(.int 6156 354),(.int 6157 355),(.int 8203 356),(.int 8204 357),(.int 8205 358),(.int 8288 359),(.int 65279 360)] 0),#[]⟩
noncomputable def o74s2:xO:=fun P=>⟨(.type "range"),none,(.fields #[(.int 65024 361),(.int 65040 362),(.int 1 363)]),#[]⟩
noncomputable def o75s2:xO:=fun P=>⟨(.type "list"),none,(.seq #[(.int 65024 366),(.int 65025 367),(.int 65026 368),(.int 65027 369),(.int 65028 370),(.int 65029 371),(.int 65030 372),(.int 65031 373),(.int 65032 374),(.int 65033 375),(.int 65034 376),(.int 65035 377),(.int 65036 378),(.int 65037 379),(.int 65038 380),(.int 65039 381)] 18),#[]⟩
noncomputable def o76s2:xO:=fun P=>⟨(.type "range_iterator"),none,(.fields #[(.int 65040 0),(.int 0 0),(.int 1 0)]),#[]⟩
noncomputable def o77s2:xO:=fun P=>xT #[]
noncomputable def o78s2:xO:=fun P=>⟨(.type "StopIteration"),none,(.fields #[(.ref 77),.none,.none,.none,(.bool false),.none]),#[]⟩
noncomputable def o79s2:xO:=fun P=>⟨(.type "list"),none,(.seq #[(.int 173 350),(.int 847 351),(.int 6150 352),(.int 6155 353),(.int 6156 354),(.int 6157 355),(.int 8203 356),(.int 8204 357),(.int 8205 358),(.int 8288 359),(.int 65279 360),(.int 65024 366),(.int 65025 367),(.int 65026 368),(.int 65027 369),(.int 65028 370),(.int 65029 371),(.int 65030 372),(.int 65031 373),(.int 65032 374),(.int 65033 375),(.int 65034 376),(.int 65035 377),(.int 65036 378),(.int 65037 379),(.int 65038 380),(.int 65039 381)] 0),#[]⟩
noncomputable def o80s2:xO:=fun P=>⟨(.type "set"),none,(.set #[(65024,(.int 65024 366)),(65025,(.int 65025 367)),(65026,(.int 65026 368)),(65027,(.int 65027 369)),(65028,(.int 65028 370)),(65029,(.int 65029 371)),(6150,(.int 6150 352)),(65030,(.int 65030 372)),(65031,(.int 65031 373)),(65032,(.int 65032 374)),(65033,(.int 65033 375)),(6155,(.int 6155 353)),(6156,(.int 6156 354)),(6157,(.int 6157 355)),(8203,(.int 8203 356)),(8204,(.int 8204 357)),(8205,(.int 8205 358)),(65034,(.int 65034 376)),(65035,(.int 65035 377)),(65036,(.int 65036 378)),(65037,(.int 65037 379)),(65038,(.int 65038 380)),(65039,(.int 65039 381)),(173,(.int 173 350)),(847,(.int 847 351)),(8288,(.int 8288 359)),(65279,(.int 65279 360))] 29 { mask:=127,place:=#[0,1,2,3,4,5,6,7,8,9,10,11,12,13,14,15,16,17,18,19,20,21,22,45,79,96,127],dummies:=#[],finger:=0,led:=!(P.followText "set-order"),moves:=2,plain:=true }),#[]⟩
noncomputable def o81s2:xO:=fun P=>⟨(.type "list_iterator"),none,(.fields #[.none,(.int 27 0)]),#[]⟩
noncomputable def o82s2:xO:=fun P=>xT #[]
noncomputable def o83s2:xO:=fun P=>⟨(.type "StopIteration"),none,(.fields #[(.ref 82),.none,.none,.none,(.bool false),.none]),#[]⟩
noncomputable def T2(P:Params):BT:=(nd (o0e P) (nd (o1e P) (nd (o3s2 P) (nd (o7e P) (nd (o15e P) (nd (o31sa P) (nd (o63s1 P) nl nl) nl) (nd (o47s1 P) (nd (o79s2 P) nl nl) nl)) (nd (o23e P) (nd (o39s1 P) (nd (o71s1 P) nl nl) nl) (nd (o55s1 P) nl nl))) (nd (o11s0 P) (nd (o19e P) (nd (o35s1 P) (nd (o67s1 P) nl nl) nl) (nd (o51s1 P) (nd (o83s2 P) nl nl) nl)) (nd (o27e P) (nd (o43s1 P) (nd (o75s2 P) nl nl) nl) (nd (o59s1 P) nl nl)))) (nd (o5e P) (nd (o9e P) (nd (o17e P) (nd (o33s1 P) (nd (o65s1 P) nl nl) nl) (nd (o49s1 P) (nd (o81s2 P) nl nl) nl)) (nd (o25e P) (nd (o41s1 P) (nd (o73s2 P) nl nl) nl) (nd (o57s1 P) nl nl))) (nd (o13e P) (nd (o21e P) (nd (o37s1 P) (nd (o69s1 P) nl nl) nl) (nd (o53s1 P) nl nl)) (nd (o29s1 P) (nd (o45s1 P) (nd (o77s2 P) nl nl) nl) (nd (o61s1 P) nl nl))))) (nd (o2e P) (nd (o4e P) (nd (o8e P) (nd (o16e P) (nd (o32s1 P) (nd (o64s1 P) nl nl) nl) (nd (o48s1 P) (nd (o80s2 P) nl nl) nl)) (nd (o24e P) (nd (o40s1 P) (nd (o72s1 P) nl nl) nl) (nd (o56s1 P) nl nl))) (nd (o12e P) (nd (o20e P) (nd (o36s1 P) (nd (o68s1 P) nl nl) nl) (nd (o52s1 P) nl nl)) (nd (o28sa P) (nd (o44s1 P) (nd (o76s2 P) nl nl) nl) (nd (o60s1 P) nl nl)))) (nd (o6e P) (nd (o10e P) (nd (o18e P) (nd (o34s1 P) (nd (o66s1 P) nl nl) nl) (nd (o50s1 P) (nd (o82s2 P) nl nl) nl)) (nd (o26e P) (nd (o42s1 P) (nd (o74s2 P) nl nl) nl) (nd (o58s1 P) nl nl))) (nd (o14e P) (nd (o22e P) (nd (o38s1 P) (nd (o70s1 P) nl nl) nl) (nd (o54s1 P) nl nl)) (nd (o30sa P) (nd (o46s1 P) (nd (o78s2 P) nl nl) nl) (nd (o62s1 P) nl nl))))))
noncomputable def o3s3:xO:=fun P=>xD #[xE P "__name__" 165 (xS "cpy313.stringprep" 348),xE P "__doc__" 166 .none,xE P "__package__" 167 .none,xE P "__loader__" 168 (.builtin "__main__.__loader__#opaque"),xE P "__spec__" 169 .none,xE P "__annotations__" 170 (.ref 6),xE P "__builtins__" 171 (.ref 4),xE P "__file__" 173 (xS xc 172),xE P "__cached__" 174 .none,xE P "_sre" 275 (.ref 12),xE P "_wall" 288 (.ref 38),xE P "insort_right" 303 (.ref 47),xE P "bisect_right" 317 (.ref 56),xE P "bisect_left" 331 (.ref 65),xE P "ELLIPSIS_MARKER" 335 (xS "..." 334),xE P "_ellipsis_match" 347 (.ref 72),xE P "b1_set" 409 (.ref 80),xE P "in_table_b1" 416 (.ref 90)] 18
noncomputable def o29s3:xO:=fun P=>⟨.none,none,(.fields #[(.int 2 0),(.int 0 0),(.ref 37),(.int 6 0),(.int 0 0),(.ref 46),(.int 12 0),(.int 0 0),(.ref 55),(.int 32 0),(.int 0 0),(.ref 64),(.int 54 0),(.int 0 0),(.ref 71),(.int 84 0),(.int 0 0),(.ref 89)]),#[]⟩
noncomputable def o84s3:xO:=fun P=>xT #[]
noncomputable def o85s3:xO:=fun P=>⟨.none,none,(.fields #[]),#[]⟩
noncomputable def o86s3:xO:=fun P=>xL [("code",413)]
noncomputable def o87s3:xO:=fun P=>xT #[]
noncomputable def o88s3:xO:=fun P=>xN (fd1 11) "in_table_b1" "in_table_b1"
noncomputable def o89s3:xO:=fun P=>xC "in_table_b1" 410 411 412 415 84 1 0 0 3 276 414 true 84 85 0 86 87 88
noncomputable def o90s3:xO:=fun P=>xU (fd1 11) "in_table_b1" "in_table_b1" .none .none .none "cpy313.stringprep" 348 89
noncomputable def T3(P:Params):BT:=(nd (o0e P) (nd (o1e P) (nd (o3s3 P) (nd (o7e P) (nd (o15e P) (nd (o31sa P) (nd (o63s1 P) nl nl) nl) (nd (o47s1 P) (nd (o79s2 P) nl nl) nl)) (nd (o23e P) (nd (o39s1 P) (nd (o71s1 P) nl nl) nl) (nd (o55s1 P) (nd (o87s3 P) nl nl) nl))) (nd (o11s0 P) (nd (o19e P) (nd (o35s1 P) (nd (o67s1 P) nl nl) nl) (nd (o51s1 P) (nd (o83s2 P) nl nl) nl)) (nd (o27e P) (nd (o43s1 P) (nd (o75s2 P) nl nl) nl) (nd (o59s1 P) nl nl)))) (nd (o5e P) (nd (o9e P) (nd (o17e P) (nd (o33s1 P) (nd (o65s1 P) nl nl) nl) (nd (o49s1 P) (nd (o81s2 P) nl nl) nl)) (nd (o25e P) (nd (o41s1 P) (nd (o73s2 P) nl nl) nl) (nd (o57s1 P) (nd (o89s3 P) nl nl) nl))) (nd (o13e P) (nd (o21e P) (nd (o37s1 P) (nd (o69s1 P) nl nl) nl) (nd (o53s1 P) (nd (o85s3 P) nl nl) nl)) (nd (o29s3 P) (nd (o45s1 P) (nd (o77s2 P) nl nl) nl) (nd (o61s1 P) nl nl))))) (nd (o2e P) (nd (o4e P) (nd (o8e P) (nd (o16e P) (nd (o32s1 P) (nd (o64s1 P) nl nl) nl) (nd (o48s1 P) (nd (o80s2 P) nl nl) nl)) (nd (o24e P) (nd (o40s1 P) (nd (o72s1 P) nl nl) nl) (nd (o56s1 P) (nd (o88s3 P) nl nl) nl))) (nd (o12e P) (nd (o20e P) (nd (o36s1 P) (nd (o68s1 P) nl nl) nl) (nd (o52s1 P) (nd (o84s3 P) nl nl) nl)) (nd (o28sa P) (nd (o44s1 P) (nd (o76s2 P) nl nl) nl) (nd (o60s1 P) nl nl)))) (nd (o6e P) (nd (o10e P) (nd (o18e P) (nd (o34s1 P) (nd (o66s1 P) nl nl) nl) (nd (o50s1 P) (nd (o82s2 P) nl nl) nl)) (nd (o26e P) (nd (o42s1 P) (nd (o74s2 P) nl nl) nl) (nd (o58s1 P) (nd (o90s3 P) nl nl) nl))) (nd (o14e P) (nd (o22e P) (nd (o38s1 P) (nd (o70s1 P) nl nl) nl) (nd (o54s1 P) (nd (o86s3 P) nl nl) nl)) (nd (o30sa P) (nd (o46s1 P) (nd (o78s2 P) nl nl) nl) (nd (o62s1 P) nl nl))))))
noncomputable def o3f:xO:=fun P=>xD #[xE P "__name__" 165 (xS "law_uk0030_02" 2593),xE P "__doc__" 166 .none,xE P "__package__" 167 .none,xE P "__loader__" 168 (.builtin "__main__.__loader__#opaque"),xE P "__spec__" 169 .none,xE P "__annotations__" 170 (.ref 6),xE P "__builtins__" 171 (.ref 4),xE P "__file__" 173 (xS xc 172),xE P "__cached__" 174 .none,xE P "_sre" 275 (.ref 12),xE P "_wall" 288 (.ref 38),xE P "insort_right" 303 (.ref 47),xE P "bisect_right" 317 (.ref 56),xE P "bisect_left" 331 (.ref 65),xE P "ELLIPSIS_MARKER" 335 (xS "..." 334),xE P "_ellipsis_match" 347 (.ref 72),xE P "b1_set" 409 (.ref 80),xE P "in_table_b1" 416 (.ref 90),xE P "b3_exceptions" 2367 (.ref 91),xE P "map_table_b3" 2375 (.ref 136),xE P "_name_disallowed_re" 2403 (.ref 141),xE P "_value_disallowed_re" 2437 (.ref 146),xE P "Headers" 2592 (.ref 267),xE P "_law_unseen" 2601 (.ref 278),xE P "_law_beside" 2608 (.ref 285),xE P "_law_letter" 2616 (.ref 292),xE P "_law_typed" 2622 (.ref 297),xE P "_law_prepared" 2628 (.ref 302),xE P "_law_mirror" 2634 (.ref 307),xE P "_law_rounds" 2640 (.ref 312),xE P "_law_stretch" 2651 (.ref 319),xE P "_law_table" 2667 (.ref 326),xE P "_law_runs" 2673 (.ref 331),xE P "_law_is_least" 2679 (.ref 336),xE P "_law_due" 2695 (.ref 343),xE P "_law_asked_again" 2701 (.ref 348),xE P "_law_squares" 2707 (.ref 353),xE P "_law_dots_agree" 2724 (.ref 360),xE P "law" 2741 (.ref 367)] 39
noncomputable def o135f:xO:=fun P=>xC "map_table_b3" 2368 2369 2370 2374 87 1 0 0 3 276 2373 true 130 131 0 132 133 134
noncomputable def o136f:xO:=fun P=>xU (fd1 13) "map_table_b3" "map_table_b3" .none .none .none "cpy313.stringprep" 348 135
noncomputable def o140f:xO:=fun P=>xT #[(.int 14 0),(.int 10 0),(.int 4 0),(.int 1 0),(.int 1 0),(.int 22 0),(.int 0 0),(.int 31 0),(.int 16 0),(.int 127 0),(.int 0 0),(.int 13 0),(.int 7 0),(.int 22 0),(.int 0 0),(.int 31 0),(.int 16 0),(.int 127 0),(.int 0 0),(.int 1 0)]
noncomputable def o141f:xO:=fun P=>⟨(.type "re.Pattern"),none,(.fields #[(xS "[\\x00-\\x1F\\x7F]" 2379),(.int 32 2402),(.int 0 0),.none,.none,(.ref 140),(.int 0 0)]),#[]⟩
noncomputable def o145f:xO:=fun P=>xT #[(.int 14 0),(.int 14 0),(.int 4 0),(.int 1 0),(.int 1 0),(.int 9 0),(.int 4294966783 0),(.int 0 0),(.int 0 0),(.int 2147483648 0),(.int 0 0),(.int 0 0),(.int 0 0),(.int 0 0),(.int 0 0),(.int 13 0),(.int 11 0),(.int 9 0),(.int 4294966783 0),(.int 0 0),(.int 0 0),(.int 2147483648 0),(.int 0 0),(.int 0 0),(.int 0 0),(.int 0 0),(.int 0 0),(.int 1 0)]
noncomputable def o146f:xO:=fun P=>⟨(.type "re.Pattern"),none,(.fields #[(xS "[\\x00-\\x08\\x0A-\\x1F\\x7F]" 2405),(.int 32 2436),(.int 0 0),.none,.none,(.ref 145),(.int 0 0)]),#[]⟩
noncomputable def o154f:xO:=fun P=>xT #[.none]
noncomputable def o160f:xO:=fun P=>xQ "__init__" "Headers.__init__" 2450 2451 2452 2458 97 2 0 0 3 276 2457 true 155 156 0 157 158 159
noncomputable def o161f:xO:=fun P=>xU (fd2 17 0) "__init__" "Headers.__init__" (.ref 154) .none .none "cpy313.wsgiref.headers" 2376 160
noncomputable def o167f:xO:=fun P=>xQ "_convert_string_type" "Headers._convert_string_type" 2460 2461 2462 2468 107 2 0 1 3 276 2467 true 162 163 0 164 165 166
noncomputable def o168f:xO:=fun P=>xU (fd2 17 1) "_convert_string_type" "Headers._convert_string_type" .none .none .none "cpy313.wsgiref.headers" 2376 167
noncomputable def o205f:xO:=fun P=>xQ "get_all" "Headers.get_all" 2508 2509 2510 2512 132 2 0 0 3 276 2511 true 202 203 0 0 0 204
noncomputable def o206f:xO:=fun P=>xU (fd2 17 7) "get_all" "Headers.get_all" .none .none .none "cpy313.wsgiref.headers" 2376 205
noncomputable def o207f:xO:=fun P=>xT #[.none]
noncomputable def o213f:xO:=fun P=>xQ "get" "Headers.get" 2514 2515 2516 2523 136 3 0 0 3 276 2522 true 208 209 0 210 211 212
noncomputable def o214f:xO:=fun P=>xU (fd2 17 8) "get" "Headers.get" (.ref 207) .none .none "cpy313.wsgiref.headers" 2376 213
noncomputable def o223f:xO:=fun P=>xQ "values" "Headers.values" 2531 2532 2533 2535 146 1 0 0 3 276 2534 true 220 221 0 0 0 222
noncomputable def o224f:xO:=fun P=>xU (fd2 17 10) "values" "Headers.values" .none .none .none "cpy313.wsgiref.headers" 2376 223
noncomputable def o230f:xO:=fun P=>xQ "items" "Headers.items" 2537 2538 2539 2542 149 1 0 0 3 276 2541 true 225 226 0 227 228 229
noncomputable def o231f:xO:=fun P=>xU (fd2 17 11) "items" "Headers.items" .none .none .none "cpy313.wsgiref.headers" 2376 230
noncomputable def o256f:xO:=fun P=>xQ "setdefault" "Headers.setdefault" 2564 2565 2566 2572 161 3 0 0 3 276 2571 true 251 252 0 253 254 255
noncomputable def o257f:xO:=fun P=>xU (fd2 17 15) "setdefault" "Headers.setdefault" .none .none .none "cpy313.wsgiref.headers" 2376 256
noncomputable def o266f:xO:=fun P=>xD #[xE P "__module__" 2445 (xS "cpy313.wsgiref.headers" 2376),xE P "__firstlineno__" 2449 (.int 95 2448),xE P "__init__" 2459 (.ref 161),xE P "_convert_string_type" 2469 (.ref 168),xE P "__len__" 2476 (.ref 175),xE P "__setitem__" 2485 (.ref 182),xE P "__delitem__" 2491 (.ref 187),xE P "__getitem__" 2499 (.ref 194),xE P "__contains__" 2507 (.ref 201),xE P "get_all" 2513 (.ref 206),xE P "get" 2524 (.ref 214),xE P "keys" 2530 (.ref 219),xE P "values" 2536 (.ref 224),xE P "items" 2543 (.ref 231),xE P "__repr__" 2550 (.ref 238),xE P "__str__" 2556 (.ref 243),xE P "__bytes__" 2563 (.ref 250),xE P "setdefault" 2573 (.ref 257),xE P "add_header" 2583 (.ref 264),xE P "__static_attributes__" 2585 (.ref 265),xE P "__dict__" 2587 (.ref 268),xE P "__weakref__" 2589 (.ref 269),xE P "__doc__" 2590 .none] 4
noncomputable def o267f:xO:=fun P=>⟨(.type "type"),none,(.cls { name:=(Str.ofString "Headers"),bases:=[(.type "object")],mro:=[(.ref 267),(.type "object")],ns:=266,qualname:=(Str.ofString "Headers"),hasDict:=true,slotNames:=[],subclasses:=[],abstract:=false,collection:=none,hasDel:=false }),#[none,none,(some (xS "Headers" 2438)),(some (xS "Headers" 2446)),(some (.builtin "object.__new__")),(some (.bool true))]⟩
noncomputable def o268f:xO:=fun P=>⟨(.type "getset_descriptor"),none,(.fields #[(xS "__dict__" 2586),(.ref 267),(.builtin "function.__dict__"),(.builtin "function.__dict__#set")]),#[]⟩
noncomputable def o269f:xO:=fun P=>⟨(.type "getset_descriptor"),none,(.fields #[(xS "__weakref__" 2588),(.ref 267),(.builtin "ExceptionGroup.__weakref__"),.none]),#[]⟩
noncomputable def o277f:xO:=fun P=>xC "_law_unseen" 2595 2596 2597 2600 172 1 0 0 3 276 2599 true 272 273 0 274 275 276
noncomputable def o278f:xO:=fun P=>xU (fd1 19) "_law_unseen" "_law_unseen" .none .none .none "law_uk0030_02" 2593 277
noncomputable def o284f:xO:=fun P=>xC "_law_beside" 2602 2603 2604 2607 176 1 0 0 3 276 2606 true 279 280 0 281 282 283
noncomputable def o285f:xO:=fun P=>xU (fd1 20) "_law_beside" "_law_beside" .none .none .none "law_uk0030_02" 2593 284
noncomputable def o291f:xO:=fun P=>xC "_law_letter" 2609 2610 2611 2615 178 2 0 0 3 276 2614 true 286 287 0 288 289 290
noncomputable def o292f:xO:=fun P=>xU (fd1 21) "_law_letter" "_law_letter" .none .none .none "law_uk0030_02" 2593 291
noncomputable def o296f:xO:=fun P=>xC "_law_typed" 2617 2618 2619 2621 184 2 0 0 3 276 2620 true 293 294 0 0 0 295
noncomputable def o297f:xO:=fun P=>xU (fd1 22) "_law_typed" "_law_typed" .none .none .none "law_uk0030_02" 2593 296
noncomputable def o301f:xO:=fun P=>xC "_law_prepared" 2623 2624 2625 2627 195 1 0 0 3 276 2626 true 298 299 0 0 0 300
noncomputable def o302f:xO:=fun P=>xU (fd1 23) "_law_prepared" "_law_prepared" .none .none .none "law_uk0030_02" 2593 301
noncomputable def o306f:xO:=fun P=>xC "_law_mirror" 2629 2630 2631 2633 197 1 0 0 3 276 2632 true 303 304 0 0 0 305
noncomputable def o307f:xO:=fun P=>xU (fd1 24) "_law_mirror" "_law_mirror" .none .none .none "law_uk0030_02" 2593 306
noncomputable def o311f:xO:=fun P=>xC "_law_rounds" 2635 2636 2637 2639 199 1 0 0 3 276 2638 true 308 309 0 0 0 310
noncomputable def o312f:xO:=fun P=>xU (fd1 25) "_law_rounds" "_law_rounds" .none .none .none "law_uk0030_02" 2593 311
noncomputable def o318f:xO:=fun P=>xC "_law_stretch" 2641 2642 2643 2650 208 3 0 0 3 276 2649 true 313 314 0 315 316 317
noncomputable def o319f:xO:=fun P=>xU (fd1 26) "_law_stretch" "_law_stretch" .none .none .none "law_uk0030_02" 2593 318
noncomputable def o325f:xO:=fun P=>xC "_law_table" 2652 2653 2654 2666 215 1 0 0 3 276 2665 true 320 321 0 322 323 324
noncomputable def o326f:xO:=fun P=>xU (fd1 27) "_law_table" "_law_table" .none .none .none "law_uk0030_02" 2593 325
noncomputable def o330f:xO:=fun P=>xC "_law_runs" 2668 2669 2670 2672 226 1 0 0 3 276 2671 true 327 328 0 0 0 329
noncomputable def o331f:xO:=fun P=>xU (fd1 28) "_law_runs" "_law_runs" .none .none .none "law_uk0030_02" 2593 330
noncomputable def o335f:xO:=fun P=>xC "_law_is_least" 2674 2675 2676 2678 235 1 0 0 3 276 2677 true 332 333 0 0 0 334
noncomputable def o336f:xO:=fun P=>xU (fd1 29) "_law_is_least" "_law_is_least" .none .none .none "law_uk0030_02" 2593 335
noncomputable def o342f:xO:=fun P=>xC "_law_due" 2680 2681 2682 2694 237 2 0 0 3 276 2693 true 337 338 0 339 340 341
noncomputable def o343f:xO:=fun P=>xU (fd1 30) "_law_due" "_law_due" .none .none .none "law_uk0030_02" 2593 342
noncomputable def o347f:xO:=fun P=>xC "_law_asked_again" 2696 2697 2698 2700 246 2 0 0 3 276 2699 true 344 345 0 0 0 346
noncomputable def o348f:xO:=fun P=>xU (fd1 31) "_law_asked_again" "_law_asked_again" .none .none .none "law_uk0030_02" 2593 347
noncomputable def o352f:xO:=fun P=>xC "_law_squares" 2702 2703 2704 2706 258 2 0 0 3 276 2705 true 349 350 0 0 0 351
noncomputable def o353f:xO:=fun P=>xU (fd1 32) "_law_squares" "_law_squares" .none .none .none "law_uk0030_02" 2593 352
noncomputable def o359f:xO:=fun P=>xC "_law_dots_agree" 2708 2709 2710 2723 265 3 0 0 3 276 2722 true 354 355 0 356 357 358
noncomputable def o360f:xO:=fun P=>xU (fd1 33) "_law_dots_agree" "_law_dots_agree" .none .none .none "law_uk0030_02" 2593 359
noncomputable def o366f:xO:=fun P=>xC "law" 2725 2726 2727 2740 283 1 0 0 3 276 2739 true 361 362 0 363 364 365
noncomputable def o367f:xO:=fun P=>xU (fd1 34) "law" "law" .none .none .none "law_uk0030_02" 2593 366
noncomputable def KF0(P:Params):Frag:=[(3,o3f P),(39,o39s1 P),(40,o40s1 P),(46,o46s1 P),(47,o47s1 P),(48,o48s1 P),(49,o49s1 P),(55,o55s1 P),(56,o56s1 P),(57,o57s1 P),(58,o58s1 P),(64,o64s1 P),(65,o65s1 P),(71,o71s1 P),(72,o72s1 P),(80,o80s2 P),(89,o89s3 P),(90,o90s3 P),(135,o135f P),(136,o136f P),(140,o140f P),(141,o141f P),(145,o145f P),(146,o146f P),(154,o154f P),(160,o160f P),(161,o161f P),(167,o167f P),(168,o168f P),(205,o205f P),(206,o206f P),(207,o207f P),(213,o213f P),(214,o214f P),(223,o223f P),(224,o224f P),(230,o230f P),(231,o231f P),(256,o256f P),(257,o257f P),(266,o266f P),(267,o267f P),(268,o268f P),(269,o269f P),(277,o277f P),(278,o278f P),(284,o284f P),(285,o285f P),(291,o291f P),(292,o292f P),(296,o296f P),(297,o297f P),(301,o301f P),(302,o302f P),(306,o306f P),(307,o307f P),(311,o311f P),(312,o312f P),(318,o318f P),(319,o319f P),(325,o325f P),(326,o326f P),(330,o330f P),(331,o331f P),(335,o335f P),(336,o336f P),(342,o342f P),(343,o343f P),(347,o347f P),(348,o348f P),(352,o352f P),(353,o353f P),(359,o359f P),(360,o360f P),(366,o366f P),(367,o367f P)]
noncomputable def asF0:List Nat:=[3,39,40,46,47,48,49,55,56,57,58,64,65,71,72,80,89,90,135,136,140,141,145,146,154,160,161,167,168,205,206,207,213,214,223,224,230,231,256,257,266,267,268,269,277,278,284,285,291,292,296,297,301,302,306,307,311,312,318,319,325,326,330,331,335,336,342,343,347,348,352,353,359,360,366,367]
noncomputable def looseL:List Str:=["_wall","insort_right","bisect_right","bisect_left","ELLIPSIS_MARKER","_ellipsis_match","b1_set","in_table_b1","b3_exceptions","map_table_b3","_name_disallowed_re","_value_disallowed_re","Headers","_law_unseen","_law_beside","_law_letter","_law_typed","_law_prepared","_law_mirror","_law_rounds","_law_stretch","_law_table","_law_runs","_law_is_least","_law_due","_law_asked_again","_law_squares","_law_dots_agree"]
end uk0030_02
namespace uk0030_02
open HL
noncomputable def envT:Env:={ scope:=PW.main.scope,locals:=mainNs,globals:=mainNs,cells:=[],code:=codeV,frame:=some frA }
noncomputable def bodyT:List Stmt:=behindTheImports PW
noncomputable def cE:Code:=.body bodyT envT
noncomputable def BF:List Frame:=[topFrame pFr]
noncomputable def Stb(w:World)(os:OsState):SharedT:=⟨Tb w.params,nb,lf,#[],dr,kb,os⟩
noncomputable def St1(w:World)(os:OsState):SharedT:=⟨T1 w.params,n1,lf,#[],dr,k1,os⟩
noncomputable def St2(w:World)(os:OsState):SharedT:=⟨T2 w.params,n2,lf,#[],dr,k2,os⟩
noncomputable def St3(w:World)(os:OsState):SharedT:=⟨T3 w.params,n3,lf,#[],dr,k3,os⟩
theorem qSeg:@segRunT=@PySem.W.Fast.tw10110043849684766642:=PySem.W.Fast.te10110043849684766642
theorem qTab:treeTable=PySem.W.Fast.tw14364793385576792824:=PySem.W.Fast.te14364793385576792824
theorem qExs:@execs=@PySem.W.Fast.tw12563942051412417395:=PySem.W.Fast.te12563942051412417395
theorem qImp:@impGoT=@PySem.W.Fast.tw14789777615569096658:=PySem.W.Fast.te14789777615569096658
theorem qStart:start=PySem.W.Fast.tw1435165496053646825:=PySem.W.Fast.te1435165496053646825
theorem qTopGo:@topGo=@PySem.W.Fast.tw15667345088766844465:=PySem.W.Fast.te15667345088766844465
theorem qSegS:@segRun=@PySem.W.Fast.tw14374325043358763698:=PySem.W.Fast.te14374325043358763698
theorem qDen:@denote=@PySem.W.Fast.tw11892475500146522536:=PySem.W.Fast.te11892475500146522536
theorem qSeen:@openSeen=@PySem.W.Fast.tw4187177175401517315:=PySem.W.Fast.te4187177175401517315
theorem qFence:@fenceModules?=@PySem.W.Fast.tw14289696077712309145:=PySem.W.Fast.te14289696077712309145
theorem qRest:@restK=fun rest env f=>match f with
 | .next=>(PySem.W.Fast.tw12563942051412417395 rest env).wrap doneF deadEnd id id
 | f=>doneF f:=by
 rw[←qExs];rfl
noncomputable def os0:OsState:=(start (opening PW)).1.os
noncomputable def Sz:SharedT:=⟨.nil,0,lf,#[],dr,1,os0⟩
noncomputable def He(w:World):SharedT:=⟨Te w.params,ne,lf,#[],dr,ke,os0⟩
noncomputable def S0(w:World):Shared:=⟨H0 w.params,#[],dr,k0,os0⟩
noncomputable def Sa(w:World):Shared:=⟨Ha w.params,#[],dr,ka,os0⟩
theorem seg0(w:World):(impGoT treeTable (opening PW) w 798 Sz (start (opening PW)).2).map (fun r=>(r.1,r.2.atExitBegin))=some (He w,some []):=by
 rw[qImp,qTab,qStart]
 kernel_rfl
theorem segF(w:World):fenceModules? PW (He w).abs=some (S0 w):=by
 rw[qFence]
 kernel_rfl
theorem segP(w:World):topGo treeTable PW w n0 annV 12 (S0 w) (topStub PW)=some (Sa w,⟨denote treeTable cE,cE,pPre,BF⟩):=by
 rw[qTopGo,qTab,qDen]
 kernel_rfl
theorem segBl(w:World):segRun treeTable PW w n0 annV 1 1 (Sa w) (blockOf bodyT envT cE pPre BF)=some (.next,(Stb w os0).abs,cE,pB):=by
 unfold blockOf
 rw[qSegS,qTab]
 kernel_rfl
theorem segA(w:World)(os:OsState):segRunT treeTable PW w n0 annV 1 (m1+1) (Stb w os) (piecesOf (bodyT.take iS) envT cE pB BF)=some (.next,St1 w os,cE,p1):=by
 unfold piecesOf
 rw[qSeg,qTab,qExs]
 kernel_rfl
theorem segB'(b c:Bool)(w:World)(os:OsState):segRunT treeTable PW ((w.withFollow "set-order" b).withFollow "special-get-raises" c) n0 annV 1 (m2+1) (St1 ((w.withFollow "set-order" b).withFollow "special-get-raises" c) os) (piecesOf ((bodyT.drop iS).take 1) envT cE p1 BF)=some (.next,St2 ((w.withFollow "set-order" b).withFollow "special-get-raises" c) os,cE,p2):=by
 unfold piecesOf
 rw[qSeg,qTab,qExs]
 cases b <;> cases c
 ·kernel_rfl
 ·kernel_rfl
 ·kernel_rfl
 ·kernel_rfl
theorem segB(w:World)(os:OsState):segRunT treeTable PW w n0 annV 1 (m2+1) (St1 w os) (piecesOf ((bodyT.drop iS).take 1) envT cE p1 BF)=some (.next,St2 w os,cE,p2):=by
 have h:=segB' (w.params.followText "set-order") ((w.withFollow "set-order" (w.params.followText "set-order")).params.followText "special-get-raises") w os
 rw[World.withFollow_self,World.withFollow_self] at h
 exact h
theorem segC(w:World)(os:OsState):segRunT treeTable PW w n0 annV 1 (m3+1) (St2 w os) (piecesOf ((bodyT.drop (iS+1)).take (iD-iS-1)) envT cE p2 BF)=some (.next,St3 w os,cE,p3):=by
 unfold piecesOf
 rw[qSeg,qTab,qExs]
 kernel_rfl
noncomputable def dst:Stmt:=bodyT.getD iD (.Pass ⟨0,0,0,0⟩)
theorem dst_is:dst=.Assign [.Name (dNm dst) (dNp dst)] (.Dict (dKs dst) (dVs dst) (dPos dst)) (dAp dst):=by kernel_rfl
noncomputable def prs:List Pair:=(prsOf (dKs dst) (dVs dst)).getD []
theorem prs_is:prsOf (dKs dst) (dVs dst)=some prs:=by kernel_rfl
theorem prs_incr:incr 0 prs=true:=by kernel_rfl
theorem prs_len:prs.length=650:=by kernel_rfl
noncomputable def L4:List Obj:=dictLeft 37 prs k3
theorem L4_len:L4.length=39:=by kernel_rfl
noncomputable def St4(w:World)(os:OsState):SharedT:=⟨insAll (T3 w.params) n3 L4,nD,lf,#[],dr,k3+1950,os⟩
theorem T3_ok(P:Params):insOk (T3 P) n3 L4=true:=by kernel_rfl
theorem St4_gen{w:World}{os:OsState}{l:List Obj}(h:insOk (T3 w.params) n3 l=true)(hl:l.length=39):(SharedT.mk (insAll (T3 w.params) n3 l) nD lf #[] dr (k3+1950) os).abs=SS (St3 w os).abs l (k3+1950):=
 abs_SS h (by rw[hl])
theorem St4_abs(w:World)(os:OsState):(St4 w os).abs=SS (St3 w os).abs L4 (k3+1950):=St4_gen (T3_ok w.params) L4_len
noncomputable def vw:Program:={ PW with main:={ PW.main with body:=[stm 0,stm nCells] } }
noncomputable def b3Obj:Obj:=dObj (ents (prs.take 646) k3++entsS (prs.drop 646) (k3+1938)) 650
noncomputable def KF(P:Params):Frag:=(n3,b3Obj)::KF0 P
noncomputable def asF:List Nat:=n3::asF0
theorem asF_is(P:Params):asF=(KF P).map (·.1):=by kernel_rfl
noncomputable abbrev thrR(pos':Pos):Thread:=⟨(tailT envT (dNm dst) (dNp dst) (dKs dst) (dVs dst) (dPos dst) (.ref n3)).wrap (restK (bodyT.drop (iD+1)) envT) deadEnd id id,cE,pos',BF⟩
theorem segR(w:World)(os:OsState)(pos':Pos):(segRunT treeTable PW w n0 annV 1 (mR+100) (St4 w os) (thrR pos')).map (fun r=>(r.1,r.2.2.1,r.2.2.2,
  staticsOk (importedModules PW.main.body) (H0 w.params) r.2.1.abs.heap&&namesBound PW r.2.1.abs.heap&&gensDone r.2.1.abs&&laidKept (H0 w.params) r.2.1.abs.heap,
  openSeen vw looseL (importedModules PW.main.body) (fun _=>true) true r.2.1.abs,X.obsZ asF r.2.1.abs))=some (.next,cE,pF,true,openGood vw looseL,X.valZ KF nF kF w):=by
 unfold thrR
 rw[qSeg,qTab,qRest,qSeen]
 kernel_rfl
end uk0030_02
end
section
open PySem PySem.W PySem.Calls PyProof.Rows
namespace uk0030_02
open HL
theorem start_is:(start (opening PW)).1=Sz.abs:=by kernel_rfl
theorem open_is(w:World):fencedOpening treeTable PW w 799=some (S0 w):=by
 obtain⟨⟨s,t⟩,h1,h2⟩:=Option.map_eq_some_iff.mp (seg0 w)
 obtain⟨rfl,h3⟩:=Prod.mk.inj h2
 have h4:=imp_go (N:=1) (r:=(He w).abs) (impGo_of h1) (by unfold importEnds;rw[h3])
 unfold fencedOpening
 rw[start_is,h4]
 exact segF w
theorem sz_is(w:World):(S0 w).heap.objs.size=n0:=by kernel_rfl
theorem ann_is(w:World):(S0 w).heap.nsMap mainGlobals "__annotations__"=annV:=by kernel_rfl
theorem ns_is(w:World):(S0 w).heap.isNs mainGlobals=true:=by kernel_rfl
theorem body_is:bodyT=bodyT.take iS++((bodyT.drop iS).take 1++((bodyT.drop (iS+1)).take (iD-iS-1)++(bodyT.drop iD++[]))):=by kernel_rfl
theorem rest_is:bodyT.drop iD=.Assign [.Name (dNm dst) (dNp dst)] (.Dict (dKs dst) (dVs dst) (dPos dst)) (dAp dst)::bodyT.drop (iD+1):=by
 rw[←dst_is];kernel_rfl
theorem size3(w:World)(os:OsState):(St3 w os).abs.heap.objs.size=n3:=absHeap_size _ _ _
theorem last_ran(w:World)(s:Shared)(c:Code)(pos:Pos):topRun treeTable PW w n0 annV 2 s ⟨doneF .next,c,pos,BF⟩=some s:=by
 obtain⟨h,g,d,t,os⟩:=s
 rfl
theorem dictR(w:World):∃ N s₁,segRun treeTable PW w n0 annV 1 N (St3 w os0).abs (piecesOf (bodyT.drop iD) envT cE p3 BF)=some (.next,s₁,cE,pF) ∧
  (staticsOk (importedModules PW.main.body) (H0 w.params) s₁.heap&&namesBound PW s₁.heap&&gensDone s₁&&laidKept (H0 w.params) s₁.heap)=true ∧
  openSeen vw looseL (importedModules PW.main.body) (fun _=>true) true s₁=openGood vw looseL∧X.obsZ asF s₁=X.valZ KF nF kF w:=by
 have hs:=size3 w os0
 obtain⟨pos',n,hn⟩:=goto_dict (p:=PW) (w:=w) (n₀:=n0) (ann:=annV) (b:=bodyT) (env:=envT) (q:=pFr) (s0:=(St3 w os0).abs) (nm:=dNm dst) (np:=dNp dst) (ap:=dAp dst) (dp:=dPos dst) (n:=37) (tk:=k3) prs_is prs_incr (by rw[hs];decide) (by rw[hs];decide)
  (by rw[prs_len];decide) (by rw[prs_len];decide) (by rw[prs_len];decide) (restK (bodyT.drop (iD+1)) envT) deadEnd id id p3
 obtain⟨⟨f,s',c,q⟩,h1,h2⟩:=Option.map_eq_some_iff.mp (segR w os0 pos')
 simp only[Prod.mk.injEq] at h2
 obtain⟨rfl,rfl,rfl,h3,h4,h5⟩:=h2
 refine⟨n+(mR+100),s'.abs,?_,h3,h4,h5⟩
 have e3:SS (St3 w os0).abs [] k3=(St3 w os0).abs:=by
  show Shared.mk ⟨_++#[],_⟩ _ _ _ _=Shared.mk ⟨_,_⟩ _ _ _ _
  rw[Array.append_empty];rfl
 rw[e3,hs,prs_len] at hn
 rw[rest_is]
 unfold piecesOf
 rw[execs_cons_rest]
 have h6:=segRun_of h1
 rw[St4_abs] at h6
 exact seg_go hn h6
theorem stood(w:World):Stood PW vw looseL (X.obsZ asF) w (X.valZ KF nF kF w):=by
 obtain⟨N,s₁,h1,h2,h3,h4⟩:=dictR w
 have k0:=piece_app (rest:=[]) h1 (piece_nil (last_ran w s₁ cE pF))
 have k1:=piece_app (segRun_of (segC w os0)) k0
 have k2:=piece_app (segRun_of (segB w os0)) k1
 have k3:=piece_app (segRun_of (segA w os0)) k2
 rw[←body_is] at k3
 have k4:=go_top (segP w) (piece_block (segBl w) k3)
 exact⟨799,_,S0 w,s₁,open_is w,ns_is w,rfl,by rw[sz_is,ann_is];exact k4,h2,h3,h4⟩
end uk0030_02
end
section
namespace UK
open PySem PySem.W PySem.Calls PyProof.Rows
section
set_option genInjectivity false
set_option genSizeOf false
inductive D where
 | none | bool (b:Bool) | int (i:Int) | str (x:Str) | tup (xs:List D)
inductive V where
 | d (x:D) | lst (xs:List D) | dct (kvs:List (Str × D)) | hdr (xs:List D) | ref (k:Nat) | hd (k:Nat) | tup (xs:List V)
inductive O where
 | list (xs:List D) | dict (kvs:List (Str × D))
structure Gl where
 p:Program
 w:World
 h₀:Heap
 cls:Addr
 mg:Str→Option Value
 mb:Str→Option Value
 os:OsState
 gens:Array GenState
noncomputable def Gl.look(G:Gl)(x:Str):Option Value:=match G.mg x with
 | some v=>some v
 | none=>G.mb x
structure Wd where
 h:Heap
 own:List Addr
 prot:List Addr
 ads:List Addr
def Wd.st(w:Wd)(a:Addr):Prop:=a ∉ w.own∧a ∉ w.prot∧a ∉ w.ads
mutual
noncomputable def DR(w:Wd):D→Value→Prop
 | .none,v=>v=.none
 | .bool b,v=>v=.bool b
 | .int i,v=>∃ t,v=.int i t
 | .str x,v=>∃ t,v=.str x t
 | .tup xs,v=>∃ a vs,v=.ref a∧w.h.IsTuple a vs∧w.st a∧DRs w xs vs.toList
noncomputable def DRs(w:Wd):List D→List Value→Prop
 | [],[]=>True
 | x::xs,v::vs=>DR w x v∧DRs w xs vs
 | _,_=>False
end
def IsL(h:Heap)(a:Addr)(vs:Array Value):Prop:=∃ n,h.get? a=some { cls:=.type "list",data:=.seq vs n }
theorem IsL.list{h:Heap}{a:Addr}{vs:Array Value}:IsL h a vs→h.IsList a vs:=fun ⟨n,e⟩=>⟨_,e,rfl,n,rfl⟩
theorem IsL_get{h h':Heap}{a vs}(x:IsL h a vs)(k:∀ o,h.get? a=some o→h'.get? a=some o):IsL h' a vs:=
 let ⟨n,e⟩:=x;⟨n,k _ e⟩
noncomputable def hdrM(b:Addr):Str→Option Value:=fun y=>if y=("_headers":Str) then some (.ref b) else none
def HdrOf(C:Addr)(w:Wd)(a b:Addr):Prop:=
 ∃ o d,w.h.get? a=some o∧o.cls=.ref C∧o.dict=some d∧(∀ c,o.data≠.cls c)∧w.st a∧d≠a∧w.h.Ns1 d (hdrM b)∧w.st d
theorem HdrOf.inst{C:Addr}{w:Wd}{a b:Addr}(x:HdrOf C w a b):w.h.Inst a C (hdrM b):=
 let ⟨o,d,e1,e2,e3,e4,_,e6,e7,_⟩:=x;⟨o,e1,e2,e4,.inr ⟨d,e3,e6,e7⟩⟩
def DictR(G:Gl)(w:Wd)(kvs:List (Str × D))(a:Addr):Prop:=
 ∃ kvs',w.h.DictOf (strKind G.p G.w) a kvs'∧kvs'.map (·.1)=kvs.map (·.1)∧DRs w (kvs.map (·.2)) (kvs'.map (·.2))
mutual
noncomputable def VR(G:Gl)(w:Wd):V→Value→Prop
 | .d x,v=>DR w x v
 | .lst xs,v=>∃ a vs,v=.ref a∧IsL w.h a vs∧w.st a∧DRs w xs vs.toList
 | .dct kvs,v=>∃ a,v=.ref a∧DictR G w kvs a∧w.st a
 | .hdr xs,v=>∃ a b vs,v=.ref a∧HdrOf G.cls w a b∧IsL w.h b vs∧w.st b∧DRs w xs vs.toList
 | .ref k,v=>∃ a,v=.ref a∧w.ads[k]?=some a
 | .hd k,v=>∃ a b,v=.ref a∧HdrOf G.cls w a b∧w.ads[k]?=some b
 | .tup xs,v=>∃ a vs,v=.ref a∧w.h.IsTuple a vs∧w.st a∧VRs G w xs vs.toList
noncomputable def VRs(G:Gl)(w:Wd):List V→List Value→Prop
 | [],[]=>True
 | x::xs,v::vs=>VR G w x v∧VRs G w xs vs
 | _,_=>False
end
noncomputable def OR(G:Gl)(w:Wd):O→Addr→Prop
 | .list xs,a=>∃ vs,IsL w.h a vs∧DRs w xs vs.toList
 | .dict kvs,a=>DictR G w kvs a
noncomputable def ORs(G:Gl)(w:Wd):List O→List Addr→Prop
 | [],[]=>True
 | x::xs,a::as=>OR G w x a∧ORs G w xs as
 | _,_=>False
structure PerD (w w':Wd):Prop where
 st:∀ b o,w.h.get? b=some o→w.st b→w'.h.get? b=some o∧w'.st b
structure Per (w w':Wd):Prop extends PerD w w' where
 ref:∀ (k:Nat) (a:Addr),w.ads[k]?=some a→w'.ads[k]?=some a
theorem IsTuple_get{h h':Heap}{a vs}(x:h.IsTuple a vs)(k:∀ o,h.get? a=some o→h'.get? a=some o):h'.IsTuple a vs:=
 let ⟨o,ho,r⟩:=x;⟨o,k o ho,r⟩
theorem Ns_get{h h':Heap}{a m}(x:h.Ns a m)(k:∀ o,h.get? a=some o→h'.get? a=some o):h'.Ns a m:=
 let ⟨o,es,ep,ho,r⟩:=x;⟨o,es,ep,k o ho,r⟩
mutual
theorem DR.perD{w w':Wd}(P:PerD w w'):∀ {x:D} {v:Value},DR w x v→DR w' x v
 | .none,_,h=>h
 | .bool _,_,h=>h
 | .int _,_,h=>h
 | .str _,_,h=>h
 | .tup xs,v,⟨a,vs,e,ht,hs,hd⟩=>⟨a,vs,e,IsTuple_get ht fun o q=>(P.st a o q hs).1,
   (let ⟨o,ho,_⟩:=ht;(P.st a o ho hs).2),DRs.perD P hd⟩
theorem DRs.perD{w w':Wd}(P:PerD w w'):∀ {xs:List D} {vs:List Value},DRs w xs vs→DRs w' xs vs
 | [],[],_=>trivial
 | [],_::_,h=>h.elim
 | _::_,[],h=>h.elim
 | x::xs,v::vs,⟨a,b⟩=>⟨DR.perD P a,DRs.perD P b⟩
end
theorem DR.per{w w':Wd}(P:Per w w'){x:D}{v:Value}(h:DR w x v):DR w' x v:=h.perD P.toPerD
theorem DRs.per{w w':Wd}(P:Per w w'){x:List D}{v:List Value}(h:DRs w x v):DRs w' x v:=h.perD P.toPerD
theorem HdrOf.perD{C:Addr}{w w':Wd}(P:PerD w w'){a b:Addr}(x:HdrOf C w a b):HdrOf C w' a b:=by
 obtain⟨o,d,e1,e2,e3,e4,e5,e6,e7,e8⟩:=x
 obtain⟨od,es,ep,hd,r⟩:=id e7
 exact⟨o,d,(P.st a o e1 e5).1,e2,e3,e4,(P.st a o e1 e5).2,e6,⟨od,es,ep,(P.st d od hd e8).1,r⟩,(P.st d od hd e8).2⟩
theorem DictOf_get{G:Gl}{h h':Heap}{a kvs}(x:h.DictOf (strKind G.p G.w) a kvs)(k:∀ o,h.get? a=some o→h'.get? a=some o):h'.DictOf (strKind G.p G.w) a kvs:=
 let ⟨o,es,ep,ho,r⟩:=x;⟨o,es,ep,k o ho,r⟩
theorem DictR.atD{G:Gl}{w w':Wd}(P:PerD w w'){a kvs}(x:DictR G w kvs a)(k:∀ o,w.h.get? a=some o→w'.h.get? a=some o):DictR G w' kvs a:=
 let ⟨kvs',h1,h2,h3⟩:=x;⟨kvs',DictOf_get h1 k,h2,h3.perD P⟩
theorem DictR.obj{G:Gl}{w:Wd}{a kvs}(x:DictR G w kvs a):∃ o,w.h.get? a=some o:=
 let ⟨_,⟨o,_,_,ho,_⟩,_⟩:=x;⟨o,ho⟩
mutual
noncomputable def okV(ok:Nat→Bool):V→Bool
 | .ref k=>ok k
 | .hd k=>ok k
 | .tup vs=>okVs ok vs
 | _=>true
noncomputable def okVs(ok:Nat→Bool):List V→Bool
 | []=>true
 | v::vs=>okV ok v&&okVs ok vs
end
theorem andB{a b:Bool}(h:(a&&b)=true):a=true∧b=true:=by rwa [Bool.and_eq_true] at h
mutual
theorem VR.mv{G:Gl}{w w':Wd}(P:PerD w w'){ok:Nat→Bool}(hr:∀ k a,ok k=true→w.ads[k]?=some a→w'.ads[k]?=some a):∀ {v:V} {val:Value},VR G w v val→okV ok v=true→VR G w' v val
 | .d _,_,h,_=>DR.perD P h
 | .lst xs,v,⟨a,vs,e,ht,hs,hd⟩,_=>⟨a,vs,e,IsL_get ht fun o q=>(P.st a o q hs).1,(let ⟨_,ho⟩:=ht;(P.st a _ ho hs).2),hd.perD P⟩
 | .dct kvs,v,⟨a,e,hd,hs⟩,_=>⟨a,e,hd.atD P fun o q=>(P.st a o q hs).1,(let ⟨o,ho⟩:=hd.obj;(P.st a o ho hs).2)⟩
 | .hdr xs,v,⟨a,b,vs,e,hh,ht,hs,hd⟩,_=>⟨a,b,vs,e,hh.perD P,IsL_get ht fun o q=>(P.st b o q hs).1,(let ⟨_,ho⟩:=ht;(P.st b _ ho hs).2),hd.perD P⟩
 | .ref k,v,⟨a,e,h⟩,hb=>⟨a,e,hr k a hb h⟩
 | .hd k,v,⟨a,b,e,hh,h⟩,hb=>⟨a,b,e,hh.perD P,hr k b hb h⟩
 | .tup xs,v,⟨a,vs,e,ht,hs,hd⟩,hb=>⟨a,vs,e,IsTuple_get ht fun o q=>(P.st a o q hs).1,(let ⟨o,ho,_⟩:=ht;(P.st a o ho hs).2),VRs.mv P hr hd hb⟩
theorem VRs.mv{G:Gl}{w w':Wd}(P:PerD w w'){ok:Nat→Bool}(hr:∀ k a,ok k=true→w.ads[k]?=some a→w'.ads[k]?=some a):∀ {vs:List V} {vals:List Value},VRs G w vs vals→okVs ok vs=true→VRs G w' vs vals
 | [],[],_,_=>trivial
 | [],_::_,h,_=>h.elim
 | _::_,[],h,_=>h.elim
 | x::xs,v::vs,h,hb=>have hb:=andB hb;⟨VR.mv P hr h.1 hb.1,VRs.mv P hr h.2 hb.2⟩
end
mutual
theorem okV_all{ok ok':Nat→Bool}(h:∀ k,ok k=true→ok' k=true):∀ {v:V},okV ok v=true→okV ok' v=true
 | .d _,_=>rfl
 | .lst _,_=>rfl
 | .dct _,_=>rfl
 | .hdr _,_=>rfl
 | .ref k,hb=>h k hb
 | .hd k,hb=>h k hb
 | .tup xs,hb=>okVs_all h hb
theorem okVs_all{ok ok':Nat→Bool}(h:∀ k,ok k=true→ok' k=true):∀ {vs:List V},okVs ok vs=true→okVs ok' vs=true
 | [],_=>rfl
 | v::vs,hb=>have hb:=andB hb;Bool.and_eq_true_iff.mpr ⟨okV_all h hb.1,okVs_all h hb.2⟩
end
mutual
theorem VR.ok{G:Gl}{w:Wd}{ok:Nat→Bool}(h:∀ k a,w.ads[k]?=some a→ok k=true):∀ {v:V} {val:Value},VR G w v val→okV ok v=true
 | .d _,_,_=>rfl
 | .lst _,_,_=>rfl
 | .dct _,_,_=>rfl
 | .hdr _,_,_=>rfl
 | .ref k,_,⟨a,_,e⟩=>h k a e
 | .hd k,_,⟨_,a,_,_,e⟩=>h k a e
 | .tup xs,_,⟨_,_,_,_,_,hd⟩=>VRs.ok h hd
theorem VRs.ok{G:Gl}{w:Wd}{ok:Nat→Bool}(h:∀ k a,w.ads[k]?=some a→ok k=true):∀ {vs:List V} {vals:List Value},VRs G w vs vals→okVs ok vs=true
 | [],_,_=>rfl
 | _::_,[],h'=>h'.elim
 | x::xs,v::vs,h'=>Bool.and_eq_true_iff.mpr ⟨VR.ok h h'.1,VRs.ok h h'.2⟩
end
noncomputable def below(n:Nat)(v:V):Bool:=okV (fun k=>decide (k<n)) v
noncomputable def noRef(j:Nat)(v:V):Bool:=okV (fun k=>k != j) v
theorem VR.per{G:Gl}{w w':Wd}(P:Per w w'){x:V}{v:Value}(h:VR G w x v):VR G w' x v:=h.mv P.toPerD (fun k a _ e=>P.ref k a e) (h.ok (ok:=fun _=>true) fun _ _ _=>rfl)
theorem VRs.per{G:Gl}{w w':Wd}(P:Per w w'){x:List V}{v:List Value}(h:VRs G w x v):VRs G w' x v:=h.mv P.toPerD (fun k a _ e=>P.ref k a e) (h.ok (ok:=fun _=>true) fun _ _ _=>rfl)
theorem VR.below{G:Gl}{w:Wd}{v:V}{val:Value}{n:Nat}(r:VR G w v val)(h:w.ads.length≤n):below n v=true:=r.ok fun k a e=>decide_eq_true (Nat.lt_of_lt_of_le (List.getElem?_eq_some_iff.mp e).1 h)
theorem below_mono{n m:Nat}(h:n≤m){v:V}(hb:below n v=true):below m v=true:=okV_all (fun k q=>decide_eq_true (Nat.lt_of_lt_of_le (of_decide_eq_true q) h)) hb
theorem VR.mvB{G:Gl}{w w':Wd}(P:PerD w w'){n:Nat}{v:V}{val:Value}(r:VR G w v val)(hb:UK.below n v=true)(hr:∀ k a,k<n→w.ads[k]?=some a→w'.ads[k]?=some a):VR G w' v val:=
 r.mv P (fun k a q=>hr k a (of_decide_eq_true q)) hb
structure Stp (w w':Wd):Prop where
 own:w'.own=w.own
 prot:w'.prot=w.prot
 pre:w.ads <+: w'.ads
 keep:∀ b o,w.h.get? b=some o→b ∉ w.ads→w'.h.get? b=some o∧b ∉ w'.ads
theorem Stp.refl(w:Wd):Stp w w:=⟨rfl,rfl,List.prefix_rfl,fun _ _ e n=>⟨e,n⟩⟩
theorem Stp.trans{a b c:Wd}(x:Stp a b)(y:Stp b c):Stp a c:=
 ⟨y.own.trans x.own,y.prot.trans x.prot,x.pre.trans y.pre,fun q o e n=>let ⟨e',n'⟩:=x.keep q o e n;y.keep q o e' n'⟩
theorem pre_get{l l':List Addr}(h:l <+: l'){k:Nat}{a:Addr}(e:l[k]?=some a):l'[k]?=some a:=by
 obtain⟨t,rfl⟩:=h
 rw[List.getElem?_append_left]
 ·exact e
 ·exact(List.getElem?_eq_some_iff.mp e).1
theorem Stp.per{w w':Wd}(x:Stp w w'):Per w w':=
 { st:=fun b o e s=>⟨(x.keep b o e s.2.2).1,by rw[Wd.st,x.own,x.prot];exact⟨s.1,s.2.1,(x.keep b o e s.2.2).2⟩⟩,ref:=fun k a e=>pre_get x.pre e }
end
section
set_option genInjectivity false
set_option genSizeOf false
inductive Op2 where
 | add | sub | mul | fdiv | mod
inductive Cm where
 | eq | ne | lt | le | gt | ge | is | isnot | inn | notin
inductive Bi where
 | len | chr | ord | sum | abs | int | str | min
 deriving DecidableEq
inductive Me where
 | lower | upper | find | split | startswith | endswith | index | count | join | append | insert | extend
inductive IK where
 | e | range
inductive T where
 | name (x:Nat) | tup (ts:List T)
inductive E where
 | lit (c:D) | name (x:Nat) | dots
 | bin (op:Op2) (a b:E) | neg (a:E) | not (a:E)
 | and (a b:E) | or (a b:E) | ite (c a b:E)
 | cmp (a:E) (op:Cm) (b:E) | cmp2 (a:E) (op:Cm) (b:E) (op':Cm) (c:E)
 | tuple (as:List E) | list (as:List E)
 | index (a i:E) | slice (a lo hi st:E)
 | comp (elt:E) (t:T) (k:IK) (its:List E) (conds:List E) (caps:List Nat)
 | call (f:Nat) (as:List E) | bi (b:Bi) (as:List E) | meth (m:Me) (o:E) (as:List E)
 | hm (f:Nat) (o:E) (as:List E) | newH | attrH (o:E) | conv (nm:Bool) (o e:E)
 | b3get (e:E) | inB1 (e:E)
inductive S where
 | assign (t:T) (e:E)
 | aug (x:Nat) (op:Op2) (e:E)
 | expr (e:E) | ret (e:E)
 | ite (c:E) (a b:List S)
 | while (c:E) (b:List S)
 | for (t:T) (k:IK) (its:List E) (b:List S)
 | assert (c:E)
 | delx (x:Nat) (i:E)            -- del x[i],a list
 | stuck
noncomputable abbrev Loc:=List (Nat × V)
noncomputable abbrev Led:=List O
noncomputable def get:Loc→Nat→Option V
 | [],_=>none
 | (y,v)::r,x=>if y=x then some v else get r x
noncomputable def put:Loc→Nat→V→Loc
 | [],x,v=>[(x,v)]
 | (y,u)::r,x,v=>if y=x then (y,v)::r else (y,u)::put r x v
noncomputable def gd(p:Prop)[Decidable p]{α:Type}(x:Option α):Option α:=if p then x else none
noncomputable def V.str?:V→Option Str
 | .d (.str x)=>some x
 | _=>none
noncomputable def V.int?:V→Option Int
 | .d (.int x)=>some x
 | _=>none
noncomputable def D.str?:D→Option Str
 | .str x=>some x
 | _=>.none
noncomputable def D.int?:D→Option Int
 | .int x=>some x
 | _=>.none
noncomputable def D.bool?:D→Option Bool
 | .bool x=>some x
 | _=>.none
noncomputable def O.list?:O→Option (List D)
 | .list x=>some x
 | _=>none
noncomputable def one?{α:Type}:List α→Option α
 | [x]=>some x
 | _=>none
noncomputable def two?{α:Type}:List α→Option (α × α)
 | [x,y]=>some (x,y)
 | _=>none
noncomputable def three?{α:Type}:List α→Option (α × α × α)
 | [x,y,z]=>some (x,y,z)
 | _=>none
noncomputable def zero?{α:Type}:List α→Option Unit
 | []=>some ()
 | _=>none
noncomputable def ofV:V→Option D
 | .d x=>some x
 | _=>none
noncomputable def atEq(a b:D):Option Bool:=match a with
 | .none=>match b with
  | .none=>some true
  | .str _=>some false
  | _=>none
 | .bool a=>b.bool?.map (a==·)
 | .int a=>b.int?.map (a==·)
 | .str a=>match b with
  | .none=>some false
  | .str b=>some (a==b)
  | _=>none
 | .tup _=>none
noncomputable def pairsEq(f:D→D→Option Bool):List D→List D→Option Bool
 | [],ys=>match ys with
  | []=>some true
  | _::_=>some false
 | x::xs,ys=>match ys with
  | []=>some false
  | y::ys=>(f x y).bind fun a=>(pairsEq f xs ys).map (a&&·)
noncomputable def dEq(a b:D):Option Bool:=match a with
 | .tup xs=>match b with
  | .tup ys=>pairsEq atEq xs ys
  | _=>none
 | a=>atEq a b
noncomputable def dEqs:List D→List D→Option Bool:=pairsEq dEq
noncomputable def dMem(x:D):List D→Option Bool
 | []=>some false
 | y::ys=>(dEq y x).bind fun a=>(dMem x ys).map (a || ·)
noncomputable def Led.list(led:Led)(v:V):Option (List D):=
 match v with
 | .lst xs=>some xs
 | .ref k=>(led[k]?).bind O.list?
 | _=>none
noncomputable def cap:Nat:=4096
noncomputable def truD:D→Option Bool
 | .none=>some false
 | .bool b=>some b
 | .int i=>some (i != 0)
 | .str x=>gd (x.length≤cap) (some (x.length != 0))
 | .tup _=>none
noncomputable def tru(led:Led)(v:V):Option Bool:=(ofV v).bind truD
noncomputable def addD:D→D→Option D
 | .int a,y=>y.int?.map fun b=>.int (a+b)
 | .str a,y=>y.str?.bind fun b=>gd (a.length+b.length≤cap) (some (.str (a++b)))
 | _,_=>none
noncomputable def subD(a b:Int):Option D:=some (.int (a-b))
noncomputable def mulD(a b:Int):Option D:=gd (a.natAbs<2 ^ 32∨b.natAbs<2 ^ 32) (some (.int (a*b)))
noncomputable def fdivD(a b:Int):Option D:=gd (0<b∧b<2 ^ 30) (some (.int (a.fdiv b)))
noncomputable def modD(a b:Int):Option D:=gd (0<b) (some (.int (a.fmod b)))
noncomputable def ints2(f:Int→Int→Option D)(x y:D):Option D:=x.int?.bind fun a=>y.int?.bind fun b=>f a b
noncomputable def bin2(op:Op2)(a b:D):Option D:=match op with
 | .add=>addD a b
 | .sub=>ints2 subD a b
 | .mul=>ints2 mulD a b
 | .fdiv=>ints2 fdivD a b
 | .mod=>ints2 modD a b
noncomputable def catL(led:Led)(a b:V):Option (V × Led):=(led.list a).bind fun xs=>(led.list b).bind fun ys=>gd (xs.length+ys.length≤cap) (some (.ref led.length,led++[.list (xs++ys)]))
noncomputable def evBin(led:Led)(op:Op2)(a b:V):Option (V × Led):=match a with
 | .d x=>(ofV b).bind fun y=>(bin2 op x y).map fun z=>(.d z,led)
 | a=>match op with
  | .add=>catL led a b
  | _=>none
noncomputable def ltD:D→D→Option Bool
 | .int a,y=>y.int?.map fun b=>decide (a<b)
 | .str a,y=>y.str?.map fun b=>decide (a.cps.toList<b.cps.toList)
 | _,_=>none
noncomputable def leD:D→D→Option Bool
 | .int a,y=>y.int?.map fun b=>decide (a≤b)
 | .str a,y=>y.str?.map fun b=>!decide (b.cps.toList<a.cps.toList)
 | _,_=>none
noncomputable def gtD(x y:D):Option Bool:=x.int?.bind fun a=>y.int?.map fun b=>decide (b<a)
noncomputable def geD(x y:D):Option Bool:=x.int?.bind fun a=>y.int?.map fun b=>decide (b≤a)
noncomputable def inD(x y:D):Option Bool:=x.str?.bind fun a=>y.str?.map fun b=>Txt.contains b a
noncomputable def cmpD(op:Cm)(a b:D):Option Bool:=match op with
 | .eq=>atEq a b
 | .ne=>(atEq a b).map (!·)
 | .lt=>ltD a b
 | .le=>leD a b
 | .gt=>gtD a b
 | .ge=>geD a b
 | _=>none
noncomputable def isD(a:V)(b:D):Option Bool:=
 match b with
 | .none=>match a with
  | .d .none=>some true
  | _=>some false
 | .bool b=>match a with
  | .d (.bool c)=>some (b==c)
  | _=>some false
 | _=>none
noncomputable def evIn(led:Led)(a b:V):Option Bool:=(ofV a).bind fun x=>match b with
 | .d y=>inD x y
 | b=>(led.list b).bind (dMem x)
noncomputable def eqL(led:Led)(a b:V):Option Bool:=(led.list a).bind fun xs=>(led.list b).bind fun ys=>dEqs xs ys
noncomputable def evEq(led:Led)(a b:V):Option Bool:=match a with
 | .d x=>(ofV b).bind fun y=>atEq x y
 | a=>eqL led a b
noncomputable def evRel(op:Cm)(a b:V):Option Bool:=(ofV a).bind fun x=>(ofV b).bind fun y=>cmpD op x y
noncomputable def evCmp(led:Led)(op:Cm)(a b:V):Option Bool:=
 match op with
 | .is=>(ofV b).bind fun y=>isD a y
 | .isnot=>(ofV b).bind fun y=>(isD a y).map (!·)
 | .inn=>evIn led a b
 | .notin=>(evIn led a b).map (!·)
 | .eq=>evEq led a b
 | .ne=>(evEq led a b).map (!·)
 | op=>evRel op a b
noncomputable def allD:List V→Option (List D)
 | []=>some []
 | v::vs=>(ofV v).bind fun x=>(allD vs).map (x::·)
noncomputable def chars(x:Str):List D:=x.cps.toList.map fun c=>.str ⟨#[c]⟩
noncomputable def atI(xs:List D)(i:Int):Option V:=((seqIndex? i xs.length).bind (xs[·]?)).map .d
noncomputable def idxD(i:Int):D→Option V
 | .str x=>(Txt.charAt x i).map fun c=>.d (.str ⟨#[c]⟩)
 | .tup xs=>atI xs i
 | _=>none
noncomputable def evIndex(led:Led)(a i:V):Option V:=(ofV i).bind fun
 | .int i=>gd (-(2 ^ 62)<i∧i<2 ^ 62) (match a with
   | .d y=>idxD i y
   | a=>(led.list a).bind fun xs=>atI xs i)
 | _=>none
noncomputable def endOf(v:V):Option (Option Int):=(ofV v).bind fun
 | .none=>some none
 | .int i=>gd (-(2 ^ 62)<i∧i<2 ^ 62) (some (some i))
 | _=>none
noncomputable def pickD(xs:List D)(lo hi st:Option Int):List D:=
 (sliceRange (sliceBounds lo hi st xs.length).1 (sliceBounds lo hi st xs.length).2.1 (sliceBounds lo hi st xs.length).2.2).filterMap (xs[·]?)
noncomputable def slcL(led:Led)(a:V)(lo hi st:Option Int):Option (V × Led):=(led.list a).bind fun xs=>gd (xs.length≤cap) (some (.ref led.length,led++[.list (pickD xs lo hi st)]))
noncomputable def evSlice(led:Led)(a lo hi st:V):Option (V × Led):=(ofV st).bind fun
 | .none=>(endOf lo).bind fun l=>(endOf hi).bind fun h=>match a with
  | .d y=>y.str?.bind fun x=>gd (x.length≤cap) (some (.d (.str (Txt.slice x l h)),led))
  | a=>slcL led a l h none
 | .int s=>gd (s = -1) ((endOf lo).bind fun l=>(endOf hi).bind fun h=>gd (l=none∧h=none) (slcL led a none none (some (-1))))
 | _=>none
noncomputable def intsOf:List D→Option (List Int)
 | []=>some []
 | x::r=>x.int?.bind fun i=>(intsOf r).map (i::·)
noncomputable def strsOf:List D→Option (List Str)
 | []=>some []
 | x::r=>x.str?.bind fun i=>(strsOf r).map (i::·)
noncomputable def minZ(x:Int):List Int→Int
 | []=>x
 | y::ys=>minZ (if y<x then y else x) ys
noncomputable def itemsD:D→Option (List D)
 | .str x=>some (chars x)
 | .tup xs=>some xs
 | _=>none
noncomputable def itemsOf(led:Led):V→Option (List D)
 | .d y=>itemsD y
 | v=>led.list v
noncomputable def digit(x:Str):Option Int:=match x.cps.toList with
 | [c]=>gd (48≤c∧c<58) (some ((c:Int)-48))
 | _=>none
noncomputable def lenOf(led:Led)(v:V):Option Nat:=match v with
 | .d y=>y.str?.map (·.length)
 | v=>(led.list v).map (·.length)
noncomputable def chr1(x:Str):Option Nat:=match x.cps.toList with
 | [c]=>some c
 | _=>none
noncomputable def intsL(led:Led)(v:V):Option (List Int):=(led.list v).bind intsOf
noncomputable def bi1(led:Led)(b:Bi)(v:V):Option (V × Led):=match b with
 | .len=>(lenOf led v).bind fun n=>gd (n≤cap) (some (.d (.int n),led))
 | .chr=>v.int?.bind fun i=>gd (0≤i∧i≤0x10FFFF) (some (.d (.str ⟨#[i.toNat]⟩),led))
 | .ord=>v.str?.bind fun x=>(chr1 x).map fun (c:Nat)=>(.d (.int c),led)
 | .sum=>(intsL led v).map fun xs=>(.d (.int xs.sum),led)
 | .abs=>v.int?.map fun i=>(.d (.int i.natAbs),led)
 | .int=>v.str?.bind fun x=>(digit x).map fun i=>(.d (.int i),led)
 | .str=>v.int?.bind fun i=>gd (i.natAbs<1000000) (some (.d (.str (toString i)),led))
 | .min=>(intsL led v).bind fun
  | x::xs=>some (.d (.int (minZ x xs)),led)
  | []=>none
noncomputable def evBi(led:Led)(b:Bi)(as:List V):Option (V × Led):=(one? as).bind (bi1 led b)
noncomputable def isStrV(v:V):Bool:=v.str?.isSome
noncomputable def V.ref?:V→Option Nat
 | .ref k=>some k
 | _=>none
noncomputable def ledL(led:Led)(v:V):Option (Nat × List D):=v.ref?.bind fun k=>(led[k]?).bind fun o=>o.list?.map fun xs=>(k,xs)
noncomputable def isListV(led:Led)(v:V):Bool:=(ledL led v).isSome
noncomputable def methAt(led:Led)(m:Me)(o:V):Bool:=
 match m with
 | .append=>isListV led o
 | .insert=>isListV led o
 | .extend=>isListV led o
 | _=>isStrV o
noncomputable def m_case(f:Str→Str)(led:Led)(x:Str)(as:List V):Option (V × Led):=(zero? as).bind fun _=>gd ((f x).length≤cap) (some (.d (.str (f x)),led))
noncomputable def m_find(led:Led)(x:Str)(as:List V):Option (V × Led):=(three? as).bind fun p=>p.1.str?.bind fun y=>p.2.1.int?.bind fun lo=>p.2.2.int?.bind fun hi=>
 gd (0≤lo∧0≤hi∧hi≤x.length∧x.length≤cap) (some (.d (.int (match Builtin.Str.occurrences x y lo.toNat hi.toNat 1 with | i::_=>(i:Int) | []=>-1)),led))
noncomputable def m_text(g:Str→Str→Option D)(led:Led)(x:Str)(as:List V):Option (V × Led):=(one? as).bind fun v=>v.str?.bind fun y=>(g x y).map fun d=>(.d d,led)
noncomputable def m_join(led:Led)(x:Str)(as:List V):Option (V × Led):=(one? as).bind fun v=>((led.list v).bind strsOf).bind fun ys=>gd ((ys.map (·.length)).sum+ys.length*x.length≤cap) (some (.d (.str (Txt.join x ys)),led))
noncomputable def m_split(led:Led)(x:Str)(as:List V):Option (V × Led):=(one? as).bind fun v=>v.str?.bind fun y=>
 gd (0<y.length∧y.length≤x.length∧Builtin.Str.strKind y≤Builtin.Str.strKind x∧x.length≤cap)
  (gd ((Builtin.Str.occurrences x y 0 x.length (x.length+1)).isEmpty=false)
   (gd ((Builtin.Str.partsBetween x (Builtin.Str.occurrences x y 0 x.length (x.length+1)) y.length).length≤cap)
    (some (.ref led.length,led++[.list ((Builtin.Str.partsBetween x (Builtin.Str.occurrences x y 0 x.length (x.length+1)) y.length).map .str)]))))
noncomputable def m_append(led:Led)(k:Nat)(xs:List D)(as:List V):Option (V × Led):=(one? as).bind fun v=>(ofV v).bind fun x=>gd (xs.length<cap) (some (.d .none,led.set k (.list (xs++[x]))))
noncomputable def m_insert(led:Led)(k:Nat)(xs:List D)(as:List V):Option (V × Led):=(two? as).bind fun p=>p.1.int?.bind fun i=>(ofV p.2).bind fun x=>
 gd (xs.length<cap∧0≤i∧i≤xs.length) (some (.d .none,led.set k (.list (xs.take i.toNat++x::xs.drop i.toNat))))
noncomputable def m_extend(led:Led)(k:Nat)(xs:List D)(as:List V):Option (V × Led):=(one? as).bind fun v=>(led.list v).bind fun ys=>gd (xs.length+ys.length<cap) (some (.d .none,led.set k (.list (xs++ys))))
noncomputable def mTxt(m:Me):Led→Str→List V→Option (V × Led):=match m with
 | .lower=>m_case Txt.lower
 | .upper=>m_case Txt.upper
 | .find=>m_find
 | .split=>m_split
 | .startswith=>m_text fun x y=>some (.bool (Txt.startswith x y))
 | .endswith=>m_text fun x y=>some (.bool (Txt.endswith x y))
 | .index=>m_text fun x y=>gd (0≤Txt.find x y) (some (.int (Txt.find x y)))
 | .count=>m_text fun x y=>some (.int (Txt.count x y))
 | .join=>m_join
 | _=>fun _ _ _=>none
noncomputable def mLst(m:Me):Led→Nat→List D→List V→Option (V × Led):=match m with
 | .append=>m_append
 | .insert=>m_insert
 | .extend=>m_extend
 | _=>fun _ _ _ _=>none
noncomputable def evMeth(led:Led)(m:Me)(o:V)(as:List V):Option (V × Led):=match m with
 | .append=>(ledL led o).bind fun p=>m_append led p.1 p.2 as
 | .insert=>(ledL led o).bind fun p=>m_insert led p.1 p.2 as
 | .extend=>(ledL led o).bind fun p=>m_extend led p.1 p.2 as
 | m=>o.str?.bind fun x=>mTxt m led x as
end
section
set_option genInjectivity false
set_option genSizeOf false
structure Cx where
 F:Nat→List V→Led→Option (V × Led)
 conv:Bool→Str→Bool
 b3:Int→Option Str
 b1:Int→Bool
 N:Nat
inductive Src where
 | fz (xs:List D) | live (k i:Nat)
noncomputable def fzN:List D→Option (D × Src)
 | []=>none
 | x::xs=>some (x,.fz xs)
noncomputable def isHdr:V→Bool
 | .hd _=>true
 | .hdr _=>true
 | _=>false
noncomputable def hdrL:V→Option V
 | .hd k=>some (.ref k)
 | .hdr xs=>some (.lst xs)
 | _=>none
noncomputable def Src.next(led:Led):Src→Option (Option (D × Src))
 | .fz xs=>some (fzN xs)
 | .live k i=>((led[k]?).bind O.list?).map fun xs=>(xs[i]?).map fun x=>(x,.live k (i+1))
noncomputable def rng(lo hi st:Int):Option (List D):=
 if st≠0∧Builtin.Range.small lo hi st=true∧Builtin.divisionGoesByPylong (hi-lo) st=false then
  some ((List.range (Builtin.Range.rangeSize lo hi st).toNat).map fun (i:Nat)=>D.int (lo+(i:Int)*st)) else none
noncomputable def srcE(n:Nat)(led:Led)(vs:List V):Option Src:=(one? vs).bind fun v=>match v with
 | .ref k=>if k<n then (ledL led v).map fun p=>.live k 0 else (led.list v).map .fz
 | v=>(itemsOf led v).map .fz
noncomputable def srcR(vs:List V):Option Src:=match vs with
 | [a]=>a.int?.bind fun hi=>(rng 0 hi 1).map .fz
 | [a,b]=>a.int?.bind fun lo=>b.int?.bind fun hi=>(rng lo hi 1).map .fz
 | [a,b,c]=>a.int?.bind fun lo=>b.int?.bind fun hi=>c.int?.bind fun st=>(rng lo hi st).map .fz
 | _=>none
noncomputable def srcOf(n:Nat)(led:Led):IK→List V→Option Src
 | .e,vs=>srcE n led vs
 | .range,vs=>srcR vs
noncomputable def D.tup?:D→Option (List D)
 | .tup x=>some x
 | _=>.none
mutual
noncomputable def bindD:T→D→Loc→Option Loc
 | .name x,d,loc=>some (put loc x (.d d))
 | .tup ts,d,loc=>d.tup?.bind fun ds=>bindDs ts ds loc
noncomputable def bindDs:List T→List D→Loc→Option Loc
 | [],ds,loc=>(zero? ds).map fun _=>loc
 | t::ts,ds,loc=>match ds with
  | d::ds=>(bindD t d loc).bind fun loc'=>bindDs ts ds loc'
  | []=>none
end
noncomputable def capt(caps:List Nat)(loc:Loc):Loc:=caps.filterMap fun x=>(get loc x).map fun v=>(x,v)
noncomputable def keepL(n:Nat)(y:Option D)(led':Led):Option Led:=match y with
 | none=>some (led'.take (n+1))
 | some y=>((led'[n]?).bind O.list?).bind fun ys=>gd (ys.length<cap) (some ((led'.take (n+1)).set n (.list (ys++[y]))))
noncomputable def compLoop(n:Nat)(turn:D→Led→Option (Option D × Led)):Nat→Src→Led→Option Led
 | 0,_,_=>none
 | N+1,src,led=>(src.next led).bind fun r=>match r with
  | none=>some led
  | some p=>(turn p.1 led).bind fun q=>(keepL n q.1 q.2).bind fun l=>compLoop n turn N p.2 l
mutual
noncomputable def evE(cx:Cx):E→Loc→Led→Option (V × Led)
 | .lit c,_,led=>some (.d c,led)
 | .name x,loc,led=>(get loc x).map fun v=>(v,led)
 | .dots,_,led=>some (.d (.str ⟨#[46,46,46]⟩),led)
 | .bin op a b,loc,led=>(evE cx a loc led).bind fun p=>(evE cx b loc p.2).bind fun q=>evBin q.2 op p.1 q.1
 | .neg a,loc,led=>(evE cx a loc led).bind fun p=>p.1.int?.map fun i=>(.d (.int (-i)),p.2)
 | .not a,loc,led=>(evE cx a loc led).bind fun p=>(tru p.2 p.1).map fun b=>(.d (.bool !b),p.2)
 | .and a b,loc,led=>(evE cx a loc led).bind fun p=>(tru p.2 p.1).bind fun t=>cond t (evE cx b loc p.2) (some p)
 | .or a b,loc,led=>(evE cx a loc led).bind fun p=>(tru p.2 p.1).bind fun t=>cond t (some p) (evE cx b loc p.2)
 | .ite c a b,loc,led=>(evE cx c loc led).bind fun p=>(tru p.2 p.1).bind fun t=>cond t (evE cx a loc p.2) (evE cx b loc p.2)
 | .cmp a op b,loc,led=>(evE cx a loc led).bind fun p=>(evE cx b loc p.2).bind fun q=>(evCmp q.2 op p.1 q.1).map fun r=>(.d (.bool r),q.2)
 | .cmp2 a op b op' c,loc,led=>(evE cx a loc led).bind fun p=>(evE cx b loc p.2).bind fun q=>(evCmp q.2 op p.1 q.1).bind fun t=>
   cond t ((evE cx c loc q.2).bind fun u=>(evCmp u.2 op' q.1 u.1).map fun r=>(.d (.bool r),u.2)) (some (.d (.bool false),q.2))
 | .tuple as,loc,led=>(evEs cx as loc led).map fun p=>match allD p.1 with
   | some ds=>(.d (.tup ds),p.2)
   | none=>(.tup p.1,p.2)
 | .list as,loc,led=>(evEs cx as loc led).bind fun p=>(allD p.1).map fun ds=>(.ref p.2.length,p.2++[.list ds])
 | .index a i,loc,led=>(evE cx a loc led).bind fun p=>(evE cx i loc p.2).bind fun q=>(evIndex q.2 p.1 q.1).map fun r=>(r,q.2)
 | .slice a lo hi st,loc,led=>(evE cx a loc led).bind fun p=>(evE cx lo loc p.2).bind fun l=>(evE cx hi loc l.2).bind fun h=>(evE cx st loc h.2).bind fun t=>evSlice t.2 p.1 l.1 h.1 t.1
 | .comp elt t k its conds caps,loc,led=>(evEs cx its loc led).bind fun p=>(srcOf p.2.length p.2 k p.1).bind fun src=>
   (compLoop p.2.length (fun d led=>(bindD t d (capt caps loc)).bind fun loc'=>(evConds cx conds loc' led).bind fun c=>
    cond c.1 ((evE cx elt loc' c.2).bind fun y=>(ofV y.1).map fun d=>(some d,y.2)) (some (none,c.2))) cx.N src (p.2++[.list []])).map fun l=>(.ref p.2.length,l)
 | .call f as,loc,led=>(evEs cx as loc led).bind fun p=>cx.F f p.1 p.2
 | .bi b as,loc,led=>(evEs cx as loc led).bind fun p=>evBi p.2 b p.1
 | .meth m o as,loc,led=>(evE cx o loc led).bind fun v=>gd (methAt v.2 m v.1=true) ((evEs cx as loc v.2).bind fun p=>evMeth p.2 m v.1 p.1)
 | .hm f o as,loc,led=>(evE cx o loc led).bind fun v=>(evEs cx as loc v.2).bind fun p=>gd (isHdr v.1=true) (cx.F f (v.1::p.1) p.2)
 | .newH,_,led=>some (.hd led.length,led++[.list []])
 | .attrH o,loc,led=>(evE cx o loc led).bind fun v=>(hdrL v.1).map fun x=>(x,v.2)
 | .conv nm o e,loc,led=>(evE cx o loc led).bind fun v=>(evE cx e loc v.2).bind fun q=>q.1.str?.bind fun x=>gd (isHdr v.1=true∧cx.conv nm x=true) (some (.d (.str x),q.2))
 | .b3get e,loc,led=>(evE cx e loc led).bind fun v=>v.1.int?.map fun c=>match cx.b3 c with
   | some x=>(.d (.str x),v.2)
   | none=>(.d .none,v.2)
 | .inB1 e,loc,led=>(evE cx e loc led).bind fun v=>v.1.int?.map fun c=>(.d (.bool (cx.b1 c)),v.2)
noncomputable def evEs(cx:Cx):List E→Loc→Led→Option (List V × Led)
 | [],_,led=>some ([],led)
 | e::es,loc,led=>(evE cx e loc led).bind fun p=>(evEs cx es loc p.2).map fun q=>(p.1::q.1,q.2)
noncomputable def evConds(cx:Cx):List E→Loc→Led→Option (Bool × Led)
 | [],_,led=>some (true,led)
 | e::es,loc,led=>(evE cx e loc led).bind fun p=>(tru p.2 p.1).bind fun t=>cond t (evConds cx es loc p.2) (some (false,p.2))
end
inductive Fl where
 | nx | ret (v:V)
noncomputable def O.frz:O→V
 | .list xs=>.lst xs
 | .dict xs=>.dct xs
noncomputable def freeze(lo:Nat)(full:Led)(v:V):Option (V × Nat):=match v with
 | .ref k=>gd (lo≤k) ((full[k]?).map fun o=>(o.frz,k+1))
 | .hd k=>gd (lo≤k) (((full[k]?).bind O.list?).map fun xs=>(.hdr xs,k+1))
 | .tup _=>none
 | v=>some (v,lo)
structure BS where
 lo:Nat
 loc:Loc
 base:Led
noncomputable def V.own?:V→Option Nat
 | .ref j=>some j
 | .hd j=>some j
 | _=>none
noncomputable def place(full:Led)(n₀:Nat)(x k:Nat)(v:Nat→V)(b:BS):Option BS:=
 gd (b.lo≤k) ((full[k]?).bind fun o=>match get b.loc x with
  | none=>some ⟨k+1,put b.loc x (v b.base.length),b.base++[o]⟩
  | some u=>u.own?.bind fun j=>gd (n₀≤j∧j<b.base.length∧b.loc.all (fun p=>p.1==x || noRef j p.2)=true) (some ⟨k+1,put b.loc x (v j),b.base.set j o⟩))
noncomputable def bindN(mu:List Nat)(n₀:Nat)(full:Led)(x:Nat)(v:V)(b:BS):Option BS:=
 cond (mu.contains x) (match v with
  | .ref k=>place full n₀ x k .ref b
  | .hd k=>place full n₀ x k .hd b
  | _=>none)
 ((freeze b.lo full v).map fun p=>⟨p.2,put b.loc x p.1,b.base⟩)
noncomputable def bindNs(mu:List Nat)(n₀:Nat)(full:Led):List Nat→List V→BS→Option BS
 | [],vs,b=>(zero? vs).map fun _=>b
 | x::xs,vs,b=>match vs with
  | v::vs=>gd (xs.contains x=false) ((bindN mu n₀ full x v b).bind fun b=>bindNs mu n₀ full xs vs b)
  | []=>none
noncomputable def nameOfT:T→Option Nat
 | .name x=>some x
 | _=>none
noncomputable def namesOfT:List T→Option (List Nat)
 | []=>some []
 | t::ts=>(nameOfT t).bind fun x=>(namesOfT ts).map (x::·)
noncomputable def itemsT:V→Option (List V)
 | .tup vs=>some vs
 | .d y=>y.tup?.map (·.map .d)
 | _=>none
noncomputable def bindV(mu:List Nat)(n₀:Nat)(full:Led)(t:T)(v:V)(b:BS):Option BS:=
 match t with
 | .name x=>bindN mu n₀ full x v b
 | .tup ts=>(namesOfT ts).bind fun xs=>(itemsT v).bind fun vs=>bindNs mu n₀ full xs vs b
noncomputable def trunc(m n:Nat)(loc:Loc)(led:Led):Option (Loc × Led):=
 gd ((loc.take m).all (fun p=>below n p.2)=true) (some (loc.take m,led.take n))
noncomputable abbrev Res:=Fl × Loc × Led
noncomputable def andThen(r:Res)(f:Loc→Led→Option Res):Option Res:=match r.1 with
 | .nx=>f r.2.1 r.2.2
 | .ret _=>some r
noncomputable def loopOn(m n:Nat)(next:Loc→Led→Option Res)(r:Res):Option Res:=andThen r fun loc led=>(trunc m n loc led).bind fun q=>next q.1 q.2
noncomputable def whileLoop(cond:Loc→Led→Option (Bool × Led))(body:Loc→Led→Option Res):Nat→Loc→Led→Option Res
 | 0,_,_=>none
 | N+1,loc,led=>(cond loc led).bind fun c=>bif c.1 then (body loc (c.2.take led.length)).bind (loopOn loc.length led.length (whileLoop cond body N)) else some (.nx,loc,c.2.take led.length)
noncomputable def forLoop(t:T)(body:Loc→Led→Option Res):Nat→Src→Loc→Led→Option Res
 | 0,_,_,_=>none
 | N+1,src,loc,led=>(src.next led).bind fun r=>match r with
  | none=>some (.nx,loc,led)
  | some p=>(bindD t p.1 loc).bind fun loc'=>(body loc' led).bind (loopOn loc.length led.length (forLoop t body N p.2))
noncomputable def endAt(i:Int)(n:Nat):Option Nat:=gd ((i=0∨i = -1)∧n≤cap) (seqIndex? i n)
mutual
noncomputable def evS(cx:Cx)(mu:List Nat)(n₀:Nat):S→Loc→Led→Option Res
 | .assign t e,loc,led=>(evE cx e loc led).bind fun p=>(bindV mu n₀ p.2 t p.1 ⟨led.length,loc,p.2.take led.length⟩).map fun b=>(.nx,b.loc,b.base)
 | .aug x op e,loc,led=>(get loc x).bind fun u=>u.int?.bind fun a=>(evE cx e loc led).bind fun p=>p.1.int?.bind fun b=>match op with
   | .add=>some (.nx,put loc x (.d (.int (a+b))),p.2.take led.length)
   | .sub=>some (.nx,put loc x (.d (.int (a-b))),p.2.take led.length)
   | _=>none
 | .expr e,loc,led=>(evE cx e loc led).map fun p=>(.nx,loc,p.2.take led.length)
 | .ret e,loc,led=>(evE cx e loc led).map fun p=>(.ret p.1,loc,p.2)
 | .ite c a b,loc,led=>(evE cx c loc led).bind fun p=>(tru p.2 p.1).bind fun t=>cond t (evSs cx mu n₀ a loc (p.2.take led.length)) (evSs cx mu n₀ b loc (p.2.take led.length))
 | .while c b,loc,led=>whileLoop (fun loc led=>(evE cx c loc led).bind fun p=>(tru p.2 p.1).map fun r=>(r,p.2)) (fun loc led'=>evSs cx mu led.length b loc led') cx.N loc led
 | .for t k its b,loc,led=>(evEs cx its loc led).bind fun p=>(srcOf led.length p.2 k p.1).bind fun src=>forLoop t (fun loc led'=>evSs cx mu led.length b loc led') cx.N src loc (p.2.take led.length)
 | .assert c,loc,led=>(evE cx c loc led).bind fun p=>(tru p.2 p.1).bind fun t=>cond t (some (.nx,loc,p.2.take led.length)) none
 | .delx x i,loc,led=>(get loc x).bind fun u=>u.ref?.bind fun k=>(evE cx i loc led).bind fun p=>p.1.int?.bind fun i=>((p.2[k]?).bind O.list?).bind fun xs=>
   (endAt i xs.length).map fun j=>(.nx,loc,(p.2.set k (.list (xs.eraseIdx j))).take led.length)
 | .stuck,_,_=>none
noncomputable def evSs(cx:Cx)(mu:List Nat)(n₀:Nat):List S→Loc→Led→Option Res
 | [],loc,led=>some (.nx,loc,led)
 | s::ss,loc,led=>(evS cx mu n₀ s loc led).bind fun r=>andThen r fun loc led=>evSs cx mu n₀ ss loc led
end
structure Fn where
 params:List Nat
 dflt:List D
 kw:List (Nat × D)
 mu:List Nat
 body:List S
noncomputable def freezes(lo:Nat)(full:Led):List V→Option (List V × Nat)
 | []=>some ([],lo)
 | v::vs=>(freeze lo full v).bind fun p=>(freezes p.2 full vs).map fun q=>(p.1::q.1,q.2)
noncomputable def resO(n₀:Nat)(led:Led)(v:Nat→V)(k:Nat):Option (V × Led):=if k<n₀ then some (v k,led.take n₀) else (led[k]?).map fun o=>(v n₀,led.take n₀++[o])
noncomputable def resV(n₀:Nat)(led:Led)(v:V):Option (V × Led):=match v with
 | .ref k=>resO n₀ led .ref k
 | .hd k=>resO n₀ led .hd k
 | .tup vs=>(freezes n₀ led vs).map fun p=>(.tup p.1,led.take n₀)
 | v=>some (v,led.take n₀)
noncomputable def zipP:List Nat→List V→Loc
 | x::xs,v::vs=>(x,v)::zipP xs vs
 | _,_=>[]
noncomputable def argsV(fn:Fn)(as:List V):Option Loc:=
 gd (as.length≤fn.params.length∧fn.params.length≤as.length+fn.dflt.length)
  (some (zipP fn.params (as++(fn.dflt.drop (as.length+fn.dflt.length-fn.params.length)).map .d)++fn.kw.map fun p=>(p.1,.d p.2)))
noncomputable def Fl.val:Fl→V
 | .ret v=>v
 | .nx=>.d .none
noncomputable def runF(fns:List Fn)(cx:Cx):Nat→Nat→List V→Led→Option (V × Led)
 | 0,_,_,_=>none
 | k+1,f,as,led=>(fns[f]?).bind fun fn=>(argsV fn as).bind fun loc=>(evSs { cx with F:=runF fns cx k } fn.mu led.length fn.body loc led).bind fun r=>resV led.length r.2.2 r.1.val
end
section
set_option genInjectivity false
set_option genSizeOf false
theorem bindW{α β:Type}{o:Option α}{f:α→Option β}{K:β→Prop}(h:(o.bind f).elim False K):o.elim False fun a=>(f a).elim False K:=by
 cases o <;> exact h
theorem mapW{α β:Type}{o:Option α}{f:α→β}{K:β→Prop}(h:(o.map f).elim False K):o.elim False fun a=>K (f a):=by
 cases o <;> exact h
theorem gdW{p:Prop}[Decidable p]{α:Type}{x:Option α}{K:α→Prop}(h:(gd p x).elim False K):p∧x.elim False K:=by
 unfold gd at h
 by_cases q:p
 ·rw[if_pos q] at h;exact⟨q,h⟩
 ·rw[if_neg q] at h;exact h.elim
theorem isW{α:Type}{o:Option α}{K:α→Prop}(h:o.elim False K):∃ a,o=some a∧K a:=by
 cases o with
 | none=>exact h.elim
 | some a=>exact⟨a,rfl,h⟩
theorem toW{α:Type}{o:Option α}{a:α}{K:α→Prop}(h:o=some a)(k:K a):o.elim False K:=by subst h;exact k
theorem ofVW{v:V}{K:D→Prop}(h:(ofV v).elim False K):∃ d,v=.d d∧K d:=by
 cases v <;> first | exact⟨_,rfl,h⟩ | exact h.elim
theorem D.strW{v:D}{K:Str→Prop}(h:v.str?.elim False K):∃ d,v=.str d∧K d:=by
 cases v <;> first | exact⟨_,rfl,h⟩ | exact h.elim
theorem D.intW{v:D}{K:Int→Prop}(h:v.int?.elim False K):∃ d,v=.int d∧K d:=by
 cases v <;> first | exact⟨_,rfl,h⟩ | exact h.elim
theorem V.strW{v:V}{K:Str→Prop}(h:v.str?.elim False K):∃ d,v=.d (.str d)∧K d:=by
 cases v with
 | d x=>cases x <;> first | exact⟨_,rfl,h⟩ | exact h.elim
 | _=>exact h.elim
theorem V.intW{v:V}{K:Int→Prop}(h:v.int?.elim False K):∃ d,v=.d (.int d)∧K d:=by
 cases v with
 | d x=>cases x <;> first | exact⟨_,rfl,h⟩ | exact h.elim
 | _=>exact h.elim
theorem V.refW{v:V}{K:Nat→Prop}(h:v.ref?.elim False K):∃ d,v=.ref d∧K d:=by
 cases v <;> first | exact⟨_,rfl,h⟩ | exact h.elim
theorem O.listW{o:O}{K:List D→Prop}(h:o.list?.elim False K):∃ d,o=.list d∧K d:=by
 cases o <;> first | exact⟨_,rfl,h⟩ | exact h.elim
def Rs(G:Gl)(s:Shared):Prop:=s.os=G.os∧s.gens=G.gens
def Hp(G:Gl)(w:Wd)(s:Shared):Prop:=w.h=s.heap∧Rs G s
def Sm(s s':Shared):Prop:=s'.heap=s.heap∧s'.os=s.os∧s'.gens=s.gens
theorem Sm.refl(s:Shared):Sm s s:=⟨rfl,rfl,rfl⟩
theorem Hp.sm{G:Gl}{w:Wd}{s s':Shared}(x:Hp G w s)(q:Sm s s'):Hp G w s':=⟨x.1.trans q.1.symm,q.2.1.trans x.2.1,q.2.2.trans x.2.2⟩
def NameIs(w:Wd)(env:Env)(x:Str)(v:Value):Prop:=
 (env.kindOf x=some .local∧∃ m,w.h.Ns env.locals m∧m x=some v∧env.locals ∉ w.ads) ∨
 ((env.kindOf x=some .cell∨env.kindOf x=some .free)∧∃ c,env.cells.lookup x=some c∧w.h.IsCell c (some v)∧c ∉ w.ads)
structure FrameOk (w:Wd) (env:Env):Prop where
 kind:env.scope.kind=.function
 globals:env.globals=mainGlobals
 builtins:env.builtins=builtinsNs
 ns:∃ m,w.h.Ns env.locals m
 lin:env.locals∈w.own
 cells:∀ x,env.kindOf x=some .cell∨env.kindOf x=some .free→∃ c o,env.cells.lookup x=some c∧w.h.IsCell c o∧(c∈w.own∨c∈w.prot)∧c≠env.locals
 inj:∀ x y c,env.kindOf x=some .cell∨env.kindOf x=some .free→env.kindOf y=some .cell∨env.kindOf y=some .free→env.cells.lookup x=some c→env.cells.lookup y=some c→x=y
structure Ct where
 nms:List Str
 lev:Nat
noncomputable def Ct.nm(C:Ct)(x:Nat):Str:=C.nms.getD x Str.empty
structure Conc (G:Gl) (C:Ct) (A:Around) (w:Wd) (env:Env) (loc:Loc) (led:Led):Prop where
 keep:∀ b o,G.h₀.get? b=some o→w.h.get? b=some o∧w.st b
 glob:G.h₀.Ns mainGlobals G.mg∧G.h₀.Ns builtinsNs G.mb
 nolim:G.h₀.NoLimit
 handled:A.handled=none
 depth:A.depth+4*C.lev+8≤900
 units:A.units+64*C.lev+64≤9000
 frame:FrameOk w env
 locs:∀ x v,get loc x=some v→x<C.nms.length∧∃ val,NameIs w env (C.nm x) val∧VR G w v val
 led:ORs G w led w.ads
 nd:w.ads.Nodup
 sep:∀ a,a∈w.own∨a∈w.prot→a ∉ w.ads
 ownex:∀ a,a∈w.own∨a∈w.prot→∃ o,w.h.get? a=some o
 inj:C.nms.Nodup
 op:∀ a∈w.own,a ∉ w.prot
theorem ORs.len{G:Gl}{w:Wd}:∀ {l:List O} {as:List Addr},ORs G w l as→l.length=as.length
 | [],[],_=>rfl
 | [],_::_,h=>h.elim
 | _::_,[],h=>h.elim
 | _::_,_::_,⟨_,h⟩=>congrArg (·+1) h.len
theorem ORs.get{G:Gl}{w:Wd}:∀ {l:List O} {as:List Addr} {k:Nat} {o:O},ORs G w l as→l[k]?=some o→∃ a,as[k]?=some a∧OR G w o a
 | [],_,_,_,_,e=>by simp at e
 | _::_,[],_,_,h,_=>h.elim
 | x::l,a::as,0,o,⟨h,_⟩,e=>by
  simp only[List.getElem?_cons_zero,Option.some.injEq] at e
  exact⟨a,rfl,e▸h⟩
 | x::l,a::as,k+1,o,⟨_,h⟩,e=>by
  simp only[List.getElem?_cons_succ] at e
  obtain⟨b,hb,ho⟩:=h.get e
  exact⟨b,by simpa using hb,ho⟩
def Held(env:Env)(a:Addr):Prop:=a=env.locals∨∃ z,(env.kindOf z=some .cell∨env.kindOf z=some .free)∧env.cells.lookup z=some a
def HeldK(env:Env)(w w':Wd):Prop:=∀ {b o},Held env b→w.h.get? b=some o→b ∉ w.ads→w'.h.get? b=some o∧b ∉ w'.ads
theorem NameIs.to{w w':Wd}{env:Env}{x:Str}{v:Value}(K:HeldK env w w')(h:NameIs w env x v):NameIs w' env x v:=by
 rcases h with ⟨k,m,n,e,a⟩ | ⟨k,c,l,i,a⟩
 ·obtain⟨o,es,ep,ho,r⟩:=id n
  exact .inl ⟨k,m,Ns_get n fun o q=>(K (.inl rfl) q a).1,e,(K (.inl rfl) ho a).2⟩
 ·obtain⟨o,ho,hd⟩:=id i
  have r:=K (.inr ⟨x,k,l⟩) ho a
  exact .inr ⟨k,c,l,⟨o,r.1,hd⟩,r.2⟩
structure PostE (G:Gl) (w:Wd) (led':Led) (v:V) (val:Value) (s':Shared) (w':Wd):Prop where
 heap:Hp G w' s'
 stp:Stp w w'
 led:ORs G w' led' w'.ads
 nd:w'.ads.Nodup
 val:VR G w' v val
theorem Conc.to{G:Gl}{C:Ct}{A:Around}{w w':Wd}{env:Env}{loc:Loc}{led led':Led}(c:Conc G C A w env loc led)(P:PerD w w')(K:HeldK env w w')(hown:∀ {a},a∈w.own→a∈w'.own)(hin:∀ {a},Held env a→a∈w.own∨a∈w.prot→a∈w'.own∨a∈w'.prot)
  (hv:∀ {x v val},get loc x=some v→VR G w v val→VR G w' v val) (hl:ORs G w' led' w'.ads) (hn:w'.ads.Nodup) (hs:∀ a,a∈w'.own∨a∈w'.prot→a ∉ w'.ads) (hex:∀ a,a∈w'.own∨a∈w'.prot→∃ o,w'.h.get? a=some o) (hop:∀ a∈w'.own,a ∉ w'.prot):Conc G C A w' env loc led' where
 keep:=fun b o e=>P.st b o (c.keep b o e).1 (c.keep b o e).2
 glob:=c.glob
 nolim:=c.nolim
 handled:=c.handled
 depth:=c.depth
 units:=c.units
 frame:={
  kind:=c.frame.kind
  globals:=c.frame.globals
  builtins:=c.frame.builtins
  ns:=c.frame.ns.imp fun m n=>Ns_get n fun o q=>(K (.inl rfl) q (c.sep _ (.inl c.frame.lin))).1
  lin:=hown c.frame.lin
  inj:=c.frame.inj
  cells:=fun x k=>by
   obtain⟨cc,o,l,⟨ob,i,hd⟩,m,n⟩:=c.frame.cells x k
   exact⟨cc,o,l,⟨ob,(K (.inr ⟨x,k,l⟩) i (c.sep _ m)).1,hd⟩,hin (.inr ⟨x,k,l⟩) m,n⟩ }
 locs:=fun x v e=>let ⟨l,val,n,r⟩:=c.locs x v e;⟨l,val,n.to K,hv e r⟩
 led:=hl
 nd:=hn
 sep:=hs
 ownex:=hex
 inj:=c.inj
 op:=hop
theorem Conc.stp{G:Gl}{C:Ct}{A:Around}{w w':Wd}{env:Env}{loc:Loc}{led led':Led}(c:Conc G C A w env loc led)(P:Stp w w')
  (hl:ORs G w' led' w'.ads) (hn:w'.ads.Nodup):Conc G C A w' env loc led':=by
 have ex:∀ a,a∈w.own∨a∈w.prot→(∃ o,w'.h.get? a=some o)∧a ∉ w'.ads:=fun a ha=>by
  obtain⟨o,ho⟩:=c.ownex a ha
  have r:=P.keep a o ho (c.sep a ha)
  exact⟨⟨o,r.1⟩,r.2⟩
 refine c.to P.per.toPerD (fun _ e n=>P.keep _ _ e n) (fun m=>P.own▸m) (fun _ m=>by rw[P.own,P.prot];exact m) (fun _ r=>r.per P.per) hl hn (fun a ha=>?_) (fun a ha=>?_) fun a ha=>?_
 ·rw[P.own,P.prot] at ha;exact(ex a ha).2
 ·rw[P.own,P.prot] at ha;exact(ex a ha).1
 ·rw[P.own] at ha;rw[P.prot];exact c.op a ha
theorem PostE.conc{G:Gl}{C:Ct}{A:Around}{w w':Wd}{env:Env}{loc:Loc}{led led':Led}{v:V}{val:Value}{s':Shared}(p:PostE G w led' v val s' w')
  (c:Conc G C A w env loc led):Conc G C A w' env loc led':=c.stp p.stp p.led p.nd
theorem PostE.trans{G:Gl}{w w' w'':Wd}{led' led'':Led}{v v':V}{val val':Value}{s' s'':Shared}(a:PostE G w led' v val s' w')(b:PostE G w' led'' v' val' s'' w'') :
  PostE G w led'' v' val' s'' w'':=⟨b.heap,a.stp.trans b.stp,b.led,b.nd,b.val⟩
theorem PostE.same{G:Gl}{C:Ct}{A:Around}{w:Wd}{env:Env}{loc:Loc}{led:Led}{v:V}{val:Value}{s':Shared}(c:Conc G C A w env loc led)(h:Hp G w s')
  (r:VR G w v val):PostE G w led v val s' w:=⟨h,Stp.refl w,c.led,c.nd,r⟩
def Grow(h h':Heap):Prop:=∀ b o,h.get? b=some o→h'.get? b=some o
theorem Grow.refl(h:Heap):Grow h h:=fun _ _ e=>e
theorem Grow.push(h:Heap)(o:Obj):Grow h (h.push o):=fun _ _ e=>Heap.get?_push_of_some o e
theorem Stp.grow{w:Wd}{h':Heap}(g:Grow w.h h'):Stp w ⟨h',w.own,w.prot,w.ads⟩:=⟨rfl,rfl,List.prefix_rfl,fun b o e n=>⟨g b o e,n⟩⟩
theorem OR.moveD{G:Gl}{w w':Wd}(P:PerD w w'):∀ {o:O} {a:Addr},OR G w o a→(∀ ob,w.h.get? a=some ob→w'.h.get? a=some ob)→OR G w' o a
 | .list xs,a,⟨vs,i,d⟩,k=>⟨vs,IsL_get i k,d.perD P⟩
 | .dict kvs,a,d,k=>d.atD P k
theorem OR.move{G:Gl}{w w':Wd}(P:Per w w'){o:O}{a:Addr}(h:OR G w o a)(k:∀ ob,w.h.get? a=some ob→w'.h.get? a=some ob):OR G w' o a:=h.moveD P.toPerD k
theorem ORs.moveD{G:Gl}{w w':Wd}(P:PerD w w'):∀ {l:List O} {as:List Addr},ORs G w l as→(∀ a,a∈as→∀ ob,w.h.get? a=some ob→w'.h.get? a=some ob)→ORs G w' l as
 | [],[],_,_=>trivial
 | [],_::_,h,_=>h.elim
 | _::_,[],h,_=>h.elim
 | _::_,a::as,⟨x,y⟩,k=>⟨x.moveD P (k a (.head _)),y.moveD P fun b hb=>k b (.tail _ hb)⟩
theorem ORs.move{G:Gl}{w w':Wd}(P:Per w w'){l:List O}{as:List Addr}(h:ORs G w l as)(k:∀ a,a∈as→∀ ob,w.h.get? a=some ob→w'.h.get? a=some ob):ORs G w' l as:=h.moveD P.toPerD k
theorem ORs.append{G:Gl}{w:Wd}:∀ {l l':List O} {as as':List Addr},ORs G w l as→ORs G w l' as'→ORs G w (l++l') (as++as')
 | [],_,[],_,_,h=>h
 | [],_,_::_,_,h,_=>h.elim
 | _::_,_,[],_,h,_=>h.elim
 | _::_,_,_::_,_,⟨a,b⟩,h=>⟨a,b.append h⟩
theorem ORs.take{G:Gl}{w:Wd}:∀ {l:List O} {as:List Addr} (n:Nat),ORs G w l as→ORs G w (l.take n) (as.take n)
 | [],[],n,_=>by simp [ORs]
 | [],_::_,_,h=>h.elim
 | _::_,[],_,h=>h.elim
 | _::_,_::_,0,_=>trivial
 | _::_,_::_,n+1,⟨a,b⟩=>⟨a,b.take n⟩
theorem ORs.obj{G:Gl}{w:Wd}:∀ {l:List O} {as:List Addr},ORs G w l as→∀ a∈as,∃ ob,w.h.get? a=some ob
 | [],[],_,_,m=>nomatch m
 | [],_::_,h,_,_=>h.elim
 | _::_,[],h,_,_=>h.elim
 | .list _::_,_::_,⟨⟨_,⟨_,ho⟩,_⟩,_⟩,_,.head _=>⟨_,ho⟩
 | .dict _::_,_::_,⟨x,_⟩,_,.head _=>x.obj
 | _::_,_::_,⟨_,h⟩,a,.tail _ m=>h.obj a m
theorem Conc.grow{G:Gl}{C:Ct}{A:Around}{w:Wd}{env:Env}{loc:Loc}{led:Led}(c:Conc G C A w env loc led){h':Heap}(g:Grow w.h h') :
  Conc G C A ⟨h',w.own,w.prot,w.ads⟩ env loc led:=
 c.stp (Stp.grow g) (c.led.move (Stp.grow g).per fun a _ o e=>g a o e) c.nd
theorem PostE.grow{G:Gl}{C:Ct}{A:Around}{w:Wd}{env:Env}{loc:Loc}{led:Led}{v:V}{val:Value}{s':Shared}(c:Conc G C A w env loc led)(g:Grow w.h s'.heap)
  (r:VR G ⟨s'.heap,w.own,w.prot,w.ads⟩ v val) (rs:Rs G s'):PostE G w led v val s' ⟨s'.heap,w.own,w.prot,w.ads⟩:=
 ⟨⟨rfl,rs⟩,Stp.grow g,(c.grow g).led,c.nd,r⟩
theorem fresh_ads{G:Gl}{C:Ct}{A:Around}{w:Wd}{env:Env}{loc:Loc}{led:Led}(c:Conc G C A w env loc led){a:Addr}(f:w.h.get? a=none):a ∉ w.ads:=fun m=>by
 obtain⟨o,ho⟩:=c.led.obj a m
 rw[f] at ho;cases ho
theorem fresh_st{G:Gl}{C:Ct}{A:Around}{w:Wd}{env:Env}{loc:Loc}{led:Led}(c:Conc G C A w env loc led){a:Addr}(f:w.h.get? a=none):w.st a:=by
 refine⟨fun m=>?_,fun m=>?_,fresh_ads c f⟩
 ·obtain⟨o,ho⟩:=c.ownex a (.inl m)
  rw[f] at ho;cases ho
 ·obtain⟨o,ho⟩:=c.ownex a (.inr m)
  rw[f] at ho;cases ho
theorem Stp.new{w:Wd}{h':Heap}{a:Addr}(g:Grow w.h h')(f:w.h.get? a=none):Stp w ⟨h',w.own,w.prot,w.ads++[a]⟩:=
 ⟨rfl,rfl,List.prefix_append _ _,fun b o e n=>⟨g b o e,fun m=>by
  rcases List.mem_append.mp m with m | m
  ·exact n m
  ·rw[List.mem_singleton] at m;subst m;rw[f] at e;cases e⟩⟩
theorem PostE.new{G:Gl}{C:Ct}{A:Around}{w:Wd}{env:Env}{loc:Loc}{led:Led}{o:O}{a:Addr}{s':Shared}(c:Conc G C A w env loc led)(g:Grow w.h s'.heap)
  (f:w.h.get? a=none) (r:OR G ⟨s'.heap,w.own,w.prot,w.ads++[a]⟩ o a) (rs:Rs G s') :
  PostE G w (led++[o]) (.ref led.length) (.ref a) s' ⟨s'.heap,w.own,w.prot,w.ads++[a]⟩:=
 ⟨⟨rfl,rs⟩,Stp.new g f,(c.led.move (Stp.new g f).per fun b _ o e=>g b o e).append ⟨r,trivial⟩,
  List.nodup_append.mpr ⟨c.nd,by simp,fun b hb d hd e=>fresh_ads c f (by rw[List.mem_singleton] at hd;exact hd▸e▸hb)⟩,
  ⟨a,rfl,by show (w.ads++[a])[led.length]?=some a;rw[c.led.len,List.getElem?_concat_length]⟩⟩
theorem DRs.len{w:Wd}:∀ {xs:List D} {vs:List Value},DRs w xs vs→xs.length=vs.length
 | [],[],_=>rfl
 | [],_::_,h=>h.elim
 | _::_,[],h=>h.elim
 | _::_,_::_,⟨_,b⟩=>congrArg (·+1) b.len
theorem DRs.append{w:Wd}:∀ {xs ys:List D} {vs us:List Value},DRs w xs vs→DRs w ys us→DRs w (xs++ys) (vs++us)
 | [],_,[],_,_,h=>h
 | [],_,_::_,_,h,_=>h.elim
 | _::_,_,[],_,h,_=>h.elim
 | _::_,_,_::_,_,⟨a,b⟩,h=>⟨a,b.append h⟩
theorem DRs.get{w:Wd}:∀ {xs:List D} {vs:List Value} {i:Nat} {x:D},DRs w xs vs→xs[i]?=some x→∃ v,vs[i]?=some v∧DR w x v
 | [],_,_,_,_,e=>by simp at e
 | _::_,[],_,_,h,_=>h.elim
 | x::l,a::as,0,o,⟨h,_⟩,e=>by
  simp only[List.getElem?_cons_zero,Option.some.injEq] at e
  exact⟨a,rfl,e▸h⟩
 | x::l,a::as,k+1,o,⟨_,h⟩,e=>by
  simp only[List.getElem?_cons_succ] at e
  obtain⟨b,hb,ho⟩:=h.get e
  exact⟨b,by simpa using hb,ho⟩
noncomputable abbrev Mo(G:Gl):Model:=model G.p G.w
noncomputable abbrev NoE:Value→Shared→Prop:=fun _ _=>False
theorem falseE{M:Model}{A:Around}{α:Type}{t:Sem α}{Q:α→Shared→Prop}{E:Value→Shared→Prop}{s:Shared}(h:wpAny M A t Q NoE s):wpAny M A t Q E s:=
 wpAny_mono h (fun _ _ x=>x) fun _ _ x=>x.elim
structure St (G:Gl) (C:Ct) (A:Around) (env:Env) (w:Wd) (loc:Loc) (led:Led) (s:Shared):Prop where
 conc:Conc G C A w env loc led
 heap:Hp G w s
theorem PostE.st{G:Gl}{C:Ct}{A:Around}{w w':Wd}{env:Env}{loc:Loc}{led led':Led}{v:V}{val:Value}{s s':Shared}(p:PostE G w led' v val s' w')(c:St G C A env w loc led s):St G C A env w' loc led' s':=
 ⟨p.conc c.conc,p.heap⟩
def SE(G:Gl)(C:Ct)(A:Around)(env:Env)(cx:Cx)(e:E)(x:Expr):Prop:=
 ∀ {w:Wd} {loc:Loc} {led:Led} {s:Shared} {K:V × Led→Prop} {Q:Value→Shared→Prop},St G C A env w loc led s→(evE cx e loc led).elim False K →
  (∀ {p:V × Led} {val:Value} {s':Shared} {w':Wd},K p→PostE G w p.2 p.1 val s' w'→Q val s')→wpAny (Mo G) A (eval x env) Q NoE s
def ST(G:Gl)(C:Ct)(A:Around)(env:Env)(cx:Cx)(e:E)(x:Expr):Prop:=
 ∀ {w:Wd} {loc:Loc} {led:Led} {s:Shared} {K:Led→Bool→Prop} {Q:Bool→Shared→Prop},St G C A env w loc led s→(evE cx e loc led).elim False (fun p=>(tru p.2 p.1).elim False (K p.2)) →
  (∀ {led':Led} {b:Bool} {s':Shared} {w':Wd},K led' b→PostE G w led' (.d .none) .none s' w'→Q b s')→wpAny (Mo G) A (isTrue x env (eval x env)) Q NoE s
theorem listW{G:Gl}{w:Wd}{led:Led}(hl:ORs G w led w.ads){v:V}{val:Value}{K:List D→Prop}(r:VR G w v val)(e:(led.list v).elim False K) :
  ∃ a vs xs,val=.ref a∧IsL w.h a vs∧DRs w xs vs.toList∧K xs:=by
 cases v with
 | lst ys=>
  obtain⟨a,vs,e1,e2,e3,e4⟩:=r
  exact⟨a,vs,ys,e1,e2,e4,e⟩
 | ref k=>
  obtain⟨a,e1,e2⟩:=r
  obtain⟨o,ho,e⟩:=isW (bindW e)
  obtain⟨ys,rfl,e⟩:=O.listW e
  obtain⟨b,hb,vs,i,d⟩:=hl.get ho
  rw[e2] at hb
  cases hb
  exact⟨a,vs,ys,e1,i,d,e⟩
 | _=>exact e.elim
section
variable{G:Gl}{C:Ct}{A:Around}{env:Env}{w:Wd}{loc:Loc}{led led':Led}{s:Shared}
theorem St.grown{x:D}{val:Value}{s':Shared}(c:St G C A env w loc led s)(g:Grow w.h s'.heap)(r:DR ⟨s'.heap,w.own,w.prot,w.ads⟩ x val)(rs:Rs G s'):PostE G w led (.d x) val s' ⟨s'.heap,w.own,w.prot,w.ads⟩:=
 PostE.grow c.conc g r rs
theorem St.val{x:D}{val:Value}(c:St G C A env w loc led s)(r:DR w x val):PostE G w led (.d x) val s w:=PostE.same c.conc c.heap r
theorem St.toks{x:D}{val:Value}{s':Shared}(c:St G C A env w loc led s)(q:Sm s s')(r:DR w x val):PostE G w led (.d x) val s' w:=PostE.same c.conc (c.heap.sm q) r
theorem PostE.toks{w':Wd}{v:V}{val:Value}{s s':Shared}(p:PostE G w led' v val s w')(h:Sm s s'):PostE G w led' (.d .none) .none s' w':=
 ⟨p.heap.sm h,p.stp,p.led,p.nd,rfl⟩
theorem PostE.toks'{w':Wd}{v:V}{val:Value}{s s':Shared}(p:PostE G w led' v val s w')(h:Sm s s'):PostE G w led' v val s' w':=
 ⟨p.heap.sm h,p.stp,p.led,p.nd,p.val⟩
theorem fresh_size{h:Heap}:h.get? h.objs.size=none:=by
 cases q:h.get? h.objs.size with
 | none=>rfl
 | some o=>exact absurd (Heap.lt_size q) (Nat.lt_irrefl _)
end
end
section
section
variable{G:Gl}{C:Ct}{A:Around}{env:Env}{cx:Cx}{w:Wd}{loc:Loc}{led led':Led}{s:Shared}{E:Value→Shared→Prop}
theorem truthy_sound{v:V}{val:Value}{K:Bool→Prop}(r:VR G w v val)(e:(tru led v).elim False K){Q:Bool→Shared→Prop}
  (h:∀ {b s'},K b→Sm s s'→Q b s'):wpAny (Mo G) A (truthy val) Q E s:=by
 obtain⟨d,rfl,e⟩:=ofVW (bindW e)
 cases d with
 | none=>cases r;exact truthy_none (h e (Sm.refl s))
 | bool b=>cases r;exact wpAny_pure (h e (Sm.refl s))
 | int i=>obtain⟨t,rfl⟩:=r;exact truthy_int (h e (Sm.refl s))
 | str x=>
  obtain⟨t,rfl⟩:=r
  obtain⟨hl,e⟩:=gdW e
  have hl':x.length≤4096:=hl
  refine P.truthy_str (by omega) ?_
  have:((x.length:Int) != 0)=(x.length != 0):=by
   rw[Bool.eq_iff_iff];simp only[bne_iff_ne];omega
  rw[this];exact h e ⟨rfl,rfl,rfl⟩
 | tup _=>exact e.elim
theorem ST.plain{e:UK.E}{x:Expr}(h:SE G C A env cx e x)(he:isTrue x env (eval x env)=(do let v ←eval x env;standAt x.pos;holding [v] (PySem.truthy v))):ST G C A env cx e x:=
 fun c e k=>isTrue_plain (h c e fun e p=>truthy_sound p.val e fun e q=>k e (p.toks q)) he
noncomputable def isC(d:D)(k:Const):Bool:=match d with
 | .none=>match k with
  | .none=>true
  | _=>false
 | .bool a=>match k with
  | .bool b=>a==b
  | _=>false
 | .int a=>match k with
  | .int b=>a==b
  | _=>false
 | .str a=>match k with
  | .str b=>a==b
  | _=>false
 | .tup _=>false
theorem SE.lit{d:D}{k:Const}{i:Nat}{pos:Pos}(hk:isC d k=true):SE G C A env cx (.lit d) (.Constant k i pos):=fun {w loc led s K Q} c e h=>by
 show wpAny _ _ (constValue env k) _ _ _
 cases d with
 | none=>cases k <;> first | exact wpAny_pure (h e (c.val rfl)) | exact Bool.noConfusion hk
 | bool a=>cases k <;> first | exact wpAny_pure (h e (c.val (congrArg Value.bool (beq_iff_eq.mp hk)).symm)) | exact Bool.noConfusion hk
 | int a=>cases k <;> first | (obtain rfl:=eq_of_beq (show (a==_)=true from hk);exact wpAny_mkInt (h e (c.toks ⟨rfl,rfl,rfl⟩ ⟨_,rfl⟩))) | exact Bool.noConfusion hk
 | str a=>cases k <;> first | (obtain rfl:=eq_of_beq (show (a==_)=true from hk);exact wpAny_mkText (h e (c.toks ⟨rfl,rfl,rfl⟩ ⟨_,rfl⟩))) | exact Bool.noConfusion hk
 | tup _=>exact Bool.noConfusion hk
theorem SE.neg{a:UK.E}{x:Expr}{pos:Pos}(ha:SE G C A env cx a x):SE G C A env cx (.neg a) (.UnaryOp .USub x pos):=fun c e k=>by
 rw[arm_eval_UnaryOp]
 refine wpAny_bind (ha c (bindW e) fun e p=>wpAny_bind (wpAny_standAt (wpAny_holding ?_)))
 obtain⟨i,hi,e⟩:=V.intW (mapW e)
 have r:=p.val
 rw[hi] at r
 obtain⟨t,rfl⟩:=r
 exact PyProof.Rows.neg_int (k e ⟨p.heap,p.stp,p.led,p.nd,_,rfl⟩)
theorem SE.not{a:UK.E}{x:Expr}{pos:Pos}(ha:SE G C A env cx a x):SE G C A env cx (.not a) (.UnaryOp .Not x pos):=fun c e k=>by
 rw[arm_eval_UnaryOp]
 exact wpAny_bind (ha c (bindW e) fun e p=>wpAny_bind (wpAny_standAt (wpAny_holding (not_of (truthy_sound p.val (mapW e) fun e q=>k e ⟨p.heap.sm q,p.stp,p.led,p.nd,rfl⟩)))))
theorem ST.not{a:UK.E}{x:Expr}{pos:Pos}(ha:ST G C A env cx a x):ST G C A env cx (.not a) (.UnaryOp .Not x pos):=fun {w loc led s K Q} c e k=>
 isTrue_not (ha (K:=fun l b=>K l !b) c (by
  obtain⟨p,hp,e⟩:=isW (bindW e)
  obtain⟨b,hb,e⟩:=isW (mapW e)
  exact toW hp (toW hb e)) fun e p=>k e p)
theorem SE.and{a b:UK.E}{x y:Expr}{pos:Pos}(ha:SE G C A env cx a x)(hb:SE G C A env cx b y):SE G C A env cx (.and a b) (.BoolOp .And [x,y] pos):=fun c e k=>
 BoolOp_and (ha c (bindW e) fun e p=>truthy_sound p.val (bindW e) fun {t s'} e q=>by
  cases t with
  | true=>exact BoolOp_one (hb ((p.toks' q).st c) e fun e p2=>k e ((p.toks' q).trans p2))
  | false=>exact k e (p.toks' q))
theorem SE.or{a b:UK.E}{x y:Expr}{pos:Pos}(ha:SE G C A env cx a x)(hb:SE G C A env cx b y):SE G C A env cx (.or a b) (.BoolOp .Or [x,y] pos):=fun c e k=>
 BoolOp_or (ha c (bindW e) fun e p=>truthy_sound p.val (bindW e) fun {t s'} e q=>by
  cases t with
  | true=>exact k e (p.toks' q)
  | false=>exact BoolOp_one (hb ((p.toks' q).st c) e fun e p2=>k e ((p.toks' q).trans p2)))
theorem condW{α:Type}{t:Bool}{x y:Option α}{K:α→Prop}(h:(cond t x y).elim False K):(t=true→x.elim False K)∧(t=false→y.elim False K):=by
 cases t
 ·exact⟨nofun,fun _=>h⟩
 ·exact⟨fun _=>h,nofun⟩
def AndK(cx:Cx)(b:UK.E)(loc:Loc)(K:Led→Bool→Prop)(l:Led)(t:Bool):Prop:=(t=true→(evE cx b loc l).elim False fun p=>(tru p.2 p.1).elim False (K p.2))∧(t=false→K l false)
theorem ST.and{a b:UK.E}{x y:Expr}{pos:Pos}(ha:ST G C A env cx a x)(hb:ST G C A env cx b y):ST G C A env cx (.and a b) (.BoolOp .And [x,y] pos):=fun {w loc led s K Q} c e k=>
 isTrue_and (ha (K:=AndK cx b loc K) c (by
  obtain⟨p,hp,e⟩:=isW (bindW e)
  obtain⟨t,ht,e⟩:=isW (bindW e)
  refine toW hp (toW ht ?_)
  cases t with
  | true=>exact⟨fun _=>e,nofun⟩
  | false=>
   refine⟨nofun,fun _=>?_⟩
   have e:(tru p.2 p.1).elim False (K p.2):=e
   rw[ht] at e
   exact e) fun {l t s' w'} e p=>by
  cases t with
  | true=>exact isTrue_and (hb (p.st c) (e.1 rfl) fun {l2 t2 s2 w2} e2 p2=>by
    cases t2
    ·exact k e2 (p.trans p2)
    ·exact isTrue_and_nil (k e2 (p.trans p2)))
  | false=>exact k (e.2 rfl) p)
def OrK(cx:Cx)(b:UK.E)(loc:Loc)(K:Led→Bool→Prop)(l:Led)(t:Bool):Prop:=(t=false→(evE cx b loc l).elim False fun p=>(tru p.2 p.1).elim False (K p.2))∧(t=true→K l true)
theorem ST.or{a b:UK.E}{x y:Expr}{pos:Pos}(ha:ST G C A env cx a x)(hb:ST G C A env cx b y):ST G C A env cx (.or a b) (.BoolOp .Or [x,y] pos):=fun {w loc led s K Q} c e k=>
 isTrue_or (ha (K:=OrK cx b loc K) c (by
  obtain⟨p,hp,e⟩:=isW (bindW e)
  obtain⟨t,ht,e⟩:=isW (bindW e)
  refine toW hp (toW ht ?_)
  cases t with
  | false=>exact⟨fun _=>e,nofun⟩
  | true=>
   refine⟨nofun,fun _=>?_⟩
   have e:(tru p.2 p.1).elim False (K p.2):=e
   rw[ht] at e
   exact e) fun {l t s' w'} e p=>by
  cases t with
  | false=>exact isTrue_or (hb (p.st c) (e.1 rfl) fun {l2 t2 s2 w2} e2 p2=>by
    cases t2
    ·exact isTrue_or_nil (k e2 (p.trans p2))
    ·exact k e2 (p.trans p2))
  | true=>exact k (e.2 rfl) p)
def IteK(cx:Cx)(a b:UK.E)(loc:Loc)(K:V × Led→Prop)(l:Led)(t:Bool):Prop:=(cond t (evE cx a loc l) (evE cx b loc l)).elim False K
theorem SE.ite{t a b:UK.E}{z x y:Expr}{pos:Pos}(ht:ST G C A env cx t z)(ha:SE G C A env cx a x)(hb:SE G C A env cx b y):SE G C A env cx (.ite t a b) (.IfExp z x y pos):=fun {w loc led s K Q} c e k=>
 IfExp_ (ht (K:=IteK cx a b loc K) c (by
  obtain⟨p,hp,e⟩:=isW (bindW e)
  exact toW hp (bindW e)) fun {l t s' w'} e p=>by
  cases t with
  | true=>exact ha (p.st c) e fun e2 p2=>k e2 (p.trans p2)
  | false=>exact hb (p.st c) e fun e2 p2=>k e2 (p.trans p2))
theorem ST.ite{t a b:UK.E}{z x y:Expr}{pos:Pos}(ht:ST G C A env cx t z)(ha:ST G C A env cx a x)(hb:ST G C A env cx b y):ST G C A env cx (.ite t a b) (.IfExp z x y pos):=fun {w loc led s K Q} c e k=>
 isTrue_IfExp (ht (K:=IteK cx a b loc fun p=>(tru p.2 p.1).elim False (K p.2)) c (by
  obtain⟨p,hp,e⟩:=isW (bindW e)
  exact toW hp (bindW e)) fun {l t s' w'} e p=>by
  cases t with
  | true=>exact ha (p.st c) e fun e2 p2=>k e2 (p.trans p2)
  | false=>exact hb (p.st c) e fun e2 p2=>k e2 (p.trans p2))
theorem SE.name{n:Nat}{id:Str}{pos:Pos}(hid:id=C.nm n)(h1:(id==("__debug__":Str))=false)(h2:(id==("__classdict__":Str))=false):SE G C A env cx (.name n) (.Name id pos):=fun {w loc led s K Q} c e k=>by
 obtain⟨u,e1,e⟩:=isW (mapW e)
 obtain⟨_,val,hn,r⟩:=c.conc.locs n _ e1
 subst hid
 have P:Q val s:=k e (PostE.same c.conc c.heap r)
 refine wpAny_Name ?_ h1
 rcases hn with ⟨k,m,hm,e,a⟩ | ⟨k | k,cc,l,i,a⟩
 ·exact wpAny_loadName_local c.conc.frame.kind k (c.heap.1▸hm) e P
 ·exact wpAny_loadName_cell c.conc.frame.kind k l (c.heap.1▸i) P
 ·exact wpAny_loadName_free c.conc.frame.kind k l (c.heap.1▸i) P h2
noncomputable def Op2.to:Op2→Operator
 | .add=>.Add
 | .sub=>.Sub
 | .mul=>.Mult
 | .fdiv=>.FloorDiv
 | .mod=>.Mod
noncomputable def Op2.is(op:Op2)(op':Operator):Bool:=decide (op'=op.to)
theorem intBits_le{a:Int}(h:a.natAbs<2 ^ 32):Builtin.Int.intBits a≤64:=by
 unfold Builtin.Int.intBits
 split
 ·exact z0 0x3ff08040b02aa
 ·rename_i hz
  have hz':a≠0:=by simpa using hz
  have:a.natAbs.log2<32:=(Nat.log2_lt (Int.natAbs_ne_zero.mpr hz')).mpr h
  (revert this;exact z1 0x7fe108040b06a0a280105801)
theorem noPylong_of{a b:Int}(h0:0<b)(h1:b<2 ^ 30):Builtin.divisionGoesByPylong a b=false:=by
 unfold Builtin.divisionGoesByPylong
 have:b.natAbs.log2<30:=(Nat.log2_lt (Int.natAbs_ne_zero.mpr (Int.ne_of_gt h0))).mpr (Int.ofNat_lt.mp (by rw[Int.natAbs_of_nonneg (Int.le_of_lt h0)];exact h1))
 have h2:b.natAbs.log2 / 30=0:=Nat.div_eq_of_lt this
 simp only[h2]
 have:(b==0)=false:=beq_eq_false_iff_ne.mpr (Int.ne_of_gt h0)
 simp [this]
theorem ints2W{f:Int→Int→Option D}{x y:D}{K:D→Prop}(h:(ints2 f x y).elim False K):∃ a b,x=.int a∧y=.int b∧(f a b).elim False K:=by
 obtain⟨a,rfl,h1⟩:=D.intW (bindW h)
 obtain⟨b,rfl,h2⟩:=D.intW (bindW h1)
 exact⟨a,b,rfl,rfl,h2⟩
theorem Op2.isW{op:Op2}{op':Operator}(h:op.is op'=true):op'=op.to:=of_decide_eq_true h
theorem bin2_sound{op:Op2}{op':Operator}{x y:D}{xv yv:Value}{K:D→Prop}{Q:Value→Shared→Prop}(c:St G C A env w loc led s)(ho:op.is op'=true)(rx:DR w x xv)(ry:DR w y yv)
  (e:(bin2 op x y).elim False K) (k:∀ {z val s'},K z→PostE G w led (.d z) val s' w→Q val s'):wpAny (Mo G) A (binaryOp op' xv yv) Q NoE s:=by
 obtain rfl:=Op2.isW ho
 cases op with
 | add=>
  cases x with
  | int a=>
   obtain⟨b,rfl,e1⟩:=D.intW (mapW e)
   obtain⟨t,rfl⟩:=rx;obtain⟨u,rfl⟩:=ry
   exact add_int (k e1 (c.toks ⟨rfl,rfl,rfl⟩ ⟨_,rfl⟩))
  | str a=>
   obtain⟨b,rfl,e1⟩:=D.strW (bindW e)
   obtain⟨hl,e2⟩:=gdW e1
   obtain⟨t,rfl⟩:=rx;obtain⟨u,rfl⟩:=ry
   exact PyProof.Rows.add_str (fun t' tk=>k e2 (c.toks ⟨rfl,rfl,rfl⟩ ⟨_,rfl⟩)) (Nat.le_trans hl (by decide))
  | _=>exact e.elim
 | sub=>
  obtain⟨a,b,rfl,rfl,e2⟩:=ints2W e
  obtain⟨t,rfl⟩:=rx;obtain⟨u,rfl⟩:=ry
  exact sub_int (k e2 (c.toks ⟨rfl,rfl,rfl⟩ ⟨_,rfl⟩))
 | mul=>
  obtain⟨a,b,rfl,rfl,e1⟩:=ints2W e
  obtain⟨hl,e2⟩:=gdW e1
  obtain⟨t,rfl⟩:=rx;obtain⟨u,rfl⟩:=ry
  exact PyProof.Rows.mul_int (k e2 (c.toks ⟨rfl,rfl,rfl⟩ ⟨_,rfl⟩)) (hl.elim (fun h=>IntMulOk.of_left (intBits_le h)) fun h=>IntMulOk.of_right (intBits_le h))
 | fdiv=>
  obtain⟨a,b,rfl,rfl,e1⟩:=ints2W e
  obtain⟨hl,e2⟩:=gdW e1
  obtain⟨t,rfl⟩:=rx;obtain⟨u,rfl⟩:=ry
  exact PyProof.Rows.floordiv_int (Int.ne_of_gt hl.1) (k e2 (c.toks ⟨rfl,rfl,rfl⟩ ⟨_,rfl⟩)) (.inl (noPylong_of hl.1 hl.2))
 | mod=>
  obtain⟨a,b,rfl,rfl,e1⟩:=ints2W e
  obtain⟨hl,e2⟩:=gdW e1
  obtain⟨t,rfl⟩:=rx;obtain⟨u,rfl⟩:=ry
  exact PyProof.Rows.mod_int (Int.ne_of_gt hl) (k e2 (c.toks ⟨rfl,rfl,rfl⟩ ⟨_,rfl⟩))
end
end
end UK
end
section
namespace UK
open PySem PySem.W PySem.Calls PyProof.Rows PySem.SeqAt
section
theorem mapE{α β:Type}{o:Option α}{f:α→β}{b:β}(h:o.map f=some b):∃ a,o=some a∧f a=b:=Option.map_eq_some_iff.mp h
theorem bindE{α β:Type}{o:Option α}{f:α→Option β}{b:β}(h:o.bind f=some b):∃ a,o=some a∧f a=some b:=Option.bind_eq_some_iff.mp h
theorem D.strE{v:D}{d:Str}(h:v.str?=some d):v=.str d:=by cases v <;> cases h;rfl
theorem D.intE{v:D}{d:Int}(h:v.int?=some d):v=.int d:=by cases v <;> cases h;rfl
theorem D.boolE{v:D}{d:Bool}(h:v.bool?=some d):v=.bool d:=by cases v <;> cases h;rfl
section
variable{G:Gl}{C:Ct}{A:Around}{env:Env}{cx:Cx}{w:Wd}{loc:Loc}{led led':Led}{s:Shared}
inductive At2:D→D→Bool→Prop
 | nn:At2 .none .none true
 | ns (x:Str):At2 .none (.str x) false
 | sn (x:Str):At2 (.str x) .none false
 | bb (a b:Bool):At2 (.bool a) (.bool b) (a==b)
 | ii (a b:Int):At2 (.int a) (.int b) (a==b)
 | ss (a b:Str):At2 (.str a) (.str b) (a==b)
theorem atEqE{x y:D}{b:Bool}(e:atEq x y=some b):At2 x y b:=by
 cases x with
 | none=>cases y <;> first | (obtain rfl:=Option.some.inj e;first | exact .nn | exact .ns _) | cases e
 | bool a=>obtain⟨q,h,rfl⟩:=mapE e;obtain rfl:=D.boolE h;exact .bb _ _
 | int a=>obtain⟨q,h,rfl⟩:=mapE e;obtain rfl:=D.intE h;exact .ii _ _
 | str a=>cases y <;> first | (obtain rfl:=Option.some.inj e;first | exact .sn _ | exact .ss _ _) | cases e
 | tup _=>cases e
theorem atEq_sound{x y:D}{xv yv:Value}{b:Bool}(rx:DR w x xv)(ry:DR w y yv)(e:atEq x y=some b)(A:Around)(s:Shared):EqAt A s xv yv b:=by
 cases atEqE e with
 | nn=>cases rx;cases ry;exact EqAt.same _
 | ns=>cases rx;obtain⟨u,rfl⟩:=ry;exact EqAt.none_str _ _
 | sn=>cases ry;obtain⟨u,rfl⟩:=rx;exact EqAt.str_none _ _
 | bb=>cases rx;cases ry;exact EqAt.bool_bool _ _
 | ii=>obtain⟨t,rfl⟩:=rx;obtain⟨u,rfl⟩:=ry;exact EqAt.int_int _ _ _ _
 | ss=>obtain⟨t,rfl⟩:=rx;obtain⟨u,rfl⟩:=ry;exact EqAt.str_str _ _ _ _
theorem atRc_sound{x y:D}{xv yv:Value}{b:Bool}(rx:DR w x xv)(ry:DR w y yv)(e:atEq x y=some b)(A:Around)(s:Shared):RcAt A s xv yv b∧RcNeAt A s xv yv (!b):=by
 cases atEqE e with
 | nn=>cases rx;cases ry;exact⟨RcAt.none_none,RcNeAt.none_none⟩
 | ns=>cases rx;obtain⟨u,rfl⟩:=ry;exact⟨RcAt.none_str _ _,RcNeAt.none_str _ _⟩
 | sn=>cases ry;obtain⟨u,rfl⟩:=rx;exact⟨RcAt.str_none _ _,RcNeAt.str_none _ _⟩
 | bb=>cases rx;cases ry;exact⟨RcAt.bool_bool _ _,RcNeAt.bool_bool _ _⟩
 | ii=>obtain⟨t,rfl⟩:=rx;obtain⟨u,rfl⟩:=ry;exact⟨RcAt.int_int _ _ _ _,RcNeAt.int_int _ _ _ _⟩
 | ss=>obtain⟨t,rfl⟩:=rx;obtain⟨u,rfl⟩:=ry;exact⟨RcAt.str_str _ _ _ _,RcNeAt.str_str _ _ _ _⟩
theorem IsTuple_inj{h:Heap}{a:Addr}{vs us:Array Value}(x:h.IsTuple a vs)(y:h.IsTuple a us):vs=us:=by
 obtain⟨o,ho,_,n,hd⟩:=x
 obtain⟨o',ho',_,n',hd'⟩:=y
 rw[ho] at ho';cases ho'
 rw[hd] at hd';cases hd';rfl
mutual
theorem DR.fun{w:Wd}:∀ {x y:D} {v:Value},DR w x v→DR w y v→x=y
 | .none,y,v,h,k=>by
  cases h
  cases y with
  | none=>rfl
  | bool b=>cases k
  | int i=>obtain⟨t,k⟩:=k;cases k
  | str i=>obtain⟨t,k⟩:=k;cases k
  | tup i=>obtain⟨t,_,k,_⟩:=k;cases k
 | .bool b,y,v,h,k=>by
  cases h
  cases y with
  | none=>cases k
  | bool b=>cases k;rfl
  | int i=>obtain⟨t,k⟩:=k;cases k
  | str i=>obtain⟨t,k⟩:=k;cases k
  | tup i=>obtain⟨t,_,k,_⟩:=k;cases k
 | .int b,y,v,h,k=>by
  obtain⟨t,rfl⟩:=h
  cases y with
  | none=>cases k
  | bool b=>cases k
  | int i=>obtain⟨t,k⟩:=k;cases k;rfl
  | str i=>obtain⟨t,k⟩:=k;cases k
  | tup i=>obtain⟨t,_,k,_⟩:=k;cases k
 | .str b,y,v,h,k=>by
  obtain⟨t,rfl⟩:=h
  cases y with
  | none=>cases k
  | bool b=>cases k
  | int i=>obtain⟨t,k⟩:=k;cases k
  | str i=>obtain⟨t,k⟩:=k;cases k;rfl
  | tup i=>obtain⟨t,_,k,_⟩:=k;cases k
 | .tup xs,y,v,h,k=>by
  obtain⟨a,vs,rfl,i1,_,d1⟩:=h
  cases y with
  | none=>cases k
  | bool b=>cases k
  | int i=>obtain⟨t,k⟩:=k;cases k
  | str i=>obtain⟨t,k⟩:=k;cases k
  | tup ys=>
   obtain⟨t,us,k,i2,_,d2⟩:=k
   cases k
   have:=IsTuple_inj i1 i2;subst this
   rw[DRs.fun d1 d2]
theorem DRs.fun{w:Wd}:∀ {xs ys:List D} {vs:List Value},DRs w xs vs→DRs w ys vs→xs=ys
 | [],[],_,_,_=>rfl
 | [],_::_,[],_,h=>h.elim
 | [],_::_,_::_,h,_=>h.elim
 | _::_,[],[],h,_=>h.elim
 | _::_,[],_::_,_,h=>h.elim
 | _::_,_::_,[],h,_=>h.elim
 | x::xs,y::ys,v::vs,⟨a,b⟩,⟨c,d⟩=>by rw[DR.fun a c,DRs.fun b d]
end
open Classical in
noncomputable def eqOf(w:Wd)(x:D)(y:Value):Bool:=if h:∃ d,DR w d y then (dEq h.choose x).getD false else false
theorem eqOf_eq{x d:D}{y:Value}(h:DR w d y):eqOf w x y=(dEq d x).getD false:=by
 have hx:∃ d,DR w d y:=⟨d,h⟩
 unfold eqOf
 rw[dif_pos hx,DR.fun hx.choose_spec h]
theorem DRs.at{w:Wd}{xs:List D}{vs:Array Value}(h:DRs w xs vs.toList){j:Nat}(hj:j<vs.size):∃ x,xs[j]?=some x∧DR w x vs[j]:=by
 have hl:=h.len
 have hj':j<xs.length:=by rw[hl];simpa using hj
 refine⟨xs[j],by simp [hj'],?_⟩
 obtain⟨v,h1,h2⟩:=h.get (i:=j) (x:=xs[j]) (by simp [hj'])
 rw[Array.getElem?_toList] at h1
 have:v=vs[j]:=by simp [hj] at h1;exact h1.symm
 exact this▸h2
theorem At2.same{x:D}{b:Bool}(h:At2 x x b):b=true:=by
 generalize hy:x=y at h
 cases h <;> first | rfl | cases hy <;> simp
theorem pairsEq_len{f:D→D→Option Bool}:∀ {xs ys:List D} {b:Bool},pairsEq f xs ys=some b→xs.length≠ys.length→b=false
 | [],[],_,_,n=>absurd rfl n
 | [],_::_,_,e,_=>(Option.some.inj e).symm
 | _::_,[],_,e,_=>(Option.some.inj e).symm
 | x::xs,y::ys,b,e,n=>by
  obtain⟨p,_,e⟩:=bindE e
  obtain⟨q,h2,rfl⟩:=mapE e
  rw[pairsEq_len h2 (fun q=>n (congrArg (·+1) q)),Bool.and_false]
theorem pairsEq_at{f:D→D→Option Bool}:∀ {xs ys:List D} {b:Bool},pairsEq f xs ys=some b →
  ∃ e:Nat→Bool,(∀ j x y,xs[j]?=some x→ys[j]?=some y→f x y=some (e j))∧((List.range (min xs.length ys.length)).all e&&xs.length==ys.length)=b
 | [],[],b,h=>⟨fun _=>true,fun j x y h1=>by simp at h1,Option.some.inj h⟩
 | [],_::_,b,h=>⟨fun _=>true,fun j x y h1=>by simp at h1,by rw[←Option.some.inj h];simp⟩
 | _::_,[],b,h=>⟨fun _=>true,fun j x y _ h1=>by simp at h1,by rw[←Option.some.inj h];simp⟩
 | x::xs,y::ys,b,h=>by
  obtain⟨p,h1,h⟩:=bindE h
  obtain⟨q,h2,rfl⟩:=mapE h
  obtain⟨e,he,hb⟩:=pairsEq_at h2
  refine⟨fun j=>Nat.casesOn j p e,fun j x' y' k1 k2=>?_,?_⟩
  ·cases j with
   | zero=>obtain rfl:=Option.some.inj k1;obtain rfl:=Option.some.inj k2;exact h1
   | succ j=>exact he j x' y' k1 k2
  ·rw[←hb]
   simp only[List.length_cons,Nat.add_min_add_right,List.range_succ_eq_map,List.all_cons,List.all_map,Bool.and_assoc]
   have:(xs.length+1==ys.length+1)=(xs.length==ys.length):=by rw[Bool.eq_iff_iff];simp
   rw[this]
   rfl
theorem pairsEq_same{f:D→D→Option Bool}(hf:∀ x b,f x x=some b→b=true):∀ {xs:List D} {b:Bool},pairsEq f xs xs=some b→b=true
 | [],_,e=>(Option.some.inj e).symm
 | x::xs,b,e=>by
  obtain⟨p,h1,e⟩:=bindE e
  obtain⟨q,h2,rfl⟩:=mapE e
  rw[hf _ _ h1,pairsEq_same hf h2];rfl
theorem tup_sound{xs ys:List D}{vs us:Array Value}{a b:Addr}{r:Bool}(hh:Hp G w s)(hu:A.units<cLine)(i1:w.h.IsTuple a vs)(i2:w.h.IsTuple b us)(d1:DRs w xs vs.toList)(d2:DRs w ys us.toList)
  (e:pairsEq atEq xs ys=some r):RcAt A s (.ref a) (.ref b) r:=by
 obtain⟨f,hf,hr⟩:=pairsEq_at e
 have l1:=d1.len;have l2:=d2.len
 simp only[Array.length_toList] at l1 l2
 rw[hh.1] at i1 i2
 rw[←hr,l1,l2]
 refine RcAt.tuples i1 i2 hu fun j h1 h2=>?_
 obtain⟨x,x1,x2⟩:=d1.at h1
 obtain⟨y,y1,y2⟩:=d2.at h2
 exact atEq_sound x2 y2 (hf j x y x1 y1) _ _
theorem dEq_sound{x y:D}{xv yv:Value}{b:Bool}(hh:Hp G w s)(hu:A.units<cLine)(rx:DR w x xv)(ry:DR w y yv)(e:dEq x y=some b):EqAt A s xv yv b:=by
 cases x with
 | tup xs=>
  cases y with
  | tup ys=>
   obtain⟨a,vs,rfl,i1,s1,d1⟩:=rx
   obtain⟨a',us,rfl,i2,s2,d2⟩:=ry
   by_cases h:a=a'
   ·subst h
    obtain rfl:=IsTuple_inj i1 i2
    obtain rfl:=DRs.fun d1 d2
    obtain rfl:=pairsEq_same (fun _ _ h=>(atEqE h).same) e
    exact EqAt.same _
   ·exact EqAt.of_refs h (tup_sound hh hu i1 i2 d1 d2 e)
  | _=>cases e
 | _=>exact atEq_sound rx ry e _ _
theorem list_sound{xs ys:List D}{vs us:Array Value}{a b:Addr}{r:Bool}(hh:Hp G w s)(hu:A.units+1<cLine)(i1:w.h.IsList a vs)(i2:w.h.IsList b us)(d1:DRs w xs vs.toList)(d2:DRs w ys us.toList)
  (e:dEqs xs ys=some r):RcAt A s (.ref a) (.ref b) r∧RcNeAt A s (.ref a) (.ref b) (!r):=by
 have l1:=d1.len;have l2:=d2.len
 simp only[Array.length_toList] at l1 l2
 rw[hh.1] at i1 i2
 by_cases h:vs.size=us.size
 ·obtain⟨f,hf,hr⟩:=pairsEq_at e
  have hr':(List.range vs.size).all f=r:=by
   rw[←hr,l1,l2,h];simp
  have he:∀ j (h1:j<vs.size) (h2:j<us.size),EqAt A.in1 s vs[j] us[j] (f j):=fun j h1 h2=>by
   obtain⟨x,x1,x2⟩:=d1.at h1
   obtain⟨y,y1,y2⟩:=d2.at h2
   exact dEq_sound hh hu x2 y2 (hf j x y x1 y1)
  rw[←hr']
  exact⟨RcAt.lists i1 i2 h (by(revert hu;exact z2 0x1ff842102c21a8281)) he,RcNeAt.lists i1 i2 h (by(revert hu;exact z2 0x1ff842102c21a8281)) he⟩
 ·have:=pairsEq_len e (by rw[l1,l2];exact h)
  subst this
  exact⟨RcAt.lists_lengths i1 i2 (by simpa using h) (by(revert hu;exact z2 0x1ff842102c21a8281)),RcNeAt.lists_lengths i1 i2 (by simpa using h) (by(revert hu;exact z2 0x1ff842102c21a8281))⟩
theorem dMem_all{x:D}:∀ {ys:List D} {vs:List Value} {b:Bool},DRs w ys vs→dMem x ys=some b→(∀ v∈vs,∃ d r,DR w d v∧dEq d x=some r)∧vs.any (eqOf w x)=b
 | [],[],b,_,e=>⟨fun _ h=>(nomatch h),Option.some.inj e⟩
 | [],_::_,_,h,_=>h.elim
 | _::_,[],_,h,_=>h.elim
 | y::ys,v::vs,b,⟨a1,a2⟩,e=>by
  obtain⟨p,h1,e⟩:=bindE e
  obtain⟨q,h2,rfl⟩:=mapE e
  obtain⟨k1,k2⟩:=dMem_all a2 h2
  refine⟨List.forall_mem_cons.mpr ⟨⟨y,p,a1,h1⟩,k1⟩,?_⟩
  rw[List.any_cons,k2,eqOf_eq a1,h1];rfl
theorem mem_sound{x:D}{xv:Value}{ys:List D}{a:Addr}{vs:Array Value}{b:Bool}(hh:Hp G w s)(hu:A.units+1<cLine)(rx:DR w x xv)(i:w.h.IsList a vs)(d:DRs w ys vs.toList)
  (e:dMem x ys=some b) {E:Value→Shared→Prop} {Q:Value→Shared→Prop} :
  (Q (.bool b) s→wpAny (Mo G) A (compareOp .In xv (.ref a)) Q E s)∧(Q (.bool (!b)) s→wpAny (Mo G) A (compareOp .NotIn xv (.ref a)) Q E s):=by
 obtain⟨k1,k2⟩:=dMem_all d e
 have he:∀ y,y∈vs→EqAt A.in1 s y xv (eqOf w x y):=fun y hy=>by
  obtain⟨d,r,h1,h2⟩:=k1 y (by simpa using hy)
  rw[eqOf_eq h1,h2]
  exact dEq_sound hh hu h1 rx h2
 have k3:vs.any (eqOf w x)=b:=by rw[←k2,Array.any_toList]
 rw[hh.1] at i
 exact⟨fun h=>in_listAt _ i he (by rw[k3];exact h),fun h=>notIn_listAt _ i he (by rw[k3];exact h)⟩
noncomputable def Cm.to:Cm→CmpOp
 | .eq=>.Eq
 | .ne=>.NotEq
 | .lt=>.Lt
 | .le=>.LtE
 | .gt=>.Gt
 | .ge=>.GtE
 | .is=>.Is
 | .isnot=>.IsNot
 | .inn=>.In
 | .notin=>.NotIn
noncomputable def cmIs(op:Cm)(op':CmpOp):Bool:=decide (op.to=op')
theorem cmIs_is{op:Cm}{op':CmpOp}(h:cmIs op op'=true):op.to=op':=of_decide_eq_true h
theorem VR.notNone{v:V}{val:Value}(r:VR G w v val)(h:∀ x,v≠.d x):∃ a,val=.ref a:=by
 cases v with
 | d x=>exact absurd rfl (h x)
 | lst xs=>obtain⟨a,_,e,_⟩:=r;exact⟨a,e⟩
 | dct xs=>obtain⟨a,e,_⟩:=r;exact⟨a,e⟩
 | hdr xs=>obtain⟨a,_,_,e,_⟩:=r;exact⟨a,e⟩
 | ref xs=>obtain⟨a,e,_⟩:=r;exact⟨a,e⟩
 | hd xs=>obtain⟨a,_,e,_⟩:=r;exact⟨a,e⟩
 | tup xs=>obtain⟨a,_,e,_⟩:=r;exact⟨a,e⟩
theorem isD_sound{a:V}{b:D}{av bv:Value}{r:Bool}(ra:VR G w a av)(rb:DR w b bv)(e:isD a b=some r){M:Model}{E:Value→Shared→Prop}{Q:Value→Shared→Prop} :
  (Q (.bool r) s→wpAny M A (compareOp .Is av bv) Q E s)∧(Q (.bool (!r)) s→wpAny M A (compareOp .IsNot av bv) Q E s):=by
 cases b with
 | none=>
  cases rb
  have:(av==Value.none)=r:=by
   cases a with
   | d x=>
    cases x with
    | none=>cases ra;exact Option.some.inj e
    | bool b=>cases ra;exact Option.some.inj e
    | tup _=>obtain⟨t,_,rfl,_⟩:=ra;exact Option.some.inj e
    | _=>obtain⟨t,rfl⟩:=ra;exact Option.some.inj e
   | _=>obtain⟨a,rfl⟩:=VR.notNone ra (fun _=>nofun);exact Option.some.inj e
  rw[←this]
  exact⟨is_none_gen,isnot_none_gen⟩
 | bool b=>
  cases rb
  have hp:plainIs av (.bool b)=true∧(av==Value.bool b)=r:=by
   cases a with
   | d x=>
    cases x with
    | none=>cases ra;exact⟨rfl,Option.some.inj e⟩
    | bool c=>
     cases ra
     refine⟨rfl,Eq.trans ?_ (Option.some.inj e)⟩
     cases b <;> cases c <;> rfl
    | tup i=>obtain⟨t,_,rfl,_⟩:=ra;exact⟨rfl,Option.some.inj e⟩
    | _=>obtain⟨t,rfl⟩:=ra;exact⟨rfl,Option.some.inj e⟩
   | _=>obtain⟨a,rfl⟩:=VR.notNone ra (fun _=>nofun);exact⟨rfl,Option.some.inj e⟩
  rw[←hp.2]
  exact⟨wpAny_is_plain hp.1,wpAny_isNot_plain hp.1⟩
 | _=>cases e
variable{E:Value→Shared→Prop}{Q:Value→Shared→Prop}
theorem in_sound{a b:V}{av bv:Value}{r:Bool}(c:St G C A env w loc led s)(hu:A.units+1<cLine)(ra:VR G w a av)(rb:VR G w b bv)(e:evIn led a b=some r) :
  (Q (.bool r) s→wpAny (Mo G) A (compareOp .In av bv) Q E s)∧(Q (.bool (!r)) s→wpAny (Mo G) A (compareOp .NotIn av bv) Q E s):=by
 obtain⟨x,h,e1⟩:=bindE e
 obtain⟨_,rfl,rfl⟩:=ofVW (toW h rfl)
 have fin:∀ {ys:List D},led.list b=some ys→dMem x ys=some r→(Q (.bool r) s→wpAny (Mo G) A (compareOp .In av bv) Q E s)∧(Q (.bool (!r)) s→wpAny (Mo G) A (compareOp .NotIn av bv) Q E s):=fun h e=>by
  obtain⟨l,vs,_,rfl,i,d,rfl⟩:=listW (K:=fun z=>z=_) c.conc.led rb (toW h rfl)
  exact mem_sound c.heap hu ra i.list d e
 cases b with
 | d y=>
  obtain⟨p,h3,e2⟩:=bindE e1
  obtain⟨q,h2,rfl⟩:=mapE e2
  obtain rfl:=D.strE h3
  obtain rfl:=D.strE h2
  obtain⟨t,rfl⟩:=ra;obtain⟨u,rfl⟩:=rb
  exact⟨PyProof.Rows.in_str,PyProof.Rows.notIn_str⟩
 | _=>obtain⟨ys,h3,e2⟩:=bindE e1;exact fin h3 e2
theorem eq_sound{a b:V}{av bv:Value}{r:Bool}(c:St G C A env w loc led s)(hu:A.units+1<cLine)(ra:VR G w a av)(rb:VR G w b bv)(e:evEq led a b=some r):RcAt A s av bv r∧RcNeAt A s av bv (!r):=by
 have fin:eqL led a b=some r→RcAt A s av bv r∧RcNeAt A s av bv (!r):=fun e=>by
  obtain⟨xs,h1,e⟩:=bindE e
  obtain⟨ys,h2,e⟩:=bindE e
  obtain⟨l,vs,_,rfl,i1,d1,rfl⟩:=listW (K:=fun z=>z=_) c.conc.led ra (toW h1 rfl)
  obtain⟨l',us,_,rfl,i2,d2,rfl⟩:=listW (K:=fun z=>z=_) c.conc.led rb (toW h2 rfl)
  exact list_sound c.heap hu i1.list i2.list d1 d2 e
 cases a with
 | d x=>
  obtain⟨y,h,e1⟩:=bindE e
  obtain⟨_,rfl,rfl⟩:=ofVW (toW h rfl)
  exact atRc_sound ra rb e1 A s
 | _=>exact fin e
theorem rel_sound{op:Cm}{a b:V}{av bv:Value}{r:Bool}(ra:VR G w a av)(rb:VR G w b bv)(e:evRel op a b=some r)(h0:op≠.eq)(h1:op≠.ne)(h:Q (.bool r) s):wpAny (Mo G) A (compareOp op.to av bv) Q E s:=by
 obtain⟨x,h2,e1⟩:=bindE e
 obtain⟨y,h3,e2⟩:=bindE e1
 clear e e1
 obtain⟨_,rfl,rfl⟩:=ofVW (toW h2 rfl)
 obtain⟨_,rfl,rfl⟩:=ofVW (toW h3 rfl)
 cases op with
 | eq=>exact absurd rfl h0
 | ne=>exact absurd rfl h1
 | lt=>
  cases x with
  | int a=>obtain⟨q,i2,rfl⟩:=mapE e2;obtain rfl:=D.intE i2;obtain⟨t,rfl⟩:=ra;obtain⟨u,rfl⟩:=rb;exact PyProof.Rows.lt_int h
  | str a=>obtain⟨q,i2,rfl⟩:=mapE e2;obtain rfl:=D.strE i2;obtain⟨t,rfl⟩:=ra;obtain⟨u,rfl⟩:=rb;exact PyProof.Rows.lt_str h
  | _=>cases e2
 | le=>
  cases x with
  | int a=>obtain⟨q,i2,rfl⟩:=mapE e2;obtain rfl:=D.intE i2;obtain⟨t,rfl⟩:=ra;obtain⟨u,rfl⟩:=rb;exact PySem.P.le_int h
  | str a=>obtain⟨q,i2,rfl⟩:=mapE e2;obtain rfl:=D.strE i2;obtain⟨t,rfl⟩:=ra;obtain⟨u,rfl⟩:=rb;exact PySem.P.le_str h
  | _=>cases e2
 | gt=>obtain⟨p,i1,e3⟩:=bindE e2;obtain⟨q,i2,rfl⟩:=mapE e3;obtain rfl:=D.intE i1;obtain rfl:=D.intE i2;obtain⟨t,rfl⟩:=ra;obtain⟨u,rfl⟩:=rb;exact PyProof.Rows.gt_int h
 | ge=>obtain⟨p,i1,e3⟩:=bindE e2;obtain⟨q,i2,rfl⟩:=mapE e3;obtain rfl:=D.intE i1;obtain rfl:=D.intE i2;obtain⟨t,rfl⟩:=ra;obtain⟨u,rfl⟩:=rb;exact PySem.P.ge_int h
 | _=>cases e2
theorem evCmp_sound{op:Cm}{op':CmpOp}{a b:V}{av bv:Value}{K:Bool→Prop}(c:St G C A env w loc led s)(ho:cmIs op op'=true)(ra:VR G w a av)(rb:VR G w b bv)(e:(evCmp led op a b).elim False K)
  (k:∀ {r},K r→Q (.bool r) s):wpAny (Mo G) A (compareOp op' av bv) Q E s:=by
 obtain⟨r,e,h⟩:=isW e
 have h:=k h
 obtain rfl:=cmIs_is ho
 have hu:A.units+1<cLine:=by have:=c.conc.units;show _<9900;(revert this;exact z2 0x1ff8429ab2c1a828b46516008160881a05280)
 cases op with
 | eq=>exact(eq_sound c hu ra rb e).1 _ _ _ _ h
 | ne=>obtain⟨q,e1,rfl⟩:=mapE e;exact(eq_sound c hu ra rb e1).2 _ _ _ _ h
 | is=>
  obtain⟨y,h3,e1⟩:=bindE e
  obtain⟨_,rfl,rfl⟩:=ofVW (toW h3 rfl)
  exact(isD_sound ra rb e1).1 h
 | isnot=>
  obtain⟨y,h3,e1⟩:=bindE e
  obtain⟨_,rfl,rfl⟩:=ofVW (toW h3 rfl)
  obtain⟨q,e2,rfl⟩:=mapE e1
  exact(isD_sound ra rb e2).2 h
 | inn=>exact(in_sound c hu ra rb e).1 h
 | notin=>obtain⟨q,e1,rfl⟩:=mapE e;exact(in_sound c hu ra rb e1).2 h
 | _=>exact rel_sound ra rb e nofun nofun h
end
end
section
section
variable{G:Gl}{C:Ct}{A:Around}{env:Env}{cx:Cx}{w:Wd}{loc:Loc}{led led':Led}{s:Shared}
theorem PostE.behind{w1 w2:Wd}{v v':V}{val val':Value}{s1 s2:Shared}{led1 led2:Led}(p1:PostE G w led1 v val s1 w1)(p2:PostE G w1 led2 v' val' s2 w2){d:D}{r:Value}(h:DR w2 d r):PostE G w led2 (.d d) r s2 w2:=
 ⟨p2.heap,p1.stp.trans p2.stp,p2.led,p2.nd,h⟩
theorem evBin_sound{op:Op2}{op':Operator}{x y:V}{xv yv:Value}{K:V × Led→Prop}{Q:Value→Shared→Prop}(c:St G C A env w loc led s)(ho:op.is op'=true)(rx:VR G w x xv)(ry:VR G w y yv)
  (e:(evBin led op x y).elim False K) (k:∀ {p:V × Led} {val s' w'},K p→PostE G w p.2 p.1 val s' w'→Q val s'):wpAny (Mo G) A (binaryOp op' xv yv) Q NoE s:=by
 have cat:(catL led x y).elim False K→op=.add→wpAny (Mo G) A (binaryOp op' xv yv) Q NoE s:=fun e1 ha=>by
  subst ha
  obtain rfl:=Op2.isW ho
  clear ho
  obtain⟨a,us,xs,rfl,i1,d1,e2⟩:=listW c.conc.led rx (bindW e1)
  obtain⟨b,vs,ys,rfl,i2,d2,e3⟩:=listW c.conc.led ry (bindW e2)
  obtain⟨hl,e4⟩:=gdW e3
  have l1:=d1.len;have l2:=d2.len
  simp only[Array.length_toList] at l1 l2
  obtain⟨n,ho⟩:=i1
  obtain⟨n2,ho2⟩:=i2
  rw[c.heap.1] at ho ho2
  have hc:us.size+vs.size≤4096:=by rw[←l1,←l2];exact hl
  have g:Grow w.h (s.heap.push { cls:=.type "list",data:=.seq (us++vs) }):=c.heap.1▸Grow.push _ _
  refine concat_meets ⟨_,ho,rfl⟩ ⟨_,ho2,rfl⟩ noFill_list_add seq_list_add PySem.F.slot_list_add PySem.F.entry_list_add (PySem.F.args_list_add_2 _ _)
   (list_addW a b us vs n n2 _ _ _ _ (Nat.le_trans hc (by decide))) ⟨ho,ho2,?_⟩
  exact k e4 (PostE.new (s':={ s with heap:=s.heap.push { cls:=.type "list",data:=.seq (us++vs) } }) (o:=.list (xs++ys)) c.conc g (c.heap.1▸fresh_size)
   ⟨us++vs,⟨0,Heap.get?_push_size _ rfl⟩,by rw[Array.toList_append];exact(d1.append d2).per (Stp.new g (c.heap.1▸fresh_size)).per⟩ c.heap.2)
 cases x with
 | d x=>
  obtain⟨y,rfl,e1⟩:=ofVW (bindW e)
  exact bin2_sound c ho rx ry (mapW e1) fun e2 p=>k e2 p
 | _=>
  cases op with
  | add=>exact cat e rfl
  | _=>exact e.elim
theorem SE.bin{op:Op2}{op':Operator}{a b:UK.E}{l r:Expr}{pos:Pos}(ho:op.is op'=true)(ha:SE G C A env cx a l)(hb:SE G C A env cx b r) :
  SE G C A env cx (.bin op a b) (.BinOp l op' r pos):=fun c e k=>
 wpAny_BinOp (ha c (bindW e) fun e p1=>hb (p1.st c) (bindW e) fun e p2=>evBin_sound (p2.st (p1.st c)) ho (p1.val.per p2.stp.per) p2.val e fun e p3=>k e ((p1.trans p2).trans p3))
theorem SE.cmp{op:Cm}{op':CmpOp}{a b:UK.E}{l r:Expr}{pos:Pos}(ho:cmIs op op'=true)(hm:behindInMarks op' r=false)(ha:SE G C A env cx a l)(hb:SE G C A env cx b r) :
  SE G C A env cx (.cmp a op b) (.Compare l [op'] [r] pos):=fun c e k=>
 wpAny_Compare1 (ha c (bindW e) fun e p1=>hb (p1.st c) (bindW e) fun e p2=>evCmp_sound (p2.st (p1.st c)) ho (p1.val.per p2.stp.per) p2.val (mapW e) fun e=>k e (p1.behind p2 rfl)) hm
theorem ST.cmp{op:Cm}{op':CmpOp}{a b:UK.E}{l r:Expr}{pos:Pos}(ho:cmIs op op'=true)(hm:behindInMarks op' r=false)(ha:SE G C A env cx a l)(hb:SE G C A env cx b r) :
  ST G C A env cx (.cmp a op b) (.Compare l [op'] [r] pos):=fun {w loc led s K Q} c e k=>
 have e:(evE cx (.cmp a op b) loc led).elim False (fun p=>(tru p.2 p.1).elim False (K p.2)):=e
 wpAny_isTrue_Compare1 (ha c (bindW e) fun e p1=>hb (p1.st c) (bindW e) fun e p2=>evCmp_sound (p2.st (p1.st c)) ho (p1.val.per p2.stp.per) p2.val (mapW e) fun e=>wpAny_pure (k e (p1.behind p2 rfl))) hm
theorem SE.cmp2{op op2:Cm}{op' op2':CmpOp}{a b d:UK.E}{l r t:Expr}{pos:Pos}(ho:cmIs op op'=true)(ho2:cmIs op2 op2'=true)(hm:lastMarks [op',op2'] [r,t]=false)
  (ha:SE G C A env cx a l) (hb:SE G C A env cx b r) (hd:SE G C A env cx d t):SE G C A env cx (.cmp2 a op b op2 d) (.Compare l [op',op2'] [r,t] pos):=fun c e k=>
 Compare_chain (ha c (bindW e) fun e p1=>chain_link (hb (p1.st c) (bindW e) fun e p2=>evCmp_sound (p2.st (p1.st c)) ho (p1.val.per p2.stp.per) p2.val (bindW e) fun {q} e=>wpAny_pure (by
  cases q with
  | false=>exact k e (p1.behind p2 rfl)
  | true=>exact chain_last (hd (p2.st (p1.st c)) (bindW e) fun e p3=>evCmp_sound (p3.st (p2.st (p1.st c))) ho2 (p2.val.per p3.stp.per) p3.val (mapW e) fun e=>k e ((p1.trans p2).behind p3 rfl))))) hm
theorem ST.cmp2{op op2:Cm}{op' op2':CmpOp}{a b d:UK.E}{l r t:Expr}{pos:Pos}(ho:cmIs op op'=true)(ho2:cmIs op2 op2'=true)(hm:lastMarks [op',op2'] [r,t]=false)
  (ha:SE G C A env cx a l) (hb:SE G C A env cx b r) (hd:SE G C A env cx d t):ST G C A env cx (.cmp2 a op b op2 d) (.Compare l [op',op2'] [r,t] pos):=fun c e k=>
 isTrue_chain (ha c (bindW e) fun e p1=>test_link (hb (p1.st c) (bindW e) fun e p2=>evCmp_sound (p2.st (p1.st c)) ho (p1.val.per p2.stp.per) p2.val (bindW e) fun {q} e=>wpAny_pure (by
  cases q with
  | false=>exact k e (p1.behind p2 rfl)
  | true=>exact test_last (hd (p2.st (p1.st c)) (bindW e) fun e p3=>evCmp_sound (p3.st (p2.st (p1.st c))) ho2 (p2.val.per p3.stp.per) p3.val (mapW e) fun e=>wpAny_pure (k e ((p1.trans p2).behind p3 rfl)))))) hm
structure PostEs (G:Gl) (w:Wd) (led':Led) (vs:List V) (vals:List Value) (s':Shared) (w':Wd):Prop where
 heap:Hp G w' s'
 stp:Stp w w'
 led:ORs G w' led' w'.ads
 nd:w'.ads.Nodup
 val:VRs G w' vs vals
theorem PostEs.st{w':Wd}{v:List V}{val:List Value}{s':Shared}(p:PostEs G w led' v val s' w')(c:St G C A env w loc led s):St G C A env w' loc led' s':=⟨c.conc.stp p.stp p.led p.nd,p.heap⟩
def SEs(G:Gl)(C:Ct)(A:Around)(env:Env)(cx:Cx)(es:List UK.E)(xs:List Expr):Prop:=
 ∀ {w:Wd} {loc:Loc} {led:Led} {s:Shared} {pos:Pos} {K:List V × Led→Prop} {Q:List Value→Shared→Prop},St G C A env w loc led s→(evEs cx es loc led).elim False K →
  (∀ {p:List V × Led} {vals:List Value} {s':Shared} {w':Wd},K p→PostEs G w p.2 p.1 vals s' w'→Q vals s')→wpAny (Mo G) A (spliced (backTo pos (starEach xs env))) Q NoE s
theorem SEs.nil:SEs G C A env cx [] []:=fun c e k=>spliced_none (k e ⟨c.heap,Stp.refl _,c.conc.led,c.conc.nd,trivial⟩)
noncomputable def noStar:Expr→Bool
 | .Starred _ _=>false
 | _=>true
theorem starEach_cons{x:Expr}{xs:List Expr}{env:Env}(h:noStar x=true):starEach (x::xs) env=(false,eval x env)::starEach xs env:=by
 cases x <;> first | rfl | exact Bool.noConfusion h
theorem SEs.cons{e:UK.E}{es:List UK.E}{x:Expr}{xs:List Expr}(hn:noStar x=true)(h1:SE G C A env cx e x)(h2:SEs G C A env cx es xs):SEs G C A env cx (e::es) (x::xs):=fun {w loc led s pos K Q} c e k=>by
 rw[starEach_cons hn]
 exact spliced_cons (h1 c (bindW e) fun e p1=>h2 (p1.st c) (mapW e) fun e p2=>k e ⟨p2.heap,p1.stp.trans p2.stp,p2.led,p2.nd,p1.val.per p2.stp.per,p2.val⟩)
theorem allD_sound{w:Wd}:∀ {vs:List V} {ds:List D} {vals:List Value},allD vs=some ds→VRs G w vs vals→DRs w ds vals
 | [],_,[],e,_=>Option.some.inj e▸trivial
 | [],_,_::_,_,h=>h.elim
 | _::_,_,[],_,h=>h.elim
 | v::vs,ds,val::vals,e,⟨a,b⟩=>by
  obtain⟨x,h1,e⟩:=bindE e
  obtain⟨xs,h2,rfl⟩:=mapE e
  obtain⟨_,rfl,rfl⟩:=ofVW (toW h1 rfl)
  exact⟨a,allD_sound h2 b⟩
theorem VRs.len{w:Wd}:∀ {vs:List V} {vals:List Value},VRs G w vs vals→vs.length=vals.length
 | [],[],_=>rfl
 | [],_::_,h=>h.elim
 | _::_,[],h=>h.elim
 | _::_,_::_,⟨_,b⟩=>congrArg (·+1) b.len
theorem evEs_len:∀ {es:List UK.E} {loc:Loc} {led:Led} {p:List V × Led},evEs cx es loc led=some p→p.1.length=es.length
 | [],_,_,_,e=>Option.some.inj e▸rfl
 | e::es,loc,led,p,ev=>by
  obtain⟨q,_,ev⟩:=bindE ev
  obtain⟨r,h,rfl⟩:=mapE ev
  exact congrArg (·+1) (evEs_len h)
theorem lenK{es:List UK.E}{K:List V × Led→Prop}(e:(evEs cx es loc led).elim False K):(evEs cx es loc led).elim False fun p=>p.1.length=es.length∧K p:=by
 obtain⟨p,h,e⟩:=isW e
 exact toW h ⟨evEs_len h,e⟩
theorem SE.tuple{es:List UK.E}{xs:List Expr}{k:Nat}{pos:Pos}(hs:es.length≤1000)(h:SEs G C A env cx es xs):SE G C A env cx (.tuple es) (.Tuple xs k pos):=fun {w loc led s K Q} c e kk=>by
 rw[arm_eval_Tuple]
 refine wpAny_bind (wpAny_standAt (wpAny_bind (h c (lenK (mapW e)) fun {p vals s1 w1} e p1=>?_)))
 have hz:vals.length≤sizeLine:=by rw[←p1.val.len,e.1];exact Nat.le_trans hs (by decide)
 refine wpAny_newTuple ?_ hz
 have c1:=(p1.st c).conc
 have g:Grow w1.h (s1.heap.push { cls:=.type "tuple",data:=.seq vals.toArray }):=p1.heap.1▸Grow.push _ _
 have ht:Heap.IsTuple (s1.heap.push { cls:=.type "tuple",data:=.seq vals.toArray }) s1.heap.objs.size vals.toArray:=⟨_,Heap.get?_push_size _ rfl,rfl,0,rfl⟩
 have hst:w1.st s1.heap.objs.size:=fresh_st c1 (p1.heap.1▸fresh_size)
 refine kk e.2 (w':=⟨s1.heap.push { cls:=.type "tuple",data:=.seq vals.toArray },w1.own,w1.prot,w1.ads⟩) ?_
 cases ha:allD p.1 with
 | some ds=>exact⟨⟨rfl,p1.heap.2⟩,p1.stp.trans (Stp.grow g),(c1.grow g).led,c1.nd,_,_,rfl,ht,hst,(allD_sound ha p1.val).per (Stp.grow g).per⟩
 | none=>exact⟨⟨rfl,p1.heap.2⟩,p1.stp.trans (Stp.grow g),(c1.grow g).led,c1.nd,_,_,rfl,ht,hst,p1.val.per (Stp.grow g).per⟩
theorem SE.list{es:List UK.E}{xs:List Expr}{pos:Pos}(hs:es.length≤1000)(h:SEs G C A env cx es xs):SE G C A env cx (.list es) (.List xs pos):=fun {w loc led s K Q} c e kk=>by
 rw[arm_eval_List]
 refine wpAny_bind (wpAny_standAt (wpAny_bind (h c (lenK (bindW e)) fun {p vals s1 w1} e p1=>?_)))
 have hz:vals.length≤sizeLine:=by rw[←p1.val.len,e.1];exact Nat.le_trans hs (by decide)
 refine wpAny_newList ?_ hz
 obtain⟨ds,ha,e2⟩:=isW (mapW e.2)
 have g:Grow w1.h (s1.heap.push { cls:=.type "list",data:=.seq vals.toArray }):=p1.heap.1▸Grow.push _ _
 have p2:=PostE.new (s':={ s1 with heap:=s1.heap.push { cls:=.type "list",data:=.seq vals.toArray } }) (o:=.list ds) (p1.st c).conc g (p1.heap.1▸fresh_size)
  ⟨vals.toArray,⟨0,Heap.get?_push_size _ rfl⟩,(allD_sound ha p1.val).per (Stp.new g (p1.heap.1▸fresh_size)).per⟩ p1.heap.2
 exact kk e2 ⟨p2.heap,p1.stp.trans p2.stp,p2.led,p2.nd,p2.val⟩
end
end
section
section
variable{G:Gl}{C:Ct}{A:Around}{env:Env}{cx:Cx}{w:Wd}{loc:Loc}{led led':Led}{s:Shared}
theorem subscripted_wp{M:Model}{slice:Expr}{o i:Value}{E:Value→Shared→Prop}{Q:Value→Shared→Prop}{s:Shared}(h:wpAny M A (getItem o i) Q E s) :
  wpAny M A (subscripted slice false o i) Q E s:=by
 unfold subscripted
 split
 ·exact wpAny_operating h
 ·rename_i hf;cases hf
 ·exact wpAny_operating h
theorem Subscript_wp{p:Program}{w:World}{value slice:Expr}{pos:Pos}{E:Value→Shared→Prop}{Q:Value→Shared→Prop}{s:Shared}
  (h:wpAny (model p w) A (eval value env) (fun o s₁=>wpAny (model p w) A (eval slice env) (fun i s₂=>ItemOn (model p w) A E o i Q s₂) E s₁) E s) :
  wpAny (model p w) A (eval (.Subscript value slice pos) env) Q E s:=by
 rw[eval_Subscript]
 refine wpAny_bind (wpAny_mono h (fun o s₁ h₁=>wpAny_bind (wpAny_holding (wpAny_mono h₁ (fun i s₂ h₂=>wpAny_bind (wpAny_standAt ?_)) fun _ _ x=>x)))
  fun _ _ x=>x)
 obtain⟨T,id,hl,hT,hg⟩:=h₂
 refine wpAny_bind ?_
 rw[getitemInPython_of_ne hT.not_modules]
 refine wpAny_bind (wpAny_specialOf hT hl ?_)
 have fin:wpAny (model p w) A (subscripted slice false o i) (fun r s₃=>wpAny (model p w) A (letTemporaryGo value o r >>= fun _=>pure r) Q E s₃) E s₂:=
  subscripted_wp (wpAny_mono hg (fun r s₃ h₃=>wpAny_bind (wpAny_letTemporaryGo (wpAny_pure h₃))) fun _ _ x=>x)
 first
  | exact wpAny_pure (wpAny_bind fin)
  | exact wpAny_bind (wpAny_pure (wpAny_bind fin))
  | exact wpAny_bind fin
theorem getItem_list_at{a:Addr}{vs:Array Value}{i:Int}{t:Tok}{j:Nat}{x:Value}{E:Value→Shared→Prop}{Q:Value→Shared→Prop}{p:Program}{W:World}(hl:s.heap.IsList a vs)(h1:-(2 ^ 62)<i)(h2:i<2 ^ 62)
  (hj:seqIndex? i vs.size=some j) (hx:vs[j]?=some x) (h:Q x s):wpAny (model p W) A (getItem (.ref a) (.int i t)) Q E s:=by
 unfold seqIndex? at hj
 dsimp only at hj
 by_cases hi:i<0
 ·rw[if_pos hi] at hj
  split at hj
  ·rename_i hb
   simp only[Option.some.injEq] at hj
   subst hj
   rw[Bool.and_eq_true,decide_eq_true_eq,decide_eq_true_eq] at hb
   exact wpAny_getItem_list_neg hl hi (by omega) (by omega) hx h
  ·cases hj
 ·rw[if_neg hi] at hj
  split at hj
  ·rename_i hb
   simp only[Option.some.injEq] at hj
   subst hj
   exact wpAny_getItem_list hl (Int.not_lt.mp hi) (by omega) hx h
  ·cases hj
theorem strAt{x:Str}{i:Int}{c:Nat}(h:Txt.charAt x i=some c):Txt.item x i=⟨#[c]⟩:=by
 unfold Txt.item
 rw[h];rfl
theorem DRs.size{xs:List D}{vs:Array Value}(d:DRs w xs vs.toList):xs.length=vs.size:=by
 have:=d.len
 simpa using this
variable{Q:Value→Shared→Prop}
theorem atIW{i:Int}{xs:List D}{vs:Array Value}{K:V→Prop}(d:DRs w xs vs.toList)(e:(atI xs i).elim False K):∃ j x v,seqIndex? i vs.size=some j∧vs[j]?=some v∧DR w x v∧K (.d x):=by
 obtain⟨j,h1,e1⟩:=isW (bindW (mapW e))
 obtain⟨x,h2,e2⟩:=isW e1
 obtain⟨v,hv,hr⟩:=d.get h2
 exact⟨j,x,v,d.size▸h1,by rw[←Array.getElem?_toList];exact hv,hr,e2⟩
theorem evIndex_sound{x y:V}{xv yv:Value}{K:V→Prop}(c:St G C A env w loc led s)(rx:VR G w x xv)(ry:VR G w y yv)(e:(evIndex led x y).elim False K)(k:∀ {d val s'},K (.d d)→DR w d val→Sm s s'→Q val s'):ItemOn (Mo G) A NoE xv yv Q s:=by
 obtain⟨y,rfl,e1⟩:=ofVW (bindW e)
 cases y with
 | int i=>
  obtain⟨t,rfl⟩:=ry
  obtain⟨hi,e2⟩:=gdW e1
  have lst:∀ {v:V},VR G w v xv→((led.list v).bind fun xs=>atI xs i).elim False K→ItemOn (Mo G) A NoE xv (.int i t) Q s:=fun rx e2=>by
   obtain⟨a,vs,xs,rfl,ht,hd,e3⟩:=listW c.conc.led rx (bindW e2)
   obtain⟨j,x,v,h1,h2,h3,e4⟩:=atIW hd e3
   have ht:=ht.list
   rw[c.heap.1] at ht
   obtain⟨o,ho,hc,n,hdt⟩:=id ht
   exact⟨"list",_,PySem.F.slot_list_getitem.lookup,⟨o,ho,hc⟩,getItem_list_at ht hi.1 hi.2 h1 h2 (k e4 h3 (Sm.refl s))⟩
  cases x with
  | d q=>
   cases q with
   | str q=>
    obtain⟨u,rfl⟩:=rx
    obtain⟨ch,h1,e3⟩:=isW (mapW e2)
    refine SB.item (by unfold fitsSsize;simp;omega) (by rw[h1];rfl) ?_
    rw[strAt h1]
    exact k e3 ⟨_,rfl⟩ ⟨rfl,rfl,rfl⟩
   | tup q=>
    obtain⟨a,vs,rfl,ht,hs,hd⟩:=rx
    obtain⟨j,x,v,h1,h2,h3,e4⟩:=atIW hd e2
    rw[c.heap.1] at ht
    obtain⟨o,ho,hc,n,hdt⟩:=id ht
    exact⟨"tuple",_,PySem.F.slot_tuple_getitem.lookup,⟨o,ho,hc⟩,PyProof.Rows.getItem_tuple ht (by omega) (by omega) h1 h2 (k e4 h3 (Sm.refl s))⟩
   | _=>exact e2.elim
  | _=>exact lst rx e2
 | _=>exact e1.elim
theorem SE.index{a i:UK.E}{x y:Expr}{pos:Pos}(ha:SE G C A env cx a x)(hi:SE G C A env cx i y):SE G C A env cx (.index a i) (.Subscript x y pos):=fun c e k=>
 Subscript_wp (ha c (bindW e) fun e p1=>hi (p1.st c) (bindW e) fun e p2=>evIndex_sound (p2.st (p1.st c)) (p1.val.per p2.stp.per) p2.val (mapW e) fun e r q=>k e (p1.behind (p2.toks' q) r))
theorem DRs.get_none{w:Wd}:∀ {xs:List D} {vs:List Value} {i:Nat},DRs w xs vs→xs[i]?=none→vs[i]?=none:=by
 intro xs vs i h e
 rw[List.getElem?_eq_none_iff] at e ⊢
 rw[←h.len];exact e
theorem DRs.pick{w:Wd}{xs:List D}{vs:List Value}(h:DRs w xs vs):∀ (is:List Nat),DRs w (is.filterMap (xs[·]?)) (is.filterMap (vs[·]?))
 | []=>trivial
 | i::is=>by
  cases e:xs[i]? with
  | none=>
   rw[List.filterMap_cons_none e,List.filterMap_cons_none (h.get_none e)]
   exact h.pick is
  | some x=>
   obtain⟨v,hv,hr⟩:=h.get e
   rw[List.filterMap_cons_some e,List.filterMap_cons_some hv]
   exact⟨hr,h.pick is⟩
theorem DRs.slice{w:Wd}{xs:List D}{vs:Array Value}(h:DRs w xs vs.toList)(lo hi st:Option Int):DRs w (pickD xs lo hi st) (slicePick vs lo hi st).toList:=by
 have e:slicePick vs lo hi st=((sliceRange (sliceBounds lo hi st xs.length).1 (sliceBounds lo hi st xs.length).2.1 (sliceBounds lo hi st xs.length).2.2).filterMap (vs.toList[·]?)).toArray:=by
  unfold slicePick
  have hl:=h.len
  simp only[Array.length_toList] at hl
  rw[hl]
  simp only[Array.getElem?_toList]
 rw[e]
 exact h.pick _
noncomputable def partOf:Option Int→Tok→Option (Int × Tok)
 | none,_=>none
 | some i,t=>some (i,t)
theorem endOf_sound{v:V}{val:Value}{K:Option Int→Prop}(r:VR G w v val)(e:(endOf v).elim False K):∃ o t,val=partValue (partOf o t)∧IsPart val o∧K o:=by
 obtain⟨d,rfl,e1⟩:=ofVW (bindW e)
 cases d with
 | none=>cases r;exact⟨_,0,rfl,.none,e1⟩
 | int i=>obtain⟨h,e2⟩:=gdW e1;obtain⟨t,rfl⟩:=r;exact⟨some i,t,rfl,.int _ _,e2⟩
 | _=>exact e1.elim
theorem partOf_map(o:Option Int)(t:Tok):(partOf o t).map (·.1)=o:=by cases o <;> rfl
noncomputable abbrev slcS(s:Shared)(lv hv zv:Value):Shared:={ s with heap:=s.heap.push { cls:=.type "slice",data:=.fields #[lv,hv,zv] } }
theorem slcL_sound{x:V}{xv lv hv zv:Value}{lo hi st:Option Int}{K:V × Led→Prop}(c:St G C A env w loc led s)(rx:VR G w x xv)(p1:IsPart lv lo)(p2:IsPart hv hi)(p3:IsPart zv st)(h0:st≠some 0)(e:(slcL led x lo hi st).elim False K)
  (k:∀ {p:V × Led} {val s' w'},K p→PostE G w p.2 p.1 val s' w'→Q val s'):ItemOn (Mo G) A NoE xv (.ref s.heap.objs.size) Q (slcS s lv hv zv):=by
 have g:Grow w.h (slcS s lv hv zv).heap:=c.heap.1▸Grow.push _ _
 have c1:=c.conc.grow g
 obtain⟨a,vs,xs,rfl,ht,hd,e1⟩:=listW c1.led (rx.per (Stp.grow g).per) (bindW e)
 obtain⟨hl,e2⟩:=gdW e1
 have hsz:vs.size≤sizeLine:=by
  rw[←hd.size];exact Nat.le_trans hl (by decide)
 have ht:=ht.list
 obtain⟨ob,ho,hc,n,hdt⟩:=id ht
 refine⟨"list",_,PySem.F.slot_list_getitem.lookup,⟨ob,ho,hc⟩,wpAny_getItem_list_slice ht (Heap.IsSliceOf.new _ _ _ _) p1 p2 p3 h0 ?_ hsz⟩
 have g2:Grow (slcS s lv hv zv).heap ((slcS s lv hv zv).heap.push { cls:=.type "list",data:=.seq (slicePick vs lo hi st) }):=Grow.push _ _
 have p4:=PostE.new (s':={ s with heap:=(slcS s lv hv zv).heap.push { cls:=.type "list",data:=.seq (slicePick vs lo hi st) } }) (o:=.list (pickD xs lo hi st)) c1 g2 fresh_size
  ⟨_,⟨0,Heap.get?_push_size _ rfl⟩,(hd.slice lo hi st).per (Stp.new g2 fresh_size).per⟩ c.heap.2
 exact k e2 ⟨p4.heap,(Stp.grow g).trans p4.stp,p4.led,p4.nd,p4.val⟩
theorem sliceOn{x l h z:V}{xv lv hv zv:Value}{K:V × Led→Prop}(c:St G C A env w loc led s)(rx:VR G w x xv)(rl:VR G w l lv)(rh:VR G w h hv)(rz:VR G w z zv)
  (e:(evSlice led x l h z).elim False K) (k:∀ {p:V × Led} {val s' w'},K p→PostE G w p.2 p.1 val s' w'→Q val s'):ItemOn (Mo G) A NoE xv (.ref s.heap.objs.size) Q (slcS s lv hv zv):=by
 obtain⟨st,rfl,e1⟩:=ofVW (bindW e)
 cases st with
 | none=>
  cases rz
  obtain⟨lo,tl,q1,i1,e2⟩:=endOf_sound rl (bindW e1)
  obtain⟨hi,th,q2,i2,e3⟩:=endOf_sound rh (bindW e2)
  cases x with
  | d y=>
   obtain⟨q,rfl,e4⟩:=D.strW (bindW e3)
   obtain⟨hl,e5⟩:=gdW e4
   obtain⟨t,rfl⟩:=rx
   subst q1 q2
   have hsz:(Txt.slice q lo hi).length≤sizeLine:=Nat.le_trans (Txt.slice_le q lo hi) (Nat.le_trans hl (by decide))
   refine⟨"str",_,PySem.F.slot_str_getitem.lookup,typeIs_str _ _ _,wpAny_getItem_str_slice (l:=partOf lo tl) (u:=partOf hi th) (st:=none) ⟨_,Heap.get?_push_size _ rfl,rfl,rfl⟩ rfl ?_⟩
   have em:sliceMade q t (partOf lo tl) (partOf hi th) none=if ((1:Int)==1&&(Builtin.Str.strSliceIndices lo hi 1 q.length).length==q.length)=true then .val (.str q t) else .str ⟨((Builtin.Str.strSliceIndices lo hi 1 q.length).filterMap (q.cps[·]?)).toArray⟩:=by
    unfold sliceMade slicePicked
    rw[partOf_map,partOf_map];rfl
   rw[em]
   refine PySem.post_val_or_str ⟨hsz,fun t' tk=>?_⟩
   have g:Grow w.h (slcS s (partValue (partOf lo tl)) (partValue (partOf hi th)) .none).heap:=c.heap.1▸Grow.push _ _
   exact k e5 (c.grown (s':={ s with heap:=s.heap.push { cls:=.type "slice",data:=.fields #[partValue (partOf lo tl),partValue (partOf hi th),.none] },toks:=tk }) g ⟨_,rfl⟩ c.heap.2)
  | _=>exact slcL_sound c rx i1 i2 .none nofun e3 k
 | int z=>
  obtain⟨tz,rfl⟩:=rz
  obtain⟨rfl,e2⟩:=gdW e1
  obtain⟨lo,tl,q1,i1,e3⟩:=endOf_sound rl (bindW e2)
  obtain⟨hi,th,q2,i2,e4⟩:=endOf_sound rh (bindW e3)
  obtain⟨⟨rfl,rfl⟩,e5⟩:=gdW e4
  exact slcL_sound c rx i1 i2 (.int _ _) (by decide) e5 k
 | _=>exact e1.elim
def SP(G:Gl)(C:Ct)(A:Around)(env:Env)(cx:Cx)(e:UK.E)(x:Option Expr):Prop:=
 ∀ {w:Wd} {loc:Loc} {led:Led} {s:Shared} {K:V × Led→Prop} {Q:Value→Shared→Prop},St G C A env w loc led s→(evE cx e loc led).elim False K →
  (∀ {p:V × Led} {val:Value} {s':Shared} {w':Wd},K p→PostE G w p.2 p.1 val s' w'→Q val s')→wpAny (Mo G) A (evalPart x env) Q NoE s
theorem SP.none:SP G C A env cx (.lit .none) none:=fun c e k=>wpAny_pure (k e (c.val rfl))
theorem SP.some{e:UK.E}{x:Expr}(h:SE G C A env cx e x):SP G C A env cx e (some x):=fun c ev k=>by
 rw[evalPart_some]
 exact h c ev k
theorem SE.slice{a l h z:UK.E}{x:Expr}{xl xh xz:Option Expr}{p pos:Pos}(ha:SE G C A env cx a x)(hl:SP G C A env cx l xl)(hu:SP G C A env cx h xh)(hz:SP G C A env cx z xz) :
  SE G C A env cx (.slice a l h z) (.Subscript x (.Slice xl xh xz p) pos):=fun c e k=>
 Subscript_wp (ha c (bindW e) fun e p1=>wpAny_Slice (hl (p1.st c) (bindW e) fun e p2=>hu (p2.st (p1.st c)) (bindW e) fun e p3=>hz (p3.st (p2.st (p1.st c))) (bindW e) fun e p4=>
  sliceOn (p4.st (p3.st (p2.st (p1.st c)))) (((p1.val.per p2.stp.per).per p3.stp.per).per p4.stp.per) ((p2.val.per p3.stp.per).per p4.stp.per) (p3.val.per p4.stp.per) p4.val e fun e p5=>k e ((((p1.trans p2).trans p3).trans p4).trans p5)))
end
end
section
section
variable{G:Gl}{C:Ct}{A:Around}{env:Env}{cx:Cx}{w:Wd}{loc:Loc}{led led':Led}{s:Shared}
theorem St.ns(c:St G C A env w loc led s):s.heap.Ns env.globals G.mg∧s.heap.Ns env.builtins G.mb:=by
 rw[c.conc.frame.globals,c.conc.frame.builtins,←c.heap.1]
 exact⟨Ns_get c.conc.glob.1 fun o e=>(c.conc.keep _ o e).1,Ns_get c.conc.glob.2 fun o e=>(c.conc.keep _ o e).1⟩
theorem loadGlobal_look(c:St G C A env w loc led s){x:Str}{v:Value}{E:Value→Shared→Prop}{Q:Value→Shared→Prop}(hv:G.look x=some v)(h:Q v s) :
  wpAny (Mo G) A (loadGlobal env x) Q E s:=by
 unfold Gl.look at hv
 cases e:G.mg x with
 | some u=>rw[e] at hv;obtain rfl:=Option.some.inj hv;exact loadGlobal_global c.ns.1 e h
 | none=>rw[e] at hv;exact loadGlobal_builtin c.ns.1 e c.ns.2 hv h
theorem global_name(c:St G C A env w loc led s){x:Str}{pos:Pos}{v:Value}{E:Value→Shared→Prop}{Q:Value→Shared→Prop}(hk:env.kindOf x=some .globalImplicit)(hv:G.look x=some v)
  (hd:(x==("__debug__":Str))=false) (h:Q v s):wpAny (Mo G) A (eval (.Name x pos) env) Q E s:=
 Name_function_global c.conc.frame.kind hk (loadGlobal_look c hv h) hd
noncomputable def noStars(xs:List Expr):Bool:=xs.all noStar
theorem noStars_plain{pos:Pos}:∀ {xs:List Expr},noStars xs=true→(backTo pos (starEach xs env)).any (·.1)=false
 | [],_=>rfl
 | x::xs,h=>by
  unfold noStars at h
  rw[List.all_cons,Bool.and_eq_true] at h
  rw[starEach_cons h.1]
  show (false || (backTo pos (starEach xs env)).any (·.1))=false
  rw[noStars_plain (xs:=xs) h.2];rfl
theorem intsAre_of{w:Wd}:∀ {xs:List D} {is:List Int} {vs:List Value},intsOf xs=some is→DRs w xs vs→IntsAre vs is
 | [],_,[],e,_=>Option.some.inj e▸.nil
 | [],_,_::_,_,h=>h.elim
 | _::_,_,[],_,h=>h.elim
 | x::xs,is,v::vs,e,⟨a,b⟩=>by
  obtain⟨i,h1,e1⟩:=bindE e
  obtain⟨r,h2,rfl⟩:=mapE e1
  obtain rfl:=D.intE h1
  obtain⟨t,rfl⟩:=a
  exact .cons _ _ (intsAre_of h2 b)
theorem strsAre_of{w:Wd}:∀ {xs:List D} {is:List Str} {vs:List Value},strsOf xs=some is→DRs w xs vs→StrsAre vs is
 | [],_,[],e,_=>Option.some.inj e▸.nil
 | [],_,_::_,_,h=>h.elim
 | _::_,_,[],_,h=>h.elim
 | x::xs,is,v::vs,e,⟨a,b⟩=>by
  obtain⟨i,h1,e1⟩:=bindE e
  obtain⟨r,h2,rfl⟩:=mapE e1
  obtain rfl:=D.strE h1
  obtain⟨t,rfl⟩:=a
  exact .cons _ _ (strsAre_of h2 b)
theorem DRs_ints{w:Wd}:∀ {vs:List Value} {is:List Int},IntsAre vs is→DRs w (is.map D.int) vs
 | _,_,.nil=>trivial
 | _,_,.cons n t h=>⟨⟨t,rfl⟩,DRs_ints h⟩
theorem DRs_strs{w:Wd}:∀ {vs:List Value} {is:List Str},StrsAre vs is→DRs w (is.map D.str) vs
 | _,_,.nil=>trivial
 | _,_,.cons n t h=>⟨⟨t,rfl⟩,DRs_strs h⟩
theorem St.newL{xs:List D}{out:Array Value}{a:Addr}{s':Shared}(c:St G C A env w loc led s)(g:Grow s.heap s'.heap)(f:s.heap.get? a=none)(hl:IsL s'.heap a out)
  (d:∀ w':Wd,Stp w w'→DRs w' xs out.toList) (rs:Rs G s'):PostE G w (led++[.list xs]) (.ref led.length) (.ref a) s' ⟨s'.heap,w.own,w.prot,w.ads++[a]⟩:=
 have g:Grow w.h s'.heap:=c.heap.1▸g
 have f:w.h.get? a=none:=c.heap.1▸f
 PostE.new (o:=.list xs) c.conc g f ⟨out,hl,d _ (Stp.new g f)⟩ rs
noncomputable def biVal:Bi→Value
 | .len=>.builtin "len"
 | .chr=>.builtin "chr"
 | .ord=>.builtin "ord"
 | .sum=>.builtin "sum"
 | .abs=>.builtin "abs"
 | .int=>.type "int"
 | .str=>.type "str"
 | .min=>.builtin "min"
theorem preSum_ints{xs:Array (Int × Tok)}{is:List Int}(h:IntsAre (intItems xs).toList is):preSum (numAt xs) xs.size=is.sum:=by
 have h2:=h.numsOf
 rw[nums_intItems] at h2
 rw[preSum_eq,List.take_of_length_le (by simp),h2]
theorem digit_reads{x:Str}{i:Int}(h:digit x=some i):PySem.intText? x=some i∧x.length≤640:=by
 unfold digit at h
 split at h
 ·rename_i ch e
  obtain⟨hc,h1⟩:=gdW (K:=fun z=>z=i) (toW h rfl)
  subst h1
  have hx:x=⟨#[ch]⟩:=by obtain⟨⟨l⟩⟩:=x;exact congrArg Str.mk (congrArg Array.mk e)
  subst hx
  refine⟨?_,by show 1≤640;decide⟩
  obtain⟨d,hd,rfl⟩:∃ d,d<10∧ch=d+48:=⟨ch-48,by(revert hc;exact z1 0x1ff84010aaa05fc2008030b00c00eac00800185809),by(revert hc;exact z1 0x3e10fc2008030b028167c2008030b00c00eac00800185809)⟩
  have:∀ d,d<10→PySem.intText? ⟨#[d+48]⟩=some (((d+48:Nat):Int)-48):=by decide +kernel
  exact this d hd
 ·cases h
theorem minZ_ok:∀ (xs:List Int) (x:Int),minZ x xs∈x::xs∧∀ a∈x::xs,minZ x xs≤a
 | [],x=>⟨List.mem_singleton.mpr rfl,fun a h=>by rw[List.mem_singleton] at h;subst h;exact Int.le_refl _⟩
 | y::ys,x=>by
  obtain⟨h1,h2⟩:=minZ_ok ys (if y<x then y else x)
  unfold minZ
  generalize minZ (if y<x then y else x) ys=m at h1 h2 ⊢
  refine⟨?_,fun a ha=>?_⟩
  ·rcases List.mem_cons.mp h1 with h | h
   ·rw[h];split <;> simp
   ·exact List.mem_cons_of_mem _ (List.mem_cons_of_mem _ h)
  ·have h3:=h2 _ (List.mem_cons_self ..)
   rcases List.mem_cons.mp ha with rfl | ha
   ·split at h3 <;> omega
   ·rcases List.mem_cons.mp ha with rfl | ha
    ·split at h3 <;> omega
    ·exact h2 a (List.mem_cons_of_mem _ ha)
theorem VRs.one{w:Wd}{v:V}{vals:List Value}(r:VRs G w [v] vals):∃ x,vals=[x]∧VR G w v x:=by
 cases vals with
 | nil=>exact r.elim
 | cons x l=>cases l with
  | nil=>exact⟨x,rfl,r.1⟩
  | cons _ _=>exact r.2.elim
theorem oneW{vs:List V}{vals:List Value}{K:V→Prop}(r:VRs G w vs vals)(e:(one? vs).elim False K):∃ v x,vals=[x]∧VR G w v x∧K v:=by
 match vs,e with
 | [v],e=>obtain⟨x,h,r⟩:=r.one;exact⟨v,x,h,r,e⟩
theorem lenW{v:V}{val:Value}{K:Nat→Prop}{E:Value→Shared→Prop}{Q:Value→Shared→Prop}(c:St G C A env w loc led s)(r:VR G w v val)(e:(lenOf led v).elim False fun n=>n≤cap∧K n)(k:∀ {n:Nat} {s' t},K n→Sm s s'→Q (.int n t) s') :
  wpAny (Mo G) A (call (.builtin "len") [val]) Q E s:=by
 have lst:∀ {v:V},VR G w v val→((led.list v).map (·.length)).elim False (fun n=>n≤cap∧K n)→wpAny (Mo G) A (call (.builtin "len") [val]) Q E s:=fun r e=>by
  obtain⟨a,us,xs,rfl,hl,d,hc,e1⟩:=listW c.conc.led r (mapW e)
  have hc':xs.length≤4096:=hc
  have hl:=hl.list
  rw[c.heap.1] at hl
  rw[d.size] at hc' e1
  exact call_len_list hl (by omega) (k e1 ⟨rfl,rfl,rfl⟩)
 cases v with
 | d y=>
  obtain⟨q,rfl,hc,e1⟩:=D.strW (mapW e)
  obtain⟨t,rfl⟩:=r
  have hc':q.length≤4096:=hc
  exact PyProof.Rows.len_str (by omega) (k e1 ⟨rfl,rfl,rfl⟩)
 | _=>exact lst r e
theorem intsW{v:V}{val:Value}{K:List Int→Prop}(c:St G C A env w loc led s)(r:VR G w v val)(e:(intsL led v).elim False K):∃ a ys is,val=.ref a∧s.heap.IsList a (intItems ys)∧IntsAre (intItems ys).toList is∧K is:=by
 obtain⟨a,us,xs,rfl,hl,d,e1⟩:=listW c.conc.led r (bindW e)
 obtain⟨is,h,e2⟩:=isW e1
 have hl:=hl.list
 rw[c.heap.1] at hl
 have hi:=intsAre_of h d
 obtain⟨us⟩:=us
 obtain⟨ys,hys⟩:=hi.allInts.items
 have hys':(⟨us⟩:Array Value)=intItems ys:=hys
 rw[hys'] at hl hi
 exact⟨a,ys,is,rfl,hl,hi,e2⟩
theorem min_ints{a:Addr}{ys:Array (Int × Tok)}{i:Int}{is:List Int}{E:Value→Shared→Prop}{Q:Value→Shared→Prop}(hh:A.handled=none)(hl:s.heap.IsList a (intItems ys))(hi:IntsAre (intItems ys).toList (i::is))
  (h:∀ h' tk t,Grow s.heap h'→Q (.int (minZ i is) t) { s with heap:=h',toks:=tk }):wpAny (Mo G) A (call (.builtin "min") [.ref a]) Q E s:=by
 have hnum:=hi.numsOf
 rw[nums_intItems] at hnum
 have hsz:0<ys.size:=by
  have:=hi.length
  rw[List.length_cons] at this
  simpa [intItems] using (show 0<(intItems ys).toList.length by(revert this;exact z2 0x7fe100400aac350d002))
 refine min_intList hh hl hsz fun v h' tk hv hk=>?_
 obtain⟨t,rfl⟩:=intItems_at hv
 obtain⟨h1,h2⟩:=argBest_lt (numAt ys) (ys.size-1)
 generalize argBest (fun i j=>decide (numAt ys i<numAt ys j)) (ys.size-1)=m at h1 h2
 have m1:numAt ys m∈i::is:=by
  rw[←hnum,numAt_eq];exact getD_mem (by rw[List.length_map,Array.length_toList];(revert hsz h1;exact z2 0x3ff084220ac0107c210d426082a1))
 have m2:numAt ys m≤minZ i is:=by
  have ha:=(minZ_ok is i).1
  rw[←hnum] at ha
  obtain⟨j,hj,e⟩:=mem_getD ha
  rw[List.length_map,Array.length_toList] at hj
  rw[←e,←numAt_eq];exact h2 j (by(revert hj;exact z2 0x7fe1080200abe1086a130401))
 rw[Int.le_antisymm m2 ((minZ_ok is i).2 _ m1)]
 exact h h' tk t hk
theorem bi1_sound{b:Bi}{v:V}{val:Value}{K:V × Led→Prop}{Q:Value→Shared→Prop}(c:St G C A env w loc led s)(r:VR G w v val)(e:(bi1 led b v).elim False K)
  (k:∀ {p:V × Led} {val s' w'},K p→PostE G w p.2 p.1 val s' w'→Q val s'):wpAny (Mo G) A (call (biVal b) [val]) Q NoE s:=by
 cases b with
 | len=>
  obtain⟨n,h,e1⟩:=isW (bindW e)
  obtain⟨hc,e2⟩:=gdW e1
  exact lenW (K:=fun n=>K (.d (.int n),led)) c r (toW h ⟨hc,e2⟩) fun e q=>k e (c.toks q ⟨_,rfl⟩)
 | chr=>
  obtain⟨i,rfl,e1⟩:=V.intW (bindW e)
  obtain⟨hc,e2⟩:=gdW e1
  obtain⟨t,rfl⟩:=r
  exact P.chr_of_int (by simp;omega) (k e2 (c.toks ⟨rfl,rfl,rfl⟩ ⟨_,rfl⟩))
 | ord=>
  obtain⟨q,rfl,e1⟩:=V.strW (bindW e)
  obtain⟨ch,h,e2⟩:=isW (mapW e1)
  obtain⟨t,rfl⟩:=r
  have:q=⟨#[ch]⟩:=by
   obtain⟨⟨l⟩⟩:=q
   unfold chr1 at h
   split at h
   ·rename_i e
    obtain rfl:=Option.some.inj h
    exact congrArg Str.mk (congrArg Array.mk e)
   ·cases h
  subst this
  exact P.ord_of_char (k e2 (c.toks ⟨rfl,rfl,rfl⟩ ⟨_,rfl⟩))
 | sum=>
  obtain⟨a,ys,is,rfl,hl,hi,e1⟩:=intsW c r (mapW e)
  refine sum_intListG c.conc.handled hl fun h' tk t' g=>?_
  rw[preSum_ints hi]
  exact k e1 (c.grown (s':={ s with heap:=h',toks:=tk }) (c.heap.1▸g) ⟨_,rfl⟩ c.heap.2)
 | abs=>
  obtain⟨i,rfl,e1⟩:=V.intW (mapW e)
  obtain⟨t,rfl⟩:=r
  refine call_abs_int fun u tk=>?_
  rw[show (if i<0 then -i else i)=(i.natAbs:Int) by split <;> omega]
  exact k e1 (c.toks (s':={ s with toks:=tk }) ⟨rfl,rfl,rfl⟩ ⟨_,rfl⟩)
 | int=>
  obtain⟨q,rfl,e1⟩:=V.strW (bindW e)
  obtain⟨i,h,e2⟩:=isW (mapW e1)
  obtain⟨t,rfl⟩:=r
  exact KIN.call_text (digit_reads h).1 (digit_reads h).2 (k e2 (c.toks ⟨rfl,rfl,rfl⟩ ⟨_,rfl⟩))
 | str=>
  obtain⟨i,rfl,e1⟩:=V.intW (bindW e)
  obtain⟨hc,e2⟩:=gdW e1
  obtain⟨t,rfl⟩:=r
  exact str_of_int_fit (N:=1000000) (by split <;> omega) (by decide) fun _=>k e2 (c.toks ⟨rfl,rfl,rfl⟩ ⟨_,rfl⟩)
 | min=>
  obtain⟨a,ys,is,rfl,hl,hi,e1⟩:=intsW c r (bindW e)
  cases is with
  | nil=>exact e1.elim
  | cons i is=>exact min_ints c.conc.handled hl hi fun h' tk t g=>k e1 (c.grown (s':={ s with heap:=h',toks:=tk }) (c.heap.1▸g) ⟨_,rfl⟩ c.heap.2)
theorem args_plain{f:Value}{pos:Pos}{xs:List Expr}{E:Value→Shared→Prop}{Q:Args→Shared→Prop}{p:Program}{W:World}(hn:noStars xs=true)
  (h:wpAny (model p W) A (spliced (backTo pos (starEach xs env))) (fun vs s'=>Q ⟨vs,[]⟩ s') E s):wpAny (model p W) A (evalArgs f true (backTo pos (starEach xs env)) []) Q E s:=by
 unfold evalArgs
 have h2:=noStars_plain (env:=env) (pos:=pos) hn
 cases xs with
 | nil=>
  show wpAny _ A (spliced [] >>= _) Q E s
  refine wpAny_bind (wpAny_mono h (fun vs s' h'=>?_) fun _ _ x=>x)
  refine wpAny_holding ?_
  exact wpAny_bind (wpAny_pure (wpAny_bind (wpAny_pure (wpAny_pure h'))))
 | cons x xs=>
  unfold noStars at hn
  rw[List.all_cons,Bool.and_eq_true] at hn
  rw[starEach_cons hn.1] at h ⊢
  show wpAny _ A (spliced ((false,eval x env)::backTo pos (starEach xs env)) >>= _) Q E s
  refine wpAny_bind (wpAny_mono h (fun vs s' h'=>?_) fun _ _ x=>x)
  refine wpAny_holding ?_
  exact wpAny_bind (wpAny_pure (wpAny_bind (wpAny_pure (wpAny_pure h'))))
theorem biVal_is:∀ b,(∃ id,biVal b=.builtin id)∨∃ T,biVal b=.type T
 | .len=>.inl ⟨_,rfl⟩ | .chr=>.inl ⟨_,rfl⟩ | .ord=>.inl ⟨_,rfl⟩ | .sum=>.inl ⟨_,rfl⟩ | .abs=>.inl ⟨_,rfl⟩ | .min=>.inl ⟨_,rfl⟩
 | .int=>.inr ⟨_,rfl⟩ | .str=>.inr ⟨_,rfl⟩
theorem callWith_bi{pos:Pos}{f:Value}{args:List (Bool × Sem Value)}{E:Value→Shared→Prop}{Q:Value→Shared→Prop}{p:Program}{W:World}(hf:(∃ id,f=.builtin id)∨∃ T,f=.type T)
  (hpl:args.any (·.1)=false) (h:wpAny (model p W) A (evalArgs f true args []) (fun a s₁=>wpAny (model p W) A (call f ([]++a.pos) a.kw) Q E s₁) E s) :
  wpAny (model p W) A (callWith pos f [] args []) Q E s:=by
 rcases hf with ⟨id,rfl⟩ | ⟨T,rfl⟩
 ·exact Calls.callWith_builtin hpl h
 ·exact PyProof.Rows.callWith_type hpl h
theorem SE.bi{b:Bi}{es:List UK.E}{id:Str}{xs:List Expr}{p pos:Pos}(hk:env.kindOf id=some .globalImplicit)(hv:G.look id=some (biVal b))(hd:(id==("__debug__":Str))=false)
  (hn:noStars xs=true) (h:SEs G C A env cx es xs):SE G C A env cx (.bi b es) (.Call (.Name id p) xs [] pos):=fun c e k=>
 Call_ (global_name c hk hv hd (callWith_bi (biVal_is b) (noStars_plain hn) (args_plain hn (h c (bindW e) fun e p1=>by
  obtain⟨v,x,rfl,r,e1⟩:=oneW p1.val (bindW e)
  exact bi1_sound (p1.st c) r e1 fun e p2=>k e ⟨p2.heap,p1.stp.trans p2.stp,p2.led,p2.nd,p2.val⟩))))
end
end
section
section
variable{G:Gl}{C:Ct}{A:Around}{env:Env}{cx:Cx}{w:Wd}{loc:Loc}{led led':Led}{s:Shared}
theorem mem_of_getElem?{α:Type}{l:List α}{k:Nat}{a:α}(h:l[k]?=some a):a∈l:=List.mem_of_getElem? h
theorem ORs.set{w w':Wd}(P:Per w w'):∀ {l:List O} {as:List Addr} {k:Nat} {a:Addr} {o:O},ORs G w l as→as[k]?=some a→as.Nodup →
  (∀ b∈as,b≠a→∀ ob,w.h.get? b=some ob→w'.h.get? b=some ob)→OR G w' o a→ORs G w' (l.set k o) as
 | [],[],_,_,_,_,e,_,_,_=>by simp at e
 | [],_::_,_,_,_,h,_,_,_,_=>h.elim
 | _::_,[],_,_,_,h,_,_,_,_=>h.elim
 | x::l,b::as,0,a,o,⟨h1,h2⟩,e,nd,keep,ho=>by
  simp only[List.getElem?_cons_zero,Option.some.injEq] at e
  subst e
  obtain⟨n1,n2⟩:=List.nodup_cons.mp nd
  exact⟨ho,h2.move P fun c hc=>keep c (.tail _ hc) fun e=>n1 (e▸hc)⟩
 | x::l,b::as,k+1,a,o,⟨h1,h2⟩,e,nd,keep,ho=>by
  simp only[List.getElem?_cons_succ] at e
  obtain⟨n1,n2⟩:=List.nodup_cons.mp nd
  exact⟨h1.move P (keep b (.head _) fun q=>n1 (q▸mem_of_getElem? e)),h2.set P e n2 (fun c hc=>keep c (.tail _ hc)) ho⟩
theorem Stp.write{w:Wd}{h':Heap}{a:Addr}(ha:a∈w.ads)(other:∀ b,b≠a→∀ ob,w.h.get? b=some ob→h'.get? b=some ob):Stp w ⟨h',w.own,w.prot,w.ads⟩:=
 ⟨rfl,rfl,List.prefix_rfl,fun b o e n=>⟨other b (fun q=>n (q▸ha)) o e,n⟩⟩
theorem PostE.write{k:Nat}{a:Addr}{o:O}{d:D}{val:Value}{s':Shared}(c:Conc G C A w env loc led)(hk:w.ads[k]?=some a)(other:∀ b,b≠a→∀ ob,w.h.get? b=some ob→s'.heap.get? b=some ob)
  (ho:∀ w':Wd,Stp w w'→w'.h=s'.heap→OR G w' o a) (hd:∀ w':Wd,DR w' d val) (rs:Rs G s'):PostE G w (led.set k o) (.d d) val s' ⟨s'.heap,w.own,w.prot,w.ads⟩:=
 have P:=Stp.write (h':=s'.heap) (mem_of_getElem? hk) other
 ⟨⟨rfl,rs⟩,P,c.led.set P.per hk c.nd (fun b _=>other b) (ho _ P rfl),c.nd,hd _⟩
theorem set_other{h:Heap}{a:Addr}(f:Obj→Obj):∀ b,b≠a→∀ ob,h.get? b=some ob→(h.update a f).get? b=some ob:=
 fun b hb ob e=>(Heap.get?_update_other _ _ (Ne.symm hb)).trans e
theorem IsL.upd{h:Heap}{a:Addr}{vs:Array Value}(i:IsL h a vs)(g:Array Value→Array Value):IsL (h.update a (Obj.mapSeq g)) a (g vs):=
 let ⟨n,e⟩:=i;⟨_,get?_update_seq e g⟩
theorem St.upd{k:Nat}{a:Addr}{vs:Array Value}{g:Array Value→Array Value}{xs:List D}{s':Shared}(c:St G C A env w loc led s)(hk:w.ads[k]?=some a)(i:IsL w.h a vs)
  (hs:s'.heap=s.heap.update a (Obj.mapSeq g)∧s'.os=s.os∧s'.gens=s.gens) (hd:DRs w xs (g vs).toList):PostE G w (led.set k (.list xs)) (.d .none) .none s' ⟨s'.heap,w.own,w.prot,w.ads⟩:=by
 have hs':s'.heap=w.h.update a (Obj.mapSeq g):=by rw[hs.1,c.heap.1]
 refine PostE.write c.conc hk ?_ (fun w' P e=>⟨g vs,?_,hd.per P.per⟩) (fun w'=>rfl) ⟨hs.2.1.trans c.heap.2.1,hs.2.2.trans c.heap.2.2⟩
 ·rw[hs'];exact set_other _
 ·rw[e,hs'];exact i.upd g
theorem ledW{v:V}{val:Value}{K:Nat × List D→Prop}(c:St G C A env w loc led s)(r:VR G w v val)(e:(ledL led v).elim False K) :
  ∃ k a vs xs n,val=.ref a∧w.ads[k]?=some a∧IsL w.h a vs∧s.heap.get? a=some { cls:=.type "list",data:=.seq vs n }∧DRs w xs vs.toList∧led[k]?=some (.list xs)∧K (k,xs):=by
 obtain⟨k,rfl,e1⟩:=V.refW (bindW e)
 obtain⟨o,h,e2⟩:=isW (bindW e1)
 obtain⟨xs,rfl,e3⟩:=O.listW (mapW e2)
 obtain⟨a,rfl,ha⟩:=r
 obtain⟨b,hb,vs,i,d⟩:=c.conc.led.get h
 obtain rfl:=Option.some.inj (ha.symm.trans hb)
 obtain⟨n,i'⟩:=id i
 exact⟨k,a,vs,xs,n,rfl,ha,i,c.heap.1▸i',d,h,e3⟩
noncomputable def mname:Me→Str
 | .lower=>"lower" | .upper=>"upper" | .find=>"find" | .split=>"split" | .startswith=>"startswith" | .endswith=>"endswith" | .index=>"index" | .count=>"count" | .join=>"join"
 | .append=>"append" | .insert=>"insert" | .extend=>"extend"
noncomputable def mid:Me→String
 | .lower=>"str.lower" | .upper=>"str.upper" | .find=>"str.find" | .split=>"str.split" | .startswith=>"str.startswith" | .endswith=>"str.endswith" | .index=>"str.index" | .count=>"str.count" | .join=>"str.join"
 | .append=>"list.append" | .insert=>"list.insert" | .extend=>"list.extend"
noncomputable def mty:Me→String
 | .append | .insert | .extend=>"list"
 | _=>"str"
theorem m_plain:∀ m,PlainAttrs (mty m)
 | .lower | .upper | .find | .split | .startswith | .endswith | .index | .count | .join=>PySem.F.plainAttrs_str
 | .append | .insert | .extend=>PySem.F.plainAttrs_list
theorem m_slot:∀ m,Slot (mty m) (mname m) (mid m)
 | .lower=>PySem.F.slot_str_lower | .upper=>PySem.F.slot_str_upper | .find=>PySem.F.slot_str_find | .split=>PySem.F.slot_str_split | .startswith=>PySem.F.slot_str_startswith
 | .endswith=>PySem.F.slot_str_endswith | .index=>PySem.F.slot_str_index | .count=>PySem.F.slot_str_count | .join=>PySem.F.slot_str_join
 | .append=>PySem.F.slot_list_append | .insert=>PySem.F.slot_list_insert | .extend=>PySem.F.slot_list_extend
theorem m_type:∀ m,typeOf (.builtin (mid m))=pure (.type "method_descriptor")
 | .lower=>PySem.F.type_str_lower | .upper=>PySem.F.type_str_upper | .find=>PySem.F.type_str_find | .split=>PySem.F.type_str_split | .startswith=>PySem.F.type_str_startswith
 | .endswith=>PySem.F.type_str_endswith | .index=>PySem.F.type_str_index | .count=>PySem.F.type_str_count | .join=>PySem.F.type_str_join
 | .append=>PySem.F.type_list_append | .insert=>PySem.F.type_list_insert | .extend=>PySem.F.type_list_extend
theorem isSomeW{α:Type}{o:Option α}(h:o.isSome=true):o.elim False fun _=>True:=by
 cases o with
 | none=>exact Bool.noConfusion h
 | some _=>trivial
theorem methAt_sound{m:Me}{o:V}{ov:Value}(c:St G C A env w loc led s)(r:VR G w o ov)(e:methAt led m o=true) :
  s.TypeIs ov (mty m)∧∀ a,ov=.ref a→∃ ob,s.heap.get? a=some ob∧ob.dict=none:=by
 have hlist:isListV led o=true→s.TypeIs ov "list"∧∀ a,ov=.ref a→∃ ob,s.heap.get? a=some ob∧ob.dict=none:=fun e=>by
  obtain⟨k,a,vs,xs,n,rfl,_,_,i,_⟩:=ledW c r (isSomeW e)
  exact⟨⟨_,i,rfl⟩,fun b hb=>by cases hb;exact⟨_,i,rfl⟩⟩
 have hstr:isStrV o=true→s.TypeIs ov "str"∧∀ a,ov=.ref a→∃ ob,s.heap.get? a=some ob∧ob.dict=none:=fun e=>by
  obtain⟨x,rfl,_⟩:=V.strW (isSomeW e)
  obtain⟨t,rfl⟩:=r
  exact⟨typeIs_str _ _ _,fun _ e=>nomatch e⟩
 cases m <;> first | exact hlist e | exact hstr e
theorem gives_str_find4(x y:Str)(i j:Int)(t u v z:Tok)(hi:0≤i)(hj:0≤j)(hx:j≤x.length) :
  Gives (Builtin.«str.find» ⟨[.str x t,.str y u,.int i v,.int j z],[]⟩) (.int (match Builtin.Str.occurrences x y i.toNat j.toNat 1 with | k::_=>(k:Int) | []=>-1)):=by
 show Gives (match Builtin.Str.occurrences x y (max 0 (if i<0 then i+x.length else i)).toNat (min (max 0 (if j<0 then j+x.length else j)).toNat x.length) 1 with | k::_=>retInt k | []=>(do rule "str.find.not-found";retInt (-1))) _
 rw[if_neg (Int.not_lt.mpr hi),if_neg (Int.not_lt.mpr hj),Int.max_eq_right hi,Int.max_eq_right hj,Nat.min_eq_left (Int.toNat_le.mpr hx)]
 cases Builtin.Str.occurrences x y i.toNat j.toNat 1 with
 | nil=>exact .rule (.of_eq rfl)
 | cons k _=>exact .of_eq rfl
theorem VRs.two{w:Wd}{v u:V}{vals:List Value}(r:VRs G w [v,u] vals):∃ x y,vals=[x,y]∧VR G w v x∧VR G w u y:=by
 cases vals with
 | nil=>exact r.elim
 | cons x l=>obtain⟨y,rfl,h⟩:=VRs.one (vals:=l) (v:=u) r.2;exact⟨x,y,rfl,r.1,h⟩
theorem VRs.three{w:Wd}{v u z:V}{vals:List Value}(r:VRs G w [v,u,z] vals):∃ x y q,vals=[x,y,q]∧VR G w v x∧VR G w u y∧VR G w z q:=by
 cases vals with
 | nil=>exact r.elim
 | cons x l=>obtain⟨y,q,rfl,h⟩:=VRs.two (vals:=l) (v:=u) r.2;exact⟨x,y,q,rfl,r.1,h⟩
theorem VRs.zero{w:Wd}{vals:List Value}(r:VRs G w [] vals):vals=[]:=by
 cases vals with
 | nil=>rfl
 | cons x l=>exact r.elim
theorem strValues_of{vs:List Value}{ss:List Str}(h:StrsAre vs ss):∃ l:List (Str × Tok),strValues l=vs∧l.map (·.1)=ss:=by
 induction h with
 | nil=>exact⟨[],rfl,rfl⟩
 | cons y t h ih=>obtain⟨l,h1,h2⟩:=ih;exact⟨(y,t)::l,by rw[←h1];rfl,by rw[←h2];rfl⟩
theorem strsFrom_are:∀ (k:Tok) (l:List Str),StrsAre (strsFrom k l) l
 | _,[]=>.nil
 | k,x::l=>.cons x k (strsFrom_are (k+1) l)
theorem fitCap{n:Nat}(h:n≤cap):Builtin.Str.tooLong n=false:=by
 have h':n≤4096:=h
 unfold Builtin.Str.tooLong sizeLine
 exact decide_eq_false (Nat.not_lt.mpr (Nat.le_trans h' (by decide)))
theorem zeroW{vs:List V}{vals:List Value}{K:Unit→Prop}(r:VRs G w vs vals)(e:(zero? vs).elim False K):vals=[]∧K ():=by
 match vs,e with
 | [],e=>exact⟨r.zero,e⟩
theorem twoW{vs:List V}{vals:List Value}{K:V × V→Prop}(r:VRs G w vs vals)(e:(two? vs).elim False K):∃ u v x y,vals=[x,y]∧VR G w u x∧VR G w v y∧K (u,v):=by
 match vs,e with
 | [u,v],e=>obtain⟨x,y,h,r1,r2⟩:=r.two;exact⟨u,v,x,y,h,r1,r2,e⟩
theorem threeW{vs:List V}{vals:List Value}{K:V × V × V→Prop}(r:VRs G w vs vals)(e:(three? vs).elim False K):∃ u v z x y q,vals=[x,y,q]∧VR G w u x∧VR G w v y∧VR G w z q∧K (u,v,z):=by
 match vs,e with
 | [u,v,z],e=>obtain⟨x,y,q,h,r1,r2,r3⟩:=r.three;exact⟨u,v,z,x,y,q,h,r1,r2,r3,e⟩
variable{vs:List V}{vals:List Value}{K:V × Led→Prop}{Q:Value→Shared→Prop}
abbrev MT (G:Gl) (C:Ct) (A:Around) (m:Me):Prop:=∀ {env:Env} {w:Wd} {loc:Loc} {led:Led} {s:Shared} {x:Str} {t:Tok} {vs:List V} {vals:List Value} {K:V × Led→Prop} {Q:Value→Shared→Prop},
 St G C A env w loc led s→VRs G w vs vals→(mTxt m led x vs).elim False K→(∀ {p:V × Led} {val s' w'},K p→PostE G w p.2 p.1 val s' w'→Q val s')→wpAny (Mo G) A (call (.builtin (mid m)) (.str x t::vals)) Q NoE s
theorem mt_lower:MT G C A .lower:=fun {env w loc led s x t vs vals K Q} c rs e k=>by
 obtain⟨rfl,e1⟩:=zeroW rs (bindW e)
 obtain⟨hl,e2⟩:=gdW e1
 exact call_meets PySem.F.slot_str_lower (typeIs_str _ _ _) PySem.F.entry_str_lower (PySem.F.args_str_lower_1 _) (gives_str_lower _ t (fitCap hl)).meets ⟨fit_le (fitCap hl),k e2 (c.toks ⟨rfl,rfl,rfl⟩ ⟨_,rfl⟩)⟩
theorem mt_upper:MT G C A .upper:=fun {env w loc led s x t vs vals K Q} c rs e k=>by
 obtain⟨rfl,e1⟩:=zeroW rs (bindW e)
 obtain⟨hl,e2⟩:=gdW e1
 exact call_meets PySem.F.slot_str_upper (typeIs_str _ _ _) PySem.F.entry_str_upper (PySem.F.args_str_upper_1 _) (gives_str_upper _ t (fitCap hl)).meets ⟨fit_le (fitCap hl),k e2 (c.toks ⟨rfl,rfl,rfl⟩ ⟨_,rfl⟩)⟩
theorem mt_find:MT G C A .find:=fun {env w loc led s x t vs vals K Q} c rs e k=>by
 obtain⟨_,_,_,_,_,_,rfl,r1,r2,r3,e1⟩:=threeW rs (bindW e)
 obtain⟨y,rfl,e2⟩:=V.strW (bindW e1)
 obtain⟨lo,rfl,e3⟩:=V.intW (bindW e2)
 obtain⟨hi,rfl,e4⟩:=V.intW (bindW e3)
 obtain⟨hl,e5⟩:=gdW e4
 obtain⟨u,rfl⟩:=r1;obtain⟨z,rfl⟩:=r2;obtain⟨q,rfl⟩:=r3
 exact call_meets PySem.F.slot_str_find (typeIs_str _ _ _) PySem.F.entry_str_find (PySem.F.args_str_find_4 _ _ _ _) (gives_str_find4 _ _ _ _ t u z q hl.1 hl.2.1 hl.2.2.1).meets (k e5 (c.toks ⟨rfl,rfl,rfl⟩ ⟨_,rfl⟩))
theorem mt_text{g:Str→Str→Option D}{x:Str}(rs:VRs G w vs vals)(e:(m_text g led x vs).elim False K):∃ y u d,vals=[.str y u]∧g x y=some d∧K (.d d,led):=by
 obtain⟨_,_,rfl,r,e1⟩:=oneW rs (bindW e)
 obtain⟨y,rfl,e2⟩:=V.strW (bindW e1)
 obtain⟨d,h,e3⟩:=isW (mapW e2)
 obtain⟨u,rfl⟩:=r
 exact⟨y,u,d,rfl,h,e3⟩
theorem mt_startswith:MT G C A .startswith:=fun {env w loc led s x t vs vals K Q} c rs e k=>by
 obtain⟨y,u,d,rfl,h,e1⟩:=mt_text (g:=fun x y=>some (.bool (Txt.startswith x y))) rs e
 obtain rfl:=Option.some.inj h
 exact call_meets PySem.F.slot_str_startswith (typeIs_str _ _ _) PySem.F.entry_str_startswith (PySem.F.args_str_startswith_2 _ _) (gives_str_startswith _ _ t u).meets (k e1 (c.val rfl))
theorem mt_endswith:MT G C A .endswith:=fun {env w loc led s x t vs vals K Q} c rs e k=>by
 obtain⟨y,u,d,rfl,h,e1⟩:=mt_text (g:=fun x y=>some (.bool (Txt.endswith x y))) rs e
 obtain rfl:=Option.some.inj h
 exact call_meets PySem.F.slot_str_endswith (typeIs_str _ _ _) PySem.F.entry_str_endswith (PySem.F.args_str_endswith_2 _ _) (gives_str_endswith _ _ t u).meets (k e1 (c.val rfl))
theorem mt_count:MT G C A .count:=fun {env w loc led s x t vs vals K Q} c rs e k=>by
 obtain⟨y,u,d,rfl,h,e1⟩:=mt_text (g:=fun x y=>some (.int (Txt.count x y))) rs e
 obtain rfl:=Option.some.inj h
 exact call_meets PySem.F.slot_str_count (typeIs_str _ _ _) PySem.F.entry_str_count (PySem.F.args_str_count_2 _ _) (gives_str_count _ _ t u).meets (k e1 (c.toks ⟨rfl,rfl,rfl⟩ ⟨_,rfl⟩))
theorem mt_index:MT G C A .index:=fun {env w loc led s x t vs vals K Q} c rs e k=>by
 obtain⟨y,u,d,rfl,h,e1⟩:=mt_text (g:=fun x y=>gd (0≤Txt.find x y) (some (.int (Txt.find x y)))) rs e
 obtain⟨hf,h1⟩:=gdW (K:=fun z=>z=d) (toW h rfl)
 subst h1
 cases ho:Builtin.Str.occurrences x y 0 x.length 1 with
 | nil=>
  unfold Txt.find at hf
  rw[ho] at hf
  exact absurd hf (by decide)
 | cons i rest=>
  have hv:Txt.find x y=(i:Int):=by unfold Txt.find;rw[ho]
  exact call_meets PySem.F.slot_str_index (typeIs_str _ _ _) PySem.F.entry_str_index (PySem.F.args_str_index_2 _ _) (gives_str_index x y t u i rest ho).meets (k e1 (c.toks ⟨rfl,rfl,rfl⟩ ⟨_,by rw[hv]⟩))
theorem mt_join:MT G C A .join:=fun {env w loc led s x t vs vals K Q} c rs e k=>by
 obtain⟨_,_,rfl,r,e1⟩:=oneW rs (bindW e)
 obtain⟨a,us,xs,rfl,hli,d,e2⟩:=listW c.conc.led r (bindW (bindW e1))
 obtain⟨ys,h,e3⟩:=isW e2
 obtain⟨hl,e4⟩:=gdW e3
 obtain⟨l,h1,h2⟩:=strValues_of (strsAre_of h d)
 have hfit:Builtin.Str.tooLong ((l.map (·.1)).toArray.foldl (·+·.length+x.length) 0)=false:=by
  rw[StrLaws.joinTotal,h2]
  exact fitCap hl
 rw[c.heap.1] at hli
 refine call_meets PySem.F.slot_str_join (typeIs_str _ _ _) PySem.F.entry_str_join (PySem.F.args_str_join_2 _ _) (meets_str_join_list x t a l hfit) ⟨by rw[h1];exact hli.list,?_⟩
 refine post_join l ⟨joinFit_length hfit,fun t' tk=>?_⟩
 rw[h2]
 exact k e4 (c.toks (s':={ s with toks:=tk }) ⟨rfl,rfl,rfl⟩ ⟨_,rfl⟩)
theorem mt_split:MT G C A .split:=fun {env w loc led s x t vs vals K Q} c rs e k=>by
 obtain⟨_,_,rfl,r,e1⟩:=oneW rs (bindW e)
 obtain⟨y,rfl,e2⟩:=V.strW (bindW e1)
 obtain⟨hl,e3⟩:=gdW e2
 obtain⟨hf,e4⟩:=gdW e3
 obtain⟨hn,e5⟩:=gdW e4
 obtain⟨u,rfl⟩:=r
 refine call_meets PySem.F.slot_str_split (typeIs_str _ _ _) PySem.F.entry_str_split (PySem.F.args_str_split_2 _ _)
  (meets_str_split_sep x y t u (by simp;exact⟨hl.2.1,hl.2.2.1⟩) (by simp;omega) (by simpa using hf) (Nat.le_trans hl.2.2.2 (by decide)) (Nat.le_trans hn (by decide))) ?_
 exact k e5 (c.newL (fun b o e=>Heap.get?_push_of_some _ e) fresh_size ⟨0,Heap.get?_push_size _ rfl⟩ (fun w' _=>DRs_strs (strsFrom_are _ _)) c.heap.2)
theorem DRs.parts:∀ (j:Nat) {xs:List D} {us:List Value},DRs w xs us→DRs w (xs.take j) (us.take j)∧DRs w (xs.drop j) (us.drop j)
 | 0,_,_,h=>⟨trivial,h⟩
 | j+1,[],[],_=>⟨trivial,trivial⟩
 | j+1,[],_::_,h=>h.elim
 | j+1,_::_,[],h=>h.elim
 | j+1,_::_,_::_,h=>⟨⟨h.1,(h.2.parts j).1⟩,(h.2.parts j).2⟩
abbrev ML (G:Gl) (C:Ct) (A:Around) (m:Me):Prop:=∀ {env:Env} {w:Wd} {loc:Loc} {led:Led} {s:Shared} {o:V} {ov:Value} {vs:List V} {vals:List Value} {K:V × Led→Prop} {Q:Value→Shared→Prop},
 St G C A env w loc led s→VR G w o ov→VRs G w vs vals→((ledL led o).bind fun p=>mLst m led p.1 p.2 vs).elim False K→(∀ {p:V × Led} {val s' w'},K p→PostE G w p.2 p.1 val s' w'→Q val s')→wpAny (Mo G) A (call (.builtin (mid m)) (ov::vals)) Q NoE s
theorem capLine{n:Nat}(h:n≤cap):n≤sizeLine:=Nat.le_trans h (by decide)
theorem ml_append:ML G C A .append:=fun {env w loc led s o ov vs vals K Q} c ro rs e kk=>by
 obtain⟨k,a,us,xs,n,rfl,ha,i,ho,d,_,e1⟩:=ledW c ro (bindW e)
 obtain⟨_,y,rfl,r,e2⟩:=oneW rs (bindW e1)
 obtain⟨x,rfl,e3⟩:=ofVW (bindW e2)
 obtain⟨hl,e4⟩:=gdW e3
 refine call_meets PySem.F.slot_list_append ⟨_,ho,rfl⟩ PySem.F.entry_list_append (PySem.F.args_list_append_2 _ _) (PySem.AutoListH.list_append_list_val_0 a us n y (d.size▸capLine (Nat.le_of_lt hl))) ⟨ho,?_⟩
 exact kk e4 (c.upd (g:=fun x=>x.push y) ha i ⟨rfl,rfl,rfl⟩ (by rw[Array.toList_push];exact d.append ⟨r,trivial⟩))
theorem ml_insert:ML G C A .insert:=fun {env w loc led s o ov vs vals K Q} c ro rs e kk=>by
 obtain⟨k,a,us,xs,n,rfl,ha,i',ho,d,_,e1⟩:=ledW c ro (bindW e)
 obtain⟨_,_,y,z,rfl,r1,r2,e2⟩:=twoW rs (bindW e1)
 obtain⟨i,rfl,e3⟩:=V.intW (bindW e2)
 obtain⟨x,rfl,e4⟩:=ofVW (bindW e3)
 obtain⟨hl,e5⟩:=gdW e4
 obtain⟨t,rfl⟩:=r1
 have hl:xs.length<cap∧0≤i∧i≤xs.length:=hl
 have hsz:=d.size
 have hc:xs.length<4096:=hl.1
 have hfit:¬(!Builtin.List.listFitsIndex i)=true:=by
  unfold Builtin.List.listFitsIndex
  simp
  exact⟨Int.le_trans (by decide) hl.2.1,Int.lt_of_le_of_lt hl.2.2 (Int.lt_trans (Int.ofNat_lt.mpr hc) (by decide))⟩
 refine call_meets PySem.F.slot_list_insert ⟨_,ho,rfl⟩ PySem.F.entry_list_insert (PySem.F.args_list_insert_3 _ _ _) (PySem.AutoSeq1.list_insert_list_int_val_1 a us n i t z hfit (hsz▸capLine (Nat.le_of_lt hl.1))) ⟨ho,?_⟩
 refine kk e5 (c.upd (s:=s) (g:=fun xs=>have k:=if i<0 then (i+(xs.size:Int)).toNat else min i.toNat xs.size;(xs.extract 0 k).push z++xs.extract k) ha i' ⟨rfl,rfl,rfl⟩ ?_)
 dsimp only
 rw[if_neg (Int.not_lt.mpr hl.2.1),Nat.min_eq_left (hsz▸Int.toNat_le.mpr hl.2.2)]
 have e3:((us.extract 0 i.toNat).push z++us.extract i.toNat).toList=us.toList.take i.toNat++z::us.toList.drop i.toNat:=by
  obtain⟨us⟩:=us
  rw[Array.toList_append,Array.toList_push,Array.toList_extract,Array.toList_extract,List.extract_eq_take_drop,List.extract_eq_take_drop]
  simp [List.take_of_length_le]
 rw[e3]
 exact(d.parts _).1.append ⟨r2,(d.parts _).2⟩
theorem ml_extend:ML G C A .extend:=fun {env w loc led s o ov vs vals K Q} c ro rs e kk=>by
 obtain⟨k,a,us,xs,n,rfl,ha,i,ho,d,_,e1⟩:=ledW c ro (bindW e)
 obtain⟨v,y,rfl,r,e2⟩:=oneW rs (bindW e1)
 obtain⟨b,us2,ys,rfl,⟨n2,ho2⟩,d2,e3⟩:=listW c.conc.led r (bindW e2)
 obtain⟨hl,e4⟩:=gdW e3
 rw[c.heap.1] at ho2
 rw[d.size,d2.size] at hl
 have hl':us.size+us2.size<4096:=hl
 have hfit:¬(!us.isEmpty&&Builtin.List.listTooLong (us.size+us2.size))=true:=by
  have e:(2:Nat) ^ 24=16777216:=by decide
  unfold Builtin.List.listTooLong
  simp
  intro _
  first | omega | (unfold sizeLine;omega)
 refine call_meets PySem.F.slot_list_extend ⟨_,ho,rfl⟩ PySem.F.entry_list_extend (PySem.F.args_list_extend_2 _ _) (PySem.AutoSeq1.list_extend_list_list_0 a us n b us2 n2 hfit (capLine (Nat.le_of_lt (Nat.lt_of_le_of_lt (Nat.le_add_right _ _) hl))) (Nat.le_trans (capLine (Nat.le_of_lt hl)) (Nat.le_succ _))) ⟨ho,ho2,?_⟩
 exact kk e4 (c.upd (g:=fun x=>x++us2) ha i ⟨rfl,rfl,rfl⟩ (by rw[Array.toList_append];exact d.append d2))
theorem evMeth_sound{m:Me}{o:V}{ov:Value}(c:St G C A env w loc led s)(ro:VR G w o ov)(rs:VRs G w vs vals)(e:(evMeth led m o vs).elim False K)(k:∀ {p:V × Led} {val s' w'},K p→PostE G w p.2 p.1 val s' w'→Q val s') :
  wpAny (Mo G) A (call (.builtin (mid m)) (ov::vals)) Q NoE s:=by
 have txt:MT G C A m→(o.str?.bind fun x=>mTxt m led x vs).elim False K→wpAny (Mo G) A (call (.builtin (mid m)) (ov::vals)) Q NoE s:=fun h e1=>by
  obtain⟨x,rfl,e2⟩:=V.strW (bindW e1)
  obtain⟨t,rfl⟩:=ro
  exact h c rs e2 k
 cases m with
 | lower=>exact txt mt_lower e
 | upper=>exact txt mt_upper e
 | find=>exact txt mt_find e
 | split=>exact txt mt_split e
 | startswith=>exact txt mt_startswith e
 | endswith=>exact txt mt_endswith e
 | index=>exact txt mt_index e
 | count=>exact txt mt_count e
 | join=>exact txt mt_join e
 | append=>exact ml_append c ro rs e k
 | insert=>exact ml_insert c ro rs e k
 | extend=>exact ml_extend c ro rs e k
theorem all_plain{pos:Pos}:∀ {xs:List Expr},noStars xs=true→(backTo pos (starEach xs env)).all (fun x=>!x.1)=true
 | [],_=>rfl
 | x::xs,h=>by
  unfold noStars at h
  rw[List.all_cons,Bool.and_eq_true] at h
  rw[starEach_cons h.1]
  show (true&&(backTo pos (starEach xs env)).all (fun x=>!x.1))=true
  rw[all_plain (xs:=xs) h.2];rfl
theorem SE.meth{m:Me}{o:UK.E}{es:List UK.E}{x:Expr}{name:Str}{xs:List Expr}{apos pos:Pos}(hm:name=mname m)(hbase:attributeBase x name env (eval x env)=eval x env)(hline:(apos.endLine==pos.line)=true)
  (hn:noStars xs=true) (hlen:xs.length<30) (ho:SE G C A env cx o x) (h:SEs G C A env cx es xs):SE G C A env cx (.meth m o es) (.Call (.Attribute x name apos) xs [] pos):=fun {w loc led s K Q} c e k=>by
 subst hm
 have hfew:((backTo pos (starEach xs env)).all (fun x=>!x.1)&&(backToKw pos (keywordEach [] env)).all (fun x=>x.1.isSome)
   && decide (xs.length+([]:List Keyword).length+(if ([]:List Keyword).isEmpty then 0 else 1)<30))=true:=by
  rw[all_plain hn]
  exact decide_eq_true hlen
 refine wpAny_Call_method_lateS hbase hfew hline (ho c (bindW e) fun e p1=>?_)
 obtain⟨hat,e1⟩:=gdW e
 obtain⟨t1,t2⟩:=methAt_sound (p1.st c) p1.val hat
 exact⟨mty m,mid m,m_plain m,m_slot m,m_type m,t1,t2,Calls.callWith_builtin (noStars_plain hn) (args_plain hn (h (p1.st c) (bindW e1) fun e p2=>
  evMeth_sound (p2.st (p1.st c)) (p1.val.per p2.stp.per) p2.val e fun e p3=>k e ⟨p3.heap,(p1.stp.trans p2.stp).trans p3.stp,p3.led,p3.nd,p3.val⟩))⟩
end
end
section
section
variable{G:Gl}{C:Ct}{A:Around}{env:Env}{cx:Cx}{w:Wd}{loc:Loc}{led led':Led}{s:Shared}
theorem get_put{x y:Nat}{v:V}:∀ {loc:Loc},get (put loc x v) y=if y=x then some v else get loc y
 | []=>by
  show (if x=y then some v else none)=_
  by_cases h:x=y
  ·rw[if_pos h,if_pos h.symm]
  ·rw[if_neg h,if_neg (Ne.symm h)];rfl
 | (z,u)::r=>by
  unfold put
  by_cases hz:z=x
  ·subst hz
   rw[if_pos rfl]
   show (if z=y then some v else get r y)=if y=z then some v else (if z=y then some u else get r y)
   by_cases hy:z=y
   ·rw[if_pos hy,if_pos hy.symm]
   ·rw[if_neg hy,if_neg (Ne.symm hy),if_neg hy]
  ·rw[if_neg hz]
   show (if z=y then some u else get (put r x v) y)=if y=x then some v else (if z=y then some u else get r y)
   rw[get_put (loc:=r)]
   by_cases hy:z=y
   ·subst hy;rw[if_pos rfl,if_neg hz,if_pos rfl]
   ·rw[if_neg hy,if_neg hy]
structure Own (w w':Wd):Prop where
 own:w'.own=w.own
 prot:w'.prot=w.prot
 ads:w'.ads=w.ads
 keep:∀ b o,w.h.get? b=some o→b ∉ w.own→w'.h.get? b=some o
theorem Own.refl(w:Wd):Own w w:=⟨rfl,rfl,rfl,fun _ _ e _=>e⟩
theorem Own.trans{a b c:Wd}(x:Own a b)(y:Own b c):Own a c:=⟨y.own.trans x.own,y.prot.trans x.prot,y.ads.trans x.ads,fun q o e n=>y.keep q o (x.keep q o e n) (by rw[x.own];exact n)⟩
theorem Own.per{w w':Wd}(x:Own w w'):Per w w':=
 { st:=fun b o e h=>⟨x.keep b o e h.1,by rw[Wd.st,x.own,x.prot,x.ads];exact h⟩,ref:=fun k a e=>by rw[x.ads];exact e }
theorem Own.grow{w:Wd}{h':Heap}(g:Grow w.h h'):Own w ⟨h',w.own,w.prot,w.ads⟩:=⟨rfl,rfl,rfl,fun b o e _=>g b o e⟩
theorem Ns_unique{h:Heap}{a:Addr}{m m':Str→Option Value}(x:h.Ns a m)(y:h.Ns a m'):m=m':=x.eq_nsMap.trans y.eq_nsMap.symm
theorem Conc.own(c:Conc G C A w env loc led){w':Wd}(P:Own w w'){loc':Loc}(hf:FrameOk w' env)(hex:∀ a∈w.own,∃ o,w'.h.get? a=some o)
  (hl:∀ x v,get loc' x=some v→x<C.nms.length∧∃ val,NameIs w' env (C.nm x) val∧VR G w' v val):Conc G C A w' env loc' led where
 keep:=fun b o e=>by
  obtain⟨h1,h2⟩:=c.keep b o e
  exact P.per.st b o h1 h2
 glob:=c.glob
 nolim:=c.nolim
 handled:=c.handled
 depth:=c.depth
 units:=c.units
 frame:=hf
 locs:=hl
 led:=by
  rw[P.ads]
  exact c.led.move P.per fun a ha ob e=>P.keep a ob e fun q=>c.sep a (.inl q) ha
 nd:=by rw[P.ads];exact c.nd
 sep:=by rw[P.own,P.prot,P.ads];exact c.sep
 ownex:=by
  rw[P.own,P.prot]
  intro a ha
  by_cases hm:a∈w.own
  ·exact hex a hm
  ·obtain⟨o,ho⟩:=c.ownex a ha
   exact⟨o,P.keep a o ho hm⟩
 inj:=c.inj
 op:=by rw[P.own,P.prot];exact c.op
theorem getD_inj{l:List Str}{d:Str}(hn:l.Nodup){x y:Nat}(hx:x<l.length)(hy:y<l.length)(h:l.getD x d=l.getD y d):x=y:=by
 rw[List.getD_eq_getElem?_getD,List.getD_eq_getElem?_getD,List.getElem?_eq_getElem hx,List.getElem?_eq_getElem hy] at h
 have h:l[x]=l[y]:=h
 have hp:=List.pairwise_iff_getElem.mp hn
 rcases Nat.lt_trichotomy x y with q | q | q
 ·exact absurd h (hp x y hx hy q)
 ·exact q
 ·exact absurd h.symm (hp y x hy hx q)
theorem nm_inj(c:Conc G C A w env loc led){x y:Nat}(hx:x<C.nms.length)(hy:y<C.nms.length)(h:C.nm x=C.nm y):x=y:=getD_inj c.inj hx hy h
def storable(w:Wd)(env:Env)(x:Str):Prop:=env.kindOf x=some .local∨(env.kindOf x=some .cell∧∃ c,env.cells.lookup x=some c∧c∈w.own)
theorem Conc.stored(c:Conc G C A w env loc led){w':Wd}(P:Own w w')(hf:FrameOk w' env)(hex:∀ a∈w.own,∃ o,w'.h.get? a=some o){n:Nat}{v:V}{val:Value}(hn:n<C.nms.length)
  (hnew:NameIs w' env (C.nm n) val) (r:VR G w v val) (hold:∀ {y u},y<C.nms.length→y≠n→NameIs w env (C.nm y) u→NameIs w' env (C.nm y) u):Conc G C A w' env (put loc n v) led:=
 c.own P hf hex fun y u e=>by
  rw[get_put] at e
  by_cases hy:y=n
  ·rw[if_pos hy] at e
   obtain rfl:=Option.some.inj e
   subst hy
   exact⟨hn,val,hnew,r.per P.per⟩
  ·rw[if_neg hy] at e
   obtain⟨l,u',i,ru⟩:=c.locs y u e
   exact⟨l,u',hold l hy i,ru.per P.per⟩
variable{Q:Unit→Shared→Prop}
theorem store_conc(c:St G C A env w loc led s){n:Nat}{v:V}{val:Value}(hn:n<C.nms.length)(hk:storable w env (C.nm n))(r:VR G w v val){E:Value→Shared→Prop}
  (k:∀ {w' s'},Own w w'→St G C A env w' (put loc n v) led s'→Q () s'):wpAny (Mo G) A (storeName env (C.nm n) val) Q E s:=by
 have f:=c.conc.frame
 obtain⟨m,hm⟩:=f.ns
 have hmS:=hm
 rw[c.heap.1] at hmS
 rcases hk with hk | ⟨hk,cc,lc,mo⟩
 ·refine wpAny_storeName_local hk hmS (fun h' hn' hs'=>?_) (by rw[f.kind];rfl)
  have hs':Heap.SameBut env.locals w.h h':=c.heap.1▸hs'
  have P:Own w ⟨h',w.own,w.prot,w.ads⟩:=⟨rfl,rfl,rfl,fun b o e hb=>hs'.extBut b o (fun q=>hb (q▸f.lin)) e⟩
  refine k P ⟨c.conc.stored P ⟨f.kind,f.globals,f.builtins,⟨_,hn'⟩,f.lin,fun x q=>?_,f.inj⟩ (fun a ha=>?_) hn (.inl ⟨hk,_,hn',if_pos rfl,c.conc.sep _ (.inl f.lin)⟩) r fun {y u} l hy i=>?_,rfl,c.heap.2⟩
  ·obtain⟨cc,o,l,⟨ob,i,hd⟩,m1,n1⟩:=f.cells x q
   exact⟨cc,o,l,⟨ob,hs'.extBut cc ob n1 i,hd⟩,m1,n1⟩
  ·by_cases q:a=env.locals
   ·subst q;obtain⟨o,_,_,ho,_⟩:=hn';exact⟨o,ho⟩
   ·obtain⟨o,ho⟩:=c.conc.ownex a (.inl ha);exact⟨o,hs'.extBut a o q ho⟩
  ·rcases i with ⟨k1,m1,hm1,e1,a1⟩ | ⟨k1,cc,l1,⟨ob,i1,hd⟩,a1⟩
   ·obtain rfl:=Ns_unique hm hm1
    exact .inl ⟨k1,_,hn',(if_neg (fun q=>hy (nm_inj c.conc l hn q))).trans e1,a1⟩
   ·obtain⟨c2,o2,l2,_,_,n2⟩:=f.cells _ k1
    obtain rfl:=Option.some.inj (l1.symm.trans l2)
    exact .inr ⟨k1,cc,l1,⟨ob,hs'.extBut cc ob n2 i1,hd⟩,a1⟩
 ·obtain⟨c0,o,l,i,_,ne⟩:=f.cells _ (.inl hk)
  obtain rfl:=Option.some.inj (l.symm.trans lc)
  refine wpAny_storeName_cell f.kind hk l (c.heap.1▸i) fun h' hc' hs'=>?_
  have hs':Heap.SameBut c0 w.h h':=c.heap.1▸hs'
  have P:Own w ⟨h',w.own,w.prot,w.ads⟩:=⟨rfl,rfl,rfl,fun b o e hb=>hs'.extBut b o (fun q=>hb (q▸mo)) e⟩
  refine k P ⟨c.conc.stored P ⟨f.kind,f.globals,f.builtins,⟨m,Ns_get hm fun o e=>hs'.extBut _ o (Ne.symm ne) e⟩,f.lin,fun x q=>?_,f.inj⟩ (fun a ha=>?_) hn (.inr ⟨.inl hk,c0,l,hc',c.conc.sep _ (.inl mo)⟩) r fun {y u} l' hy i=>?_,rfl,c.heap.2⟩
  ·obtain⟨c2,o2,l2,⟨ob,i2,hd⟩,m2,n2⟩:=f.cells x q
   by_cases hc:c2=c0
   ·subst hc;exact⟨c2,_,l2,hc',m2,n2⟩
   ·exact⟨c2,o2,l2,⟨ob,hs'.extBut c2 ob hc i2,hd⟩,m2,n2⟩
  ·by_cases q:a=c0
   ·subst q;obtain⟨o,ho,_⟩:=hc';exact⟨o,ho⟩
   ·obtain⟨o,ho⟩:=c.conc.ownex a (.inl ha);exact⟨o,hs'.extBut a o q ho⟩
  ·rcases i with ⟨k1,m1,hm1,e1,a1⟩ | ⟨k1,c2,l1,⟨ob,i1,hd⟩,a1⟩
   ·exact .inl ⟨k1,m1,Ns_get hm1 fun o e=>hs'.extBut _ o (Ne.symm ne) e,e1,a1⟩
   ·have hne:c2≠c0:=fun q=>hy (nm_inj c.conc l' hn (f.inj _ _ c2 k1 (.inl hk) l1 (q▸l)))
    exact .inr ⟨k1,c2,l1,⟨ob,hs'.extBut c2 ob hne i1,hd⟩,a1⟩
theorem elimB{α:Type}{o:Option α}{f:α→Bool}(h:o.elim false f=true):∃ a,o=some a∧f a=true:=by
 cases o with
 | none=>exact Bool.noConfusion h
 | some a=>exact⟨a,rfl,h⟩
noncomputable def asName:Expr→Option Str
 | .Name id _=>some id
 | _=>none
theorem asName_is{x:Expr}{id:Str}(h:asName x=some id):∃ p,x=.Name id p:=by
 cases x
 case Name=>exact⟨_,by rw[←Option.some.inj h]⟩
 all_goals exact nomatch h
noncomputable def asTuple:Expr→Option (List Expr)
 | .Tuple es _ _=>some es
 | _=>none
theorem asTuple_is{x:Expr}{es:List Expr}(h:asTuple x=some es):∃ k p,x=.Tuple es k p:=by
 cases x
 case Tuple=>exact⟨_,_,by rw[←Option.some.inj h]⟩
 all_goals exact nomatch h
mutual
noncomputable def isT(C:Ct)(sc:Scope)(fl:Bool):T→Expr→Bool
 | .name x,e=>(asName e).elim false fun id=>decide (x<C.nms.length)&&id==C.nm x&&(sc.names.lookup id==some .local || (fl&&sc.names.lookup id==some .cell))
 | .tup ts,e=>(asTuple e).elim false fun es=>isTs C sc fl ts es
noncomputable def isTs(C:Ct)(sc:Scope)(fl:Bool):List T→List Expr→Bool
 | [],es=>es.isEmpty
 | t::ts,es=>match es with
  | e::es=>isT C sc fl t e&&isTs C sc fl ts es
  | []=>false
end
theorem isT_noStar{sc:Scope}{fl:Bool}{t:T}{e:Expr}(h:isT C sc fl t e=true):noStar e=true:=by
 cases t with
 | name x=>obtain⟨id,h1,_⟩:=elimB h;obtain⟨p,rfl⟩:=asName_is h1;rfl
 | tup ts=>obtain⟨id,h1,_⟩:=elimB h;obtain⟨k,p,rfl⟩:=asTuple_is h1;rfl
theorem assignEach_cons{e:Expr}{es:List Expr}(h:noStar e=true):assignEach (e::es) env=(false,assign e env)::assignEach es env:=by
 cases e <;> first | rfl | exact Bool.noConfusion h
theorem isTs_len{sc:Scope}{fl:Bool}:∀ {ts:List T} {es:List Expr},isTs C sc fl ts es=true→(assignEach es env).length=ts.length∧(assignEach es env).findIdx? (·.1)=none
 | [],[],_=>⟨rfl,rfl⟩
 | [],_::_,h=>Bool.noConfusion h
 | _::_,[],h=>Bool.noConfusion h
 | t::ts,e::es,h=>by
  obtain⟨h1,h2⟩:=isTs_len (andB h).2
  rw[assignEach_cons (isT_noStar (andB h).1)]
  exact⟨congrArg (·+1) h1,by rw[List.findIdx?_cons,h2];rfl⟩
def FnOk(own:List Addr)(env:Env):Prop:=∀ x,env.kindOf x=some .cell→∃ c,env.cells.lookup x=some c∧c∈own
theorem kind_of'{sc:Scope}(hsc:env.scope=sc){x:Str}{k:NameKind}(h:(sc.names.lookup x==some k)=true):env.kindOf x=some k:=by unfold Env.kindOf;rw[hsc];exact eq_of_beq h
theorem D.tupW{v:D}{K:List D→Prop}(h:v.tup?.elim False K):∃ d,v=.tup d∧K d:=by
 cases v <;> first | exact⟨_,rfl,h⟩ | exact h.elim
theorem bindDs_len:∀ {ts:List T} {ds:List D} {loc loc':Loc},bindDs ts ds loc=some loc'→ds.length=ts.length
 | [],[],_,_,_=>rfl
 | [],_::_,_,_,h=>nomatch h
 | _::_,[],_,_,h=>nomatch h
 | t::ts,d::ds,loc,loc',h=>by
  obtain⟨l,_,h⟩:=bindE h
  exact congrArg (·+1) (bindDs_len h)
mutual
theorem bindD_conc{sc:Scope}{fl:Bool}(hsc:env.scope=sc){own:List Addr}(hfl:fl=true→FnOk own env):∀ {t:T} {e:Expr} {d:D} {w:Wd} {loc:Loc} {led:Led} {val:Value} {s:Shared} {E:Value→Shared→Prop} {K:Loc→Prop} {Q:Unit→Shared→Prop},
  isT C sc fl t e=true→St G C A env w loc led s→w.own=own→DR w d val→(bindD t d loc).elim False K→(∀ {loc' w' s'},K loc'→Own w w'→St G C A env w' loc' led s'→Q () s')→wpAny (Mo G) A (assign e env val) Q E s
 | .name x,e,d,w,loc,led,val,s,E,K,Q,ht,c,ho,r,eb,k=>by
  obtain⟨id,h1,h2⟩:=elimB ht
  obtain⟨pos,rfl⟩:=asName_is h1
  obtain⟨h3,h4⟩:=andB h2
  obtain⟨h5,h6⟩:=andB h3
  obtain rfl:=eq_of_beq h6
  refine wpAny_assign_Name (store_conc (v:=.d d) c (of_decide_eq_true h5) ?_ r fun P c'=>k eb P c')
  rcases Bool.or_eq_true_iff.mp h4 with h | h
  ·exact .inl (kind_of' hsc h)
  ·have hkc:=kind_of' hsc (andB h).2
   obtain⟨cc,l,m⟩:=hfl (andB h).1 _ hkc
   exact .inr ⟨hkc,cc,l,ho▸m⟩
 | .tup ts,e,d,w,loc,led,val,s,E,K,Q,ht,c,ho,r,eb,k=>by
  obtain⟨es,h1,h2⟩:=elimB ht
  obtain⟨kk,pos,rfl⟩:=asTuple_is h1
  obtain⟨ds,rfl,eb⟩:=D.tupW (bindW eb)
  obtain⟨a,vs,rfl,i,st,dd⟩:=r
  obtain⟨l1,l2⟩:=isTs_len (env:=env) h2
  obtain⟨loc',hb,_⟩:=isW eb
  rw[c.heap.1] at i
  refine wpAny_assign_Tuple c.conc.handled i (by rw[l1,←bindDs_len hb];exact dd.size) l2 fun h' hx=>?_
  have g:Grow w.h h':=fun b o e=>by rw[c.heap.1] at e;exact hx b o (Nat.ne_of_lt (Heap.lt_size e)) e
  exact bindDs_conc hsc hfl (s:={ s with heap:=h' }) h2 ⟨c.conc.grow g,rfl,c.heap.2⟩ ho (dd.per (Stp.grow g).per) eb fun e P c'=>k e ((Own.grow g).trans P) c'
theorem bindDs_conc{sc:Scope}{fl:Bool}(hsc:env.scope=sc){own:List Addr}(hfl:fl=true→FnOk own env):∀ {ts:List T} {es:List Expr} {ds:List D} {w:Wd} {loc:Loc} {led:Led} {vals:List Value} {s:Shared} {E:Value→Shared→Prop} {K:Loc→Prop} {Q:Unit→Shared→Prop},
  isTs C sc fl ts es=true→St G C A env w loc led s→w.own=own→DRs w ds vals→(bindDs ts ds loc).elim False K→(∀ {loc' w' s'},K loc'→Own w w'→St G C A env w' loc' led s'→Q () s')→wpAny (Mo G) A (assignInOrder ((assignEach es env).map (·.2)) vals) Q E s
 | [],[],[],w,loc,led,vals,s,E,K,Q,_,c,ho,r,eb,k=>wpAny_pure (k eb (Own.refl w) c)
 | [],[],_::_,w,loc,led,vals,s,E,K,Q,_,c,ho,r,eb,k=>eb.elim
 | [],_::_,_,_,_,_,_,_,_,_,_,h,_,_,_,_,_=>Bool.noConfusion h
 | _::_,[],_,_,_,_,_,_,_,_,_,h,_,_,_,_,_=>Bool.noConfusion h
 | _::_,_::_,[],_,_,_,_,_,_,_,_,_,_,_,_,eb,_=>eb.elim
 | _::_,_::_,_::_,_,_,_,[],_,_,_,_,_,_,_,r,_,_=>r.elim
 | t::ts,e::es,d::ds,w,loc,led,val::vals,s,E,K,Q,h,c,ho,r,eb,k=>by
  rw[assignEach_cons (isT_noStar (andB h).1)]
  show wpAny _ _ (do holding vals (assign e env val);assignInOrder ((assignEach es env).map (·.2)) vals) _ _ _
  exact wpAny_bind (wpAny_holding (bindD_conc hsc hfl (andB h).1 c ho r.1 (bindW eb) fun e P c'=>bindDs_conc hsc hfl (andB h).2 c' (P.own.trans ho) (r.2.per P.per) e fun e2 P2 c2=>k e2 (P.trans P2) c2))
end
end
end
section
set_option genInjectivity false
set_option genSizeOf false
structure At (wr:List Addr) (w w':Wd):Prop where
 own:w'.own=w.own
 prot:w'.prot=w.prot
 ads:w'.ads=w.ads
 keep:∀ b o,w.h.get? b=some o→b ∉ wr→w'.h.get? b=some o
theorem At.per{wr:List Addr}{w w':Wd}(x:At wr w w')(h:∀ b∈wr,b∈w.prot):Per w w':=
 { st:=fun b o e hs=>⟨x.keep b o e fun q=>hs.2.1 (h b q),by rw[Wd.st,x.own,x.prot,x.ads];exact hs⟩,ref:=fun k a e=>by rw[x.ads];exact e }
theorem At.refl(wr:List Addr)(w:Wd):At wr w w:=⟨rfl,rfl,rfl,fun _ _ e _=>e⟩
def Plain(h:Heap)(I:Addr):Prop:=∃ o n,h.get? I=some o∧o.cls=.type n ∧
 (["enumerate","zip","dict_itemiterator","dict_reverseitemiterator","odict_iterator","itertools.zip_longest","itertools.pairwise"].contains n)=false
inductive ItAt (G:Gl) (A:Around) (w:Wd):List Addr→Bool→Src→Value→Prop
 | live {k i:Nat} {I a:Addr} (ha:w.ads[k]?=some a) (it:w.h.IsListIter I a i):ItAt G A w [I] false (.live k i) (.ref I)
 | row {xs:List D} {I:Addr} {fp:List Addr} {n:Nat} {P:Nat→Value→Prop} {S:Nat→Heap→Prop} {i:Nat} (W:Walks G.p G.w A I fp [I] n P S) (st:S i w.h) (hf:∀ b∈fp,b∈[I]∨(w.st b∧∃ o,w.h.get? b=some o)) (hi:i≤n)
   (hl:xs.length=n-i) (hp:∀ i h,S i h→Plain h I) (hd:∀ j v x,P j v→i≤j→xs[j-i]?=some x→DR w x v):ItAt G A w [I] false (.fz xs) (.ref I)
section
variable{G:Gl}{C:Ct}{A:Around}{env:Env}{cx:Cx}{w:Wd}{loc:Loc}{led led':Led}{s:Shared}
theorem ItAt.keep{wr:List Addr}{en:Bool}{src:Src}{it:Value}{w w':Wd}(x:ItAt G A w wr en src it)(P:PerD w w')(hr:∀ k i a,src=.live k i→w.ads[k]?=some a→w'.ads[k]?=some a)
  (hw:∀ b∈wr,∀ o,w.h.get? b=some o→w'.h.get? b=some o):ItAt G A w' wr en src it:=by
 cases x with
 | live ha it=>obtain⟨o,ho,r⟩:=it;exact .live (hr _ _ _ rfl ha) ⟨o,hw _ (.head _) o ho,r⟩
 | row W st hf hi hl hp hd=>
  refine .row W (W.frame _ _ _ st fun b hb o e=>?_) (fun b hb=>(hf b hb).imp id fun ⟨h,o,q⟩=>⟨(P.st b o q h).2,o,(P.st b o q h).1⟩) hi hl hp fun j v y h1 h2 h3=>(hd j v y h1 h2 h3).perD P
  exact(hf b hb).elim (fun h=>hw b h o e) fun h=>(P.st b o e h.1).1
theorem letGo_plain{I:Addr}{v:Value}{t:Expr}{E:Value→Shared→Prop}{Q:Unit→Shared→Prop}{M:Model}(h:Plain s.heap I)(hQ:Q () s):wpAny M A (letOwnedTupleGo t (.ref I) v) Q E s:=by
 obtain⟨o,n,ho,hc,hn⟩:=h
 unfold letOwnedTupleGo
 split
 all_goals first
  | exact wpAny_pure hQ
  | (
   split
   ·rename_i r a e
    cases e
    refine wpAny_bind (wpAny_load ho ?_)
    rw[hc]
    split
    ·rename_i m vs e1 e2
     cases e1
     rw[hn]
     exact wpAny_pure hQ
    ·exact wpAny_pure hQ
   ·exact wpAny_pure hQ)
theorem listiter_plain{h:Heap}{I l:Addr}{i:Nat}(x:h.IsListIter I l i):Plain h I:=let ⟨o,ho,hc,_⟩:=x;⟨o,_,ho,hc,by decide⟩
theorem tupleiter_plain{h:Heap}{I l:Addr}{i:Nat}(x:h.IsTupleIter I l i):Plain h I:=let ⟨o,ho,hc,_⟩:=x;⟨o,_,ho,hc,by decide⟩
theorem mem1{α:Type}{a b:α}(h:a∈[b]):a=b:=List.mem_singleton.mp h
theorem mem2{α:Type}{a b c:α}(h:a∈[b,c]):a=b∨a=c:=(List.mem_cons.mp h).imp id mem1
theorem ItAt.ex{wr:List Addr}{en:Bool}{src:Src}{it:Value}(x:ItAt G A w wr en src it):∀ b∈wr,∃ o,w.h.get? b=some o:=by
 intro b hb
 cases x with
 | live ha it=>obtain rfl:=mem1 hb;exact it.imp fun _ h=>h.1
 | row W st hf hi hl hp hd=>obtain rfl:=mem1 hb;obtain⟨o,_,ho,_⟩:=hp _ _ st;exact⟨o,ho⟩
theorem Conc.at_{wr:List Addr}{w':Wd}(c:Conc G C A w env loc led)(P:At wr w w')(hwp:∀ b∈wr,b∈w.prot)(hce:∀ {a},Held env a→a ∉ wr)
  (hex:∀ b∈wr,∃ o,w'.h.get? b=some o):Conc G C A w' env loc led:=by
 refine c.to (P.per hwp).toPerD (fun hb e n=>⟨P.keep _ _ e (hce hb),P.ads▸n⟩) (fun m=>P.own▸m) (fun _ m=>by rw[P.own,P.prot];exact m) (fun _ r=>r.per (P.per hwp)) ?_ (P.ads▸c.nd) (by rw[P.own,P.prot,P.ads];exact c.sep) (fun a ha=>?_) (by rw[P.own,P.prot];exact c.op)
 ·rw[P.ads]
  exact c.led.move (P.per hwp) fun a ha o e=>P.keep a o e fun q=>c.sep a (.inr (hwp a q)) ha
 ·rw[P.own,P.prot] at ha
  by_cases q:a∈wr
  ·exact hex a q
  ·exact(c.ownex a ha).imp fun o ho=>P.keep a o ho q
structure NextTo (G:Gl) (A:Around) (w:Wd) (wr:List Addr) (en:Bool) (it:Value) (r:Option (D × Src)) (Q:Option Value→Shared→Prop):Prop where
 fin:r=none→∀ {w' s'},Hp G w' s'→At wr w w'→Q none s'
 item:∀ {y src'},r=some (y,src')→∀ {v s'},(∀ (t:Expr) (E':Value→Shared→Prop) (R:Unit→Shared→Prop),(en=true→∃ es k pos,t=.Tuple es k pos) →
   (∀ {w' s2},Hp G w' s2→At wr w w'→DR w' y v→ItAt G A w' wr en src' it→R () s2)→wpAny (Mo G) A (letOwnedTupleGo t it v) R E' s')→Q (some v) s'
theorem ItAt.next{wr:List Addr}{en:Bool}{src:Src}{it:Value}{E:Value→Shared→Prop}{r:Option (D × Src)}{Q:Option Value→Shared→Prop}(x:ItAt G A w wr en src it)(hh:Hp G w s)(hl:ORs G w led w.ads)(hA:A.handled=none)
  (hw:∀ b∈wr,b∈w.prot) (hex:∀ a,a∈w.own∨a∈w.prot→∃ o,w.h.get? a=some o) (ev:src.next led=some r) (K:NextTo G A w wr en it r Q):wpAny (Mo G) A (pyNext it) Q E s:=by
 cases x with
 | @live k i I a ha it=>
  have hsp:∀ {h':Heap},(∀ b o,b≠I→s.heap.get? b=some o→h'.get? b=some o)→At [I] w ⟨h',w.own,w.prot,w.ads⟩:=fun k=>
   ⟨rfl,rfl,rfl,fun b o e hb=>k b o (fun q=>hb (q▸.head _)) (hh.1▸e)⟩
  obtain⟨xs,h1,rfl⟩:=mapE ev
  obtain⟨o,h2,h3⟩:=bindE h1
  obtain⟨_,rfl,rfl⟩:=O.listW (toW h3 rfl)
  obtain⟨b,hb,vs,il,d⟩:=hl.get h2
  obtain rfl:=Option.some.inj (ha.symm.trans hb)
  cases hx:xs[i]? with
  | none=>exact wpAny_pyNext_list_end hA (hh.1▸it) (hh.1▸il.list) (by rw[←Array.getElem?_toList];exact d.get_none hx) fun h' he=>K.fin (by rw[hx];rfl) ⟨rfl,hh.2⟩ (hsp fun b o hb e=>he b o hb e)
  | some z=>
   obtain⟨v,hv,hr⟩:=d.get hx
   refine wpAny_pyNext_list_item (hh.1▸it) (hh.1▸il.list) (by rw[←Array.getElem?_toList];exact hv) fun h' hit' hs'=>K.item (by rw[hx];rfl) fun t E' R _ kR=>?_
   have P:=hsp fun b o hb e=>hs'.extBut b o hb e
   exact letGo_plain (listiter_plain hit') (kR ⟨rfl,hh.2⟩ P (hr.per (P.per hw)) (.live ha hit'))
 | @row xs I fp n Pv S i W st hf hi hlen hp hd=>
  obtain rfl:=Option.some.inj ev
  have hsp:∀ {h':Heap},(∀ b o,b ∉ [I]→s.heap.get? b=some o→h'.get? b=some o)→At [I] w ⟨h',w.own,w.prot,w.ads⟩:=fun k=>
   ⟨rfl,rfl,rfl,fun b o e hb=>k b o hb (hh.1▸e)⟩
  cases xs with
  | nil=>
   have:i=n:=Nat.le_antisymm hi (Nat.le_of_sub_eq_zero hlen.symm)
   subst this
   exact W.done s _ _ (hh.1▸st) fun h' tk k=>K.fin rfl ⟨rfl,hh.2⟩ (hsp k)
  | cons z zs=>
   have hlen:zs.length+1=n-i:=hlen
   have hin:i<n:=Nat.lt_of_sub_pos (by rw[←hlen];exact Nat.succ_pos _)
   refine W.item i s _ _ hin (hh.1▸st) fun v h' tk hv st' k=>K.item rfl fun t E' R _ kR=>?_
   have P:=hsp k
   refine letGo_plain (hp _ _ st') (kR ⟨rfl,hh.2⟩ P ((hd i v _ hv (Nat.le_refl _) (by rw[Nat.sub_self];rfl)).per (P.per hw)) (.row W st' (fun b hb=>(hf b hb).imp id fun ⟨h,o,q⟩=>⟨h,o,k b o (fun q'=>h.2.1 (hw b q')) (hh.1▸q)⟩)
    hin (by rw[Nat.sub_add_eq,←hlen];rfl) hp fun j u x h1 h2 h3=>(hd j u x h1 (Nat.le_of_succ_le h2) ?_).per (P.per hw)))
   rw[show j-i=(j-(i+1))+1 from (Nat.sub_add_cancel (Nat.sub_pos_of_lt h2)).symm];exact h3
structure SrcPost (G:Gl) (A:Around) (w:Wd) (n:Nat) (en:Bool) (src:Src) (it:Value) (s':Shared) (wr:List Addr):Prop where
 fr:∀ b∈wr,w.h.get? b=none∧∃ o,s'.heap.get? b=some o
 g:Grow w.h s'.heap
 rs:Rs G s'
 at':ItAt G A ⟨s'.heap,w.own,wr++w.prot,w.ads.take n⟩ wr en src it
theorem take_sub{l:List Addr}{n:Nat}{a:Addr}(h:a∈l.take n):a∈l:=List.mem_of_mem_take h
theorem st_more{wr:List Addr}{h':Heap}{n:Nat}{a:Addr}(hs:a ∉ w.own∧a ∉ w.prot∧a ∉ w.ads.take n)(hwr:a ∉ wr):Wd.st ⟨h',w.own,wr++w.prot,w.ads.take n⟩ a:=
 ⟨hs.1,fun m=>(List.mem_append.mp m).elim hwr hs.2.1,hs.2.2⟩
theorem Wd.st.tk{a:Addr}{n:Nat}(hs:w.st a):a ∉ w.own∧a ∉ w.prot∧a ∉ w.ads.take n:=⟨hs.1,hs.2.1,fun m=>hs.2.2 (take_sub m)⟩
theorem nodup_take{l:List Addr}{n k:Nat}{a:Addr}(hn:l.Nodup)(h:l[k]?=some a)(hk:n≤k):a ∉ l.take n:=fun m=>by
 have h2:a∈l.drop n:=List.mem_of_getElem? (i:=k-n) (by rw[List.getElem?_drop,Nat.add_sub_cancel' hk];exact h)
 rw[←List.take_append_drop n l] at hn
 exact(List.nodup_append.mp hn).2.2 a m a h2 rfl
variable{n:Nat}{E:Value→Shared→Prop}{Q:Value→Shared→Prop}
theorem SrcPost.one{en:Bool}{src:Src}{o:Obj}{s':Shared}(c:St G C A env w loc led s)(hs:s'.heap=s.heap.push o)(hfr:o.isFreed=false)(hr:Rs G s')(h:ItAt G A ⟨s'.heap,w.own,[s.heap.objs.size]++w.prot,w.ads.take n⟩ [s.heap.objs.size] en src (.ref s.heap.objs.size)) :
  SrcPost G A w n en src (.ref s.heap.objs.size) s' [s.heap.objs.size]:=
 ⟨fun b hb=>by obtain rfl:=mem1 hb;exact⟨c.heap.1▸fresh_size,o,hs▸Heap.get?_push_size _ hfr⟩,hs▸c.heap.1▸Grow.push _ _,hr,h⟩
theorem perD_more{h':Heap}(c:St G C A env w loc led s)(g:Grow w.h h'):PerD w ⟨h',w.own,[s.heap.objs.size]++w.prot,w.ads.take n⟩:=
 ⟨fun b o e hst=>⟨g b o e,st_more hst.tk fun q=>by obtain rfl:=mem1 q;rw[c.heap.1,fresh_size] at e;cases e⟩⟩
theorem iter_list(c:St G C A env w loc led s){a:Addr}{vs:Array Value}{xs:List D}(i:w.h.IsList a vs)(d:DRs w xs vs.toList)
  (hs:a ∉ w.own∧a ∉ w.prot∧a ∉ w.ads.take n) (k:∀ {it s' wr},SrcPost G A w n false (.fz xs) it s' wr→Q it s'):wpAny (Mo G) A (pyIter (.ref a)) Q E s:=by
 refine wpAny_pyIter_list (c.heap.1▸i) (k (SrcPost.one c rfl rfl c.heap.2 ?_))
 have g:Grow w.h (s.heap.push { cls:=.type "list_iterator",data:=.fields #[.ref a,.int 0 0] }):=c.heap.1▸Grow.push _ _
 obtain⟨o,ho,r⟩:=id i
 have ha:a≠s.heap.objs.size:=fun q=>by rw[c.heap.1,q,fresh_size] at ho;cases ho
 refine .row (Walks.list c.conc.handled _ a ha vs) (i:=0) ⟨⟨_,Heap.get?_push_size _ rfl,rfl,rfl⟩,⟨o,g a o ho,r⟩⟩ (fun b hb=>?_) (Nat.zero_le _) d.size (fun i h st=>listiter_plain st.1) fun j v x h1 _ h3=>?_
 ·rcases mem2 hb with rfl | rfl
  ·exact .inl (.head _)
  ·exact .inr ⟨st_more hs fun q=>ha (mem1 q),o,g _ o ho⟩
 ·obtain⟨v',hv,hr⟩:=d.get (i:=j) h3
  rw[Array.getElem?_toList,h1] at hv
  obtain rfl:=Option.some.inj hv
  exact hr.perD (perD_more c g)
theorem iter_tuple(c:St G C A env w loc led s){a:Addr}{vs:Array Value}{xs:List D}(i:w.h.IsTuple a vs)(d:DRs w xs vs.toList)(st:w.st a)(k:∀ {it s' wr},SrcPost G A w n false (.fz xs) it s' wr→Q it s'):wpAny (Mo G) A (pyIter (.ref a)) Q E s:=by
 refine wpAny_pyIter_tuple (c.heap.1▸i) (k (SrcPost.one c rfl rfl c.heap.2 ?_))
 have g:Grow w.h (s.heap.push { cls:=.type "tuple_iterator",data:=.fields #[.ref a,.int 0 0] }):=c.heap.1▸Grow.push _ _
 obtain⟨o,ho,r⟩:=id i
 have ha:a≠s.heap.objs.size:=fun q=>by rw[c.heap.1,q,fresh_size] at ho;cases ho
 refine .row (Walks.tuple c.conc.handled _ a ha vs) (i:=0) ⟨⟨_,Heap.get?_push_size _ rfl,rfl,rfl⟩,⟨o,g a o ho,r⟩⟩ (fun b hb=>?_) (Nat.zero_le _) d.size (fun i h st=>tupleiter_plain st.1) fun j v x h1 _ h3=>?_
 ·rcases mem2 hb with rfl | rfl
  ·exact .inl (.head _)
  ·exact .inr ⟨st_more st.tk fun q=>ha (mem1 q),o,g _ o ho⟩
 ·obtain⟨v',hv,hr⟩:=d.get (i:=j) h3
  rw[Array.getElem?_toList,h1] at hv
  obtain rfl:=Option.some.inj hv
  exact hr.perD (perD_more c g)
theorem iter_str(c:St G C A env w loc led s){x:Str}{t:Tok}(k:∀ {it s' wr},SrcPost G A w n false (.fz (chars x)) it s' wr→Q it s'):wpAny (Mo G) A (pyIter (.str x t)) Q E s:=by
 have body:∀ (ty:String) (W:Walks G.p G.w A s.heap.objs.size [s.heap.objs.size] [s.heap.objs.size] x.cps.size (SignAt x) (fun i h=>h.IsStrIter s.heap.objs.size ty x t i)) (hn:(["enumerate","zip","dict_itemiterator","dict_reverseitemiterator","odict_iterator","itertools.zip_longest","itertools.pairwise"].contains ty)=false),
   Q (.ref s.heap.objs.size) { s with heap:=s.heap.push { cls:=.type ty,data:=.fields #[.str x t,.int 0 0] } }:=fun ty W hn=>
  k (SrcPost.one (s':={ s with heap:=s.heap.push { cls:=.type ty,data:=.fields #[.str x t,.int 0 0] } }) c rfl rfl c.heap.2 (.row W (i:=0) ⟨_,Heap.get?_push_size _ rfl,rfl,rfl⟩ (fun b hb=>.inl hb) (Nat.zero_le _) (by simp [chars]) (fun i h ⟨o,ho,hc,_⟩=>⟨o,ty,ho,hc,hn⟩) fun j v y h1 _ h3=>by
   obtain⟨ch,u,e1,rfl⟩:=h1
   unfold chars at h3
   rw[Nat.sub_zero,List.getElem?_map,show x.cps.toList[j]?=some ch by simpa using e1] at h3
   obtain rfl:=Option.some.inj h3
   exact⟨u,rfl⟩))
 cases ha:x.cps.all (·<128)
 ·exact wpAny_pyIter_wide ha (body _ (Walks.strWide c.conc.handled _ x t) (by decide))
 ·exact wpAny_pyIter_ascii ha (body _ (Walks.strAscii c.conc.handled _ x t) (by decide))
theorem listW'(c:St G C A env w loc led s){v:V}{val:Value}{K:List D→Prop}(r:VR G w v val)(hk:∀ k,v=.ref k→n≤k)(e:(led.list v).elim False K) :
  ∃ a vs xs,val=.ref a∧w.h.IsList a vs∧DRs w xs vs.toList∧(a ∉ w.own∧a ∉ w.prot∧a ∉ w.ads.take n)∧K xs:=by
 cases v with
 | lst ys=>obtain⟨a,vs,rfl,i,st,d⟩:=r;exact⟨a,vs,ys,rfl,i.list,d,st.tk,e⟩
 | ref k=>
  obtain⟨a,rfl,ha⟩:=r
  obtain⟨o,h,e1⟩:=isW (bindW e)
  obtain⟨xs,rfl,e2⟩:=O.listW e1
  obtain⟨b,hb,vs,i,d⟩:=c.conc.led.get h
  obtain rfl:=Option.some.inj (ha.symm.trans hb)
  have hm:=mem_of_getElem? ha
  exact⟨a,vs,xs,rfl,i.list,d,⟨fun m=>c.conc.sep a (.inl m) hm,fun m=>c.conc.sep a (.inr m) hm,nodup_take c.conc.nd ha (hk k rfl)⟩,e2⟩
 | _=>exact e.elim
theorem iter_e(c:St G C A env w loc led s){v:V}{val:Value}{K:Src→Prop}(r:VR G w v val)(e:(srcE n led [v]).elim False K)(k:∀ {src it s' wr},K src→SrcPost G A w n false src it s' wr→Q it s'):wpAny (Mo G) A (pyIter val) Q E s:=by
 have hlist:(∀ k,v=.ref k→n≤k)→((led.list v).map .fz).elim False K→wpAny (Mo G) A (pyIter val) Q E s:=fun hk e=>by
  obtain⟨a,vs,xs,rfl,i,d,hs,e1⟩:=listW' (n:=n) c r hk (mapW e)
  exact iter_list c i d hs (k e1)
 cases v with
 | ref j=>
  have e:(if j<n then (ledL led (.ref j)).map fun p=>Src.live j 0 else (led.list (.ref j)).map .fz).elim False K:=e
  by_cases hj:j<n
  ·rw[if_pos hj] at e
   obtain⟨k',a,vs,xs,m,rfl,ha,i,io,d,_,e1⟩:=ledW c r (mapW e)
   obtain⟨a',q,ha'⟩:=r
   cases q
   exact wpAny_pyIter_list ⟨_,io,rfl,m,rfl⟩ (k e1 (SrcPost.one c rfl rfl c.heap.2 (.live (by show (w.ads.take n)[j]?=some a;rw[List.getElem?_take_of_lt hj];exact ha') ⟨_,Heap.get?_push_size _ rfl,rfl,rfl⟩)))
  ·rw[if_neg hj] at e
   exact hlist (fun i q=>by cases q;(revert hj;exact z2 0x3ff0842050023)) e
 | d x=>
  cases x with
  | str x=>obtain⟨t,rfl⟩:=r;exact iter_str c (k e)
  | tup xs=>obtain⟨a,vs,rfl,i,st,d⟩:=r;exact iter_tuple c i d st (k e)
  | _=>exact e.elim
 | lst ys=>exact hlist nofun e
 | _=>exact e.elim
theorem rngW{lo hi st:Int}{K:List D→Prop}(e:(rng lo hi st).elim False K):(st≠0∧Builtin.Range.small lo hi st=true∧Builtin.divisionGoesByPylong (hi-lo) st=false) ∧
  K ((List.range (Builtin.Range.rangeSize lo hi st).toNat).map fun (i:Nat)=>D.int (lo+(i:Int)*st)):=by
 unfold rng at e
 by_cases h:st≠0∧Builtin.Range.small lo hi st=true∧Builtin.divisionGoesByPylong (hi-lo) st=false
 ·rw[if_pos h] at e;exact⟨h,e⟩
 ·rw[if_neg h] at e;exact e.elim
theorem rangeSize_nn(a b c:Int):0≤Builtin.Range.rangeSize a b c:=by
 unfold Builtin.Range.rangeSize
 split
 ·split
  ·have:=Int.ediv_nonneg (a:=b-a-1) (b:=c) (by omega) (by omega);omega
  ·exact Int.le_refl _
 ·split
  ·have:=Int.ediv_nonneg (a:=a-b-1) (b:=-c) (by omega) (by omega);omega
  ·exact Int.le_refl _
theorem iter_rng(c:St G C A env w loc led s){r:Addr}{lo hi st:Int}{t u v:Tok}(hr:IsRange s.heap r lo hi st t u v)(h1:Builtin.Range.small lo hi st=true)
  (k:∀ {it s' wr},SrcPost G A w n false (.fz ((List.range (Builtin.Range.rangeSize lo hi st).toNat).map fun (i:Nat)=>D.int (lo+(i:Int)*st))) it s' wr→Q it s'):wpAny (Mo G) A (pyIter (.ref r)) Q E s:=by
 have hn:=rangeSize_nn lo hi st
 refine wpAny_pyIter_range hr h1 (k (SrcPost.one c rfl rfl c.heap.2 (.row (Walks.range (prog:=G.p) (w:=G.w) c.conc.handled s.heap.objs.size lo st (Builtin.Range.rangeSize lo hi st).toNat) (i:=0) ?_ (fun b hb=>.inl hb) (Nat.zero_le _) (by simp) (fun i h st=>⟨_,_,st,rfl,by decide⟩) fun j v y h1 _ h3=>?_)))
 ·show IsRangeIter _ _ (lo+((0:Nat):Int)*st) ((((Builtin.Range.rangeSize lo hi st).toNat:Nat):Int)-((0:Nat):Int)) st
  have e1:lo+((0:Nat):Int)*st=lo:=by simp
  have e2:(((Builtin.Range.rangeSize lo hi st).toNat:Nat):Int)-((0:Nat):Int)=Builtin.Range.rangeSize lo hi st:=by simp;omega
  rw[e1,e2]
  exact Heap.get?_push_size _ rfl
 ·obtain⟨t',rfl⟩:=h1
  rw[Nat.sub_zero,List.getElem?_map] at h3
  obtain⟨j',h4,rfl⟩:=mapE h3
  obtain⟨_,e⟩:=List.getElem?_eq_some_iff.mp h4
  rw[List.getElem_range] at e
  exact⟨t',by rw[e]⟩
structure SI1 (G:Gl) (A:Around) (w:Wd) (led1:Led) (n:Nat) (en:Bool) (src:Src) (it:Value) (s2:Shared) (w1:Wd) (wr:List Addr):Prop where
 stp:Stp w w1
 led:ORs G w1 led1 w1.ads
 nd:w1.ads.Nodup
 sp:SrcPost G A w1 n en src it s2 wr
def SI(G:Gl)(C:Ct)(A:Around)(env:Env)(cx:Cx)(k:IK)(its:List UK.E)(x:Expr)(en:Bool):Prop:=
 ∀ {w:Wd} {loc:Loc} {led:Led} {s:Shared} {n:Nat} {K:Led→Src→Prop} {Q:Value→Shared→Prop},St G C A env w loc led s→(evEs cx its loc led).elim False (fun p=>(srcOf n p.2 k p.1).elim False (K p.2)) →
  (∀ {led1 src it s2 w1 wr},K led1 src→SI1 G A w led1 n en src it s2 w1 wr→Q it s2)→wpAny (Mo G) A (eval x env) (fun xv s1=>wpAny (Mo G) A (pyIter xv) Q NoE s1) NoE s
theorem SI.e{e:UK.E}{x:Expr}(h:SE G C A env cx e x):SI G C A env cx .e [e] x false:=fun c e k=>
 h c (bindW e) fun {p val s' w'} e p1=>iter_e (p1.st c) p1.val e fun e sp=>k e ⟨p1.stp,p1.led,p1.nd,sp⟩
theorem args_call{f:Value}{es:List UK.E}{xs:List Expr}{pos:Pos}{K:List V × Led→Prop}(c:St G C A env w loc led s)(hf:(∃ id,f=.builtin id)∨∃ T,f=.type T)(hn:noStars xs=true)
  (h:SEs G C A env cx es xs) (e:(evEs cx es loc led).elim False K) (k:∀ {p w1 vals s1},K p→PostEs G w p.2 p.1 vals s1 w1→wpAny (Mo G) A (call f vals) Q NoE s1) :
  wpAny (Mo G) A (callWith pos f [] (backTo pos (starEach xs env)) []) Q NoE s:=
 callWith_bi hf (noStars_plain hn) (args_plain hn (h c e k))
theorem SI.range{es:List UK.E}{ID:Str}{xs:List Expr}{p pos:Pos}(hk:env.kindOf ID=some .globalImplicit)(hv:G.look ID=some (.type "range"))(hd:(ID==("__debug__":Str))=false)
  (hn:noStars xs=true) (h:SEs G C A env cx es xs):SI G C A env cx .range es (.Call (.Name ID p) xs [] pos) false:=fun {w loc led s n K Q} c e kk=>by
 refine Call_ (global_name c hk hv hd (args_call c (.inr ⟨_,rfl⟩) hn h e fun {q w1 vals s1} e p1=>?_))
 have fin:∀ {lo hi st:Int} {t u v:Tok} {tk:Nat},((rng lo hi st).map .fz).elim False (K q.2) →
   wpAny (Mo G) A (pyIter (.ref s1.heap.objs.size)) Q NoE { s1 with heap:=s1.heap.push { cls:=.type "range",data:=.fields #[.int lo t,.int hi u,.int st v] },toks:=tk }:=fun {lo hi st t u v tk} e1=>by
  obtain⟨⟨_,h1,_⟩,e2⟩:=rngW (mapW e1)
  have g:Grow w1.h (s1.heap.push { cls:=.type "range",data:=.fields #[.int lo t,.int hi u,.int st v] }):=p1.heap.1▸Grow.push _ _
  have c1:=(p1.st c).conc.grow g
  exact iter_rng (s:={ s1 with heap:=s1.heap.push { cls:=.type "range",data:=.fields #[.int lo t,.int hi u,.int st v] },toks:=tk }) ⟨c1,rfl,p1.heap.2⟩ (Heap.get?_push_size _ rfl) h1 fun sp=>kk e2 ⟨p1.stp.trans (Stp.grow g),c1.led,p1.nd,sp⟩
 have pv:=p1.val
 obtain⟨vs,l1⟩:=q
 match vs,e,pv with
 | [a],e,pv=>
  obtain⟨x,rfl,r⟩:=pv.one
  obtain⟨i,rfl,e1⟩:=V.intW (bindW e)
  obtain⟨t,rfl⟩:=r
  exact call_range_1 (fin e1)
 | [a,b],e,pv=>
  obtain⟨x,y,rfl,r1,r2⟩:=pv.two
  obtain⟨i,rfl,e1⟩:=V.intW (bindW e)
  obtain⟨j,rfl,e2⟩:=V.intW (bindW e1)
  obtain⟨t,rfl⟩:=r1;obtain⟨u,rfl⟩:=r2
  exact call_range_2 (fin e2)
 | [a,b,d],e,pv=>
  obtain⟨x,y,z,rfl,r1,r2,r3⟩:=pv.three
  obtain⟨i,rfl,e1⟩:=V.intW (bindW e)
  obtain⟨j,rfl,e2⟩:=V.intW (bindW e1)
  obtain⟨m,rfl,e3⟩:=V.intW (bindW e2)
  obtain⟨t,rfl⟩:=r1;obtain⟨u,rfl⟩:=r2;obtain⟨v,rfl⟩:=r3
  obtain⟨⟨h0,_,h2⟩,_⟩:=rngW (mapW e3)
  exact call_range_3 h0 (fin e3) (.inl h2)
end
end
section
section
variable{G:Gl}{C:Ct}{A:Around}{env:Env}{cx:Cx}{w:Wd}{loc:Loc}{led led':Led}{s:Shared}
noncomputable def Wd.cut(w:Wd)(n:Nat):Wd:=⟨w.h,w.own,w.prot,w.ads.take n⟩
theorem cutD(w:Wd)(n:Nat):PerD w (w.cut n):=⟨fun b o e h=>⟨e,h.1,h.2.1,fun m=>h.2.2 (List.mem_of_mem_take m)⟩⟩
theorem VR.cut{n:Nat}{v:V}{val:Value}(r:VR G w v val)(hb:UK.below n v=true):VR G (w.cut n) v val:=r.mvB (cutD w n) hb fun k a h e=>(List.getElem?_take_of_lt h).trans e
theorem Conc.cut(c:Conc G C A w env loc led)(n:Nat)(hb:∀ {x v},get loc x=some v→UK.below n v=true):Conc G C A (w.cut n) env loc (led.take n):=
 c.to (cutD w n) (fun _ e a=>⟨e,fun q=>a (List.mem_of_mem_take q)⟩) id (fun _ m=>m) (fun e r=>r.cut (hb e)) ((c.led.take n).moveD (cutD w n) fun a _ o e=>e) (c.nd.sublist (List.take_sublist n w.ads)) (fun a h m=>c.sep a h (List.mem_of_mem_take m)) c.ownex c.op
theorem Conc.weaken(c:Conc G C A w env loc led){loc':Loc}(h:∀ x v,get loc' x=some v→get loc x=some v):Conc G C A w env loc' led:=
 { c with locs:=fun x v e=>c.locs x v (h x v e) }
theorem ItAt.self{wr:List Addr}{en:Bool}{src:Src}{it:Value}{E:Value→Shared→Prop}{Q:Value→Shared→Prop}(x:ItAt G A w wr en src it)(hh:Hp G w s)(h:Q it s):wpAny (Mo G) A (pyIter it) Q E s:=by
 cases x with
 | live ha it=>exact wpAny_pyIter_listiter (hh.1▸it) h
 | row W st hf hi hl hp hd=>exact W.self _ s _ _ (hh.1▸st) h
noncomputable def closOf(env:Env):List (Str × NameKind)→List (Str × Addr)→List (Str × Addr)
 | [],cs=>cs
 | (n,k)::r,cs=>closOf env r (if k==.free then (match env.cells.lookup n with | some c=>(n,c)::cs | none=>cs) else cs)
theorem closureFor_is{scope:Scope}(h:∀ x∈scope.names,x.2=.free→(env.cells.lookup x.1).isSome=true):closureFor scope env=pure (closOf env scope.names []):=by
 simp only[closureFor]
 have key:∀ (l:List (Str × NameKind)) (cs:List (Str × Addr)),(∀ x∈l,x.2=.free→(env.cells.lookup x.1).isSome=true) →
   (forIn l cs fun x cs=>(do
    let (name,kind):=x
    if (kind==.free)=true then do
     let c ←cellOf env name
     pure (ForInStep.yield ((name,c)::cs))
    else pure (ForInStep.yield cs):Sem (ForInStep (List (Str × Addr)))))=pure (closOf env l cs):=by
  intro l
  induction l with
  | nil=>intro cs _;rfl
  | cons x l ih=>
   intro cs hx
   obtain⟨n,k⟩:=x
   rw[List.forIn_cons]
   unfold closOf
   by_cases hk:(k==NameKind.free)=true
   ·have hf:=hx (n,k) (List.mem_cons_self ..) (eq_of_beq hk)
    obtain⟨cc,hc⟩:=Option.isSome_iff_exists.mp hf
    simp only[hk,if_true]
    have e1:cellOf env n=pure cc:=by unfold cellOf;rw[show env.cells.lookup n=some cc from hc]
    rw[e1,show env.cells.lookup n=some cc from hc]
    simp only[pure_bind]
    exact ih _ fun y hy=>hx y (List.mem_cons_of_mem _ hy)
   ·simp only[hk]
    exact ih _ fun y hy=>hx y (List.mem_cons_of_mem _ hy)
 have:=key scope.names [] h
 simp only[] at this ⊢
 rw[←this]
 first | rfl | simp only[bind_pure]
theorem closOf_lookup:∀ (l:List (Str × NameKind)) (cs:List (Str × Addr)) (x:Str) (c:Addr),env.cells.lookup x=some c→((x,NameKind.free)∈l∨cs.lookup x=some c)→(closOf env l cs).lookup x=some c
 | [],cs,x,c,_,h=>by
  rcases h with h | h
  ·cases h
  ·exact h
 | (n,k)::l,cs,x,c,e,h=>by
  unfold closOf
  refine closOf_lookup l _ x c e ?_
  by_cases hn:x=n
  ·subst hn
   by_cases hk:(k==NameKind.free)=true
   ·rw[if_pos hk,e]
    exact .inr (by simp)
   ·rw[if_neg hk]
    rcases h with h | h
    ·rcases List.mem_cons.mp h with h | h
     ·cases h;exact absurd (beq_self_eq_true NameKind.free) hk
     ·exact .inl h
    ·exact .inr h
  ·rcases h with h | h
   ·rcases List.mem_cons.mp h with h | h
    ·cases h;exact absurd rfl hn
    ·exact .inl h
   ·refine .inr ?_
    split
    ·split
     ·rw[List.lookup_cons,show (x==n)=false by simpa using hn];exact h
     ·exact h
    ·exact h
noncomputable def testBody(env:Env):Expr→Bool→Sem (ForInStep Bool):=fun c r=>if r=true then do let ok ←isTrue c env (eval c env);pure (ForInStep.yield ok) else pure (ForInStep.yield r)
def TurnQ(R:Result→Shared→Prop)(c:Code)(I:Shared→Prop)(r:Fin)(s:Shared):Prop:=match r with
 | .done f=>R (.ok f) s
 | .again c'=>c'=c∧I s
theorem compLoop_own{elt target iter:Expr}{ifs:List Expr}{scope:Scope}{pos:Pos}{it acc:Value}{env:Env}{R:Result→Shared→Prop}(I:Nat→Shared→Prop)
  (turn:∀ n s,I n s→wpAny (Mo G) A (compTurn (.ListComp elt [⟨target,iter,ifs,0⟩] scope pos) 0 it acc env) (TurnQ R (.compLoop (.ListComp elt [⟨target,iter,ifs,0⟩] scope pos) 0 it acc env) fun s=>∃ m,m<n∧I m s) NoE s) (n:Nat) (h:I n s):codeAny (Mo G) A (.compLoop (.ListComp elt [⟨target,iter,ifs,0⟩] scope pos) 0 it acc env) R s:=by
 refine codeAny_loop rfl I (fun n s hI=>?_) n h
 show wpAny _ A ((compTurn (.ListComp elt [⟨target,iter,ifs,0⟩] scope pos) 0 it acc env).onRaise (fun x=>do noteFrame x env;theTreesLotGoes x)) _ _ s
 exact wpAny_noted (falseE (turn n s hI))
def STs(G:Gl)(C:Ct)(A:Around)(env:Env)(cx:Cx)(es:List E)(xs:List Expr):Prop:=
 ∀ {w:Wd} {loc:Loc} {led:Led} {s:Shared} {K:Bool × Led→Prop} {Q:Bool→Shared→Prop},St G C A env w loc led s→(evConds cx es loc led).elim False K →
  (∀ {p:Bool × Led} {s':Shared} {w':Wd},K p→PostE G w p.2 (.d .none) .none s' w'→Q p.1 s')→wpAny (Mo G) A (forIn xs true (testBody env)) Q NoE s
theorem STs.nil:STs G C A env cx [] []:=fun c e k=>wpAny_pure (k e (c.val rfl))
theorem tests_false{M:Model}{E:Value→Shared→Prop}{Q:Bool→Shared→Prop}:∀ (xs:List Expr) {s:Shared},Q false s→wpAny M A (forIn xs false (testBody env)) Q E s
 | [],s,h=>wpAny_pure h
 | x::xs,s,h=>by
  rw[List.forIn_cons]
  exact wpAny_bind (wpAny_pure (tests_false xs h))
def CondsK(cx:Cx)(es:List E)(loc:Loc)(K:Bool × Led→Prop)(l:Led)(t:Bool):Prop:=(cond t (evConds cx es loc l) (some (false,l))).elim False K
theorem STs.cons{e:E}{es:List E}{x:Expr}{xs:List Expr}(h1:ST G C A env cx e x)(h2:STs G C A env cx es xs):STs G C A env cx (e::es) (x::xs):=fun {w loc led s K Q} c e k=>by
 rw[List.forIn_cons]
 refine wpAny_bind (wpAny_bind (h1 (K:=CondsK cx es loc K) c ?_ fun {l b s' w'} e p=>wpAny_pure ?_))
 ·obtain⟨p,hp,e⟩:=isW (bindW e)
  exact toW hp (bindW e)
 ·cases b with
  | true=>exact h2 (p.st c) e fun e2 p2=>k e2 (p.trans p2)
  | false=>exact tests_false xs (k e p)
theorem foldedSet_other{iter:Expr}(h:(match iter with | .Set _ _ _=>false | _=>true)=true)(x:Value):foldedSetIterable iter env x=pure x:=by
 cases iter <;> first | rfl | exact Bool.noConfusion h
noncomputable def compOk(sc scope:Scope):Bool:=
 (scope.kind==.function)&&scope.names.all fun (n,k)=>k != .cell&&(k != .free || (sc.names.lookup n==some .cell || sc.names.lookup n==some .free))&&(k != .local || scope.names.lookup n==some .local)
noncomputable def relab(sc scope:Scope):Scope:=
 { scope with names:=scope.names.map fun (n,k)=>if (k==.free&&sc.kind==.function&&sc.names.lookup n==some .cell) then (n,.cell) else (n,k) }
mutual
noncomputable def tNames:T→List Nat
 | .name x=>[x]
 | .tup ts=>tsNames ts
noncomputable def tsNames:List T→List Nat
 | []=>[]
 | t::ts=>tNames t++tsNames ts
end
mutual
theorem bindD_get:∀ {t:T} {d:D} {loc loc':Loc} {x:Nat},bindD t d loc=some loc'→x ∉ tNames t→get loc' x=get loc x
 | .name y,d,loc,loc',x,h,hx=>by
  obtain rfl:=Option.some.inj h
  exact get_put.trans (if_neg fun q=>hx (by rw[q];exact .head _))
 | .tup ts,d,loc,loc',x,h,hx=>by
  obtain⟨ds,_,h2⟩:=bindE h
  exact bindDs_get h2 hx
theorem bindDs_get:∀ {ts:List T} {ds:List D} {loc loc':Loc} {x:Nat},bindDs ts ds loc=some loc'→x ∉ tsNames ts→get loc' x=get loc x
 | [],ds,loc,loc',_,h,_=>by
  obtain⟨_,_,rfl⟩:=mapE h
  rfl
 | _::_,[],_,_,_,h,_=>nomatch h
 | t::ts,d::ds,loc,loc',x,h,hx=>by
  obtain⟨loc1,e1,e2⟩:=bindE h
  exact(bindDs_get e2 fun q=>hx (List.mem_append_right _ q)).trans (bindD_get e1 fun q=>hx (List.mem_append_left _ q))
end
theorem get_capt{caps:List Nat}{loc:Loc}{x:Nat}{v:V}(h:get (capt caps loc) x=some v):get loc x=some v∧x∈caps:=by
 unfold capt at h
 induction caps with
 | nil=>cases h
 | cons y caps ih=>
  rw[List.filterMap_cons] at h
  cases e:get loc y with
  | none=>
   rw[e] at h
   obtain⟨h1,h2⟩:=ih h
   exact⟨h1,List.mem_cons_of_mem _ h2⟩
  | some u=>
   rw[e] at h
   simp only[Option.map_some,get] at h
   by_cases hy:y=x
   ·subst hy
    rw[if_pos rfl] at h
    exact⟨e.trans h,List.mem_cons_self ..⟩
   ·rw[if_neg hy] at h
    obtain⟨h1,h2⟩:=ih h
    exact⟨h1,List.mem_cons_of_mem _ h2⟩
theorem lookup_map2{g:Str→NameKind→NameKind}:∀ {l:List (Str × NameKind)} {x:Str},(l.map fun (n,k)=>(n,g n k)).lookup x=(l.lookup x).map (g x)
 | [],x=>rfl
 | (n,k)::l,x=>by
  show List.lookup x ((n,g n k)::l.map fun (n,k)=>(n,g n k))=_
  by_cases h:x=n
  ·subst h;simp
  ·rw[List.lookup_cons,List.lookup_cons,show (x==n)=false by simpa using h]
   exact lookup_map2
noncomputable def relabK(sc:Scope)(n:Str)(k:NameKind):NameKind:=if (k==.free&&sc.kind==.function&&sc.names.lookup n==some .cell) then .cell else k
theorem relab_lookup{sc scope:Scope}{x:Str}:(relab sc scope).names.lookup x=(scope.names.lookup x).map (relabK sc x):=by
 rw[←lookup_map2]
 show List.lookup x (scope.names.map _)=_
 congr 1
 refine List.map_congr_left fun p _=>?_
 obtain⟨n,k⟩:=p
 show (if (k==.free&&sc.kind==.function&&sc.names.lookup n==some .cell) then (n,.cell) else (n,k))=(n,relabK sc n k)
 unfold relabK
 split <;> rfl
theorem lookup_mem{l:List (Str × NameKind)}{x:Str}{k:NameKind}(h:l.lookup x=some k):(x,k)∈l:=by
 induction l with
 | nil=>cases h
 | cons p l ih=>
  obtain⟨n,k'⟩:=p
  rw[List.lookup_cons] at h
  by_cases hn:x=n
  ·subst hn;rw[beq_self_eq_true] at h;cases h;exact List.mem_cons_self ..
  ·rw[show (x==n)=false by simpa using hn] at h;exact List.mem_cons_of_mem _ (ih h)
end
end
section
section
variable{G:Gl}{C:Ct}{A:Around}{env:Env}{cx:Cx}{w:Wd}{loc:Loc}{led led':Led}{s:Shared}
theorem compOk_at{sc scope:Scope}(h:compOk sc scope=true):scope.kind=.function∧(∀ x∈scope.names,x.2≠.cell)∧(∀ x∈scope.names,x.2=.free→sc.names.lookup x.1=some .cell∨sc.names.lookup x.1=some .free) ∧
  (∀ x∈scope.names,x.2=.local→scope.names.lookup x.1=some .local):=by
 have key:∀ x∈scope.names,(x.2 != .cell&&(x.2 != .free || (sc.names.lookup x.1==some .cell || sc.names.lookup x.1==some .free))&&(x.2 != .local || scope.names.lookup x.1==some .local))=true:=fun x hx=>List.all_eq_true.mp (andB h).2 x hx
 refine⟨eq_of_beq (andB h).1,fun x hx e=>?_,fun x hx e=>?_,fun x hx e=>?_⟩
 ·have k1:=(andB (andB (key x hx)).1).1
  rw[e] at k1;exact Bool.noConfusion k1
 ·have k1:=(andB (andB (key x hx)).1).2
  rw[e] at k1
  exact(Bool.or_eq_true_iff.mp ((Bool.or_eq_true_iff.mp k1).resolve_left (by decide))).imp eq_of_beq eq_of_beq
 ·have k1:=(andB (key x hx)).2
  rw[e] at k1
  exact eq_of_beq k1
theorem outer_kind{sc scope:Scope}(hok:compOk sc scope=true){x:Str}(h:(relab sc scope).names.lookup x=some .cell∨(relab sc scope).names.lookup x=some .free) :
  scope.names.lookup x=some .free∧(sc.names.lookup x=some .cell∨sc.names.lookup x=some .free):=by
 obtain⟨_,k2,k3,_⟩:=compOk_at hok
 rw[relab_lookup] at h
 have main:∃ k,scope.names.lookup x=some k∧(relabK sc x k=.cell∨relabK sc x k=.free):=h.elim (fun h=>(mapE h).imp fun k q=>⟨q.1,.inl q.2⟩) fun h=>(mapE h).imp fun k q=>⟨q.1,.inr q.2⟩
 obtain⟨k,e,h2⟩:=main
 have hm:=lookup_mem e
 have hk:k=.free:=by
  unfold relabK at h2
  by_cases hc:(k==.free&&sc.kind==.function&&sc.names.lookup x==some .cell)=true
  ·exact eq_of_beq (andB (andB hc).1).1
  ·rw[if_neg hc] at h2
   exact h2.resolve_left (k2 _ hm)
 subst hk
 exact⟨e,k3 _ hm rfl⟩
theorem Conc.comp{scope:Scope}(c:Conc G C A w env loc led)(hok:compOk env.scope scope=true){caps:List Nat}(hcap:∀ x∈caps,scope.names.lookup (C.nm x)=some .free)
  {h':Heap} {wr:List Addr} {D L:Addr} {m:Str→Option Value} (g:Grow w.h h') (hwr:∀ b∈wr,w.h.get? b=none∧∃ o,h'.get? b=some o) (hD:w.h.get? D=none) (hL:w.h.get? L=none) (hDL:D≠L) (hDw:D ∉ wr) (hLw:L ∉ wr)
  (hd:IsL h' D #[]) (hns:h'.Ns L m) :
  Conc G C A ⟨h',[L],wr++(w.own++w.prot),w.ads++[D]⟩ (compEnvC scope (closOf env scope.names []) L env) (capt caps loc) (led++[.list []]):=by
 obtain⟨k1,k2,k3,k4⟩:=compOk_at hok
 have hrel:(compEnvC scope (closOf env scope.names []) L env).scope=relab env.scope scope:=rfl
 have hkind:∀ {x},(compEnvC scope (closOf env scope.names []) L env).kindOf x=(relab env.scope scope).names.lookup x:=rfl
 have okind:∀ {x},env.kindOf x=env.scope.names.lookup x:=rfl
 have cellAt:∀ x,(compEnvC scope (closOf env scope.names []) L env).kindOf x=some .cell∨(compEnvC scope (closOf env scope.names []) L env).kindOf x=some .free →
   (env.kindOf x=some .cell∨env.kindOf x=some .free)∧∀ cc,env.cells.lookup x=some cc→(closOf env scope.names []).lookup x=some cc:=by
  intro x hx
  rw[hkind] at hx
  obtain⟨h1,h2⟩:=outer_kind hok hx
  exact⟨h2,fun cc e=>closOf_lookup _ _ _ _ e (.inl (lookup_mem h1))⟩
 have sst:∀ b,(∃ o,w.h.get? b=some o)→w.st b→Wd.st ⟨h',[L],wr++(w.own++w.prot),w.ads++[D]⟩ b:=fun b ⟨o,ho⟩ hs=>by
  refine⟨fun q=>?_,fun q=>?_,fun q=>?_⟩
  ·rw[List.mem_singleton] at q;subst q;rw[hL] at ho;cases ho
  ·rcases List.mem_append.mp q with q | q
   ·rw[(hwr b q).1] at ho;cases ho
   ·rcases List.mem_append.mp q with q | q
    ·exact hs.1 q
    ·exact hs.2.1 q
  ·rcases List.mem_append.mp q with q | q
   ·exact hs.2.2 q
   ·rw[List.mem_singleton] at q;subst q;rw[hD] at ho;cases ho
 have P:Per w ⟨h',[L],wr++(w.own++w.prot),w.ads++[D]⟩:=
  { st:=fun b o e hs=>⟨g b o e,sst b ⟨o,e⟩ hs⟩,ref:=fun k a e=>pre_get (List.prefix_append _ _) e }
 exact {
  keep:=fun b o e=>P.st b o (c.keep b o e).1 (c.keep b o e).2
  glob:=c.glob
  nolim:=c.nolim
  handled:=c.handled
  depth:=c.depth
  units:=c.units
  frame:={
   kind:=k1
   globals:=c.frame.globals
   builtins:=c.frame.builtins
   ns:=⟨m,hns⟩
   lin:=List.mem_singleton.mpr rfl
   cells:=fun x hx=>by
    obtain⟨h1,h2⟩:=cellAt x hx
    obtain⟨cc,o,l,⟨ob,i,hdt⟩,mo,ne⟩:=c.frame.cells x h1
    refine⟨cc,o,h2 cc l,⟨ob,g _ _ i,hdt⟩,.inr ?_,fun q=>?_⟩
    ·refine List.mem_append.mpr (.inr (List.mem_append.mpr mo))
    ·have:cc=L:=q
     subst this;rw[hL] at i;cases i
   inj:=fun x y cc hx hy l1 l2=>by
    obtain⟨h1,h2⟩:=cellAt x hx
    obtain⟨h3,h4⟩:=cellAt y hy
    obtain⟨c1,_,e1,_⟩:=c.frame.cells x h1
    obtain⟨c2,_,e2,_⟩:=c.frame.cells y h3
    have q1:=h2 c1 e1
    have q2:=h4 c2 e2
    have l1':(closOf env scope.names []).lookup x=some cc:=l1
    have l2':(closOf env scope.names []).lookup y=some cc:=l2
    rw[q1] at l1';rw[q2] at l2'
    cases l1';cases l2'
    exact c.frame.inj x y _ h1 h3 e1 e2 }
  locs:=fun x v e=>by
   obtain⟨e1,hx⟩:=get_capt e
   obtain⟨l,val,i,r⟩:=c.locs x v e1
   refine⟨l,val,?_,r.per P⟩
   have hf:=hcap x hx
   have hko:=k3 _ (lookup_mem hf) rfl
   rcases i with ⟨k,_⟩ | ⟨k,cc,l1,⟨ob,i,hdt⟩,a1⟩
   ·rw[okind] at k
    rcases hko with q | q <;> ·rw[q] at k;cases k
   ·refine .inr ⟨?_,cc,closOf_lookup _ _ _ _ l1 (.inl (lookup_mem hf)),⟨ob,g _ _ i,hdt⟩,fun q=>?_⟩
    ·rw[hkind,relab_lookup,hf]
     simp only[Option.map_some,relabK]
     split
     ·exact .inl rfl
     ·exact .inr rfl
    ·rcases List.mem_append.mp q with q | q
     ·exact a1 q
     ·rw[List.mem_singleton] at q;subst q;rw[hD] at i;cases i
  led:=(c.led.move P fun a _ o e=>g a o e).append ⟨⟨#[],hd,trivial⟩,trivial⟩
  nd:=List.nodup_append.mpr ⟨c.nd,by simp,fun b hb d hd' e=>fresh_ads c hD (by rw[List.mem_singleton] at hd';exact hd'▸e▸hb)⟩
  sep:=fun a ha=>by
   intro q
   have hold:a∈w.own∨a∈w.prot→False:=fun ha'=>by
    rcases List.mem_append.mp q with q | q
    ·exact c.sep a ha' q
    ·rw[List.mem_singleton] at q;subst q
     obtain⟨o,ho⟩:=c.ownex a ha'
     rw[hD] at ho;cases ho
   have hnew:w.h.get? a=none→a≠D→False:=fun h1 h2=>by
    rcases List.mem_append.mp q with q | q
    ·exact fresh_ads c h1 q
    ·rw[List.mem_singleton] at q;exact h2 q
   rcases ha with ha | ha
   ·rw[List.mem_singleton] at ha;subst ha;exact hnew hL (Ne.symm hDL)
   ·rcases List.mem_append.mp ha with ha | ha
    ·exact hnew (hwr a ha).1 fun q=>hDw (q▸ha)
    ·exact hold (List.mem_append.mp ha)
  ownex:=fun a ha=>by
   rcases ha with ha | ha
   ·rw[List.mem_singleton] at ha;subst ha
    obtain⟨o,_,_,ho,_⟩:=hns;exact⟨o,ho⟩
   ·rcases List.mem_append.mp ha with ha | ha
    ·exact(hwr a ha).2
    ·obtain⟨o,ho⟩:=c.ownex a (List.mem_append.mp ha)
     exact⟨o,g a o ho⟩
  inj:=c.inj
  op:=fun a ha q=>by
   rw[List.mem_singleton] at ha;subst ha
   rcases List.mem_append.mp q with q | q
   ·exact hLw q
   ·obtain⟨o,ho⟩:=c.ownex _ (List.mem_append.mp q)
    rw[hL] at ho;cases ho }
noncomputable def turnE(cx:Cx)(elt:E)(t:T)(conds:List E)(cloc:Loc)(n:D)(led:Led):Option (Option D × Led):=(bindD t n cloc).bind fun loc'=>(evConds cx conds loc' led).bind fun c=>
 cond c.1 ((evE cx elt loc' c.2).bind fun y=>(ofV y.1).map fun d=>(some d,y.2)) (some (none,c.2))
structure CI (G:Gl) (C:Ct) (A:Around) (cenv:Env) (cloc:Loc) (wr:List Addr) (en:Bool) (it:Value) (turn:D→Led→Option (Option D × Led)) (K:Led→Prop) (w1:Wd) (D L:Addr) (k:Nat) (s':Shared) (wc:Wd) (ledc:Led) (src:Src):Prop where
 st:St G C A cenv wc cloc ledc s'
 at':ItAt G A wc wr en src it
 own:wc.own=[L]
 prot:wc.prot=wr++(w1.own++w1.prot)
 ads:wc.ads=w1.ads++[D]
 old:∀ b o,w1.h.get? b=some o→b ∉ w1.ads→wc.h.get? b=some o
 run:(compLoop w1.ads.length turn k src ledc).elim False K
def CIs(G:Gl)(C:Ct)(A:Around)(cenv:Env)(cloc:Loc)(wr:List Addr)(en:Bool)(it:Value)(turn:D→Led→Option (Option D × Led))(K:Led→Prop)(w1:Wd)(D L:Addr)(k:Nat)(s':Shared):Prop:=
 ∃ wc ledc src,CI G C A cenv cloc wr en it turn K w1 D L k s' wc ledc src
theorem not_last{a b:Addr}{l:List Addr}{o:Obj}(h:w.h.get? a=none)(e:w.h.get? b=some o)(n:b ∉ l):b ∉ l++[a]:=fun q=>
 (List.mem_append.mp q).elim n fun q=>by obtain rfl:=mem1 q;exact nomatch h.symm.trans e
theorem comp_turn{cenv:Env}{cloc:Loc}{wr:List Addr}{en:Bool}{it:Value}{K:Led→Prop}{w1:Wd}{D L:Addr}{elt:E}{t:T}{conds:List E}{xe xt iter:Expr}{ifs:List Expr}{scope:Scope}{pos:Pos}{k:Nat}{wc:Wd}{ledc:Led}{src:Src}{R:Result→Shared→Prop}
  (x:CI G C A cenv cloc wr en it (turnE cx elt t conds cloc) K w1 D L k s wc ledc src) (ht:isT C cenv.scope false t xt=true) (hen:en=true→∃ es k pos,xt=.Tuple es k pos) (hdis:∀ y v,get cloc y=some v→y ∉ tNames t)
  (hwr:∀ b∈wr,w1.h.get? b=none) (hD:w1.h.get? D=none) (hL:w1.h.get? L=none) (hcel:∀ {a},Held cenv a→a ∉ wr) (hc:STs G C A cenv cx conds ifs) (he:SE G C A cenv cx elt xe)
  (hR:∀ {s' w'},K ledc→Hp G w' s'→At wr wc w'→R (.ok .next) s') :
  wpAny (Mo G) A (compTurn (.ListComp xe [⟨xt,iter,ifs,0⟩] scope pos) 0 it (.ref D) cenv) (TurnQ R (.compLoop (.ListComp xe [⟨xt,iter,ifs,0⟩] scope pos) 0 it (.ref D) cenv) fun s'=>∃ m,m<k∧CIs G C A cenv cloc wr en it (turnE cx elt t conds cloc) K w1 D L m s') NoE s:=by
 have hwp:∀ b∈wr,b∈wc.prot:=fun b hb=>by rw[x.prot];exact List.mem_append_left _ hb
 cases k with
 | zero=>exact x.run.elim
 | succ N=>
  obtain⟨r,e1,hrun⟩:=isW (bindW x.run)
  rw[compTurn_list]
  refine wpAny_bind (wpAny_standAt (wpAny_bind (x.at'.next x.st.heap x.st.conc.led x.st.conc.handled hwp x.st.conc.ownex e1 ⟨fun hr {w' s'} hh P=>?_,fun {y src'} hr {v s1} go=>?_⟩)))
  ·subst hr
   exact wpAny_pure (hR hrun hh P)
  ·subst hr
   refine wpAny_bind (go xt NoE _ hen fun {w2 s2} hh2 P2 dr at2=>?_)
   have c2:Conc G C A w2 cenv cloc ledc:=x.st.conc.at_ P2 hwp hcel at2.ex
   obtain⟨cloc',e3,e4⟩:=isW (bindW (bindW hrun))
   refine wpAny_bind (bindD_conc (fl:=false) (own:=[L]) rfl (fun q=>nomatch q) ht ⟨c2,hh2⟩ (P2.own.trans x.own) dr (toW e3 (K:=fun l=>l=cloc') rfl) fun {l w3 s3} q P3 c3=>?_)
   subst q
   have ads3:w3.ads=w1.ads++[D]:=P3.ads.trans (P2.ads.trans x.ads)
   have own3:w3.own=[L]:=P3.own.trans (P2.own.trans x.own)
   have prot3:w3.prot=wr++(w1.own++w1.prot):=P3.prot.trans (P2.prot.trans x.prot)
   have old3:∀ b o,w1.h.get? b=some o→b ∉ w1.ads→w3.h.get? b=some o:=fun b o e n=>
    P3.keep b o (P2.keep b o (x.old b o e n) fun q=>nomatch (hwr b q).symm.trans e) fun q=>by
     rw[P2.own,x.own] at q
     obtain rfl:=mem1 q
     exact nomatch hL.symm.trans e
   have at3:ItAt G A w3 wr en src' it:=at2.keep P3.per.toPerD (fun k i a _ e=>by rw[P3.ads];exact e) fun b hb o e=>P3.keep b o e fun q=>c2.op b q (by rw[P2.prot];exact hwp b hb)
   have fin:∀ {w6:Wd} {led6:Led} {s6:Shared},Stp w3 w6→St G C A cenv w6 l led6 s6→(compLoop w1.ads.length (turnE cx elt t conds cloc) N src' (led6.take (w1.ads.length+1))).elim False K →
     ∃ m,m<N+1∧CIs G C A cenv cloc wr en it (turnE cx elt t conds cloc) K w1 D L m s6:=fun {w6 led6 s6} P6 c6 hr=>by
    have hl3:w3.ads.length=w1.ads.length+1:=by rw[ads3,List.length_append];rfl
    have hads:(w6.cut (w1.ads.length+1)).ads=w3.ads:=by
     show w6.ads.take _=_
     rw[←hl3]
     exact(List.prefix_iff_eq_take.mp P6.pre).symm
    refine⟨N,Nat.lt_succ_self _,w6.cut (w1.ads.length+1),led6.take (w1.ads.length+1),src',⟨(c6.conc.cut _ fun {z u} e=>?_).weaken fun z u e=>(bindD_get e3 (hdis z u e)).trans e,c6.heap⟩,?_,P6.own.trans own3,P6.prot.trans prot3,hads.trans ads3,fun b o e n=>?_,hr⟩
    ·obtain⟨_,val,_,r⟩:=c3.conc.locs z u e
     exact r.below (Nat.le_of_eq hl3)
    ·exact at3.keep ⟨fun b o e hs=>⟨(P6.keep b o e hs.2.2).1,((cutD w6 (w1.ads.length+1)).st b o (P6.keep b o e hs.2.2).1 (P6.per.st b o e hs).2).2⟩⟩
      (fun k i a _ e=>by rw[hads];exact e)
      fun b hb o e=>(P6.keep b o e (c3.conc.sep b (.inr (by rw[prot3];exact List.mem_append_left _ hb)))).1
    ·exact(P6.keep b o (old3 b o e n) (by rw[ads3];exact not_last hD e n)).1
   refine wpAny_bind (m:=forIn ifs true (testBody cenv)) (hc c3 (bindW e4) fun {q s4 w4} e5 p4=>?_)
   obtain⟨b,led4⟩:=q
   cases b with
   | false=>exact wpAny_pure ⟨rfl,fin p4.stp (p4.st c3) (bindW e5)⟩
   | true=>
    have e5:((evE cx elt l led4).bind fun y=>(ofV y.1).map fun d=>(some d,y.2)).elim False fun a=>((keepL w1.ads.length a.1 a.2).bind fun l=>compLoop w1.ads.length (turnE cx elt t conds cloc) N src' l).elim False K:=e5
    refine wpAny_bind (wpAny_bind (he (p4.st c3) (bindW e5) fun {q yv s5 w5} e6 p5=>wpAny_bind ?_))
    obtain⟨z,hz,e7⟩:=ofVW (mapW e6)
    have c5:=p5.st (p4.st c3)
    have P5:=p4.stp.trans p5.stp
    obtain⟨o,e8,e9⟩:=isW (bindW (bindW (bindW e7)))
    obtain⟨ys,rfl,e10⟩:=O.listW e9
    obtain⟨hcap,e11⟩:=gdW e10
    have hD5:w5.ads[w1.ads.length]?=some D:=pre_get P5.pre (by rw[ads3,List.getElem?_concat_length])
    obtain⟨a,ha,vs,i,d⟩:=c5.conc.led.get e8
    obtain rfl:=Option.some.inj (hD5.symm.trans ha)
    obtain⟨n,ho⟩:=id i
    have pv:=p5.val
    rw[p5.heap.1] at ho
    rw[hz] at pv
    have p6:=c5.upd (s':={ s5 with heap:=s5.heap.update D (Obj.mapSeq fun x=>x.push yv) }) (g:=fun x=>x.push yv) (xs:=ys++[z]) hD5 i ⟨rfl,rfl,rfl⟩ (by rw[Array.toList_push];exact d.append ⟨pv,trivial⟩)
    refine call_meets PySem.F.slot_list_append ⟨_,ho,rfl⟩ PySem.F.entry_list_append (PySem.F.args_list_append_2 _ _) (PySem.AutoListH.list_append_list_val_0 D vs n yv (d.size▸capLine (Nat.le_of_lt hcap))) ⟨ho,?_⟩
    exact wpAny_pure (wpAny_pure ⟨rfl,fin (P5.trans p6.stp) ((p6.toks' ⟨rfl,rfl,rfl⟩).st c5) (by rw[List.take_set];exact e11)⟩)
end
end
section
section
variable{G:Gl}{C:Ct}{A:Around}{env:Env}{cx:Cx}{w:Wd}{loc:Loc}{led led':Led}{s:Shared}
structure CEnd (G:Gl) (w w1:Wd) (D L:Addr) (led:Led) (s:Shared):Prop where
 stp:Stp w w1
 fD:w1.h.get? D=none
 fL:w1.h.get? L=none
 nd:(w1.ads++[D]).Nodup
 nL:L ∉ w1.ads++[D]
 rs:Rs G s
 ns:∃ m,s.heap.Ns L m
 keep:∀ {b o},w1.h.get? b=some o→b ∉ w1.ads→s.heap.get? b=some o
 led:∀ {h' prot'},(∀ b o,b≠L→s.heap.get? b=some o→h'.get? b=some o)→(∀ b∈prot',b∈w1.prot∨b=L)→ORs G ⟨h',w1.own,prot',w1.ads++[D]⟩ led (w1.ads++[D])
theorem comp_end{cenv:Env}{cloc:Loc}{wr:List Addr}{en:Bool}{it:Value}{turn:D→Led→Option (Option D × Led)}{K:Led→Prop}{w1 w':Wd}{D L:Addr}{k:Nat}{wc:Wd}{ledc:Led}{src:Src}{s':Shared}
  (x:CI G C A cenv cloc wr en it turn K w1 D L k s wc ledc src) (hl:cenv.locals=L) (hwr:∀ b∈wr,w1.h.get? b=none) (hD:w1.h.get? D=none) (hL:w1.h.get? L=none) (st1:Stp w w1) (hh:Hp G w' s') (P:At wr wc w'):CEnd G w w1 D L ledc s':=by
 subst hl
 have hwp:∀ b∈wr,b∈wc.prot:=fun b hb=>by rw[x.prot];exact List.mem_append_left _ hb
 have hLo:cenv.locals∈wc.own:=by rw[x.own];exact .head _
 obtain⟨m,hm⟩:=x.st.conc.frame.ns
 have kk:∀ {b o},wc.h.get? b=some o→b ∉ wr→s'.heap.get? b=some o:=fun {b o} e h1=>hh.1▸P.keep b o e h1
 refine⟨st1,hD,hL,x.ads▸x.st.conc.nd,x.ads▸x.st.conc.sep _ (.inl hLo),hh.2,⟨m,Ns_get hm fun o e=>kk e fun q=>x.st.conc.op _ hLo (hwp _ q)⟩,fun {b o} e n=>kk (x.old b o e n) fun q=>(nomatch (hwr b q).symm.trans e),fun {h' prot'} h1 h2=>?_⟩
 have led:=x.st.conc.led.moveD (w':=⟨h',w1.own,prot',w1.ads++[D]⟩) ⟨fun b o e hs=>⟨h1 b o (fun q=>hs.1 (q▸hLo)) (kk e fun q=>hs.2.1 (hwp b q)),fun q=>hs.2.1 ?_,fun q=>?_,fun q=>hs.2.2 (x.ads▸q)⟩⟩
  fun a ha o e=>h1 a o (fun q=>x.st.conc.sep a (.inl (q▸hLo)) ha) (kk e fun q=>x.st.conc.sep a (.inr (hwp a q)) ha)
 ·rw[x.ads] at led;exact led
 ·rw[x.prot];exact List.mem_append_right _ (List.mem_append_left _ q)
 ·exact(h2 b q).elim (fun q=>hs.2.1 (by rw[x.prot];exact List.mem_append_right _ (List.mem_append_right _ q))) fun q=>hs.1 (q▸hLo)
theorem comp_eval{elt:E}{t:T}{k:IK}{its conds:List E}{caps:List Nat}{xe xt iter:Expr}{ifs:List Expr}{scope:Scope}{pos pos':Pos}{en:Bool}{use:Option (Value→Sem Unit)}{K:V × Led→Prop}{Q:Value→Shared→Prop}
  (hok:compOk env.scope scope=true) (hset:(match iter with | .Set _ _ _=>false | _=>true)=true) (ht:isT C (relab env.scope scope) false t xt=true) (hen:en=true→∃ es k pos,xt=.Tuple es k pos)
  (hcap:∀ x∈caps,scope.names.lookup (C.nm x)=some .free) (hdis:∀ x∈caps,x ∉ tNames t) (hi:SI G C A env cx k its iter en)
  (hc:∀ cenv:Env,cenv.scope=relab env.scope scope→STs G C A cenv cx conds ifs) (he:∀ cenv:Env,cenv.scope=relab env.scope scope→SE G C A cenv cx elt xe)
  (c:St G C A env w loc led s) (e:(evE cx (.comp elt t k its conds caps) loc led).elim False K) (kk:∀ {w1 D L ledF s'},K (.ref w1.ads.length,ledF)→CEnd G w w1 D L ledF s'→compPost (Mo G) A NoE use Q (.ref D) L (.ok .next) s') :
  wpAny (Mo G) A (comprehension (.ListComp xe [⟨xt,iter,ifs,0⟩] scope pos) scope env pos' (newList []) false (eval iter env) use) Q NoE s:=by
 obtain⟨k1,k2,k3,k4⟩:=compOk_at hok
 have hclos:closureFor scope env=pure (closOf env scope.names []):=closureFor_is fun x hx hf=>by
  obtain⟨cc,o,l,_⟩:=c.conc.frame.cells x.1 (k3 x hx hf)
  rw[l];rfl
 obtain⟨q0,e1,e2⟩:=isW (bindW e)
 obtain⟨src0,e3,e4⟩:=isW (bindW e2)
 refine wpAny_comprehension_free (use:=use) rfl (foldedSet_other hset) hclos k1 k4 (hi (n:=q0.2.length) (K:=fun l r=>l=q0.2∧r=src0) c (toW e1 (toW e3 ⟨rfl,rfl⟩)) fun {led1 src it s2 w1 wr} q p1=>?_)
 obtain⟨rfl,rfl⟩:=q
 have c1:Conc G C A w1 env loc q0.2:=c.conc.stp p1.stp p1.led p1.nd
 have hlen:q0.2.length=w1.ads.length:=p1.led.len
 refine wpAny_newObj_type (wpAny_newFunctionEnv k2 (by intro y hy;simp at hy) (fun h₁ hns₁ hsb₁=>?_) k1)
 dsimp only at hns₁ hsb₁ ⊢
 generalize hH2:s2.heap.push { cls:=.type "list",dict:=none,data:=.seq ([]:List Value).toArray }=H2 at hns₁ hsb₁ ⊢
 have hC:H2.objs.size=s2.heap.objs.size+1:=by rw[←hH2,Heap.size_push]
 have hDL:s2.heap.objs.size<H2.objs.size:=hC▸Nat.lt_succ_self _
 have old:∀ b o,s2.heap.get? b=some o→h₁.get? b=some o:=fun b o e=>
  hsb₁.extBut b o (Nat.ne_of_lt (Nat.lt_trans (Heap.lt_size e) hDL)) (Heap.get?_push_of_some _ (hH2▸Heap.get?_push_of_some _ e))
 have fresh:∀ a,s2.heap.objs.size≤a→w1.h.get? a=none:=fun a ha=>by
  cases e:w1.h.get? a with
  | none=>rfl
  | some o'=>exact absurd (Heap.lt_size (p1.sp.g a o' e)) (Nat.not_lt.mpr ha)
 have hwrlt:∀ b∈wr,b<s2.heap.objs.size:=fun b hb=>let ⟨o,ho⟩:=(p1.sp.fr b hb).2;Heap.lt_size ho
 have hwr:∀ b∈wr,w1.h.get? b=none:=fun b hb=>(p1.sp.fr b hb).1
 have hD:=fresh _ (Nat.le_refl _)
 have hL:=fresh _ (Nat.le_of_lt hDL)
 have g1:Grow w1.h h₁:=fun b o e=>old b o (p1.sp.g b o e)
 have cc:=c1.comp hok hcap (wr:=wr) (D:=s2.heap.objs.size) (L:=H2.objs.size) g1 (fun b hb=>⟨hwr b hb,(p1.sp.fr b hb).2.imp fun o ho=>old b o ho⟩) hD hL (Nat.ne_of_lt hDL) (fun q=>Nat.lt_irrefl _ (hwrlt _ q)) (fun q=>Nat.lt_asymm hDL (hwrlt _ q))
  ⟨0,hsb₁.extBut _ _ (Nat.ne_of_lt hDL) (Heap.get?_push_of_some _ (hH2▸Heap.get?_push_size _ rfl))⟩ hns₁
 have hcel:∀ {a},Held (compEnvC scope (closOf env scope.names []) H2.objs.size env) a→a ∉ wr:=fun h q=>by
  rcases h with rfl | ⟨z,hz,l⟩
  ·exact Nat.lt_asymm hDL (hwrlt _ q)
  ·obtain⟨h1,h2⟩:=outer_kind hok (x:=z) hz
   obtain⟨c0,o,l0,⟨ob,i,_⟩,_⟩:=c1.frame.cells z h2
   obtain rfl:=Option.some.inj ((closOf_lookup scope.names [] z c0 l0 (.inl (lookup_mem h1))).symm.trans l)
   exact nomatch (hwr _ q).symm.trans i
 have htk:w1.ads.take q0.2.length=w1.ads:=List.take_of_length_le (Nat.le_of_eq hlen.symm)
 have at1:ItAt G A ⟨s2.heap,w1.own,wr++w1.prot,w1.ads⟩ wr en src it:=htk▸p1.sp.at'
 have hat:ItAt G A ⟨h₁,[H2.objs.size],wr++(w1.own++w1.prot),w1.ads++[s2.heap.objs.size]⟩ wr en src it:=
  at1.keep ⟨fun b o e hs=>⟨old b o e,fun q=>Nat.lt_asymm hDL (mem1 q▸Heap.lt_size e),fun q=>(List.mem_append.mp q).elim (fun q=>hs.2.1 (List.mem_append_left _ q)) fun q=>(List.mem_append.mp q).elim hs.1 fun q=>hs.2.1 (List.mem_append_right _ q),
   fun q=>(List.mem_append.mp q).elim hs.2.2 fun q=>Nat.lt_irrefl _ (mem1 q▸Heap.lt_size e)⟩⟩ (fun k i a _ e=>pre_get (List.prefix_append _ _) e) fun b _ o e=>old b o e
 have loop:∀ s₃:Shared,s₃.heap=h₁∧Rs G s₃ →
   codeAny (Mo G) A (.compLoop (.ListComp xe [⟨xt,iter,ifs,0⟩] scope pos) 0 it (.ref s2.heap.objs.size) (compEnvC scope (closOf env scope.names []) H2.objs.size env))
    (compPost (Mo G) A NoE use Q (.ref s2.heap.objs.size) H2.objs.size) s₃:=fun s₃ h3=>
  compLoop_own (CIs G C A (compEnvC scope (closOf env scope.names []) H2.objs.size env) (capt caps loc) wr en it (turnE cx elt t conds (capt caps loc)) (fun l=>K (.ref w1.ads.length,l)) w1 s2.heap.objs.size H2.objs.size) (fun n s' ⟨wc,ledc,src',x⟩=>
    comp_turn x ht hen (fun y u e=>hdis y (get_capt e).2) hwr hD hL hcel (hc _ rfl) (he _ rfl) fun e hh P=>kk e (comp_end x rfl hwr hD hL p1.stp hh P)) cx.N
   ⟨_,_,src,⟨cc,h3.1.symm,h3.2⟩,hat,rfl,rfl,rfl,fun b o e _=>g1 b o e,hlen▸mapW e4⟩
 exact codeAny_compStart_list (loop _ ⟨rfl,p1.sp.rs⟩) (hat.self ⟨rfl,p1.sp.rs⟩ (loop _ ⟨rfl,p1.sp.rs⟩))
theorem SE.comp{elt:E}{t:T}{k:IK}{its conds:List E}{caps:List Nat}{xe xt iter:Expr}{ifs:List Expr}{scope:Scope}{pos:Pos}{en:Bool}
  (hok:compOk env.scope scope=true) (hset:(match iter with | .Set _ _ _=>false | _=>true)=true) (ht:isT C (relab env.scope scope) false t xt=true) (hen:en=true→∃ es k pos,xt=.Tuple es k pos)
  (hcap:∀ x∈caps,scope.names.lookup (C.nm x)=some .free) (hdis:∀ x∈caps,x ∉ tNames t) (hi:SI G C A env cx k its iter en)
  (hc:∀ cenv:Env,cenv.scope=relab env.scope scope→STs G C A cenv cx conds ifs) (he:∀ cenv:Env,cenv.scope=relab env.scope scope→SE G C A cenv cx elt xe) :
  SE G C A env cx (.comp elt t k its conds caps) (.ListComp xe [⟨xt,iter,ifs,0⟩] scope pos):=fun {w loc led s K Q} c e kk=>by
 rw[eval_ListComp]
 refine comp_eval hok hset ht hen hcap hdis hi hc he c e fun {w1 D L ledF s'} e x=>?_
 obtain⟨m,hm⟩:=x.ns
 exact⟨m,hm,fun h' hs'=>kk (w':=⟨h',w1.own,w1.prot,w1.ads++[D]⟩) e ⟨⟨rfl,x.rs⟩,x.stp.trans ⟨rfl,rfl,List.prefix_append _ _,fun b o e n=>⟨hs'.extBut b o (fun q=>by subst q;exact nomatch x.fL.symm.trans e) (x.keep e n),not_last x.fD e n⟩⟩,
  x.led (fun b o n e=>hs'.extBut b o n e) fun _ m=>.inl m,x.nd,D,rfl,List.getElem?_concat_length⟩⟩
end
end
section
theorem forIn_foldl{α β:Type}(f:α→β→Sem (ForInStep β))(g:β→α→β):∀ (l:List α) (c:β),(∀ x∈l,∀ c,f x c=pure (.yield (g c x)))→forIn l c f=pure (l.foldl g c)
 | [],c,_=>rfl
 | x::l,c,h=>by
  rw[List.forIn_cons,h x (List.mem_cons_self ..),pure_bind]
  exact forIn_foldl f g l _ fun y hy=>h y (List.mem_cons_of_mem _ hy)
noncomputable def laidD(slots:List (Str × Value))(p:Str × Value):List (Str × Value):=if (slots.lookup p.1).isNone then slots++[(p.1,p.2)] else slots
theorem lookup_append{l l':List (Str × Value)}{x:Str}:(l++l').lookup x=(l.lookup x).or (l'.lookup x):=by
 induction l with
 | nil=>simp
 | cons p l ih=>
  obtain⟨n,v⟩:=p
  rw[List.cons_append,List.lookup_cons,List.lookup_cons]
  by_cases h:(x==n)=true
  ·rw[h];rfl
  ·rw[Bool.not_eq_true] at h;rw[h];exact ih
theorem laidD_lookup{slots:List (Str × Value)}{p:Str × Value}{x:Str}:(laidD slots p).lookup x=(slots.lookup x).or (if x=p.1 then some p.2 else none):=by
 unfold laidD
 split
 ·rename_i h
  rw[lookup_append,List.lookup_cons]
  by_cases hx:x=p.1
  ·subst hx;simp
  ·rw[show (x==p.1)=false by simpa using hx,if_neg hx];rfl
 ·rename_i h
  by_cases hx:x=p.1
  ·subst hx
   rw[if_pos rfl]
   cases e:slots.lookup p.1 with
   | none=>rw[e] at h;exact absurd rfl h
   | some v=>rfl
  ·rw[if_neg hx];cases slots.lookup x <;> rfl
theorem laidDs_lookup:∀ (ps:List (Str × Value)) (slots:List (Str × Value)) (x:Str),(ps.foldl laidD slots).lookup x=(slots.lookup x).or (ps.lookup x)
 | [],slots,x=>by simp
 | p::ps,slots,x=>by
  rw[List.foldl_cons,laidDs_lookup ps,laidD_lookup,List.lookup_cons]
  by_cases h:x=p.1
  ·subst h
   rw[if_pos rfl,beq_self_eq_true]
   cases slots.lookup p.1 <;> simp
  ·rw[if_neg h,show (x==p.1)=false by simpa using h]
   cases slots.lookup x <;> simp
noncomputable def slotsOf(ps kwo:List Str)(vals dv:List Value)(kwm:Str→Option Value):List (Str × Value):=
 (kwo.map fun n=>(n,(kwm n).getD .none)).foldl laidD (((ps.drop (ps.length-dv.length)).zip dv).foldl laidD (ps.zip vals))
noncomputable def bindsOf(ps kwo:List Str)(vals dv:List Value)(kwm:Str→Option Value):List (Str × Value):=
 (ps++kwo).filterMap fun n=>((slotsOf ps kwo vals dv kwm).lookup n).map (n,·)
noncomputable def kwLay(n:Str)(r:List (Str × Value) × List Str)(v:Option Value):Sem (ForInStep (List (Str × Value) × List Str)):=match v with
 | some v=>pure (ForInStep.yield (r.1++[(n,v)],r.2))
 | none=>pure (ForInStep.yield (r.1,r.2++[n]))
noncomputable def kwStep(kwd:Value)(n:Str)(r:List (Str × Value) × List Str):Sem (ForInStep (List (Str × Value) × List Str)):=
 if (r.1.lookup n).isNone=true then
  match kwd with
  | .ref d=>nsGet d n >>= kwLay n r
  | _=>pure none >>= kwLay n r
 else pure (ForInStep.yield (r.1,r.2))
noncomputable def dfStep(p:Str × Value)(r:List (Str × Value)):Sem (ForInStep (List (Str × Value))):=
 if (r.lookup p.1).isNone=true then pure (ForInStep.yield (r++[(p.1,p.2)])) else pure (ForInStep.yield r)
noncomputable def bindT(ps ks:List Str)(vals:List Value)(kwd:Value)(X1 X2:Sem (List (Str × Value)))(X3:List (Str × Value) × List Str→Sem (List (Str × Value)))(q:List Value):Sem (List (Str × Value)):=
 if (decide (vals.length > ps.length)&&true)=true then X1 else
 if (!((ps.take (ps.length-(q.drop (q.length-ps.length)).length)).filter fun n=>((ps.zip vals).lookup n).isNone).isEmpty)=true then X2 else
 forIn ((ps.drop (ps.length-(q.drop (q.length-ps.length)).length)).zip (q.drop (q.length-ps.length))) (ps.zip vals) dfStep >>= fun sl=>
 forIn ks (sl,[]) (kwStep kwd) >>= fun q=>if (!q.2.isEmpty)=true then X3 q else pure ((ps++ks).filterMap fun n=>(q.1.lookup n).map (n,·))
theorem bindArgs_is{fd:FuncData}{ag ko:List Arg}{kd:List (Option Expr)}{df:List Expr}(vals:List Value)(h:fd.params=⟨[],ag,none,ko,kd,none,df⟩):∃ (X1 X2:Option (Array Value)→Sem (List (Str × Value))) (X3:List (Str × Value) × List Str→Sem (List (Str × Value))),
  bindArgs fd ⟨vals,[]⟩=(seqItems? fd.defaults >>= fun r=>bindT (ag.map (·.arg)) (ko.map (·.arg)) vals fd.kwdefaults (X1 r) (X2 r) X3 (r.getD #[]).toList):=by
 obtain⟨nm,qn,pa,bd,sc,gl,cl,dfl,kwd⟩:=fd
 dsimp only at h
 subst h
 exact⟨_,_,_,rfl⟩
section
variable{M:Model}{A:Around}{E:Value→Shared→Prop}{s:Shared}
theorem kw_loop{kwd:Value}{kwm:Str→Option Value}(hk:∀ n,(kwm n).isSome=true→∃ d m,kwd=.ref d∧s.heap.Ns d m∧m n=kwm n) :
  ∀ (l:List Str) (slots:List (Str × Value)) (mi:List Str) (Q:(List (Str × Value) × List Str)→Shared→Prop),(∀ n∈l,(kwm n).isSome=true) →
   Q ((l.map fun n=>(n,(kwm n).getD .none)).foldl laidD slots,mi) s →
   wpAny M A (forIn l (slots,mi) (kwStep kwd)) Q E s
 | [],slots,mi,Q,_,h=>wpAny_pure h
 | n::l,slots,mi,Q,hl,h=>by
  rw[List.forIn_cons]
  have hn:=hl n (.head _)
  obtain⟨v,hv⟩:=Option.isSome_iff_exists.mp hn
  obtain⟨d,m,e1,e2,e3⟩:=hk n hn
  subst e1
  have ih:=fun slots h=>kw_loop hk l slots mi Q (fun y hy=>hl y (.tail _ hy)) h
  have h:Q ((l.map fun n=>(n,(kwm n).getD .none)).foldl laidD (laidD slots (n,(kwm n).getD .none)),mi) s:=h
  rw[hv] at h
  rw[hv] at e3
  refine wpAny_bind ?_
  unfold laidD at h
  by_cases hs:(slots.lookup n).isNone=true
  ·rw[if_pos hs] at h
   unfold kwStep
   rw[if_pos hs]
   refine wpAny_bind (wpAny_nsGet e2 ?_)
   rw[e3]
   exact wpAny_pure (ih _ h)
  ·rw[if_neg hs] at h
   unfold kwStep
   rw[if_neg hs]
   exact wpAny_pure (ih _ h)
end
theorem zip_has{x:Str}:∀ (qs:List Str) (vs:List Value) (k:Nat),k≤vs.length→x∈qs.take k→((qs.zip vs).lookup x).isNone=false
 | [],vs,k,_,h=>by rw[List.take_nil] at h;exact nomatch h
 | q::qs,vs,0,_,h=>nomatch h
 | q::qs,[],k+1,hk,_=>absurd hk (Nat.not_succ_le_zero k)
 | q::qs,v::vs,k+1,hk,h=>by
  rw[List.zip_cons_cons,List.lookup_cons]
  by_cases hx:x=q
  ·subst hx;rw[beq_self_eq_true];rfl
  ·rw[beq_eq_false_iff_ne.mpr hx]
   exact zip_has qs vs k (Nat.le_of_succ_le_succ hk) ((List.mem_cons.mp h).resolve_left hx)
theorem bindsTo_plain{s:Shared}{fd:FuncData}{vals dv:List Value}{kwm:Str→Option Value}{ag ko:List Arg}{kd:List (Option Expr)}{df:List Expr}(hp:fd.params=⟨[],ag,none,ko,kd,none,df⟩)
  (hd:(fd.defaults=.none∧dv=[])∨∃ T,fd.defaults=.ref T∧s.heap.IsTuple T dv.toArray)
  (hk:∀ n,(kwm n).isSome=true→∃ d m,fd.kwdefaults=.ref d∧s.heap.Ns d m∧m n=kwm n) (hk2:∀ n∈ko.map (·.arg),(kwm n).isSome=true)
  (h1:vals.length≤ag.length) (h2:ag.length≤vals.length+dv.length) (h3:dv.length≤ag.length) :
  BindsTo s fd ⟨vals,[]⟩ (bindsOf (ag.map (·.arg)) (ko.map (·.arg)) vals dv kwm):=fun M A E Q hQ=>by
 obtain⟨X1,X2,X3,h⟩:=bindArgs_is vals hp
 have hl:(ag.map (·.arg)).length=ag.length:=List.length_map ..
 rw[←hl] at h1 h2 h3
 generalize ag.map (·.arg)=ps at *
 generalize ko.map (·.arg)=ks at *
 have main:∀ x1 x2,wpAny M A (bindT ps ks vals fd.kwdefaults x1 x2 X3 dv) Q E s:=fun x1 x2=>by
  unfold bindT
  rw[Nat.sub_eq_zero_of_le h3,List.drop_zero]
  rw[if_neg (by rw[Bool.and_true];exact fun q=>Nat.not_le.mpr (of_decide_eq_true q) h1),if_neg (by
   rw[List.filter_eq_nil_iff.mpr fun x hx q=>?_]
   ·exact Bool.noConfusion
   ·exact Bool.noConfusion ((zip_has ps vals _ (Nat.sub_le_iff_le_add.mpr h2) hx).symm.trans q))]
  refine wpAny_bind (wpAny_of_eq (forIn_foldl dfStep laidD _ _ fun x _ c=>?_) (wpAny_bind (kw_loop hk ks _ [] _ hk2 (wpAny_pure hQ))))
  unfold dfStep laidD
  by_cases h:(List.lookup x.fst c).isNone=true
  ·rw[if_pos h,if_pos h]
  ·rw[if_neg h,if_neg h]
 rw[h]
 refine wpAny_bind ?_
 rcases hd with ⟨e,rfl⟩ | ⟨T,e,o,ho,hc,n,hdt⟩
 ·rw[e];exact wpAny_pure (main _ _)
 ·rw[e];exact wpAny_seqItems ho hdt (main _ _)
end
section
structure Base (G:Gl) (lev:Nat) (A:Around) (w:Wd) (led:Led):Prop where
 keep:∀ b o,G.h₀.get? b=some o→w.h.get? b=some o∧w.st b
 glob:G.h₀.Ns mainGlobals G.mg∧G.h₀.Ns builtinsNs G.mb
 nolim:G.h₀.NoLimit
 handled:A.handled=none
 depth:A.depth+4*lev+8≤900
 units:A.units+64*lev+64≤9000
 led:ORs G w led w.ads
 nd:w.ads.Nodup
 sep:∀ a,a∈w.own∨a∈w.prot→a ∉ w.ads
 ownex:∀ a,a∈w.own∨a∈w.prot→∃ o,w.h.get? a=some o
 op:∀ a∈w.own,a ∉ w.prot
def SF(G:Gl)(lev:Nat)(F:Nat→List V→Led→Option (V × Led))(fa:Nat→Addr):Prop:=
 ∀ {A:Around} {w:Wd} {led:Led} {f:Nat} {vs:List V} {vals:List Value} {s:Shared} {K:V × Led→Prop} {Q:Value→Shared→Prop},Base G lev A w led→Hp G w s→VRs G w vs vals→(F f vs led).elim False K →
  (∀ {p:V × Led} {val:Value} {s':Shared} {w':Wd},K p→PostE G w p.2 p.1 val s' w'→Q val s')→wpAny (Mo G) A (call (.ref (fa f)) vals) Q NoE s
def FA(G:Gl)(a:Addr):Prop:=∃ o fd,G.h₀.get? a=some o∧o.cls=.type "function"∧o.data=.func fd
section
variable{G:Gl}{C:Ct}{A:Around}{env:Env}{cx:Cx}{w:Wd}{loc:Loc}{led led':Led}{s:Shared}
theorem Conc.base(c:Conc G C A w env loc led):Base G C.lev A w led:=
 ⟨c.keep,c.glob,c.nolim,c.handled,c.depth,c.units,c.led,c.nd,c.sep,c.ownex,c.op⟩
theorem VRs.append:∀ {xs ys:List V} {vs us:List Value},VRs G w xs vs→VRs G w ys us→VRs G w (xs++ys) (vs++us)
 | [],_,[],_,_,h=>h
 | [],_,_::_,_,h,_=>h.elim
 | _::_,_,[],_,h,_=>h.elim
 | _::_,_,_::_,_,h1,h=>⟨h1.1,h1.2.append h⟩
theorem Stp.before{w0:Wd}{v:V}{val:Value}{s':Shared}{w':Wd}(P:Stp w0 w)(p:PostE G w led' v val s' w'):PostE G w0 led' v val s' w':=⟨p.heap,P.trans p.stp,p.led,p.nd,p.val⟩
theorem call_fn{fa:Nat→Addr}{f:Nat}{us:List V}{es:List E}{xs:List Expr}{pos:Pos}{firsts:List Value}{K:V × Led→Prop}{Q:Value→Shared→Prop}(hF:SF G C.lev cx.F fa)(hfn:FA G (fa f))(hn:noStars xs=true)(h:SEs G C A env cx es xs)(c:St G C A env w loc led s)
  (r:VRs G w us firsts) (e:(evEs cx es loc led).elim False fun p=>(cx.F f (us++p.1) p.2).elim False K) (k:∀ {p:V × Led} {val:Value} {s':Shared} {w':Wd},K p→PostE G w p.2 p.1 val s' w'→Q val s') :
  wpAny (Mo G) A (callWith pos (.ref (fa f)) firsts (backTo pos (starEach xs env)) []) Q NoE s:=by
 obtain⟨o,fd,ho,hcls,hdat⟩:=hfn
 exact Calls.callWith_function (o:=o) (fd:=fd) (args_plain hn (h c e fun e p1=>⟨⟨p1.heap.1▸((p1.st c).conc.keep _ _ ho).1,hdat⟩,hF (p1.st c).conc.base p1.heap ((r.per p1.stp.per).append p1.val) e fun e p2=>k e (p1.stp.before p2)⟩))
theorem SE.call{fa:Nat→Addr}{f:Nat}{es:List E}{ID:Str}{xs:List Expr}{p pos:Pos}(hF:SF G C.lev cx.F fa)(hfn:FA G (fa f))(hk:env.kindOf ID=some .globalImplicit)(hv:G.look ID=some (.ref (fa f)))(hd:(ID==("__debug__":Str))=false)
  (hn:noStars xs=true) (h:SEs G C A env cx es xs):SE G C A env cx (.call f es) (.Call (.Name ID p) xs [] pos):=fun c e k=>
 Call_ (global_name c hk hv hd (call_fn hF hfn hn h c (us:=[]) trivial (bindW e) k))
structure CA (G:Gl) (N:Addr) (mN:Str→Option Value):Prop where
 at':ClsAt G.h₀ G.cls N mN
 ga:mN "__getattribute__"=none
 gt:mN "__getattr__"=none
 sa:mN "__setattr__"=none
 hd:mN "_headers"=none
theorem hdr_of{v:V}{val:Value}(r:VR G w v val)(h:isHdr v=true):∃ a b,val=.ref a∧HdrOf G.cls w a b:=by
 cases v with
 | hd k=>obtain⟨a,b,e,hh,_⟩:=r;exact⟨a,b,e,hh⟩
 | hdr xs=>obtain⟨a,b,vs,e,hh,_⟩:=r;exact⟨a,b,e,hh⟩
 | _=>exact Bool.noConfusion h
theorem Call_own{N:Addr}{mN:Str→Option Value}(hC:CA G N mN){o:E}{x:Expr}{name:Str}{apos pos:Pos}{xs:List Expr}{kws:List Keyword}{f:Addr}{of:Obj}{y:Option Value}{K:V × Led→Prop}{Q:Value→Shared→Prop}(c:St G C A env w loc led s)
  (hbase:attributeBase x name env (eval x env)=eval x env)
  (hform:methodCallForm (xs.length+kws.length) (backTo pos (starEach xs env)) (backToKw pos (keywordEach kws env))=true)
  (hline:(apos.endLine==pos.line)=true) (hf:mN name=some (.ref f)) (hfo:G.h₀.get? f=some of) (hfc:of.cls=.type "function") (hname:name≠"_headers") (hB:typeLookup (.type "object") name=pure y)
  (ho:SE G C A env cx o x) (e:(evE cx o loc led).elim False K) (hK:∀ {p},K p→isHdr p.1=true)
  (h:∀ {p a s₁ w'},K p→PostE G w p.2 p.1 (.ref a) s₁ w'→wpAny (Mo G) A (callWith pos (.ref f) [.ref a] (backTo pos (starEach xs env)) (backToKw pos (keywordEach kws env))) Q NoE s₁) :
  wpAny (Mo G) A (eval (.Call (.Attribute x name apos) xs kws pos) env) Q NoE s:=by
 rw[arm_eval_Call,hbase]
 refine wpAny_bind (ho c e fun {p ov s₁ w'} e p1=>wpAny_bind (wpAny_standAt ?_))
 have hpos:methodCallPos true x env apos pos=pure pos:=by unfold methodCallPos;rw[hline];rfl
 obtain⟨a,b,rfl,hd⟩:=hdr_of p1.val (hK e)
 unfold methodCall
 rw[hform]
 have X:=hC.at'.keeps fun b o e=>((p1.st c).conc.keep b o e).1
 have hw:=h e p1
 have h0:=((p1.st c).conc.keep _ _ hfo).1
 obtain⟨h',g,d,t,os⟩:=s₁
 obtain rfl:w'.h=h':=p1.heap.1
 obtain⟨nm,q,bs,sn,sub,col,dd,k0,k1,k2,k3,k5,hCo⟩:=X.obj
 refine wpAny_bind (wpAny_holding (method_of hCo X.ns hC.ga hC.gt hf h0 hfc hB hd.inst ?_ ?_))
 ·unfold hdrM;rw[if_neg hname]
 ·exact wpAny_bind (wpAny_of_eq hpos hw)
theorem few_plain{xs:List Expr}{pos:Pos}(hn:noStars xs=true)(hlen:xs.length<30):methodCallForm (xs.length+([]:List Keyword).length) (backTo pos (starEach xs env)) (backToKw pos (keywordEach [] env))=true:=by
 show ((backTo pos (starEach xs env)).all (fun x=>!x.1)&&true&&decide (xs.length<30))=true
 rw[all_plain hn,decide_eq_true hlen];rfl
theorem SE.hm{N:Addr}{mN:Str→Option Value}(hC:CA G N mN){fa:Nat→Addr}{f:Nat}{o:E}{es:List E}{x:Expr}{name:Str}{xs:List Expr}{apos pos:Pos}{y:Option Value}(hF:SF G C.lev cx.F fa)(hfn:FA G (fa f))
  (hbase:attributeBase x name env (eval x env)=eval x env) (hline:(apos.endLine==pos.line)=true) (hn:noStars xs=true) (hlen:xs.length<30) (hf:mN name=some (.ref (fa f))) (hname:name≠"_headers")
  (hB:typeLookup (.type "object") name=pure y) (ho:SE G C A env cx o x) (h:SEs G C A env cx es xs):SE G C A env cx (.hm f o es) (.Call (.Attribute x name apos) xs [] pos):=fun c e k=>
 let ⟨_,_,hfo,hfc,_⟩:=hfn
 Call_own hC c hbase (few_plain hn hlen) hline hf hfo hfc hname hB ho (bindW e) (fun e=>let ⟨_,_,e⟩:=isW (bindW e);(gdW e).1) fun {p a s₁ w'} e p1=>
  call_fn hF hfn hn h (p1.st c) (us:=[p.1]) ⟨p1.val,trivial⟩ (by
   obtain⟨q,h1,e⟩:=isW (bindW e)
   exact toW h1 (gdW e).2) fun e p2=>k e (p1.trans p2)
theorem obj_headers:typeLookup (.type "object") ("_headers":Str)=pure none:=by rw[typeLookup_type,builtinLookup_eq_fast];kernel_rfl
theorem hdr_ref{v:V}{val:Value}{K:V→Prop}(e:(hdrL v).elim False K)(rv:VR G w v val):∃ a b r,val=.ref a∧HdrOf G.cls w a b∧VR G w r (.ref b)∧K r:=by
 cases v with
 | hd k=>obtain⟨a,b,e1,hh,h⟩:=rv;exact⟨a,b,.ref k,e1,hh,⟨b,rfl,h⟩,e⟩
 | hdr xs=>obtain⟨a,b,vs,e1,hh,i,st,d⟩:=rv;exact⟨a,b,.lst xs,e1,hh,⟨b,vs,rfl,i,st,d⟩,e⟩
 | _=>exact e.elim
theorem SE.attrH{N:Addr}{mN:Str→Option Value}(hC:CA G N mN){o:E}{x:Expr}{pos:Pos}(hbase:attributeBase x ("_headers":Str) env (eval x env)=eval x env)(ho:SE G C A env cx o x) :
  SE G C A env cx (.attrH o) (.Attribute x ("_headers":Str) pos):=fun {w loc led s K Q} c e kk=>by
 rw[arm_eval_Attribute,hbase]
 refine wpAny_bind (ho c (bindW e) fun {p ov s1 w1} e p1=>?_)
 obtain⟨a,b,r,rfl,hd,hr,e1⟩:=hdr_ref (mapW e) p1.val
 refine wpAny_bind (wpAny_standAt (wpAny_bind (wpAny_holding ?_)))
 have X:=hC.at'.keeps fun b o e=>((p1.st c).conc.keep b o e).1
 obtain⟨h',g,d,t,os⟩:=s1
 obtain rfl:w1.h=h':=p1.heap.1
 obtain⟨nm,q,bs,sn,sub,col,dd,k0,k1,k2,k3,k5,hCo⟩:=X.obj
 refine load_attr hCo X.ns hC.ga hC.hd obj_headers hd.inst (v:=.ref b) (by unfold hdrM;rw[if_pos rfl]) rfl ?_
 exact wpAny_bind (wpAny_letTemporaryGo (wpAny_pure (kk e1 ⟨⟨rfl,p1.heap.2⟩,p1.stp,p1.led,p1.nd,hr⟩)))
theorem SE.dots{ID:Str}{pos:Pos}{t:Tok}(hk:env.kindOf ID=some .globalImplicit)(hv:G.look ID=some (.str ⟨#[46,46,46]⟩ t))(hd:(ID==("__debug__":Str))=false):SE G C A env cx .dots (.Name ID pos):=fun c e k=>
 global_name c hk hv hd (k e (c.val ⟨_,rfl⟩))
end
end
section
structure StepS (n₀:Nat) (w w':Wd):Prop where
 own:w'.own=w.own
 prot:w'.prot=w.prot
 keep:∀ b o,w.h.get? b=some o→w.st b→w'.h.get? b=some o∧b ∉ w'.ads
 prots:∀ b o,b∈w.prot→w.h.get? b=some o→w'.h.get? b=some o
 refs:∀ k a,k<n₀→w.ads[k]?=some a→w'.ads[k]?=some a
section
variable{G:Gl}{C:Ct}{A:Around}{env:Env}{cx:Cx}{w:Wd}{loc:Loc}{led led':Led}{s:Shared}
theorem StepS.refl(n:Nat)(w:Wd):StepS n w w:=⟨rfl,rfl,fun b o e h=>⟨e,h.2.2⟩,fun _ _ _ e=>e,fun _ _ _ e=>e⟩
theorem StepS.perD{n:Nat}{w w':Wd}(x:StepS n w w'):PerD w w':=⟨fun b o e h=>⟨(x.keep b o e h).1,by rw[Wd.st,x.own,x.prot];exact⟨h.1,h.2.1,(x.keep b o e h).2⟩⟩⟩
theorem StepS.trans{n:Nat}{a b c:Wd}(x:StepS n a b)(y:StepS n b c):StepS n a c:=
 ⟨y.own.trans x.own,y.prot.trans x.prot,fun q o e h=>let r:=x.perD.st q o e h;y.keep q o r.1 r.2,fun q o m e=>y.prots q o (by rw[x.prot];exact m) (x.prots q o m e),fun k a hk e=>y.refs k a hk (x.refs k a hk e)⟩
theorem StepS.mono{n m:Nat}{w w':Wd}(x:StepS n w w')(h:m≤n):StepS m w w':=⟨x.own,x.prot,x.keep,x.prots,fun k a hk e=>x.refs k a (Nat.lt_of_lt_of_le hk h) e⟩
theorem Stp.step{n:Nat}{w':Wd}(c:Conc G C A w env loc led)(x:Stp w w'):StepS n w w':=
 ⟨x.own,x.prot,fun b o e h=>x.keep b o e h.2.2,fun b o m e=>(x.keep b o e (c.sep b (.inr m))).1,fun k a _ e=>pre_get x.pre e⟩
theorem Own.step{n:Nat}{w':Wd}(c:Conc G C A w env loc led)(x:Own w w'):StepS n w w':=
 ⟨x.own,x.prot,fun b o e h=>⟨x.keep b o e h.1,by rw[x.ads];exact h.2.2⟩,fun b o m e=>x.keep b o e fun q=>c.op b q m,fun k a _ e=>by rw[x.ads];exact e⟩
theorem Conc.take(c:Conc G C A w env loc led){w':Wd}(P:w.ads <+: w'.ads):w'.ads.take led.length=w.ads:=by
 rw[c.led.len]
 exact(List.prefix_iff_eq_take.mp P).symm
theorem St.take(c:St G C A env w loc led s){w':Wd}(P:w.ads <+: w'.ads):w'.ads.take led.length=w.ads:=c.conc.take P
theorem PostE.back{w':Wd}{v:V}{val:Value}{s':Shared}(p:PostE G w led' v val s' w')(c:St G C A env w loc led s) :
  Stp w ⟨s'.heap,w.own,w.prot,w.ads⟩∧St G C A env ⟨s'.heap,w.own,w.prot,w.ads⟩ loc (led'.take led.length) s':=by
 have hS:Stp w ⟨s'.heap,w.own,w.prot,w.ads⟩:=⟨rfl,rfl,List.prefix_rfl,fun b o e n=>⟨p.heap.1▸(p.stp.keep b o e n).1,n⟩⟩
 have h1:=(p.led.take led.length).moveD (cutD w' led.length) fun a _ o e=>e
 have hads:=c.take p.stp.pre
 rw[hads] at h1
 have hw:w'.cut led.length=⟨s'.heap,w.own,w.prot,w.ads⟩:=by
  unfold Wd.cut
  rw[hads,p.heap.1,p.stp.own,p.stp.prot]
 exact⟨hS,c.conc.stp hS (by rw[hw] at h1;exact h1) c.conc.nd,rfl,p.heap.2⟩
noncomputable def Wd.wx(wf:Wd)(bads:List Addr)(lo:Nat):Wd:=⟨wf.h,wf.own,wf.prot,bads++wf.ads.drop lo⟩
structure BI (G:Gl) (C:Ct) (env:Env) (wf:Wd) (n₀:Nat) (pend:List (Nat × Value)) (b:BS) (bads:List Addr):Prop where
 nd:(bads++wf.ads.drop b.lo).Nodup
 sub:∀ a∈bads,a∈wf.ads
 led:ORs G (wf.wx bads b.lo) b.base bads
 rel:∀ y v,get b.loc y=some v→below bads.length v=true∧y<C.nms.length∧∃ val,VR G (wf.wx bads b.lo) v val∧((y,val)∈pend∨((∀ u,(y,u) ∉ pend)∧NameIs wf env (C.nm y) val))
 all:∀ y val,(y,val)∈pend→∃ v,get b.loc y=some v
 refs:∀ k a,k<n₀→wf.ads[k]?=some a→bads[k]?=some a
 n0:n₀≤bads.length
theorem wx_perD{wf:Wd}{bads bads':List Addr}{lo lo':Nat}(h:∀ a∈bads'++wf.ads.drop lo',a∈bads++wf.ads.drop lo):PerD (wf.wx bads lo) (wf.wx bads' lo'):=
 ⟨fun b o e hs=>⟨e,hs.1,hs.2.1,fun q=>hs.2.2 (h b q)⟩⟩
theorem drop_mem{l:List Addr}{k:Nat}{a:Addr}(h:l[k]?=some a){lo:Nat}(hk:lo≤k):a∈l.drop lo:=by
 have:(l.drop lo)[k-lo]?=some a:=by rw[List.getElem?_drop,show lo+(k-lo)=k by(revert hk;exact z2 0x1f0803f084400d19f0840130400)];exact h
 exact mem_of_getElem? this
theorem drop_sub{l:List Addr}{lo lo':Nat}(h:lo≤lo'){a:Addr}(m:a∈l.drop lo'):a∈l.drop lo:=by
 rw[show lo'=lo+(lo' - lo) by(revert h;exact z2 0x1f087e100402a059f0842030020),←List.drop_drop] at m
 exact List.mem_of_mem_drop m
mutual
theorem okV_and{a b:Nat→Bool}:∀ {v:V},okV a v=true→okV b v=true→okV (fun k=>a k&&b k) v=true
 | .d _,_,_=>rfl
 | .lst _,_,_=>rfl
 | .dct _,_,_=>rfl
 | .hdr _,_,_=>rfl
 | .ref k,h,h'=>Bool.and_eq_true_iff.mpr ⟨h,h'⟩
 | .hd k,h,h'=>Bool.and_eq_true_iff.mpr ⟨h,h'⟩
 | .tup xs,h,h'=>okVs_and h h'
theorem okVs_and{a b:Nat→Bool}:∀ {vs:List V},okVs a vs=true→okVs b vs=true→okVs (fun k=>a k&&b k) vs=true
 | [],_,_=>rfl
 | v::vs,h,h'=>Bool.and_eq_true_iff.mpr ⟨okV_and (andB h).1 (andB h').1,okVs_and (andB h).2 (andB h').2⟩
end
theorem BI.step{wf:Wd}{n₀:Nat}{pend:List (Nat × Value)}{b b':BS}{bads bads':List Addr}{x:Nat}{val:Value}{v':V}(I:BI G C env wf n₀ pend b bads)(hx:∀ u,(x,u) ∉ pend)(hxn:x<C.nms.length)
  (hloc:b'.loc=put b.loc x v') (hnd:(bads'++wf.ads.drop b'.lo).Nodup) (hled:ORs G (wf.wx bads' b'.lo) b'.base bads')
  (hold:∀ {y v u},y≠x→get b.loc y=some v→below bads.length v=true→VR G (wf.wx bads b.lo) v u→VR G (wf.wx bads' b'.lo) v u) (hl:bads.length≤bads'.length) (hv:VR G (wf.wx bads' b'.lo) v' val) (hv':below bads'.length v'=true)
  (hsub2:∀ a∈bads',a∈wf.ads) (hrefs:∀ k a,k<n₀→bads[k]?=some a→bads'[k]?=some a):BI G C env wf n₀ ((x,val)::pend) b' bads' where
 nd:=hnd
 sub:=hsub2
 led:=hled
 rel:=fun y v e=>by
  rw[hloc,get_put] at e
  by_cases hy:y=x
  ·subst hy
   rw[if_pos rfl] at e
   obtain rfl:=Option.some.inj e
   exact⟨hv',hxn,val,hv,.inl (.head _)⟩
  ·rw[if_neg hy] at e
   obtain⟨hb,l,u,r,q⟩:=I.rel y v e
   refine⟨below_mono hl hb,l,u,hold hy e hb r,q.imp (fun q=>.tail _ q) fun q=>⟨fun u' m=>?_,q.2⟩⟩
   exact(List.mem_cons.mp m).elim (fun m=>hy (congrArg Prod.fst m)) (q.1 u')
 all:=fun y u m=>by
  rw[hloc,get_put]
  by_cases hy:y=x
  ·exact⟨v',if_pos hy⟩
  ·rw[if_neg hy]
   exact I.all y u ((List.mem_cons.mp m).resolve_left fun m=>hy (congrArg Prod.fst m))
 refs:=fun k a hk e=>hrefs k a hk (I.refs k a hk e)
 n0:=Nat.le_trans I.n0 hl
theorem drop_succ_mem{l:List Addr}{k:Nat}{a:Addr}(hn:l.Nodup)(e:l[k]?=some a):a ∉ l.drop (k+1):=fun q=>by
 obtain⟨i,hi⟩:=List.mem_iff_getElem?.mp q
 rw[List.getElem?_drop] at hi
 obtain⟨h1,h2⟩:=List.getElem?_eq_some_iff.mp hi
 obtain⟨h3,h4⟩:=List.getElem?_eq_some_iff.mp e
 exact(List.pairwise_iff_getElem.mp hn k (k+1+i) h3 h1 (by exact z2 0x7fe1086a0a500b)) (h4.trans h2.symm)
structure FW (G:Gl) (wf:Wd) (full:Led):Prop where
 led:ORs G wf full wf.ads
 nd:wf.ads.Nodup
 sep:∀ a,a∈wf.own∨a∈wf.prot→a ∉ wf.ads
theorem wx_of{wf:Wd}{bads:List Addr}(h:∀ a∈bads,a∈wf.ads)(lo:Nat):PerD wf (wf.wx bads lo):=⟨fun b o e hs=>⟨e,hs.1,hs.2.1,fun q=>hs.2.2 ((List.mem_append.mp q).elim (h b) List.mem_of_mem_drop)⟩⟩
theorem freeze_sound{wf:Wd}{full:Led}{v:V}{val:Value}{lo:Nat}{bads:List Addr}{K:V × Nat→Prop}(F:FW G wf full)(hnd:(bads++wf.ads.drop lo).Nodup)(hsub:∀ a∈bads,a∈wf.ads)
  (r:VR G wf v val) (e:(freeze lo full v).elim False K):∃ v' lo',K (v',lo')∧lo≤lo'∧VR G (wf.wx bads lo') v' val∧(∀ n,below n v'=true):=by
 have P:=wx_of (wf:=wf) hsub
 have fre:∀ {k a},lo≤k→wf.ads[k]?=some a→Wd.st (wf.wx bads (k+1)) a:=fun {k a} hk e=>
  ⟨fun m=>F.sep a (.inl m) (mem_of_getElem? e),fun m=>F.sep a (.inr m) (mem_of_getElem? e),fun q=>(List.mem_append.mp q).elim (fun q=>(List.nodup_append.mp hnd).2.2 a q a (drop_mem e hk) rfl) (drop_succ_mem F.nd e)⟩
 have pl:∀ {u},VR G wf u val→okV (fun _=>false) u=true→VR G (wf.wx bads lo) u val:=fun r h=>r.mv (P lo) (fun _ _ q=>Bool.noConfusion q) h
 cases v with
 | d x=>exact⟨_,_,e,Nat.le_refl _,pl r rfl,fun n=>rfl⟩
 | lst xs=>exact⟨_,_,e,Nat.le_refl _,pl r rfl,fun n=>rfl⟩
 | dct kvs=>exact⟨_,_,e,Nat.le_refl _,pl r rfl,fun n=>rfl⟩
 | hdr xs=>exact⟨_,_,e,Nat.le_refl _,pl r rfl,fun n=>rfl⟩
 | ref k=>
  obtain⟨hk,e1⟩:=gdW e
  obtain⟨o,h,e2⟩:=isW (mapW e1)
  obtain⟨a,ev,ha⟩:=r
  obtain⟨a',ha',ho⟩:=F.led.get h
  obtain rfl:=Option.some.inj (ha.symm.trans ha')
  cases o with
  | list xs=>obtain⟨vs,i,d⟩:=ho;exact⟨_,_,e2,Nat.le_succ_of_le hk,⟨a,vs,ev,i,fre hk ha,d.perD (P _)⟩,fun n=>rfl⟩
  | dict kvs=>exact⟨_,_,e2,Nat.le_succ_of_le hk,⟨a,ev,DictR.atD (P _) ho fun o q=>q,fre hk ha⟩,fun n=>rfl⟩
 | hd k=>
  obtain⟨hk,e1⟩:=gdW e
  obtain⟨o,h,e2⟩:=isW (bindW (mapW e1))
  obtain⟨xs,rfl,e3⟩:=O.listW e2
  obtain⟨a,b,ev,hh,ha⟩:=r
  obtain⟨a',ha',vs,i,d⟩:=F.led.get h
  obtain rfl:=Option.some.inj (ha.symm.trans ha')
  exact⟨_,_,e3,Nat.le_succ_of_le hk,⟨a,b,vs,ev,hh.perD (P _),i,fre hk ha,d.perD (P _)⟩,fun n=>rfl⟩
 | tup xs=>exact e.elim
theorem get_mem:∀ {loc:Loc} {x:Nat} {v:V},get loc x=some v→(x,v)∈loc
 | [],_,_,h=>nomatch h
 | (y,u)::r,x,v,h=>by
  have h:(if y=x then some u else get r x)=some v:=h
  by_cases hy:y=x
  ·rw[if_pos hy] at h
   obtain rfl:=Option.some.inj h
   exact hy▸.head _
  ·rw[if_neg hy] at h
   exact .tail _ (get_mem h)
theorem getElem?_append_lt{l r:List Addr}{k:Nat}(h:k<l.length):(l++r)[k]?=l[k]?:=List.getElem?_append_left h
theorem nodup_set{a:Addr}:∀ {l:List Addr} {j:Nat},l.Nodup→a ∉ l→(l.set j a).Nodup
 | [],_,h,_=>h
 | x::l,0,h,n=>List.nodup_cons.mpr ⟨fun q=>n (.tail _ q),(List.nodup_cons.mp h).2⟩
 | x::l,j+1,h,n=>List.nodup_cons.mpr ⟨fun q=>(List.mem_or_eq_of_mem_set q).elim (List.nodup_cons.mp h).1 fun q=>n (q▸.head _),nodup_set (List.nodup_cons.mp h).2 fun q=>n (.tail _ q)⟩
theorem ORs.put{W:Wd}{o:O}{a:Addr}:∀ {l:List O} {as:List Addr} {j:Nat},ORs G W l as→OR G W o a→ORs G W (l.set j o) (as.set j a)
 | [],[],_,_,_=>trivial
 | [],_::_,_,h,_=>h.elim
 | _::_,[],_,h,_=>h.elim
 | _::_,_::_,0,h,h'=>⟨h',h.2⟩
 | _::_,_::_,j+1,h,h'=>⟨h.1,h.2.put h'⟩
theorem place_sound{wf:Wd}{full:Led}{n₀:Nat}{pend:List (Nat × Value)}{b:BS}{bads:List Addr}{x k:Nat}{a:Addr}{val:Value}{mk:Nat→V}{K:BS→Prop}(F:FW G wf full)(I:BI G C env wf n₀ pend b bads)(hx:∀ u,(x,u) ∉ pend)
  (hxn:x<C.nms.length) (ha:wf.ads[k]?=some a) (hmk:∀ {w':Wd} {j},PerD wf w'→w'.ads[j]?=some a→VR G w' (mk j) val) (hbl:∀ {j n},j<n→below n (mk j)=true) (e:(place full n₀ x k mk b).elim False K) :
  ∃ b' bads',K b'∧BI G C env wf n₀ ((x,val)::pend) b' bads':=by
 have hlen:=I.led.len
 obtain⟨hk,e1⟩:=gdW e
 obtain⟨o,ho,e2⟩:=isW (bindW e1)
 obtain⟨a',ha',hor⟩:=F.led.get ho
 obtain rfl:=Option.some.inj (ha.symm.trans ha')
 have ham:a∈wf.ads.drop b.lo:=drop_mem ha hk
 have haw:a∈wf.ads:=mem_of_getElem? ha
 have nd:=List.nodup_append.mp I.nd
 have hab:a ∉ bads:=fun q=>nd.2.2 a q a ham rfl
 have had:a ∉ wf.ads.drop (k+1):=drop_succ_mem F.nd ha
 have hdr:∀ c∈wf.ads.drop (k+1),c∈wf.ads.drop b.lo:=fun c m=>drop_sub (Nat.le_succ_of_le hk) m
 have gen:∀ {bads':List Addr},bads'.Nodup→(∀ c∈bads',c∈bads∨c=a)→(bads'++wf.ads.drop (k+1)).Nodup∧PerD (wf.wx bads b.lo) (wf.wx bads' (k+1))∧(∀ c∈bads',c∈wf.ads):=fun {bads'} n h=>
  ⟨List.nodup_append.mpr ⟨n,F.nd.sublist (List.drop_sublist _ _),fun c m d md q=>by
   subst q
   exact(h c m).elim (fun m=>nd.2.2 c m c (hdr c md) rfl) fun q=>had (q▸md)⟩,
  wx_perD fun c m=>(List.mem_append.mp m).elim (fun m=>(h c m).elim (List.mem_append_left _) fun q=>List.mem_append_right _ (q▸ham)) fun m=>List.mem_append_right _ (hdr c m),
  fun c m=>(h c m).elim (I.sub c) fun q=>q▸haw⟩
 cases hg:get b.loc x with
 | none=>
  rw[hg] at e2
  obtain⟨g1,g2,g3⟩:=gen (bads':=bads++[a]) (List.nodup_append.mpr ⟨nd.1,List.nodup_cons.mpr ⟨nofun,.nil⟩,fun c m d md q=>hab (mem1 md▸q▸m)⟩) (fun c m=>(List.mem_append.mp m).imp id mem1)
  have hl1:(bads++[a]).length=bads.length+1:=List.length_append
  refine⟨_,bads++[a],e2,I.step hx hxn rfl g1 ((I.led.moveD g2 fun c _ o e=>e).append ⟨hor.moveD (wx_of g3 _) fun o e=>e,trivial⟩) (fun {y v u} hy ey hb r=>r.mvB g2 hb fun j c hj ec=>?_) (hl1▸Nat.le_succ _) (hmk (wx_of g3 _) ?_) (hbl (by rw[hl1,hlen];exact Nat.lt_succ_self _)) g3 fun j c hj ec=>?_⟩
  ·exact(getElem?_append_lt (hl1▸Nat.lt_succ_of_lt hj)).trans ((getElem?_append_lt hj).trans ((getElem?_append_lt hj).symm.trans ec))
  ·exact(getElem?_append_lt (by rw[hl1,hlen];exact Nat.lt_succ_self _)).trans (by rw[hlen,List.getElem?_concat_length])
  ·exact(getElem?_append_lt (List.getElem?_eq_some_iff.mp ec).1).trans ec
 | some u0=>
  rw[hg] at e2
  obtain⟨j,_,e3⟩:=isW (bindW e2)
  obtain⟨⟨h1,h2,h3⟩,e4⟩:=gdW e3
  have hjb:j<bads.length:=hlen▸h2
  obtain⟨g1,g2,g3⟩:=gen (bads':=bads.set j a) (nodup_set nd.1 hab) (fun c m=>List.mem_or_eq_of_mem_set m)
  have hl1:(bads.set j a).length=bads.length:=List.length_set
  refine⟨_,bads.set j a,e4,I.step hx hxn rfl g1 ((I.led.moveD g2 fun c _ o e=>e).put (hor.moveD (wx_of g3 _) fun o e=>e)) (fun {y v u} hy ey hb r=>?_) (Nat.le_of_eq hl1.symm) (hmk (wx_of g3 _) ?_) (hbl (hl1.symm▸hjb)) g3 fun i c hi ec=>?_⟩
  ·have hno:noRef j v=true:=(Bool.or_eq_true_iff.mp (List.all_eq_true.mp h3 (y,v) (get_mem ey))).resolve_left fun q=>hy (eq_of_beq q)
   refine r.mv g2 (fun i c q ec=>?_) (okV_and hno hb)
   obtain⟨q1,q2⟩:=andB q
   have hib:i<bads.length:=of_decide_eq_true q2
   exact(getElem?_append_lt (hl1.symm▸hib)).trans ((List.getElem?_set_ne (Ne.symm (bne_iff_ne.mp q1))).trans ((getElem?_append_lt hib).symm.trans ec))
  ·exact(getElem?_append_lt (hl1.symm▸hjb)).trans (List.getElem?_set_self hjb)
  ·rw[List.getElem?_set_ne (Ne.symm (Nat.ne_of_lt (Nat.lt_of_lt_of_le hi h1)))];exact ec
theorem bindN_sound{mu:List Nat}{wf:Wd}{full:Led}{n₀:Nat}{pend:List (Nat × Value)}{b:BS}{bads:List Addr}{x:Nat}{v:V}{val:Value}{K:BS→Prop}(F:FW G wf full)(I:BI G C env wf n₀ pend b bads)(hx:∀ u,(x,u) ∉ pend)(hxn:x<C.nms.length)
  (r:VR G wf v val) (e:(bindN mu n₀ full x v b).elim False K):∃ b' bads',K b'∧BI G C env wf n₀ ((x,val)::pend) b' bads':=by
 obtain⟨k1,k2⟩:=condW e
 cases hm:mu.contains x with
 | true=>
  have e1:=k1 hm
  cases v with
  | ref k=>obtain⟨a,ev,ha⟩:=r;exact place_sound (mk:=.ref) F I hx hxn ha (fun P h=>⟨a,ev,h⟩) (fun h=>decide_eq_true h) e1
  | hd k=>obtain⟨a,c,ev,hh,ha⟩:=r;exact place_sound (mk:=.hd) F I hx hxn ha (fun P h=>⟨a,c,ev,hh.perD P,h⟩) (fun h=>decide_eq_true h) e1
  | _=>exact e1.elim
 | false=>
  obtain⟨v',lo',e1,h1,h2,h3⟩:=freeze_sound F I.nd I.sub r (mapW (k2 hm))
  have hdr:∀ c∈wf.ads.drop lo',c∈wf.ads.drop b.lo:=fun c m=>drop_sub h1 m
  have P:PerD (wf.wx bads b.lo) (wf.wx bads lo'):=wx_perD fun c m=>(List.mem_append.mp m).elim (List.mem_append_left _) fun m=>List.mem_append_right _ (hdr c m)
  have nd:=List.nodup_append.mp I.nd
  refine⟨_,bads,e1,I.step hx hxn rfl (List.nodup_append.mpr ⟨nd.1,F.nd.sublist (List.drop_sublist _ _),fun c m d md q=>nd.2.2 c m d (hdr d md) q⟩) (I.led.moveD P fun c _ o e=>e) (fun {y u t} hy ey hb r=>r.mvB P hb fun j c hj ec=>?_) (Nat.le_refl _) h2 (h3 _) I.sub (fun j c _ ec=>ec)⟩
  exact(getElem?_append_lt hj).trans ((getElem?_append_lt hj).symm.trans ec)
theorem bindNs_sound{mu:List Nat}{wf:Wd}{full:Led}{n₀:Nat}(F:FW G wf full):∀ {xs:List Nat} {vs:List V} {vals:List Value} {pend:List (Nat × Value)} {b:BS} {bads:List Addr} {K:BS→Prop},BI G C env wf n₀ pend b bads→(∀ x∈xs,∀ u,(x,u) ∉ pend)→(∀ x∈xs,x<C.nms.length) →
  VRs G wf vs vals→(bindNs mu n₀ full xs vs b).elim False K→∃ b' bads',K b'∧BI G C env wf n₀ ((xs.zip vals).reverse++pend) b' bads'∧xs.length=vals.length∧xs.Nodup
 | [],vs,vals,pend,b,bads,K,I,_,_,r,e=>by
  obtain⟨rfl,e1⟩:=zeroW r (mapW e)
  exact⟨_,bads,e1,I,rfl,.nil⟩
 | _::_,[],_,_,_,_,_,_,_,_,_,e=>e.elim
 | _::_,_::_,[],_,_,_,_,_,_,_,r,_=>r.elim
 | x::xs,v::vs,val::vals,pend,b,bads,K,I,hx,hn,r,e=>by
  obtain⟨hc,e1⟩:=gdW e
  have hxx:x ∉ xs:=fun m=>by
   rw[List.contains_iff_mem.mpr m] at hc
   exact Bool.noConfusion hc
  obtain⟨b1,bads1,e2,I1⟩:=bindN_sound F I (hx x (.head _)) (hn x (.head _)) r.1 (bindW e1)
  obtain⟨b2,bads2,e3,I2,h2,h1⟩:=bindNs_sound F I1 (fun y hy u m=>(List.mem_cons.mp m).elim (fun m=>hxx (by obtain rfl:y=x:=congrArg Prod.fst m;exact hy)) (hx y (.tail _ hy) u)) (fun y hy=>hn y (.tail _ hy)) r.2 e2
  refine⟨b2,bads2,e3,?_,congrArg (·+1) h2,List.nodup_cons.mpr ⟨hxx,h1⟩⟩
  rw[List.zip_cons_cons,List.reverse_cons,List.append_assoc]
  exact I2
end
end
section
section
variable{G:Gl}{C:Ct}{A:Around}{env:Env}{cx:Cx}{w:Wd}{loc:Loc}{led led':Led}{s:Shared}
theorem PostE.fw{wf:Wd}{v:V}{val:Value}{s':Shared}(p:PostE G w led' v val s' wf)(c:St G C A env w loc led s):FW G wf led':=⟨p.led,p.nd,(p.st c).conc.sep⟩
theorem bind_start{wf:Wd}{n₀:Nat}(c:Conc G C A w env loc led)(P:Per w wf)(K:HeldK env w wf)(pre:w.ads <+: wf.ads)(F:FW G wf led')(hn:n₀≤led.length):BI G C env wf n₀ [] ⟨led.length,loc,led'.take led.length⟩ w.ads:=by
 have hled:=F.led.take led.length
 rw[c.take pre] at hled
 obtain⟨t,ht⟩:=pre
 have hl:=c.led.len
 have hd:wf.ads.drop led.length=t:=by rw[←ht,hl,List.drop_left]
 have hw:wf.wx w.ads led.length=wf:=by unfold Wd.wx;rw[hd,ht]
 refine⟨by rw[hd,ht];exact F.nd,fun a m=>by rw[←ht];exact List.mem_append_left _ m,by rw[hw];exact hled,fun y u e=>?_,nofun,fun k a hk e=>?_,hl▸hn⟩
 ·obtain⟨l,val',i,r⟩:=c.locs y u e
  exact⟨r.below (Nat.le_refl _),l,val',by rw[hw];exact r.per P,.inr ⟨nofun,i.to K⟩⟩
 ·rw[←ht,getElem?_append_lt (hl▸Nat.lt_of_lt_of_le hk hn)] at e
  exact e
theorem PostE.start{wf:Wd}{v:V}{val:Value}{s':Shared}{n₀:Nat}(p:PostE G w led' v val s' wf)(c:St G C A env w loc led s)(hn:n₀≤led.length):BI G C env wf n₀ [] ⟨led.length,loc,led'.take led.length⟩ w.ads:=
 bind_start c.conc p.stp.per (fun _ e n=>p.stp.keep _ _ e n) p.stp.pre (p.fw c) hn
noncomputable def delN(xs:List Nat):Loc→Loc
 | []=>[]
 | p::r=>cond (xs.contains p.1) (delN xs r) (p::delN xs r)
theorem get_delN{xs:List Nat}{y:Nat}:∀ {loc:Loc},get (delN xs loc) y=cond (xs.contains y) none (get loc y)
 | []=>by show none=_;cases xs.contains y <;> rfl
 | (z,u)::r=>by
  have ih:=get_delN (xs:=xs) (y:=y) (loc:=r)
  show get (cond (xs.contains z) (delN xs r) ((z,u)::delN xs r)) y=cond (xs.contains y) none (if z=y then some u else get r y)
  by_cases hy:z=y
  ·subst hy
   rw[if_pos rfl]
   cases hz:xs.contains z with
   | true=>rw[hz] at ih;exact ih
   | false=>exact if_pos rfl
  ·rw[if_neg hy,←ih]
   cases xs.contains z with
   | true=>rfl
   | false=>exact if_neg hy
theorem pair_uniq{x:Nat}{a b:Value}:∀ {l:List (Nat × Value)},(l.map (·.1)).Nodup→(x,a)∈l→(x,b)∈l→a=b
 | p::l,hn,h1,h2=>
  have n:=List.nodup_cons.mp hn
  (List.mem_cons.mp h1).elim (fun q1=>(List.mem_cons.mp h2).elim (fun q2=>congrArg Prod.snd (q1.trans q2.symm)) fun m2=>absurd (List.mem_map.mpr ⟨(x,b),m2,show x=p.1 from congrArg Prod.fst q1⟩) n.1)
   fun m1=>(List.mem_cons.mp h2).elim (fun q2=>absurd (List.mem_map.mpr ⟨(x,a),m1,show x=p.1 from congrArg Prod.fst q2⟩) n.1) fun m2=>pair_uniq n.2 m1 m2
theorem storable.own{w w':Wd}{x:Str}(h:storable w env x)(e:w'.own=w.own):storable w' env x:=h.imp id fun ⟨k,c,l,m⟩=>⟨k,c,l,e▸m⟩
structure FinW (G:Gl) (C:Ct) (A:Around) (w:Wd) (env:Env) (n₀:Nat) (pend:List (Nat × Value)) (b:BS) (wf:Wd) (s1:Shared) (wB:Wd) (loc0:Loc):Prop where
 st:St G C A env wB loc0 b.base s1
 step:StepS n₀ w wB
 own:wB.own=wf.own
 rest:∀ y u,get b.loc y=some u→y ∉ pend.map (·.1)→get loc0 y=some u
 val:∀ {x u},(x,u)∈pend→x<C.nms.length∧∃ v,get b.loc x=some v∧VR G wB v u
theorem fin_world{wf:Wd}{s1:Shared}{n₀:Nat}{pend:List (Nat × Value)}{b:BS}{bads:List Addr}(cf:Conc G C A wf env loc led)(S:StepS n₀ w wf)(I:BI G C env wf n₀ pend b bads)(g:Grow wf.h s1.heap)(hr:Rs G s1)
  (hnd:(pend.map (·.1)).Nodup):FinW G C A w env n₀ pend b wf s1 ⟨s1.heap,wf.own,wf.prot,bads⟩ (delN (pend.map (·.1)) b.loc):=by
 have Pc:PerD (wf.wx bads b.lo) ⟨s1.heap,wf.own,wf.prot,bads⟩:=⟨fun d o e hs=>⟨g d o e,hs.1,hs.2.1,fun q=>hs.2.2 (List.mem_append_left _ q)⟩⟩
 have Pw:PerD wf ⟨s1.heap,wf.own,wf.prot,bads⟩:=⟨fun d o e hs=>⟨g d o e,hs.1,hs.2.1,fun q=>hs.2.2 (I.sub d q)⟩⟩
 have mv:∀ {v:V} {val:Value},VR G (wf.wx bads b.lo) v val→below bads.length v=true→VR G ⟨s1.heap,wf.own,wf.prot,bads⟩ v val:=fun r hb=>r.mvB Pc hb fun j a hj ea=>(getElem?_append_lt hj).symm.trans ea
 refine⟨⟨?_,rfl,hr⟩,S.trans ⟨rfl,rfl,fun d o e hs=>⟨g d o e,fun q=>hs.2.2 (I.sub d q)⟩,fun d o _ e=>g d o e,I.refs⟩,rfl,fun y u e hy=>?_,fun {x u} h=>?_⟩
 ·-- the names that are not laid yet
  have hk:HeldK env wf ⟨s1.heap,wf.own,wf.prot,bads⟩:=fun _ e n=>⟨g _ _ e,fun q=>n (I.sub _ q)⟩
  refine { (cf.weaken (loc':=[]) nofun).to Pw hk id (fun _ m=>m) nofun (I.led.moveD Pc fun a _ o e=>g a o e) (List.nodup_append.mp I.nd).1 (fun a h m=>cf.sep a h (I.sub a m)) (fun a h=>(cf.ownex a h).imp fun o ho=>g a o ho) cf.op with locs:=fun y v e=>?_ }
  rw[get_delN] at e
  cases hy:(pend.map (·.1)).contains y with
  | true=>rw[hy] at e;exact nomatch e
  | false=>
   rw[hy] at e
   obtain⟨hb,l,val,r,q⟩:=I.rel y v e
   obtain⟨_,i⟩:=q.resolve_left fun q=>Bool.noConfusion (hy.symm.trans (List.contains_iff_mem.mpr (List.mem_map.mpr ⟨_,q,rfl⟩)))
   exact⟨l,val,i.to hk,mv r hb⟩
 ·rw[get_delN]
  cases hc:(pend.map (·.1)).contains y with
  | true=>exact absurd (List.contains_iff_mem.mp hc) hy
  | false=>exact e
 ·obtain⟨v,hv⟩:=I.all x u h
  obtain⟨hb,l,val',r,q⟩:=I.rel x v hv
  obtain rfl:val'=u:=q.elim (fun q=>pair_uniq hnd q h) fun q=>absurd h (q.1 u)
  exact⟨l,v,hv,mv r hb⟩
noncomputable def TreesFor(G:Gl)(C:Ct)(A:Around)(env:Env):List (Value→Sem Unit)→List Nat→Prop
 | [],xs=>xs=[]
 | t::ts,xs=>∃ x ys,xs=x::ys∧(∀ {val:Value} {E:Value→Shared→Prop} {Q:Unit→Shared→Prop} {s:Shared},wpAny (Mo G) A (storeName env (C.nm x) val) Q E s→wpAny (Mo G) A (t val) Q E s)∧TreesFor G C A env ts ys
theorem stores_conc{vf:Nat→V}{E:Value→Shared→Prop}{Q:Unit→Shared→Prop} :
  ∀ (ts:List (Value→Sem Unit)) (xs:List Nat) (vals:List Value) {w:Wd} {loc:Loc} {s:Shared},TreesFor G C A env ts xs→xs.length=vals.length→St G C A env w loc led s →
   (∀ {x u},(x,u)∈xs.zip vals→x<C.nms.length∧storable w env (C.nm x)∧VR G w (vf x) u) →
   (∀ {w' loc' s'},Own w w'→St G C A env w' loc' led s'→(∀ y,y∈xs∧get loc' y=some (vf y)∨y ∉ xs∧get loc' y=get loc y)→Q () s') →
   wpAny (Mo G) A (assignInOrder ts vals) Q E s
 | [],xs,vals,w,loc,s,ht,hl,c,_,k=>by
  obtain rfl:xs=[]:=ht
  obtain rfl:=List.length_eq_zero_iff.mp hl.symm
  exact wpAny_pure (k (Own.refl w) c fun y=>.inr ⟨nofun,rfl⟩)
 | t::ts,xs,[],w,loc,s,⟨x,ys,e,_⟩,hl,c,_,k=>by subst e;exact nomatch hl
 | t::ts,xs,val::vals,w,loc,s,⟨x,ys,e,ht1,ht2⟩,hl,c,hp,k=>by
  subst e
  obtain⟨h1,h2,h3⟩:=hp (x:=x) (u:=val) (.head _)
  show wpAny _ _ (do holding vals (t val);assignInOrder ts vals) _ _ _
  refine wpAny_bind (wpAny_holding (ht1 (store_conc c h1 h2 h3 fun {w1 s1} P1 c1=>stores_conc (vf:=vf) ts ys vals ht2 (Nat.succ.inj hl) c1 (fun {y u} m=>?_) fun {w2 loc2 s2} P2 c2 g2=>k (P1.trans P2) c2 fun y=>?_)))
  ·obtain⟨q1,q2,q3⟩:=hp (x:=y) (u:=u) (.tail _ m)
   exact⟨q1,q2.own P1.own,q3.per P1.per⟩
  ·rcases g2 y with ⟨m,e⟩ | ⟨m,e⟩
   ·exact .inl ⟨.tail _ m,e⟩
   ·rw[get_put] at e
    by_cases hy:y=x
    ·subst hy;rw[if_pos rfl] at e;exact .inl ⟨.head _,e⟩
    ·rw[if_neg hy] at e;exact .inr ⟨fun q=>(List.mem_cons.mp q).elim hy m,e⟩
end
def FlOk(G:Gl)(w':Wd)(fl:Fl)(f:Flow):Prop:=match fl with
 | .nx=>f=.next
 | .ret v=>∃ val,f=.ret val∧VR G w' v val
structure PostS (G:Gl) (C:Ct) (A:Around) (w:Wd) (env:Env) (n₀:Nat) (r:Res) (f:Flow) (s':Shared) (w':Wd):Prop where
 st:St G C A env w' r.2.1 r.2.2 s'
 step:StepS n₀ w w'
 fl:FlOk G w' r.1 f
def SSo(G:Gl)(C:Ct)(A:Around)(env:Env)(cx:Cx)(own:List Addr)(mu:List Nat)(sm:S)(x:Stmt):Prop:=
 ∀ {w:Wd} {loc:Loc} {led:Led} {s:Shared} {n₀:Nat} {K:Res→Prop} {Q:Flow→Shared→Prop},St G C A env w loc led s→w.own=own→n₀≤led.length→(evS cx mu n₀ sm loc led).elim False K →
  (∀ {r:Res} {f:Flow} {s':Shared} {w':Wd},K r→PostS G C A w env n₀ r f s' w'→Q f s')→wpAny (Mo G) A (exec x env) Q NoE s
def SSs(G:Gl)(C:Ct)(A:Around)(env:Env)(cx:Cx)(own:List Addr)(mu:List Nat)(ss:List S)(xs:List Stmt):Prop:=
 ∀ {w:Wd} {loc:Loc} {led:Led} {s:Shared} {n₀:Nat} {K:Res→Prop} {Q:Flow→Shared→Prop},St G C A env w loc led s→w.own=own→n₀≤led.length→(evSs cx mu n₀ ss loc led).elim False K →
  (∀ {r:Res} {f:Flow} {s':Shared} {w':Wd},K r→PostS G C A w env n₀ r f s' w'→Q f s')→wpAny (Mo G) A (execs xs env) Q NoE s
section
variable{G:Gl}{C:Ct}{A:Around}{env:Env}{cx:Cx}{w:Wd}{loc:Loc}{led led':Led}{s:Shared}{own:List Addr}{mu:List Nat}{n₀:Nat}
theorem StepS.len{n:Nat}{w':Wd}(x:StepS n w w')(h:n≤w.ads.length):n≤w'.ads.length:=by
 cases n with
 | zero=>exact Nat.zero_le _
 | succ n=>exact(List.getElem?_eq_some_iff.mp (x.refs n _ (Nat.lt_succ_self _) (List.getElem?_eq_getElem h))).1
theorem St.len{w':Wd}{loc':Loc}{s':Shared}(c:St G C A env w loc led s)(hn:n₀≤led.length)(P:StepS n₀ w w')(c':St G C A env w' loc' led' s'):n₀≤led'.length:=c'.conc.led.len▸P.len (c.conc.led.len▸hn)
theorem PostS.after{w1 w':Wd}{r:Res}{f:Flow}{s':Shared}(P:StepS n₀ w w1)(p:PostS G C A w1 env n₀ r f s' w'):PostS G C A w env n₀ r f s' w':=⟨p.st,P.trans p.step,p.fl⟩
theorem SSs.nil:SSs G C A env cx own mu [] []:=fun {w loc led s n₀ K Q} c ho hn e k=>wpAny_execs_nil (k e ⟨c,StepS.refl _ _,rfl⟩)
theorem SSs.cons{sm:S}{ss:List S}{x:Stmt}{xs:List Stmt}(h1:SSo G C A env cx own mu sm x)(h2:SSs G C A env cx own mu ss xs):SSs G C A env cx own mu (sm::ss) (x::xs):=fun {w loc led s n₀ K Q} c ho hn e k=>
 wpAny_execs_cons (h1 c ho hn (bindW e) fun {r f s1 w1} e p=>by
  obtain⟨fl,loc1,led1⟩:=r
  cases fl with
  | nx=>obtain rfl:=p.fl;exact h2 p.st (p.step.own.trans ho) (c.len hn p.step p.st) e fun e p2=>k e (p2.after p.step)
  | ret v=>obtain⟨val,rfl,_⟩:=id p.fl;exact k e p)
theorem fin_names{wf:Wd}{s1:Shared}{pend:List (Nat × Value)}{b:BS}{bads:List Addr}{ts:List (Value→Sem Unit)}{xs:List Nat}{vals:List Value}{E:Value→Shared→Prop}{Q:Unit→Shared→Prop}(cf:Conc G C A wf env loc led)(S:StepS n₀ w wf)(I:BI G C env wf n₀ pend b bads)
  (hnd:(pend.map (·.1)).Nodup) (g:Grow wf.h s1.heap) (hr:Rs G s1) (hl:∀ {q},q∈xs.zip vals↔q∈pend) (hlen:xs.length=vals.length) (hst:∀ {x},x∈xs→storable wf env (C.nm x)) (ht:TreesFor G C A env ts xs)
  (k:∀ {s2 w2},PostS G C A w env n₀ (.nx,b.loc,b.base) .next s2 w2→Q () s2):wpAny (Mo G) A (assignInOrder ts vals) Q E s1:=by
 have F:=fin_world cf S I g hr hnd
 refine stores_conc (vf:=fun x=>(get b.loc x).getD (.d .none)) ts xs vals ht hlen F.st (fun {x u} m=>?_) fun {w2 loc2 s2} P2 c2 g2=>k ⟨⟨c2.conc.weaken fun y u e=>?_,c2.heap⟩,F.step.trans (Own.step F.st.conc P2),rfl⟩
 ·obtain⟨h1,vv,h2,h3⟩:=F.val (hl.mp m)
  exact⟨h1,(hst (List.of_mem_zip m).1).own F.own,by rw[h2];exact h3⟩
 ·rcases g2 y with ⟨m,e2⟩ | ⟨m,e2⟩
  ·rw[e2,e];rfl
  ·refine e2.trans (F.rest y u e fun q=>?_)
   obtain⟨z,hz,rfl⟩:=List.mem_map.mp q
   exact m (List.of_mem_zip (hl.mpr hz)).1
theorem fin_name{wf:Wd}{u:Value}{s1:Shared}{x:Nat}{b:BS}{bads:List Addr}{E:Value→Shared→Prop}{Q:Unit→Shared→Prop}(cf:Conc G C A wf env loc led)(S:StepS n₀ w wf)(I:BI G C env wf n₀ [(x,u)] b bads)
  (g:Grow wf.h s1.heap) (hr:Rs G s1) (hst:storable wf env (C.nm x)) (k:∀ {s2 w2},PostS G C A w env n₀ (.nx,b.loc,b.base) .next s2 w2→Q () s2):wpAny (Mo G) A (storeName env (C.nm x) u) Q E s1:=by
 have F:=fin_world cf S I g hr (List.nodup_cons.mpr ⟨nofun,.nil⟩)
 obtain⟨h1,vv,h2,h3⟩:=F.val (.head _)
 refine store_conc F.st h1 (hst.own F.own) h3 fun {w2 s2} P2 c2=>k ⟨⟨c2.conc.weaken fun y t e=>?_,c2.heap⟩,F.step.trans (Own.step F.st.conc P2),rfl⟩
 rw[get_put]
 by_cases hy:y=x
 ·rw[if_pos hy];subst hy;exact h2.symm.trans e
 ·rw[if_neg hy];exact F.rest y t e fun q=>hy (mem1 q)
theorem isName_store{sc:Scope}(hsc:env.scope=sc)(hfl:FnOk own env){x:Nat}{e:Expr}(h:isT C sc true (.name x) e=true):x<C.nms.length∧asName e=some (C.nm x)∧∀ {w:Wd},w.own=own→storable w env (C.nm x):=by
 obtain⟨id,h1,h2⟩:=elimB h
 obtain⟨h3,h4⟩:=andB h2
 obtain⟨h5,h6⟩:=andB h3
 obtain rfl:=eq_of_beq h6
 refine⟨of_decide_eq_true h5,h1,fun ho=>?_⟩
 rcases Bool.or_eq_true_iff.mp h4 with h | h
 ·exact .inl (kind_of' hsc h)
 ·have hkc:=kind_of' hsc (andB h).2
  obtain⟨cc,l,m⟩:=hfl _ hkc
  exact .inr ⟨hkc,cc,l,ho▸m⟩
theorem SSo.assignName{x:Nat}{e:E}{id:Str}{pos' pos:Pos}{value:Expr}(hfl:FnOk own env)(ht:isT C env.scope true (.name x) (.Name id pos')=true)(hs:swapsWith value (some (.Name id pos')) pos.line env=pure false)
  (he:SE G C A env cx e value):SSo G C A env cx own mu (.assign (.name x) e) (.Assign [.Name id pos'] value pos):=fun {w loc led s n₀ K Q} c ho hn e k=>by
 obtain⟨hx,hid,hst⟩:=isName_store rfl hfl ht
 obtain rfl:id=C.nm x:=Option.some.inj hid
 refine wpAny_Assign_Name (he c (bindW e) fun {q val s1 wf} e p=>?_) hs
 obtain⟨b,bads,e1,I⟩:=bindN_sound (p.fw c) (p.start c hn) nofun hx p.val (mapW e)
 exact fin_name (p.st c).conc (Stp.step c.conc p.stp) I (p.heap.1▸Grow.refl _) p.heap.2 (hst (p.stp.own.trans ho)) (k e1)
theorem DRs.vrs{w:Wd}:∀ {ds:List D} {vals:List Value},DRs w ds vals→VRs G w (ds.map .d) vals
 | [],[],_=>trivial
 | [],_::_,h=>h.elim
 | _::_,[],h=>h.elim
 | _::_,_::_,h=>⟨h.1,DRs.vrs h.2⟩
theorem itemsW{v:V}{val:Value}{K:List V→Prop}(r:VR G w v val)(e:(itemsT v).elim False K):∃ a us vs,val=.ref a∧w.h.IsTuple a us∧VRs G w vs us.toList∧K vs:=by
 cases v with
 | tup vs=>obtain⟨a,us,e1,i,_,d⟩:=r;exact⟨a,us,vs,e1,i,d,e⟩
 | d y=>
  obtain⟨ds,rfl,e2⟩:=D.tupW (mapW e)
  obtain⟨a,us,e1,i,_,d⟩:=r
  exact⟨a,us,_,e1,i,DRs.vrs d,e2⟩
 | _=>exact e.elim
theorem targets{sc:Scope}(hsc:env.scope=sc)(hfl:FnOk own env):∀ {ts:List T} {es:List Expr} {xs:List Nat},namesOfT ts=some xs→isTs C sc true ts es=true →
  (∀ {x},x∈xs→x<C.nms.length∧∀ {w:Wd},w.own=own→storable w env (C.nm x))∧TreesFor G C A env ((assignEach es env).map (·.2)) xs∧ts.length=xs.length
 | [],[],xs,h,_=>by obtain rfl:=Option.some.inj h;exact⟨nofun,rfl,rfl⟩
 | [],_::_,_,_,h=>Bool.noConfusion h
 | _::_,[],_,_,h=>Bool.noConfusion h
 | t::ts,e::es,xs,hx,h=>by
  obtain⟨x,e1,e2⟩:=bindE hx
  obtain⟨ys,e3,rfl⟩:=mapE e2
  obtain⟨h1,h2,h3⟩:=targets hsc hfl e3 (andB h).2
  cases t with
  | tup _=>exact nomatch e1
  | name y=>
   obtain rfl:=Option.some.inj e1
   obtain⟨q1,q2,q3⟩:=isName_store hsc hfl (andB h).1
   obtain⟨pos,rfl⟩:=asName_is q2
   exact⟨fun {z} hz=>(List.mem_cons.mp hz).elim (fun q=>q▸⟨q1,q3⟩) h1,⟨y,ys,rfl,wpAny_assign_Name,h2⟩,congrArg (·+1) h3⟩
structure TupI (G:Gl) (C:Ct) (A:Around) (env:Env) (n₀:Nat) (wf:Wd) (ts:List T) (es:List Expr) (val:Value) (xs:List Nat) (a:Addr) (us:Array Value) (b:BS) (bads:List Addr):Prop where
 is:val=.ref a
 tup:wf.h.IsTuple a us
 len:xs.length=us.toList.length
 bi:BI G C env wf n₀ ((xs.zip us.toList).reverse++[]) b bads
 nd:(((xs.zip us.toList).reverse++([]:List (Nat × Value))).map (·.1)).Nodup
 st:∀ {x},x∈xs→storable wf env (C.nm x)
 tr:TreesFor G C A env ((assignEach es env).map (·.2)) xs
 tlen:ts.length=xs.length
theorem tup_start{wf:Wd}{v:V}{val:Value}{s':Shared}{ts:List T}{es:List Expr}{K:BS→Prop}(c:St G C A env w loc led s)(p:PostE G w led' v val s' wf)(ho:w.own=own)(hn:n₀≤led.length)(hfl:FnOk own env)(ht:isTs C env.scope true ts es=true)
  (e:(bindV mu n₀ led' (.tup ts) v ⟨led.length,loc,led'.take led.length⟩).elim False K):∃ xs a us b bads,namesOfT ts=some xs∧K b∧TupI G C A env n₀ wf ts es val xs a us b bads:=by
 obtain⟨xs,h1,e1⟩:=isW (bindW e)
 obtain⟨a,us,vs,ev,i,d,e2⟩:=itemsW p.val (bindW e1)
 obtain⟨hx,htr,hxl⟩:=targets (G:=G) (A:=A) rfl hfl h1 ht
 obtain⟨b,bads,e3,I,hlen,hnd⟩:=bindNs_sound (p.fw c) (p.start c hn) (fun _ _ _=>nofun) (fun x m=>(hx m).1) d e2
 refine⟨xs,a,us,b,bads,h1,e3,ev,i,hlen,I,?_,fun m=>(hx m).2 (p.stp.own.trans ho),htr,hxl⟩
 rw[List.append_nil,List.map_reverse,List.map_fst_zip (Nat.le_of_eq hlen)]
 exact(List.Perm.nodup_iff (List.reverse_perm xs)).mpr hnd
theorem grow_new{wf:Wd}{h':Heap}(hh:wf.h=s.heap)(hx:∀ b o,b≠s.heap.objs.size→s.heap.get? b=some o→h'.get? b=some o):Grow wf.h h':=fun b o e=>by
 rw[hh] at e
 exact hx b o (Nat.ne_of_lt (Heap.lt_size e)) e
theorem SSo.assignTup{ts:List T}{e:E}{es:List Expr}{k:Nat}{tpos pos:Pos}{value:Expr}(hfl:FnOk own env)(ht:isTs C env.scope true ts es=true)(hs:swapsWithSole [.Tuple es k tpos] value pos.line env=pure false)
  (hw:swappedStores [.Tuple es k tpos] value env=pure none) (he:SE G C A env cx e value):SSo G C A env cx own mu (.assign (.tup ts) e) (.Assign [.Tuple es k tpos] value pos):=fun {w loc led s n₀ K Q} c ho hn e kk=>by
 refine Assign_Tuple (he c (bindW e) fun {q val s1 wf} e p=>?_) hs hw
 obtain⟨xs,a,us,b,bads,_,e1,T⟩:=tup_start c p ho hn hfl ht (mapW e)
 obtain rfl:=T.is
 obtain⟨l1,l2⟩:=isTs_len (env:=env) ht
 exact wpAny_assign_Tuple c.conc.handled (p.heap.1▸T.tup) (by rw[l1,T.tlen,T.len,Array.length_toList]) l2 fun h' hxb=>
  fin_names (s1:={ s1 with heap:=h' }) (p.st c).conc (Stp.step c.conc p.stp) T.bi T.nd (grow_new p.heap.1 hxb) p.heap.2 (by rw[List.append_nil];exact List.mem_reverse.symm) T.len T.st T.tr (kk e1)
theorem trees_names:∀ (xs:List Nat),TreesFor G C A env ((xs.map C.nm).map fun n=>bindName env n) xs
 | []=>rfl
 | x::xs=>⟨x,xs,rfl,wpAny_bindName,trees_names xs⟩
theorem zip_rev:∀ {xs:List Nat} {us:List Value},xs.length=us.length→xs.reverse.zip us.reverse=(xs.zip us).reverse
 | [],[],_=>rfl
 | _::_,[],h=>nomatch h
 | [],_::_,h=>nomatch h
 | x::xs,u::us,h=>by
  have hl:xs.length=us.length:=Nat.succ.inj h
  rw[List.reverse_cons,List.reverse_cons,List.zip_cons_cons,List.reverse_cons,List.zip_append (by rw[List.length_reverse,List.length_reverse,hl]),zip_rev hl]
  rfl
theorem SSo.assignSwap{ts:List T}{xs:List Nat}{e:E}{es:List Expr}{k:Nat}{tpos pos:Pos}{value:Expr}(hfl:FnOk own env)(ht:isTs C env.scope true ts es=true)(hxs:namesOfT ts=some xs)(hs:swapsWithSole [.Tuple es k tpos] value pos.line env=pure false)
  (hw:swappedStores [.Tuple es k tpos] value env=pure (some (xs.map C.nm))) (he:SE G C A env cx e value):SSo G C A env cx own mu (.assign (.tup ts) e) (.Assign [.Tuple es k tpos] value pos):=fun {w loc led s n₀ K Q} c ho hn e kk=>by
 refine Assign_Tuple_swapped (he c (bindW e) fun {q val s1 wf} e p=>?_) hs hw
 obtain⟨xs',a,us,b,bads,h1,e1,T⟩:=tup_start c p ho hn hfl ht (mapW e)
 obtain rfl:=Option.some.inj (hxs.symm.trans h1)
 obtain rfl:=T.is
 have hsz:(xs.map C.nm).length=us.size:=by rw[List.length_map,T.len,Array.length_toList]
 rw[hsz]
 refine unpackItems_tuple c.conc.handled (p.heap.1▸T.tup) fun h' hxb=>?_
 rw[←List.map_reverse]
 exact fin_names (s1:={ s1 with heap:=h' }) (p.st c).conc (Stp.step c.conc p.stp) T.bi T.nd (grow_new p.heap.1 hxb) p.heap.2 (by rw[zip_rev T.len,List.append_nil]) (by rw[List.length_reverse,List.length_reverse,T.len]) (fun m=>T.st (List.mem_reverse.mp m)) (trees_names _) (kk e1)
end
end
section
section
variable{G:Gl}{C:Ct}{A:Around}{env:Env}{cx:Cx}{w:Wd}{loc:Loc}{led led':Led}{s:Shared}{own:List Addr}{mu:List Nat}{n₀:Nat}
theorem PostE.nx{w':Wd}{v:V}{val:Value}{s':Shared}(p:PostE G w led' v val s' w')(c:St G C A env w loc led s):PostS G C A w env n₀ (.nx,loc,led'.take led.length) .next s' ⟨s'.heap,w.own,w.prot,w.ads⟩:=
 let ⟨S1,c1⟩:=p.back c;⟨c1,Stp.step c.conc S1,rfl⟩
theorem SSo.expr{e:E}{x:Expr}{pos:Pos}(hi:interactive env=false)(hs:swapsWith x none pos.line env=pure false)(he:SE G C A env cx e x):SSo G C A env cx own mu (.expr e) (.Expr x pos):=fun c ho hn e k=>
 wpAny_Expr_any (he c (mapW e) fun e p=>k e (p.nx c)) hi hs
theorem SSo.ret{e:E}{x:Expr}{pos:Pos}(he:SE G C A env cx e x):SSo G C A env cx own mu (.ret e) (.Return (some x) pos):=fun c ho hn e k=>
 wpAny_Return_some (he c (mapW e) fun e p=>k e ⟨p.st c,Stp.step c.conc p.stp,_,rfl,p.val⟩)
theorem SSo.assert{e:E}{x:Expr}{m:Option Expr}{pos:Pos}(he:ST G C A env cx e x):SSo G C A env cx own mu (.assert e) (.Assert x m pos):=fun {w loc led s n₀ K Q} c ho hn e k=>
 wpAny_Assert_holds (he (K:=fun l t=>(cond t (some (Fl.nx,loc,l.take led.length)) none).elim False K) c (by
  obtain⟨p,hp,e⟩:=isW (bindW e)
  exact toW hp (bindW e)) fun {l b s' w'} e p=>by
  cases b with
  | true=>exact⟨rfl,k e (p.nx c)⟩
  | false=>exact e.elim)
theorem SSo.aug{x:Nat}{op:Op2}{op':Operator}{e:E}{id:Str}{npos pos:Pos}{value:Expr}(hfl:FnOk own env)(ho':op.is op'=true)(ht:isT C env.scope true (.name x) (.Name id npos)=true)(h2:(id==("__classdict__":Str))=false)
  (he:SE G C A env cx e value):SSo G C A env cx own mu (.aug x op e) (.AugAssign (.Name id npos) op' value pos):=fun {w loc led s n₀ K Q} c ho hn e k=>by
 obtain⟨u,e1,e2⟩:=isW (bindW e)
 obtain⟨a,rfl,e3⟩:=V.intW (bindW e2)
 obtain⟨hx,hid,hst⟩:=isName_store rfl hfl ht
 obtain rfl:id=C.nm x:=Option.some.inj hid
 obtain rfl:=Op2.isW ho'
 obtain⟨_,val,hnm,ta,rfl⟩:=c.conc.locs x _ e1
 have load:∀ {Q:Value→Shared→Prop},Q (.int a ta) s→wpAny (Mo G) A (loadName env (C.nm x)) Q NoE s:=fun hq=>by
  rcases hnm with ⟨k,m,hm,e,_⟩ | ⟨k | k,cc,l,i,_⟩
  ·exact wpAny_loadName_local c.conc.frame.kind k (c.heap.1▸hm) e hq
  ·exact wpAny_loadName_cell c.conc.frame.kind k l (c.heap.1▸i) hq
  ·exact wpAny_loadName_free c.conc.frame.kind k l (c.heap.1▸i) hq h2
 refine wpAny_AugAssign_Name (load (he c (bindW e3) fun {p bv s1 w1} e p1=>?_))
 obtain⟨b,hb,e4⟩:=V.intW (bindW e)
 have pv:=p1.val
 rw[hb] at pv
 obtain⟨tb,rfl⟩:=pv
 have fin:∀ {z:Int} {t':Tok} {s2:Shared},Sm s1 s2→K (.nx,put loc x (.d (.int z)),p.2.take led.length)→wpAny (Mo G) A (storeName env (C.nm x) (.int z t')) (fun _=>Q .next) NoE s2:=fun {z t' s2} hs2 e=>
  let ⟨S1,c1⟩:=p1.back c
  store_conc (v:=.d (.int z)) ⟨c1.conc,c1.heap.sm hs2⟩ hx ((hst ho).own rfl) ⟨t',rfl⟩ fun {w3 s3} P3 c3=>k e ⟨c3,(Stp.step c.conc S1).trans (Own.step c1.conc P3),rfl⟩
 cases op with
 | add=>exact PySem.AutoIntOps.iadd_0 (fin ⟨rfl,rfl,rfl⟩ e4)
 | sub=>exact PySem.AutoIntOps.isub_0 (fin ⟨rfl,rfl,rfl⟩ e4)
 | _=>exact e4.elim
theorem SSo.ite{e:E}{a b:List S}{x:Expr}{xs ys:List Stmt}{pos:Pos}(he:ST G C A env cx e x)(ha:SSs G C A env cx own mu a xs)(hb:SSs G C A env cx own mu b ys):SSo G C A env cx own mu (.ite e a b) (.If x xs ys pos):=fun {w loc led s n₀ K Q} c ho hn e k=>
 wpAny_If (he (K:=fun l t=>(cond t (evSs cx mu n₀ a loc (l.take led.length)) (evSs cx mu n₀ b loc (l.take led.length))).elim False K) c (by
  obtain⟨p,hp,e⟩:=isW (bindW e)
  exact toW hp (bindW e)) fun {l t s' w'} e p=>by
  have q:=p.nx (n₀:=n₀) c
  cases t with
  | true=>exact ha q.st (q.step.own.trans ho) (c.len hn q.step q.st) e fun e p2=>k e (p2.after q.step)
  | false=>exact hb q.st (q.step.own.trans ho) (c.len hn q.step q.st) e fun e p2=>k e (p2.after q.step))
theorem StepS.cut{n:Nat}{w':Wd}(x:StepS n₀ w w')(h:n₀≤n):StepS n₀ w (w'.cut n):=
 ⟨x.own,x.prot,fun b o e hs=>⟨(x.keep b o e hs).1,fun m=>(x.keep b o e hs).2 (List.mem_of_mem_take m)⟩,x.prots,fun k a hk e=>(List.getElem?_take_of_lt (Nat.lt_of_lt_of_le hk h)).trans (x.refs k a hk e)⟩
theorem get_take{x:Nat}{v:V}:∀ {loc:Loc} {m:Nat},get (loc.take m) x=some v→get loc x=some v
 | [],m,h=>by rw[List.take_nil] at h;exact h
 | p::r,0,h=>nomatch h
 | (y,u)::r,m+1,h=>by
  have h:(if y=x then some u else get (r.take m) x)=some v:=h
  show (if y=x then some u else get r x)=some v
  by_cases hy:y=x
  ·rw[if_pos hy] at h ⊢;exact h
  ·rw[if_neg hy] at h ⊢;exact get_take h
theorem loopOnW{m n:Nat}{next:Loc→Led→Option Res}{r:Res}{K:Res→Prop}(h:(loopOn m n next r).elim False K) :
  (r.1=.nx→(r.2.1.take m).all (fun p=>below n p.2)=true∧(next (r.2.1.take m) (r.2.2.take n)).elim False K)∧∀ v,r.1=.ret v→K r:=by
 obtain⟨fl,l,d⟩:=r
 cases fl with
 | nx=>exact⟨fun _=>gdW (x:=some (l.take m,d.take n)) (K:=fun q=>(next q.1 q.2).elim False K) (bindW h),nofun⟩
 | ret v=>exact⟨nofun,fun _ _=>h⟩
theorem St.cut{m n:Nat}(c:St G C A env w loc led s)(h:(loc.take m).all (fun p=>below n p.2)=true)(hn:n≤w.ads.length):St G C A env (w.cut n) (loc.take m) (led.take n) s∧(led.take n).length=n:=
 ⟨⟨(c.conc.weaken fun x v e=>get_take e).cut n fun {x v} e=>List.all_eq_true.mp h (x,v) (get_mem e),c.heap⟩,List.length_take_of_le (c.conc.led.len▸hn)⟩
def WhI(G:Gl)(C:Ct)(A:Around)(env:Env)(n₀ n:Nat)(w:Wd)(cd:Loc→Led→Option (Bool × Led))(body:Loc→Led→Option Res)(K:Res→Prop)(k:Nat)(s:Shared):Prop:=
 ∃ wc loc led,St G C A env wc loc led s∧StepS n₀ w wc∧led.length=n∧(whileLoop cd body k loc led).elim False K
theorem SSo.while{e:E}{b:List S}{x:Expr}{xs:List Stmt}{pos:Pos}(he:ST G C A env cx e x)(hb:SSs G C A env cx own mu b xs):SSo G C A env cx own mu (.while e b) (.While x xs [] pos):=fun {w loc led s n₀ K Q} c ho hn e0 kk=>by
 refine wpAny_While (codeAny_whileLoop (WhI G C A env n₀ led.length w (fun loc led=>(evE cx e loc led).bind fun p=>(tru p.2 p.1).map fun r=>(r,p.2)) (fun loc led'=>evSs cx mu led.length b loc led') K) (fun k s1 hI=>?_) cx.N ⟨w,loc,led,c,StepS.refl _ _,rfl,e0⟩)
 obtain⟨wc,locc,ledc,cc,Sc,hlen,hrun⟩:=hI
 cases k with
 | zero=>exact hrun.elim
 | succ k=>
  obtain⟨p,e1,e2⟩:=isW (bindW (bindW hrun))
  refine falseE (he (K:=fun l t=>(bif t then (evSs cx mu led.length b locc (l.take ledc.length)).bind (loopOn locc.length ledc.length (whileLoop (fun loc led=>(evE cx e loc led).bind fun p=>(tru p.2 p.1).map fun r=>(r,p.2)) (fun loc led'=>evSs cx mu led.length b loc led') k))
   else some (.nx,locc,l.take ledc.length)).elim False K) cc (toW e1 (mapW e2)) fun {l t s2 w2} e3 p2=>?_)
  have q:=p2.nx (n₀:=n₀) cc
  have Sq:=Sc.trans q.step
  cases t with
  | false=>exact wpAny_execs_nil (kk e3 ⟨q.st,Sq,rfl⟩)
  | true=>
   have hl:led.length≤(l.take ledc.length).length:=hlen▸(cc.len (Nat.le_refl _) (p2.nx (n₀:=ledc.length) cc).step q.st)
   refine falseE (hb q.st (Sq.own.trans ho) hl (bindW e3) fun {r f s3 w3} e4 p3=>?_)
   obtain⟨fl,loc3,led3⟩:=r
   cases fl with
   | nx=>
    obtain rfl:=p3.fl
    obtain⟨h1,h2⟩:=(loopOnW e4).1 rfl
    obtain⟨c4,h3⟩:=p3.st.cut h1 (hlen▸p3.step.len (q.st.conc.led.len▸hl))
    exact⟨k,Nat.lt_succ_self _,_,_,_,c4,(Sq.trans (p3.step.mono hn)).cut (hlen▸hn),h3.trans hlen,h2⟩
   | ret u=>
    obtain⟨val,rfl,r⟩:=p3.fl
    exact kk ((loopOnW e4).2 u rfl) ⟨p3.st,Sq.trans (p3.step.mono hn),val,rfl,r⟩
end
structure InLoop (n₀:Nat) (w:Wd) (wr:List Addr) (wc:Wd):Prop where
 own:wc.own=w.own
 prot:wc.prot=wr++w.prot
 keep:∀ b o,w.h.get? b=some o→w.st b→wc.h.get? b=some o∧b ∉ wc.ads
 prots:∀ b o,b∈w.prot→w.h.get? b=some o→wc.h.get? b=some o
 refs:∀ k a,k<n₀→w.ads[k]?=some a→wc.ads[k]?=some a
section
variable{G:Gl}{C:Ct}{A:Around}{env:Env}{cx:Cx}{w wc wc' w1:Wd}{loc:Loc}{led led':Led}{s:Shared}{own:List Addr}{mu:List Nat}{wr:List Addr}{n₀ n:Nat}
theorem InLoop.step(x:InLoop n₀ w wr wc)(hf:∀ b∈wr,w.h.get? b=none)(S:StepS n wc wc')(h:n₀≤n):InLoop n₀ w wr wc' where
 own:=S.own.trans x.own
 prot:=S.prot.trans x.prot
 keep:=fun b o e hs=>by
  obtain⟨h1,h2⟩:=x.keep b o e hs
  refine S.keep b o h1 ⟨by rw[x.own];exact hs.1,fun q=>?_,h2⟩
  rw[x.prot] at q
  rcases List.mem_append.mp q with q | q
  ·rw[hf b q] at e;cases e
  ·exact hs.2.1 q
 prots:=fun b o m e=>S.prots b o (by rw[x.prot];exact List.mem_append_right _ m) (x.prots b o m e)
 refs:=fun k a hk e=>S.refs k a (Nat.lt_of_lt_of_le hk h) (x.refs k a hk e)
theorem InLoop.at_(x:InLoop n₀ w wr wc)(hf:∀ b∈wr,w.h.get? b=none)(P:At wr wc wc'):InLoop n₀ w wr wc' where
 own:=P.own.trans x.own
 prot:=P.prot.trans x.prot
 keep:=fun b o e hs=>by
  obtain⟨h1,h2⟩:=x.keep b o e hs
  exact⟨P.keep b o h1 (fun q=>by rw[hf b q] at e;cases e),by rw[P.ads];exact h2⟩
 prots:=fun b o m e=>P.keep b o (x.prots b o m e) fun q=>by rw[hf b q] at e;cases e
 refs:=fun k a hk e=>by rw[P.ads];exact x.refs k a hk e
theorem InLoop.cut(x:InLoop n₀ w wr wc)(h:n₀≤n):InLoop n₀ w wr (wc.cut n) where
 own:=x.own
 prot:=x.prot
 keep:=fun b o e hs=>⟨(x.keep b o e hs).1,fun m=>(x.keep b o e hs).2 (List.mem_of_mem_take m)⟩
 prots:=x.prots
 refs:=fun k a hk e=>by
  show (wc.ads.take n)[k]?=some a
  rw[List.getElem?_take_of_lt (by(revert h hk;exact z3 0x3ff0842102c4008440))];exact x.refs k a hk e
theorem InLoop.out(x:InLoop n₀ w wr wc):StepS n₀ w ⟨wc.h,wc.own,w.prot,wc.ads⟩:=⟨x.own,rfl,x.keep,x.prots,x.refs⟩
end
end
section
section
variable{G:Gl}{C:Ct}{A:Around}{env:Env}{cx:Cx}{w wc wc' w1 w2:Wd}{loc:Loc}{led led':Led}{s:Shared}{own:List Addr}{mu:List Nat}{wr:List Addr}{n₀ n:Nat}
theorem Held.obj{a:Addr}(h:Held env a)(c:Conc G C A w env loc led):∃ o,w.h.get? a=some o:=by
 rcases h with rfl | ⟨z,k,l⟩
 ·obtain⟨m,o,_,_,ho,_⟩:=c.frame.ns;exact⟨o,ho⟩
 ·obtain⟨cc,o,l',⟨ob,i,_⟩,_⟩:=c.frame.cells z k
  obtain rfl:=Option.some.inj (l.symm.trans l')
  exact⟨ob,i⟩
theorem Conc.out{prot:List Addr}(c:Conc G C A wc env loc led)(P:At wr wc w2)(hp:wc.prot=wr++prot)(hce:∀ {a},Held env a→a ∉ wr)(hn:∀ {a},a∈prot→a ∉ wr) :
  Conc G C A ⟨w2.h,w2.own,prot,w2.ads⟩ env loc led∧Per wc ⟨w2.h,w2.own,prot,w2.ads⟩:=by
 obtain⟨h2,o2,q2,a2⟩:=w2
 obtain⟨e1,e2,e3,kp⟩:=P
 replace e1:o2=wc.own:=e1
 replace e3:a2=wc.ads:=e3
 subst e1 e3
 have hwp:∀ {b},b∈wr→b∈wc.prot:=fun m=>by rw[hp];exact List.mem_append_left _ m
 have hpp:∀ {b},b∈prot→b∈wc.prot:=fun m=>by rw[hp];exact List.mem_append_right _ m
 have PP:Per wc ⟨h2,wc.own,prot,wc.ads⟩:={ st:=fun b o e h=>⟨kp b o e fun q=>h.2.1 (hwp q),h.1,fun m=>h.2.1 (hpp m),h.2.2⟩,ref:=fun _ _ e=>e }
 refine⟨c.to PP.toPerD (fun hb e n=>⟨kp _ _ e (hce hb),n⟩) id (fun {a} ha m=>m.imp id fun m=>?_) (fun _ r=>r.per PP) (c.led.move PP fun a ha o e=>kp a o e fun q=>c.sep a (.inr (hwp q)) ha) c.nd (fun a ha=>c.sep a (ha.imp id hpp)) (fun a ha=>?_) fun a ha m=>c.op a ha (hpp m),PP⟩
 ·rw[hp] at m
  exact(List.mem_append.mp m).resolve_left (hce ha)
 ·exact(c.ownex a (ha.imp id hpp)).imp fun o e=>kp a o e (ha.elim (fun m q=>c.op a m (hwp q)) hn)
theorem Conc.into{h':Heap}{l1:Led}(c:St G C A env w loc led s)(P:Stp w w1)(g:Grow w1.h h')(hl:ORs G w1 l1 w1.ads)(hwr:∀ b∈wr,w1.h.get? b=none∧∃ o,h'.get? b=some o) :
  InLoop n₀ w wr ⟨h',w.own,wr++w.prot,w.ads⟩∧Conc G C A ⟨h',w.own,wr++w.prot,w.ads⟩ env loc (l1.take led.length):=by
 have old:∀ {b o},w.h.get? b=some o→b ∉ w.ads→h'.get? b=some o∧b ∉ wr:=fun {b o} e n=>
  have h1:=(P.keep b o e n).1
  ⟨g b o h1,fun q=>nomatch (hwr b q).1.symm.trans h1⟩
 have PP:Per w ⟨h',w.own,wr++w.prot,w.ads⟩:={ st:=fun b o e hs=>⟨(old e hs.2.2).1,hs.1,fun q=>(List.mem_append.mp q).elim (old e hs.2.2).2 hs.2.1,hs.2.2⟩,ref:=fun _ _ e=>e }
 have hads:=c.take P.pre
 have h1:=hl.take led.length
 rw[hads] at h1
 have wn:∀ {a},a∈w.own∨a∈w.prot→(∃ o,h'.get? a=some o)∧a ∉ wr:=fun ha=>
  let ⟨o,ho⟩:=c.conc.ownex _ ha
  ⟨⟨o,(old ho (c.conc.sep _ ha)).1⟩,(old ho (c.conc.sep _ ha)).2⟩
 refine⟨⟨rfl,rfl,fun b o e hs=>⟨(old e hs.2.2).1,hs.2.2⟩,fun b o m e=>(old e (c.conc.sep b (.inr m))).1,fun _ _ _ e=>e⟩,
  c.conc.to PP.toPerD (fun _ e n=>⟨(old e n).1,n⟩) id (fun _ m=>m.imp id (List.mem_append_right _)) (fun _ r=>r.per PP) (h1.moveD ⟨fun b o e hs=>⟨g b o e,P.own▸hs.1,fun q=>?_,fun q=>hs.2.2 (List.mem_of_mem_take (hads.symm▸q))⟩⟩ fun a _ o e=>g a o e) c.conc.nd
   (fun a ha m=>?_) (fun a ha=>?_) fun a ha m=>(List.mem_append.mp m).elim (wn (.inl ha)).2 (c.conc.op a ha)⟩
 ·exact(List.mem_append.mp q).elim (fun q=>nomatch (hwr b q).1.symm.trans e) fun q=>hs.2.1 (by rw[P.prot];exact q)
 ·rcases ha with ha | ha
  ·exact c.conc.sep a (.inl ha) m
  ·refine(List.mem_append.mp ha).elim (fun ha=>?_) fun ha=>c.conc.sep a (.inr ha) m
   obtain⟨o,ho⟩:=hl.obj a (List.mem_of_mem_take (hads.symm▸m))
   exact nomatch (hwr a ha).1.symm.trans ho
 ·rcases ha with ha | ha
  ·exact(wn (.inl ha)).1
  ·exact(List.mem_append.mp ha).elim (fun ha=>(hwr a ha).2) fun ha=>(wn (.inr ha)).1
theorem ItAt.lt{en:Bool}{k i:Nat}{it:Value}(x:ItAt G A w wr en (.live k i) it):k<w.ads.length:=by
 cases x with
 | live ha it=>exact(List.getElem?_eq_some_iff.mp ha).1
def ForI(G:Gl)(C:Ct)(A:Around)(env:Env)(n₀ n:Nat)(w:Wd)(wr:List Addr)(en:Bool)(it:Value)(t:T)(body:Loc→Led→Option Res)(K:Res→Prop)(k:Nat)(s:Shared):Prop:=
 ∃ wc loc led src,St G C A env wc loc led s∧InLoop n₀ w wr wc∧led.length=n∧ItAt G A wc wr en src it∧(forLoop t body k src loc led).elim False K
theorem SSo.for{t:T}{k:IK}{its:List E}{b:List S}{xt iter:Expr}{xs:List Stmt}{pos:Pos}{en:Bool}(hfl:FnOk own env)(hset:(match iter with | .Set _ _ _=>false | _=>true)=true)(ht:isT C env.scope true t xt=true)
  (hen:en=true→∃ es k pos,xt=.Tuple es k pos) (hi:SI G C A env cx k its iter en) (hb:SSs G C A env cx own mu b xs):SSo G C A env cx own mu (.for t k its b) (.For xt iter xs [] pos):=fun {w loc led s n₀ K Q} c ho hn e kk=>by
 refine wpAny_For (hi (n:=led.length) (K:=fun l src=>(forLoop t (fun loc led'=>evSs cx mu led.length b loc led') cx.N src loc (l.take led.length)).elim False K) c (by
  obtain⟨p,e1,e2⟩:=isW (bindW e)
  exact toW e1 (bindW e2)) fun {led1 src it s2 w1 wr} e p1=>?_) (fun x=>foldedSet_other hset x)
 obtain⟨IL,c2⟩:=Conc.into (n₀:=n₀) c p1.stp p1.sp.g p1.led p1.sp.fr
 have hads:=c.take p1.stp.pre
 have hat:=p1.sp.at'
 rw[hads,p1.stp.own,p1.stp.prot] at hat
 have hfw:∀ b∈wr,w.h.get? b=none:=fun b hb=>by
  cases q:w.h.get? b with
  | none=>rfl
  | some o=>
   by_cases hm:b∈w.ads
   ·obtain⟨o',ho'⟩:=p1.led.obj b (List.mem_of_mem_take (hads.symm▸hm))
    exact nomatch (p1.sp.fr b hb).1.symm.trans ho'
   ·exact nomatch (p1.sp.fr b hb).1.symm.trans (p1.stp.keep b o q hm).1
 have fw:∀ {a},(∃ o,w.h.get? a=some o)→a ∉ wr:=fun ⟨o,h⟩ q=>nomatch (hfw _ q).symm.trans h
 have hce:∀ {a},Held env a→a ∉ wr:=fun h=>fw (h.obj c.conc)
 have hnp:∀ {a},a∈w.prot→a ∉ wr:=fun h=>fw (c.conc.ownex _ (.inr h))
 refine codeAny_forLoop_any (ForI G C A env n₀ led.length w wr en it t (fun loc led'=>evSs cx mu led.length b loc led') K) (fun k s1 hI=>?_) cx.N ⟨_,loc,_,src,⟨c2,rfl,p1.sp.rs⟩,IL,c2.led.len.trans c.conc.led.len.symm,hat,e⟩
 obtain⟨wc,locc,ledc,srcc,cc,Sc,hlen,hit,hrun⟩:=hI
 have hwp:∀ b∈wr,b∈wc.prot:=fun b hb=>by rw[Sc.prot];exact List.mem_append_left _ hb
 cases k with
 | zero=>exact hrun.elim
 | succ k=>
  obtain⟨r,e3,hrun⟩:=isW (bindW hrun)
  refine hit.next cc.heap cc.conc.led cc.conc.handled hwp cc.conc.ownex e3 ⟨fun hr {w2 s2} hh2 P2=>?_,fun {y src'} hr {v s2} go=>?_⟩
  ·subst hr
   exact wpAny_execs_nil (kk hrun ⟨⟨(cc.conc.out P2 Sc.prot hce hnp).1,hh2⟩,(Sc.at_ hfw P2).out,rfl⟩)
  ·subst hr
   refine go xt _ _ hen fun {w3 s3} hh3 P3 dr at3=>?_
   have c3:Conc G C A w3 env locc ledc:=cc.conc.at_ P3 hwp hce at3.ex
   have IL3:=Sc.at_ hfw P3
   refine bindD_conc rfl (fun _=>hfl) ht ⟨c3,hh3⟩ (IL3.own.trans ho) dr (bindW hrun) fun {loc4 w4 s4} e4 P4 c4=>falseE (hb c4 (P4.own.trans (IL3.own.trans ho)) (Nat.le_of_eq hlen.symm) (bindW e4) fun {r f s5 w5} e5 p5=>?_)
   have IL4:=IL3.step hfw (Own.step (n:=led.length) c3 P4) hn
   have IL5:=IL4.step hfw p5.step hn
   obtain⟨fl,loc5,led5⟩:=r
   cases fl with
   | nx=>
    obtain rfl:=p5.fl
    obtain⟨h1,h2⟩:=(loopOnW e5).1 rfl
    have hl4:w4.ads.length=led.length:=c4.conc.led.len.symm.trans hlen
    obtain⟨c6,h3⟩:=p5.st.cut h1 (hlen▸p5.step.len (Nat.le_of_eq hl4.symm))
    have at4:ItAt G A w4 wr en src' it:=at3.keep P4.per.toPerD (fun k i a _ e=>by rw[P4.ads];exact e) fun b hb o e=>P4.keep b o e fun q=>c3.op b q (by rw[P3.prot];exact hwp b hb)
    have at5:ItAt G A w5 wr en src' it:=at4.keep p5.step.perD (fun k i a _ e=>p5.step.refs k a (hl4▸(List.getElem?_eq_some_iff.mp e).1) e) fun b hb o e=>p5.step.prots b o (by rw[IL4.prot];exact List.mem_append_left _ hb) e
    exact⟨k,Nat.lt_succ_self _,_,_,_,src',c6,IL5.cut (hlen▸hn),h3.trans hlen,at5.keep (cutD w5 _) (fun k i a hs e=>by
     subst hs
     exact(List.getElem?_take_of_lt (by rw[hlen,←hl4];exact at4.lt)).trans e) fun b _ o e=>e,h2⟩
   | ret u=>
    obtain⟨val,rfl,r⟩:=p5.fl
    obtain⟨co,Po⟩:=p5.st.conc.out (At.refl wr w5) IL5.prot hce hnp
    exact kk ((loopOnW e5).2 u rfl) ⟨⟨co,p5.st.heap⟩,IL5.out,val,rfl,r.per Po⟩
end
end
section
section
variable{G:Gl}{C:Ct}{A:Around}{env:Env}{cx:Cx}{w wc wc' w1:Wd}{loc:Loc}{led led':Led}{s:Shared}{own:List Addr}{mu:List Nat}{wr:List Addr}{n₀ n:Nat}
theorem DRs.erase{w:Wd}:∀ {xs:List D} {vs:List Value} (j:Nat),DRs w xs vs→DRs w (xs.eraseIdx j) (vs.eraseIdx j)
 | [],[],_,_=>trivial
 | [],_::_,_,h=>h.elim
 | _::_,[],_,h=>h.elim
 | _::_,_::_,0,h=>h.2
 | _::_,_::_,j+1,h=>⟨h.1,h.2.erase j⟩
theorem eraseIf{vs:Array Value}{j:Nat}:(vs.eraseIdxIfInBounds j).toList=vs.toList.eraseIdx j:=by
 obtain⟨l⟩:=vs
 unfold Array.eraseIdxIfInBounds
 split
 ·simp
 ·rename_i h
  simp only[List.size_toArray,Nat.not_lt] at h
  simp [List.eraseIdx_of_length_le h]
theorem nameW{x:Nat}{v:V}(e:get loc x=some v):(evE cx (.name x) loc led).elim False fun p=>p=(v,led):=by
 show ((get loc x).map fun v=>(v,led)).elim False _
 rw[e];rfl
theorem refW{k:Nat}{val:Value}{K:List D→Prop}(c:St G C A env w loc led s)(r:VR G w (.ref k) val)(e:((led[k]?).bind O.list?).elim False K) :
  ∃ a vs xs n,val=.ref a∧w.ads[k]?=some a∧IsL w.h a vs∧s.heap.get? a=some { cls:=.type "list",data:=.seq vs n }∧DRs w xs vs.toList∧K xs:=by
 obtain⟨o,h,e1⟩:=isW (bindW e)
 obtain⟨xs,rfl,e2⟩:=O.listW e1
 obtain⟨a,rfl,ha⟩:=r
 obtain⟨b,hb,vs,i,d⟩:=c.conc.led.get h
 obtain rfl:=Option.some.inj (ha.symm.trans hb)
 obtain⟨n,ho⟩:=id i
 exact⟨a,vs,xs,n,rfl,ha,i,c.heap.1▸ho,d,e2⟩
theorem SSo.delx{x:Nat}{i:E}{oe ie:Expr}{p pos:Pos}(ho:SE G C A env cx (.name x) oe)(hi:SE G C A env cx i ie):SSo G C A env cx own mu (.delx x i) (.Delete [.Subscript oe ie p] pos):=fun {w loc led s n₀ K Q} c _ hn e kk=>by
 obtain⟨u,e1,e2⟩:=isW (bindW e)
 obtain⟨k,rfl,e3⟩:=V.refW (bindW e2)
 refine wpAny_Delete (wpAny_deleteEach_cons (wpAny_delete_Subscript (ho c (nameW e1) fun {q ov s1 w1} eq p1=>?_)))
 subst eq
 refine hi (p1.st c) (bindW e3) fun {q iv s2 w2} e4 p2=>?_
 have c2:=p2.st (p1.st c)
 obtain⟨z,hz,e5⟩:=V.intW (bindW e4)
 have pv:=p2.val
 rw[hz] at pv
 obtain⟨t,rfl⟩:=pv
 obtain⟨a,vs,xs,n,rfl,ha,il,ho',d,e6⟩:=refW c2 (p1.val.per p2.stp.per) (bindW e5)
 obtain⟨⟨h1,h2⟩,e7⟩:=gdW (mapW e6)
 obtain⟨j,hj,e8⟩:=isW e7
 have hfit:Builtin.List.listFitsIndex z=true:=by
  rcases h1 with rfl | rfl <;> rfl
 refine PySem.P.delItem_list (n:=n) ho' hfit (d.size▸hj) ?_ (d.size▸capLine h2)
 have p3:=c2.upd (s':={ s2 with heap:=s2.heap.update a (Obj.mapSeq fun xs=>xs.eraseIdxIfInBounds j) }) (g:=fun xs=>xs.eraseIdxIfInBounds j) (xs:=xs.eraseIdx j) ha il ⟨rfl,rfl,rfl⟩ (by rw[eraseIf];exact d.erase j)
 exact wpAny_deleteEach_nil (kk e8 (((p1.trans p2).trans p3).nx c))
theorem SSo.assignComp{x:Nat}{elt:E}{t:T}{k:IK}{its conds:List E}{caps:List Nat}{xe xt iter:Expr}{ifs:List Expr}{scope:Scope}{pos pos' spos:Pos}{en:Bool}{id:Str}
  (hset:(match iter with | .Set _ _ _=>false | _=>true)=true) (hfl:FnOk own env) (hx:isT C env.scope true (.name x) (.Name id pos')=true) (hs:swapsWith (.ListComp xe [⟨xt,iter,ifs,0⟩] scope pos) (some (.Name id pos')) spos.line env=pure true)
  (hok:compOk env.scope scope=true) (ht:isT C (relab env.scope scope) false t xt=true) (hen:en=true→∃ es k pos,xt=.Tuple es k pos)
  (hcap:∀ x∈caps,scope.names.lookup (C.nm x)=some .free) (hdis:∀ x∈caps,x ∉ tNames t) (hi:SI G C A env cx k its iter en)
  (hc:∀ cenv:Env,cenv.scope=relab env.scope scope→STs G C A cenv cx conds ifs) (he:∀ cenv:Env,cenv.scope=relab env.scope scope→SE G C A cenv cx elt xe) :
  SSo G C A env cx own mu (.assign (.name x) (.comp elt t k its conds caps)) (.Assign [.Name id pos'] (.ListComp xe [⟨xt,iter,ifs,0⟩] scope pos) spos):=fun {w loc led s n₀ K Q} c ho hn e kk=>by
 obtain⟨hxn,hid,hst⟩:=isName_store rfl hfl hx
 obtain rfl:id=C.nm x:=Option.some.inj hid
 rw[exec_Assign_Name_used (hs:=hs)]
 refine wpAny_bind (wpAny_standAt ?_)
 rw[arm_evalThenUse_ListComp]
 refine wpAny_bind (wpAny_bind (comp_eval (Q:=fun _ s=>wpAny (Mo G) A (pure ()) (fun _ s=>wpAny (Mo G) A (pure Flow.next) Q NoE s) NoE s) (pos':=firstIterPos [⟨xt,iter,ifs,0⟩] pos) hok hset ht hen hcap hdis hi hc he c (bindW e) fun {w1 D L ledF s'} e1 X=>?_))
 have ex1:∀ {b o},w.h.get? b=some o→b ∉ w.ads→w1.h.get? b=some o∧b ∉ w1.ads:=fun e n=>X.stp.keep _ _ e n
 have kp:∀ {b o},w.h.get? b=some o→b ∉ w.ads→s'.heap.get? b=some o∧b ∉ w1.ads++[D]:=fun e n=>⟨X.keep (ex1 e n).1 (ex1 e n).2,not_last X.fD (ex1 e n).1 (ex1 e n).2⟩
 have neL:∀ {b o},w.h.get? b=some o→b ∉ w.ads→b ∉ [L]:=fun e n q=>by
  obtain rfl:=mem1 q
  exact nomatch X.fL.symm.trans (ex1 e n).1
 have exn:∀ {b},b∈w.own∨b∈w.prot→(∃ o,s'.heap.get? b=some o)∧b ∉ w1.ads++[D]∧b ∉ [L]:=fun h=>
  let ⟨o,q⟩:=c.conc.ownex _ h
  have n:=c.conc.sep _ h
  ⟨⟨o,(kp q n).1⟩,(kp q n).2,neL q n⟩
 have pre:w.ads <+: w1.ads++[D]:=X.stp.pre.trans (List.prefix_append _ _)
 have hlu:ORs G ⟨s'.heap,w.own,[L]++w.prot,w1.ads++[D]⟩ ledF (w1.ads++[D]):=X.stp.own▸X.led (fun _ _ _ e=>e) fun b m=>(List.mem_append.mp m).elim (fun m=>.inr (mem1 m)) fun m=>.inl (X.stp.prot.symm▸m)
 have P:Per w ⟨s'.heap,w.own,[L]++w.prot,w1.ads++[D]⟩:={ st:=fun b o e hs=>⟨(kp e hs.2.2).1,hs.1,fun m=>(List.mem_append.mp m).elim (neL e hs.2.2) hs.2.1,(kp e hs.2.2).2⟩,ref:=fun k a e=>pre_get pre e }
 obtain⟨mL,oL,esL,epL,hoL,rL⟩:=X.ns
 have cu:Conc G C A ⟨s'.heap,w.own,[L]++w.prot,w1.ads++[D]⟩ env loc ledF:=c.conc.to P.toPerD (fun _ e n=>kp e n) _root_.id (fun _ m=>m.imp _root_.id (List.mem_append_right _)) (fun _ r=>r.per P) hlu X.nd
  (fun a m=>m.elim (fun m=>(exn (.inl m)).2.1) fun m=>(List.mem_append.mp m).elim (fun m=>mem1 m▸X.nL) fun m=>(exn (.inr m)).2.1)
  (fun a m=>m.elim (fun m=>(exn (.inl m)).1) fun m=>(List.mem_append.mp m).elim (fun m=>by obtain rfl:=mem1 m;exact⟨oL,hoL⟩) fun m=>(exn (.inr m)).1)
  fun a ha m=>(List.mem_append.mp m).elim (exn (.inl ha)).2.2 (c.conc.op a ha)
 have F:FW G ⟨s'.heap,w.own,[L]++w.prot,w1.ads++[D]⟩ ledF:=⟨hlu,X.nd,cu.sep⟩
 obtain⟨b,bads,e2,I⟩:=bindN_sound (mu:=mu) (v:=.ref w1.ads.length) F (bind_start c.conc P (fun _ e n=>kp e n) pre F hn) nofun hxn (val:=.ref D) ⟨D,rfl,List.getElem?_concat_length⟩ (mapW e1)
 show wpAny _ _ (assign (.Name (C.nm x) pos') env (.ref D)) _ _ _
 refine wpAny_assign_Name (fin_name cu (StepS.refl n₀ _) I (Grow.refl _) X.rs (hst ho) fun {s2 w2} p2=>?_)
 have hh2:=p2.st.heap
 have S2:=p2.step
 refine⟨mL,⟨oL,esL,epL,hh2.1▸S2.prots L oL (.head _) hoL,rL⟩,fun h' hs'=>wpAny_pure (wpAny_pure ?_)⟩
 have PA:At [L] w2 ⟨h',w2.own,w2.prot,w2.ads⟩:=⟨rfl,rfl,rfl,fun b o e n=>hs'.extBut b o (fun q=>n (q▸.head _)) (hh2.1▸e)⟩
 have IL:InLoop n₀ w [L] ⟨s'.heap,w.own,[L]++w.prot,w1.ads++[D]⟩:=⟨rfl,rfl,fun b o e hs=>kp e hs.2.2,fun b o m e=>(kp e (c.conc.sep b (.inr m))).1,fun k a _ e=>pre_get pre e⟩
 have hfL:∀ b∈[L],w.h.get? b=none:=fun b m=>by
  obtain rfl:=mem1 m
  cases q:w.h.get? b with
  | none=>rfl
  | some o=>
   by_cases n:b∈w.ads
   ·exact absurd (pre.subset n) X.nL
   ·exact absurd m (neL q n)
 exact kk e2 ⟨⟨(p2.st.conc.out PA S2.prot (fun h q=>nomatch (hfL _ q).symm.trans (h.obj c.conc).choose_spec) fun m=>(exn (.inr m)).2.2).1,rfl,hh2.2⟩,((IL.step hfL S2 (Nat.le_refl _)).at_ hfL PA).out,rfl⟩
end
end
section
noncomputable def fullVals(npos:Nat)(vals dv:List Value):List Value:=vals++dv.drop (vals.length+dv.length-npos)
theorem zip_lookup{ps:List Str}(hn:ps.Nodup):∀ {vals:List Value} {i:Nat} {n:Str},ps[i]?=some n→(ps.zip vals).lookup n=vals[i]?:=by
 induction ps with
 | nil=>intro vals i n h;simp at h
 | cons p ps ih=>
  intro vals i n h
  obtain⟨h1,h2⟩:=List.nodup_cons.mp hn
  cases vals with
  | nil=>simp
  | cons v vals=>
   rw[List.zip_cons_cons,List.lookup_cons]
   cases i with
   | zero=>simp at h;subst h;simp
   | succ i=>
    simp only[List.getElem?_cons_succ] at h ⊢
    have:n≠p:=fun q=>h1 (q▸List.mem_of_getElem? h)
    rw[show (n==p)=false by simpa using this]
    exact ih h2 h
theorem zip_lookup_none{ps:List Str}:∀ {vals:List Value} {n:Str},n ∉ ps→(ps.zip vals).lookup n=none:=by
 induction ps with
 | nil=>intro vals n _;simp
 | cons p ps ih=>
  intro vals n h
  cases vals with
  | nil=>simp
  | cons v vals=>
   rw[List.zip_cons_cons,List.lookup_cons]
   rw[show (n==p)=false by simpa using fun (q:n=p)=>h (by rw[q];exact List.mem_cons_self ..)]
   exact ih fun q=>h (List.mem_cons_of_mem _ q)
theorem map_lookup{kwo:List Str}{g:Str→Value}{n:Str}(h:n∈kwo):(kwo.map fun n=>(n,g n)).lookup n=some (g n):=by
 induction kwo with
 | nil=>cases h
 | cons k kwo ih=>
  rw[List.map_cons,List.lookup_cons]
  by_cases q:n=k
  ·subst q;simp
  ·rw[show (n==k)=false by simpa using q]
   exact ih ((List.mem_cons.mp h).resolve_left q)
theorem map_lookup_none{kwo:List Str}{g:Str→Value}{n:Str}(h:n ∉ kwo):(kwo.map fun n=>(n,g n)).lookup n=none:=by
 induction kwo with
 | nil=>rfl
 | cons k kwo ih=>
  rw[List.map_cons,List.lookup_cons,show (n==k)=false by simpa using fun (q:n=k)=>h (by rw[q];exact List.mem_cons_self ..)]
  exact ih fun q=>h (List.mem_cons_of_mem _ q)
theorem sub_eq3{i v p d:Nat}(hv:v≤i)(h2:p≤v+d)(h3:d≤p):i-(p-d)=(v+d-p)+(i-v):=by
 obtain⟨j,rfl⟩:=Nat.exists_eq_add_of_le hv
 obtain⟨e,rfl⟩:=Nat.exists_eq_add_of_le h3
 obtain⟨c,hc⟩:=Nat.exists_eq_add_of_le h2
 obtain rfl:v=e+c:=Nat.add_left_cancel ((Nat.add_comm d v).trans (hc.trans (Nat.add_assoc d e c)))
 rw[hc,Nat.add_sub_cancel_left,Nat.add_sub_cancel_left,Nat.add_sub_cancel_left,Nat.add_assoc,Nat.add_sub_cancel_left]
theorem slots_pos{ps kwo:List Str}{vals dv:List Value}{kwm:Str→Option Value}(hn:(ps++kwo).Nodup)(h2:ps.length≤vals.length+dv.length)(h3:dv.length≤ps.length){i:Nat}{n:Str}(h:ps[i]?=some n) :
  (slotsOf ps kwo vals dv kwm).lookup n=(fullVals ps.length vals dv)[i]?:=by
 obtain⟨n1,n2,n3⟩:=List.nodup_append.mp hn
 unfold slotsOf fullVals
 rw[laidDs_lookup,laidDs_lookup,zip_lookup n1 h,map_lookup_none fun q=>n3 n (List.mem_of_getElem? h) n q rfl,Option.or_none]
 by_cases hv:i<vals.length
 ·rw[List.getElem?_append_left hv,List.getElem?_eq_getElem hv];rfl
 ·have hk:ps.length-dv.length≤i:=Nat.le_trans (Nat.sub_le_iff_le_add.mpr h2) (Nat.not_lt.mp hv)
  rw[List.getElem?_eq_none (Nat.not_lt.mp hv),Option.none_or,List.getElem?_append_right (Nat.not_lt.mp hv),List.getElem?_drop]
  have hd:(ps.drop (ps.length-dv.length))[i-(ps.length-dv.length)]?=some n:=by
   rw[List.getElem?_drop,Nat.add_sub_cancel' hk];exact h
  rw[zip_lookup (n1.sublist (List.drop_sublist _ _)) hd]
  exact congrArg (dv[·]?) (sub_eq3 (Nat.not_lt.mp hv) h2 h3)
theorem slots_kw{ps kwo:List Str}{vals dv:List Value}{kwm:Str→Option Value}(hn:(ps++kwo).Nodup){n:Str}(h:n∈kwo):(slotsOf ps kwo vals dv kwm).lookup n=some ((kwm n).getD .none):=by
 obtain⟨n1,n2,n3⟩:=List.nodup_append.mp hn
 unfold slotsOf
 have hp:n ∉ ps:=fun q=>n3 n q n h rfl
 rw[laidDs_lookup,laidDs_lookup,zip_lookup_none hp,zip_lookup_none fun q=>hp (List.mem_of_mem_drop q),map_lookup h]
 rfl
theorem binds_mem{ps kwo:List Str}{vals dv:List Value}{kwm:Str→Option Value}{n:Str}{v:Value}(h:n∈ps++kwo)(hv:(slotsOf ps kwo vals dv kwm).lookup n=some v):(n,v)∈bindsOf ps kwo vals dv kwm:=by
 unfold bindsOf
 exact List.mem_filterMap.mpr ⟨n,h,by rw[hv];rfl⟩
theorem binds_names{ps kwo:List Str}{vals dv:List Value}{kwm:Str→Option Value}{x:Str × Value}(h:x∈bindsOf ps kwo vals dv kwm):x.1∈ps++kwo:=by
 unfold bindsOf at h
 obtain⟨n,hn,e⟩:=List.mem_filterMap.mp h
 obtain⟨v,_,rfl⟩:=Option.map_eq_some_iff.mp e
 exact hn
theorem binds_nodup{ps kwo:List Str}{vals dv:List Value}{kwm:Str→Option Value}(hn:(ps++kwo).Nodup):((bindsOf ps kwo vals dv kwm).map (·.1)).Nodup:=by
 unfold bindsOf
 generalize slotsOf ps kwo vals dv kwm=sl
 generalize ps++kwo=l0 at *
 induction l0 with
 | nil=>exact .nil
 | cons p l ih=>
  obtain⟨h1,h2⟩:=List.nodup_cons.mp hn
  rw[List.filterMap_cons]
  cases e:sl.lookup p with
  | none=>exact ih h2
  | some v=>
   simp only[Option.map_some,List.map_cons]
   refine List.nodup_cons.mpr ⟨fun q=>h1 ?_,ih h2⟩
   obtain⟨y,hy,rfl⟩:=List.mem_map.mp q
   obtain⟨n,hn',e'⟩:=List.mem_filterMap.mp hy
   obtain⟨v',_,e2⟩:=Option.map_eq_some_iff.mp e'
   rw[←e2];exact hn'
theorem bindL_other{kindOf:Str→Option NameKind}:∀ {l:List (Str × Value)} {m:Str→Option Value} {n:Str},n ∉ l.map (·.1)→bindL kindOf l m n=m n
 | [],_,_,_=>rfl
 | (k,v)::l,m,n,h=>by
  unfold bindL
  rw[bindL_other fun q=>h (List.mem_cons_of_mem _ q)]
  split
  ·have:¬n=k:=fun q=>h (by rw[q];exact List.mem_cons_self ..)
   simp only[this,if_false]
  ·rfl
theorem bindC_other{kindOf:Str→Option NameKind}:∀ {l:List (Str × Value)} {m:Str→Option Value} {n:Str},n ∉ l.map (·.1)→bindC kindOf l m n=m n
 | [],_,_,_=>rfl
 | (k,v)::l,m,n,h=>by
  unfold bindC
  rw[bindC_other fun q=>h (List.mem_cons_of_mem _ q)]
  split
  ·rfl
  ·have:¬n=k:=fun q=>h (by rw[q];exact List.mem_cons_self ..)
   simp only[this,if_false]
theorem bindL_at{kindOf:Str→Option NameKind}:∀ {l:List (Str × Value)} {m:Str→Option Value} {n:Str} {v:Value},(l.map (·.1)).Nodup→(n,v)∈l→kindOf n=some .local→bindL kindOf l m n=some v
 | (k,u)::l,m,n,v,hn,h,hk=>by
  rw[List.map_cons,List.nodup_cons] at hn
  unfold bindL
  rcases List.mem_cons.mp h with h | h
  ·cases h
   rw[if_pos hk,bindL_other hn.1]
   simp
  ·exact bindL_at hn.2 h hk
theorem bindC_at{kindOf:Str→Option NameKind}:∀ {l:List (Str × Value)} {m:Str→Option Value} {n:Str} {v:Value},(l.map (·.1)).Nodup→(n,v)∈l→kindOf n≠some .local→bindC kindOf l m n=some v
 | (k,u)::l,m,n,v,hn,h,hk=>by
  rw[List.map_cons,List.nodup_cons] at hn
  unfold bindC
  rcases List.mem_cons.mp h with h | h
  ·cases h
   rw[if_neg hk,bindC_other hn.1]
   simp
  ·exact bindC_at hn.2 h hk
theorem cellsFrom_keep:∀ (names:List (Str × NameKind)) (k:Nat) (acc:List (Str × Addr)) (p:Str × Addr),p∈acc→p∈cellsFrom k names acc
 | [],_,_,_,h=>h
 | (n,kd)::r,k,acc,p,h=>by
  unfold cellsFrom
  split
  ·exact cellsFrom_keep r _ _ p (List.mem_cons_of_mem _ h)
  ·exact cellsFrom_keep r _ _ p h
theorem cellsFrom_has:∀ (names:List (Str × NameKind)) (k:Nat) (acc:List (Str × Addr)) (x:Str),(x,NameKind.cell)∈names→∃ c,(x,c)∈cellsFrom k names acc
 | [],_,_,_,h=>by cases h
 | (n,kd)::r,k,acc,x,h=>by
  unfold cellsFrom
  rcases List.mem_cons.mp h with h | h
  ·cases h
   rw[if_pos (by rfl)]
   exact⟨k,cellsFrom_keep r _ _ _ (List.mem_cons_self ..)⟩
  ·split
   ·exact cellsFrom_has r _ _ x h
   ·exact cellsFrom_has r _ _ x h
theorem lookup_of_mem{l:List (Str × Addr)}{x:Str}{c:Addr}(h:(x,c)∈l):(l.lookup x).isSome=true:=by
 induction l with
 | nil=>cases h
 | cons p l ih=>
  obtain⟨n,d⟩:=p
  rw[List.lookup_cons]
  by_cases q:x=n
  ·subst q;simp
  ·rw[show (x==n)=false by simpa using q]
   refine ih ((List.mem_cons.mp h).resolve_left fun e=>q (by cases e;rfl))
structure FnHd (nms:List Str) (fn:Fn) (fd:FuncData):Prop where
 glob:fd.globals=mainGlobals
 bi:fd.builtins=builtinsNs
 clo:fd.closure=[]
 kind:fd.scope.kind=.function
 co:fd.scope.isCoroutine=false
 gen:fd.scope.isGenerator=false
 po:fd.params.posonlyargs=[]
 va:fd.params.vararg=none
 kw:fd.params.kwarg=none
 pn:fd.params.args.map (·.arg)=fn.params.map fun x=>nms.getD x Str.empty
 kn:fd.params.kwonlyargs.map (·.arg)=fn.kw.map fun p=>nms.getD p.1 Str.empty
 pk:∀ {x},x∈fn.params++fn.kw.map (·.1)→x<nms.length∧(fd.scope.names.lookup (nms.getD x Str.empty)=some .local∨fd.scope.names.lookup (nms.getD x Str.empty)=some .cell)
 pd:(fn.params++fn.kw.map (·.1)).Nodup
 nf:∀ {x},x∈fd.scope.names→x.2≠.free
structure FnAt (G:Gl) (nms:List Str) (fa:Nat→Addr) (cx:Cx) (fn:Fn) (a:Addr) (o:Obj) (fd:FuncData) (xs:List Stmt) (dv:List Value) (kwm:Str→Option Value):Prop where
 at':G.h₀.get? a=some o
 cls:o.cls=.type "function"
 dat:o.data=.func fd
 hd:FnHd nms fn fd
 bd:fd.body=.stmts xs
 cd:G.h₀.CodeRec fd.code fd.qualname
 df:(fd.defaults=.none∧dv=[])∨∃ T,fd.defaults=.ref T∧G.h₀.IsTuple T dv.toArray
 dr:∀ {w:Wd},DRs w fn.dflt dv
 dl:dv.length≤fn.params.length
 kd:∀ n,(kwm n).isSome=true→∃ d m,fd.kwdefaults=.ref d∧G.h₀.Ns d m∧m n=kwm n
 kv:∀ {p},p∈fn.kw→∃ v,kwm (nms.getD p.1 Str.empty)=some v∧∀ {w:Wd},DR w p.2 v
 run:∀ {lev:Nat} {A:Around} {env:Env} {F:Nat→List V→Led→Option (V × Led)} {own:List Addr},env.scope=fd.scope→FnOk own env→SF G lev F fa→SSs G ⟨nms,lev⟩ A env { cx with F:=F } own fn.mu fn.body xs
def FnFact(G:Gl)(nms:List Str)(fa:Nat→Addr)(cx:Cx)(fn:Fn)(a:Addr):Prop:=∃ o fd xs dv kwm,FnAt G nms fa cx fn a o fd xs dv kwm
section
variable{G:Gl}{C:Ct}{A:Around}{env:Env}{cx:Cx}{w:Wd}{loc:Loc}{led led':Led}{s:Shared}
theorem get_zipP{x:Nat}{v:V}:∀ {ps:List Nat} {vs:List V},get (zipP ps vs) x=some v→∃ i:Nat,ps[i]?=some x∧vs[i]?=some v
 | [],_,h=>nomatch h
 | _::_,[],h=>nomatch h
 | p::ps,u::vs,h=>by
  have h:(if p=x then some u else get (zipP ps vs) x)=some v:=h
  by_cases hp:p=x
  ·rw[if_pos hp] at h;exact⟨0,congrArg some hp,h⟩
  ·rw[if_neg hp] at h
   obtain⟨i,h1,h2⟩:=get_zipP h
   exact⟨i+1,h1,h2⟩
theorem get_append{r:Loc}{x:Nat}{v:V}:∀ {l:Loc},get (l++r) x=some v→get l x=some v∨get r x=some v
 | [],h=>.inr h
 | (y,u)::l,h=>by
  have h:(if y=x then some u else get (l++r) x)=some v:=h
  show (if y=x then some u else get l x)=some v∨_
  by_cases hy:y=x
  ·rw[if_pos hy] at h ⊢;exact .inl h
  ·rw[if_neg hy] at h ⊢;exact get_append h
theorem VRs.get{w:Wd}:∀ {vs:List V} {vals:List Value} {i:Nat} {v:V},VRs G w vs vals→vs[i]?=some v→∃ val,vals[i]?=some val∧VR G w v val
 | [],_,_,_,_,e=>nomatch e
 | _::_,[],_,_,h,_=>h.elim
 | x::l,a::as,0,o,h,e=>⟨a,rfl,Option.some.inj e▸h.1⟩
 | x::l,a::as,k+1,o,h,e=>h.2.get e
theorem DRs.drop{w:Wd}:∀ {ds:List D} {vals:List Value} (n:Nat),DRs w ds vals→DRs w (ds.drop n) (vals.drop n)
 | _,_,0,h=>h
 | [],[],n+1,_=>trivial
 | [],_::_,_+1,h=>h.elim
 | _::_,[],_+1,h=>h.elim
 | _::_,_::_,n+1,h=>h.2.drop n
theorem freezes_sound{wf:Wd}{full:Led}{bads:List Addr}(F:FW G wf full)(hsub:∀ a∈bads,a∈wf.ads){wz:Wd}(hz:∀ {lo},PerD (wf.wx bads lo) wz) :
  ∀ {vs:List V} {vals:List Value} {lo:Nat} {K:List V × Nat→Prop},(bads++wf.ads.drop lo).Nodup→VRs G wf vs vals→(freezes lo full vs).elim False K→∃ vs' lo',K (vs',lo')∧VRs G wz vs' vals
 | [],[],lo,K,hnd,r,e=>⟨_,_,e,trivial⟩
 | [],_::_,_,_,_,r,_=>r.elim
 | _::_,[],_,_,_,r,_=>r.elim
 | v::vs,val::vals,lo,K,hnd,r,e=>by
  obtain⟨v1,lo1,e1,h1,h2,h3⟩:=freeze_sound F hnd hsub r.1 (bindW e)
  have n:=List.nodup_append.mp hnd
  obtain⟨vs',lo',e2,h4⟩:=freezes_sound F hsub hz (List.nodup_append.mpr ⟨n.1,F.nd.sublist (List.drop_sublist _ _),fun c m d md q=>n.2.2 c m d (drop_sub h1 md) q⟩) r.2 (mapW e1)
  exact⟨_,_,e2,h2.mvB hz (h3 0) fun k a hk _=>absurd hk (Nat.not_lt_zero _),h4⟩
structure ResW (G:Gl) (w':Wd) (n₀:Nat) (led:Led) (v:V) (val:Value) (own prot ads:List Addr):Prop where
 sub:∀ {a},a∈ads→a∈w'.ads
 nd:ads.Nodup
 pre:w'.ads.take n₀ <+: ads
 led:ORs G ⟨w'.h,own,prot,ads⟩ led ads
 val:VR G ⟨w'.h,own,prot,ads⟩ v val
theorem resV_sound{w':Wd}{n₀:Nat}{led1:Led}{v:V}{val:Value}{own prot:List Addr}{K:V × Led→Prop}(F:FW G w' led1)(r:VR G w' v val)(hn:n₀≤w'.ads.length)(ho:∀ {b},b∈own→b∈w'.own∨b∈w'.prot)(hp:∀ {b},b∈prot→b∈w'.own∨b∈w'.prot)
  (e:(resV n₀ led1 v).elim False K):∃ p ads,K p∧ResW G w' n₀ p.2 p.1 val own prot ads:=by
 have PD:∀ {ads},(∀ {b},b∈ads→b∈w'.ads)→PerD w' ⟨w'.h,own,prot,ads⟩:=fun h3=>⟨fun b o e hs=>⟨e,fun m=>(ho m).elim hs.1 hs.2.1,fun m=>(hp m).elim hs.1 hs.2.1,fun m=>hs.2.2 (h3 m)⟩⟩
 have tk:∀ {b},b∈w'.ads.take n₀→b∈w'.ads:=List.mem_of_mem_take
 have ndt:(w'.ads.take n₀).Nodup:=F.nd.sublist (List.take_sublist _ _)
 have led0:ORs G ⟨w'.h,own,prot,w'.ads.take n₀⟩ (led1.take n₀) (w'.ads.take n₀):=(F.led.take n₀).moveD (PD tk) fun a _ o e=>e
 have same:∀ {v0:V},VR G w' v0 val→below n₀ v0=true→ResW G w' n₀ (led1.take n₀) v0 val own prot (w'.ads.take n₀):=fun r0 hb=>⟨tk,ndt,List.prefix_rfl,led0,r0.mvB (PD tk) hb fun k a hk e=>(List.getElem?_take_of_lt hk).trans e⟩
 have gen:∀ {k:Nat} {a:Addr} {mk:Nat→V},w'.ads[k]?=some a→(∀ {w2:Wd} {j},PerD w' w2→w2.ads[j]?=some a→VR G w2 (mk j) val)→VR G w' (mk k) val→(∀ {n},k<n→below n (mk k)=true)→(resO n₀ led1 mk k).elim False K→∃ p ads,K p∧ResW G w' n₀ p.2 p.1 val own prot ads:=fun {k a mk} ha hmk rk hb e=>by
  unfold resO at e
  by_cases hk:k<n₀
  ·rw[if_pos hk] at e;exact⟨_,_,e,same rk (hb hk)⟩
  ·rw[if_neg hk] at e
   obtain⟨o,h,e2⟩:=isW (mapW e)
   obtain⟨a',ha',hor⟩:=F.led.get h
   obtain rfl:=Option.some.inj (ha.symm.trans ha')
   have hm:=mem_of_getElem? ha
   have hs:∀ {b},b∈w'.ads.take n₀++[a]→b∈w'.ads:=fun m=>(List.mem_append.mp m).elim tk fun m=>mem1 m▸hm
   have hl:(w'.ads.take n₀).length=n₀:=List.length_take_of_le hn
   refine⟨_,w'.ads.take n₀++[a],e2,hs,List.nodup_append.mpr ⟨ndt,List.nodup_cons.mpr ⟨nofun,.nil⟩,fun b m d md q=>nodup_take F.nd ha (Nat.not_lt.mp hk) (mem1 md▸q▸m)⟩,List.prefix_append _ _,((F.led.take n₀).moveD (PD hs) fun a _ o e=>e).append ⟨hor.moveD (PD hs) fun o e=>e,trivial⟩,hmk (PD hs) ?_⟩
   show (w'.ads.take n₀++[a])[n₀]?=some a
   have h2:(w'.ads.take n₀++[a])[(w'.ads.take n₀).length]?=some a:=List.getElem?_concat_length
   rw[hl] at h2;exact h2
 cases v with
 | d x=>exact⟨_,_,e,same r rfl⟩
 | lst xs=>exact⟨_,_,e,same r rfl⟩
 | dct xs=>exact⟨_,_,e,same r rfl⟩
 | hdr xs=>exact⟨_,_,e,same r rfl⟩
 | ref k=>
  obtain⟨a,ev,ha⟩:=id r
  exact gen (mk:=.ref) ha (fun P h=>⟨a,ev,h⟩) r (fun h=>decide_eq_true h) e
 | hd k=>
  obtain⟨a,b,ev,hh,ha⟩:=id r
  exact gen (mk:=.hd) ha (fun P h=>⟨a,b,ev,hh.perD P,h⟩) r (fun h=>decide_eq_true h) e
 | tup vs=>
  obtain⟨a,us,ev,i,st,d⟩:=r
  obtain⟨vs',lo',e2,h⟩:=freezes_sound (bads:=w'.ads.take n₀) (wz:=⟨w'.h,own,prot,w'.ads.take n₀⟩) F (fun _=>tk) (fun {lo}=>⟨fun b o e hs=>⟨e,fun m=>(ho m).elim hs.1 hs.2.1,fun m=>(hp m).elim hs.1 hs.2.1,fun m=>hs.2.2 (List.mem_append_left _ m)⟩⟩) (by rw[List.take_append_drop];exact F.nd) d (mapW e)
  exact⟨_,_,e2,tk,ndt,List.prefix_rfl,led0,a,us,ev,i,(let ⟨o,ho,_⟩:=i;((PD tk).st a o ho st).2),h⟩
end
end
section
section
variable{G:Gl}{C:Ct}{A:Around}{env:Env}{cx:Cx}{w:Wd}{loc:Loc}{led led':Led}{s:Shared}
noncomputable def ownOf(env:Env):List Addr:=env.locals::env.cells.filterMap fun p=>env.cells.lookup p.1
theorem mem_ownCells{env:Env}{b:Addr}(h:b∈env.cells.filterMap fun p=>env.cells.lookup p.1):∃ y,env.cells.lookup y=some b:=by
 obtain⟨p,_,hp⟩:=List.mem_filterMap.mp h
 exact⟨p.1,hp⟩
theorem ownCells_mem{env:Env}{y:Str}{b:Addr}(h:env.cells.lookup y=some b):b∈env.cells.filterMap fun p=>env.cells.lookup p.1:=
 List.mem_filterMap.mpr ⟨(y,b),mem_of_lookup h,h⟩
structure Fresh (w:Wd) (env:Env) (sc:Scope) (m:Str→Option Value) (h':Heap):Prop where
 keep:∀ {b o},w.h.get? b=some o→h'.get? b=some o
 fresh:∀ {b},b∈ownOf env→w.h.get? b=none
 ex:∀ {b},b∈ownOf env→∃ o,h'.get? b=some o
 cell:∀ {y},sc.names.lookup y=some .cell→∃ c,env.cells.lookup y=some c∧h'.IsCell c (m y)∧c∈ownOf env∧c≠env.locals
 inj:∀ {y z c},env.cells.lookup y=some c→env.cells.lookup z=some c→y=z
theorem fresh_of{sc:Scope}{g:Addr}{q:Str}{f:Option Addr}{cd:Value}{b:Addr}{m cm:Str→Option Value}{s':Shared}(hh:w.h=s.heap)(henv:env=newEnv sc s.heap.objs.size g (cellsFrom (s.heap.objs.size+1) sc.names []) q f cd none b)
  (x:InCallC s env.locals m env.cells cm s'):Fresh w env sc cm s'.heap:=by
 have hloc:env.locals=s.heap.objs.size:=by rw[henv];rfl
 have hcells:env.cells=cellsFrom (s.heap.objs.size+1) sc.names []:=by rw[henv];rfl
 refine⟨fun e=>x.toInCall.keep _ _ (hh▸e),fun {b} hb=>?_,fun {b} hb=>?_,fun {y} hy=>?_,fun l1 l2=>name_of_addr x.apart (mem_of_lookup l1) (mem_of_lookup l2)⟩
 ·cases q:w.h.get? b with
  | none=>rfl
  | some o=>
   rw[hh] at q
   have hlt:=Heap.lt_size q
   rcases List.mem_cons.mp hb with hb | hb
   ·exact absurd (hloc▸hb▸hlt) (Nat.lt_irrefl _)
   ·obtain⟨y,hy⟩:=mem_ownCells hb
    exact absurd hlt (Nat.not_lt.mpr (Nat.le_of_lt (hloc▸x.above y b (mem_of_lookup hy))))
 ·rcases List.mem_cons.mp hb with hb | hb
  ·obtain⟨o,_,_,ho,_⟩:=x.toInCall.ns;exact⟨o,hb▸ho⟩
  ·obtain⟨y,hy⟩:=mem_ownCells hb
   exact(x.cell y b hy).imp fun _ h=>h.1
 ·obtain⟨c,hc⟩:=cellsFrom_has sc.names (s.heap.objs.size+1) [] y (lookup_mem hy)
  obtain⟨c',hc'⟩:=Option.isSome_iff_exists.mp (lookup_of_mem hc)
  rw[←hcells] at hc'
  exact⟨c',hc',x.cell y c' hc',.tail _ (ownCells_mem hc'),Nat.ne_of_gt (x.above y c' (mem_of_lookup hc'))⟩
noncomputable def locOf(fn:Fn)(as:List V):Loc:=zipP fn.params (as++(fn.dflt.drop (as.length+fn.dflt.length-fn.params.length)).map .d)++fn.kw.map fun p=>(p.1,.d p.2)
theorem FnHd.nodup{nms:List Str}{fn:Fn}{fd:FuncData}(H:FnHd nms fn fd)(hn:nms.Nodup):(fd.params.args.map (·.arg)++fd.params.kwonlyargs.map (·.arg)).Nodup:=by
 have e:fn.params.map (fun x=>nms.getD x Str.empty)++fn.kw.map (fun p=>nms.getD p.1 Str.empty)=(fn.params++fn.kw.map (·.1)).map fun x=>nms.getD x Str.empty:=by
  rw[List.map_append,List.map_map];rfl
 rw[H.pn,H.kn,e,List.Nodup,List.pairwise_map]
 exact(List.Pairwise.and_mem.mp H.pd).imp fun {y z} h q=>h.2.2 (getD_inj hn (H.pk h.1).1 (H.pk h.2.1).1 q)
theorem FnHd.mem{nms:List Str}{fn:Fn}{fd:FuncData}(H:FnHd nms fn fd){y:Nat}(hy:y∈fn.params++fn.kw.map (·.1)):nms.getD y Str.empty∈fd.params.args.map (·.arg)++fd.params.kwonlyargs.map (·.arg):=by
 rw[H.pn,H.kn]
 rcases List.mem_append.mp hy with hy | hy
 ·exact List.mem_append_left _ (List.mem_map.mpr ⟨y,hy,rfl⟩)
 ·obtain⟨p,hp,rfl⟩:=List.mem_map.mp hy
  exact List.mem_append_right _ (List.mem_map.mpr ⟨p,hp,rfl⟩)
theorem enter{lev:Nat}{nms:List Str}{fn:Fn}{fa:Nat→Addr}{a:Addr}{o:Obj}{fd:FuncData}{xs:List Stmt}{as:List V}{vals dv:List Value}{kwm:Str→Option Value}{binds:List (Str × Value)}{s':Shared}{q:Str}{f:Option Addr}{cd:Value}(B:Base G (lev+1) A w led)(hh:Hp G w s)(r:VRs G w as vals)
  (hnms:nms.Nodup) (H:FnAt G nms fa cx fn a o fd xs dv kwm) (ha:fn.params.length≤as.length+fn.dflt.length) (hbinds:binds=bindsOf (fd.params.args.map (·.arg)) (fd.params.kwonlyargs.map (·.arg)) vals dv kwm) (env:Env)
  (henv:env=newEnv fd.scope s.heap.objs.size fd.globals (cellsFrom (s.heap.objs.size+1) fd.scope.names []) q f cd none fd.builtins)
  (x:InCallC s env.locals (bindL env.kindOf binds fun _=>none) env.cells (bindC env.kindOf binds fun _=>none) s') :
  Conc G ⟨nms,lev⟩ (A.deeper env) ⟨s'.heap,ownOf env,w.own++w.prot,w.ads⟩ env (locOf fn as) led∧FnOk (ownOf env) env∧env.scope=fd.scope∧Fresh w env fd.scope (bindC env.kindOf binds fun _=>none) s'.heap:=by
 have X:=fresh_of hh.1 henv x
 have hscope:env.scope=fd.scope:=by rw[henv];rfl
 have hkind:∀ {y k},fd.scope.names.lookup y=some k→env.kindOf y=some k:=fun h=>by unfold Env.kindOf;rw[hscope];exact h
 have hkind':∀ {y},env.kindOf y=some .cell∨env.kindOf y=some .free→fd.scope.names.lookup y=some .cell:=fun h=>by
  unfold Env.kindOf at h
  rw[hscope] at h
  exact h.resolve_right fun q=>H.hd.nf (lookup_mem q) rfl
 have P:Per w ⟨s'.heap,ownOf env,w.own++w.prot,w.ads⟩:=
  { st:=fun b o e hs=>⟨X.keep e,(fun m=>nomatch (X.fresh m).symm.trans e),(fun m=>(List.mem_append.mp m).elim hs.1 hs.2.1),hs.2.2⟩,ref:=fun _ _ e=>e }
 have sepo:∀ {b},b∈ownOf env→b ∉ w.ads:=fun hb m=>
  let ⟨o,ho⟩:=B.led.obj _ m
  nomatch (X.fresh hb).symm.trans ho
 have hdd:fn.dflt.length=dv.length:=(H.dr (w:=w)).len
 have hps:(fd.params.args.map (·.arg)).length=fn.params.length:=by rw[H.hd.pn,List.length_map]
 have hnd:=H.hd.nodup hnms
 have nameAt:∀ {y v},y∈fn.params++fn.kw.map (·.1)→(slotsOf (fd.params.args.map (·.arg)) (fd.params.kwonlyargs.map (·.arg)) vals dv kwm).lookup (nms.getD y Str.empty)=some v →
   NameIs ⟨s'.heap,ownOf env,w.own++w.prot,w.ads⟩ env (nms.getD y Str.empty) v:=fun {y v} hy hv=>by
  have hb':(nms.getD y Str.empty,v)∈binds:=by rw[hbinds];exact binds_mem (H.hd.mem hy) hv
  have hbn:(binds.map (·.1)).Nodup:=by rw[hbinds];exact binds_nodup hnd
  rcases (H.hd.pk hy).2 with hkd | hkd
  ·exact .inl ⟨hkind hkd,_,x.toInCall.ns,bindL_at hbn hb' (hkind hkd),sepo (.head _)⟩
  ·obtain⟨c,l,i,m,_⟩:=X.cell hkd
   rw[bindC_at hbn hb' (by rw[hkind hkd];exact nofun)] at i
   exact .inr ⟨.inl (hkind hkd),c,l,i,sepo m⟩
 refine⟨{
  keep:=fun b o e=>P.st b o (B.keep b o e).1 (B.keep b o e).2
  glob:=B.glob
  nolim:=B.nolim
  handled:=B.handled
  depth:=by
   have:=B.depth
   show A.depth+1+4*lev+8≤900
   (revert this;exact z2 0xffc210709645424b86a0a528a07096454350d09705280)
  units:=by
   have:=B.units
   show A.units+3+64*lev+64≤9000
   (revert this;exact z2 0x3ff085194580205822068750529452328b0040b06a1a081a05280)
  frame:={
   kind:=by rw[hscope];exact H.hd.kind
   globals:=by rw[henv];exact H.hd.glob
   builtins:=by rw[henv];exact H.hd.bi
   ns:=⟨_,x.toInCall.ns⟩
   lin:=.head _
   cells:=fun y hy=>let ⟨c,l,i,m,n⟩:=X.cell (hkind' hy);⟨c,_,l,i,.inl m,n⟩
   inj:=fun y z c _ _ l1 l2=>X.inj l1 l2 }
  locs:=fun y v e=>by
   rcases get_append e with e | e
   ·obtain⟨i,h1,h2⟩:=get_zipP e
    have hy:y∈fn.params++fn.kw.map (·.1):=List.mem_append_left _ (List.mem_of_getElem? h1)
    have rf:VRs G w (as++(fn.dflt.drop (as.length+fn.dflt.length-fn.params.length)).map .d) (fullVals fn.params.length vals dv):=by
     unfold fullVals
     rw[←r.len,←hdd]
     exact r.append ((H.dr.drop _).vrs)
    obtain⟨val,hv1,hv2⟩:=rf.get h2
    refine⟨(H.hd.pk hy).1,val,nameAt hy ?_,hv2.per P⟩
    have hi:(fd.params.args.map (·.arg))[i]?=some (nms.getD y Str.empty):=by rw[H.hd.pn,List.getElem?_map,h1];rfl
    rw[slots_pos hnd (by rw[hps,←r.len,←hdd];exact ha) (by rw[hps];exact H.dl) hi,hps]
    exact hv1
   ·obtain⟨p,hp,he⟩:=List.mem_map.mp (get_mem e)
    obtain rfl:p.1=y:=congrArg Prod.fst he
    obtain rfl:V.d p.2=v:=congrArg Prod.snd he
    obtain⟨v0,hv1,hv2⟩:=H.kv hp
    have hy:p.1∈fn.params++fn.kw.map (·.1):=List.mem_append_right _ (List.mem_map.mpr ⟨p,hp,rfl⟩)
    refine⟨(H.hd.pk hy).1,v0,nameAt hy ?_,hv2⟩
    rw[slots_kw hnd (by rw[H.hd.kn];exact List.mem_map.mpr ⟨p,hp,rfl⟩),hv1];rfl
  led:=B.led.move P fun a _ o e=>X.keep e
  nd:=B.nd
  sep:=fun b hb=>hb.elim sepo fun hb=>B.sep b (List.mem_append.mp hb)
  ownex:=fun b hb=>hb.elim X.ex fun hb=>(B.ownex b (List.mem_append.mp hb)).imp fun o ho=>X.keep ho
  inj:=hnms
  op:=fun b hb m=>
   let ⟨o,ho⟩:=B.ownex b (List.mem_append.mp m)
   nomatch (X.fresh hb).symm.trans ho },fun y hy=>?_,hscope,X⟩
 obtain⟨c,l,_,m,_⟩:=X.cell (hkind' (.inl hy))
 exact⟨c,l,m⟩
theorem take_eq_of_refs{l r:List Addr}(h:∀ k a,k<l.length→l[k]?=some a→r[k]?=some a):r.take l.length=l:=by
 apply List.ext_getElem?
 intro k
 by_cases hk:k<l.length
 ·rw[List.getElem?_take_of_lt hk,List.getElem?_eq_getElem hk]
  exact h k _ hk (List.getElem?_eq_getElem hk)
 ·rw[List.getElem?_eq_none (Nat.le_trans (List.length_take_le _ _) (Nat.not_lt.mp hk)),List.getElem?_eq_none (Nat.not_lt.mp hk)]
noncomputable def retOf(f:Flow):Value:=match f with
 | .ret v=>v
 | _=>.none
theorem runF_step{nms:List Str}{fa:Nat→Addr}{fns:List Fn}{lev:Nat}(hn:nms.Nodup)(H:∀ f fn,fns[f]?=some fn→FnFact G nms fa cx fn (fa f))(ih:SF G lev (runF fns cx lev) fa):SF G (lev+1) (runF fns cx (lev+1)) fa:=fun {A w led f vs vals s K Q} B hh r e kk=>by
 obtain⟨fn,ef,e1⟩:=isW (bindW e)
 obtain⟨o,fd,xs,dv,kwm,F⟩:=H f fn ef
 obtain⟨⟨ha1,ha2⟩,e2⟩:=gdW (bindW e1)
 have keep0:∀ b o,G.h₀.get? b=some o→s.heap.get? b=some o:=fun b o e=>hh.1▸(B.keep b o e).1
 have hps:fd.params.args.length=fn.params.length:=by
  have:=congrArg List.length F.hd.pn
  rwa [List.length_map,List.length_map] at this
 have hdd:fn.dflt.length=dv.length:=(F.dr (w:=w)).len
 have hpar:fd.params=⟨[],fd.params.args,none,fd.params.kwonlyargs,fd.params.kw_defaults,none,fd.params.defaults⟩:=by
  have h1:=F.hd.po;have h2:=F.hd.va;have h3:=F.hd.kw
  generalize fd.params=p at h1 h2 h3 ⊢
  obtain⟨a1,a2,a3,a4,a5,a6,a7⟩:=p
  obtain rfl:a1=[]:=h1
  obtain rfl:a3=none:=h2
  obtain rfl:a6=none:=h3
  rfl
 refine wpAny_call (codeAny_call_function (o:=o) (fd:=fd) (by have:=B.depth;unfold recursionLimit;(revert this;exact z2 0x3ff0841f4580b07096454350d09705280)) (keep0 _ _ F.at') F.dat F.hd.co F.hd.gen F.bd (F.cd.keeps keep0) ?_)
 refine bindsTo_plain (s:=s) (vals:=vals) (kwm:=kwm) (dv:=dv) hpar (F.df.imp id fun ⟨T,e1,e2⟩=>⟨T,e1,IsTuple_get e2 fun o=>keep0 _ o⟩) (fun n h=>let ⟨d,m,e1,e2,e3⟩:=F.kd n h;⟨d,m,e1,Ns_get e2 fun o=>keep0 _ o,e3⟩)
  (fun n h=>by
   rw[F.hd.kn] at h
   obtain⟨p,hp,rfl⟩:=List.mem_map.mp h
   obtain⟨v,e1,_⟩:=F.kv hp
   rw[e1];rfl)
  (by rw[hps,←r.len];exact ha1) (by rw[hps,←r.len,←hdd];exact ha2) (by rw[hps];exact F.dl) _ _ _ _ ?_
 rw[F.hd.clo]
 refine wpAny_newFunctionEnv_cells F.hd.kind (fun x hx=>?_) (fun env henv s' x=>?_)
 ·have hm:=binds_names hx
  have:∃ y,y∈fn.params++fn.kw.map (·.1)∧nms.getD y Str.empty=x.1:=by
   rw[F.hd.pn,F.hd.kn] at hm
   rcases List.mem_append.mp hm with hm | hm
   ·exact(List.mem_map.mp hm).imp fun y h=>⟨List.mem_append_left _ h.1,h.2⟩
   ·obtain⟨p,hp,e⟩:=List.mem_map.mp hm
    exact⟨p.1,List.mem_append_right _ (List.mem_map.mpr ⟨p,hp,rfl⟩),e⟩
  obtain⟨y,hy,e⟩:=this
  rw[←e]
  exact(F.hd.pk hy).2.imp id fun h=>⟨h,let ⟨c,hc⟩:=cellsFrom_has fd.scope.names (s.heap.objs.size+1) [] _ (lookup_mem h);lookup_of_mem hc⟩
 ·refine⟨(B.nolim.keeps keep0).keeps x.toInCall.keep,codeAny_func ?_⟩
  obtain⟨cc,hfo,hsc,X⟩:=enter B hh r hn F ha2 rfl env henv x
  have hs':Rs G s':=by obtain⟨h2,tk2,e2⟩:=x.toInCall.same;rw[e2];exact hh.2
  refine wpAny_mono (F.run hsc hfo ih (K:=fun r=>(resV led.length r.2.2 r.1.val).elim False K) (Q:=fun f s'=>Q (retOf f) s') ⟨cc,rfl,hs'⟩ rfl (Nat.le_refl _) (bindW e2) fun {r f2 s2 w'} e3 p=>?_) (fun f s2 h=>?_) fun _ _ x=>x.elim
  ·have S:=p.step
   have hlen:led.length=w.ads.length:=B.led.len
   have htk:w'.ads.take led.length=w.ads:=by
    rw[hlen]
    exact take_eq_of_refs fun k a hk e=>S.refs k a (hlen▸hk) e
   have kept:∀ {b o},w.h.get? b=some o→b ∉ w.ads→w'.h.get? b=some o∧b ∉ w'.ads:=fun {b o} eb hb=>by
    have e1:=X.keep eb
    by_cases hm:b∈w.own++w.prot
    ·exact⟨S.prots b o hm e1,p.st.conc.sep b (.inr (by rw[S.prot];exact hm))⟩
    ·exact S.keep b o e1 ⟨fun m=>(nomatch (X.fresh m).symm.trans eb),hm,hb⟩
   have hn0:led.length≤w'.ads.length:=by
    have:=congrArg List.length htk
    rw[List.length_take,←hlen] at this
    exact Nat.le_trans (Nat.le_of_eq this.symm) (Nat.min_le_right _ _)
   have hv:∃ val,retOf f2=val∧VR G w' r.1.val val:=by
    obtain⟨fl,l,d⟩:=r
    cases fl with
    | nx=>exact⟨_,rfl,by obtain rfl:=p.fl;exact rfl⟩
    | ret v=>obtain⟨val,rfl,h⟩:=p.fl;exact⟨val,rfl,h⟩
   obtain⟨val,hval,rv⟩:=hv
   obtain⟨q,ads,e4,Z⟩:=resV_sound (own:=w.own) (prot:=w.prot) ⟨p.st.conc.led,p.st.conc.nd,p.st.conc.sep⟩ rv hn0 (fun m=>.inr (by rw[S.prot];exact List.mem_append_left _ m)) (fun m=>.inr (by rw[S.prot];exact List.mem_append_right _ m)) e3
   rw[hval]
   exact kk (w':=⟨w'.h,w.own,w.prot,ads⟩) e4 ⟨⟨p.st.heap.1,p.st.heap.2⟩,⟨rfl,rfl,htk▸Z.pre,fun b o eb hb=>⟨(kept eb hb).1,fun m=>(kept eb hb).2 (Z.sub m)⟩⟩,Z.led,Z.nd,Z.val⟩
  ·exact h
theorem runF_sound{nms:List Str}{fa:Nat→Addr}{fns:List Fn}(hn:nms.Nodup)(H:∀ f fn,fns[f]?=some fn→FnFact G nms fa cx fn (fa f)):∀ k,SF G k (runF fns cx k) fa
 | 0=>fun _ _ _ e _=>e.elim
 | lev+1=>runF_step hn H (runF_sound hn H lev)
end
end
section
set_option genInjectivity false
set_option genSizeOf false
noncomputable def onBool(x:Expr)(f:BoolOp→List Expr→Pos→Bool):Bool:=dite (x.ctorIdx=0) (fun h=>Expr.BoolOp.elim (motive_1:=fun _=>Bool) x h f) fun _=>false
@[elab_as_elim] theorem onBoolK {x:Expr} {f:BoolOp→List Expr→Pos→Bool} {P:Expr→Prop} (h:onBool x f=true) (k:∀ op xs p,f op xs p=true→P (.BoolOp op xs p)):P x:=by
 unfold onBool at h
 by_cases q:x.ctorIdx=0
 ·rw[dif_pos q] at h
  exact Expr.BoolOp.elim (motive_1:=fun x=>∀ q:x.ctorIdx=0,Expr.BoolOp.elim (motive_1:=fun _=>Bool) x q f=true→P x) x q (fun op xs p _=>k op xs p) q h
 ·rw[dif_neg q] at h
  exact Bool.noConfusion h
noncomputable def onBin(x:Expr)(f:Expr→Operator→Expr→Pos→Bool):Bool:=dite (x.ctorIdx=2) (fun h=>Expr.BinOp.elim (motive_1:=fun _=>Bool) x h f) fun _=>false
@[elab_as_elim] theorem onBinK {x:Expr} {f:Expr→Operator→Expr→Pos→Bool} {P:Expr→Prop} (h:onBin x f=true) (k:∀ l op r p,f l op r p=true→P (.BinOp l op r p)):P x:=by
 unfold onBin at h
 by_cases q:x.ctorIdx=2
 ·rw[dif_pos q] at h
  exact Expr.BinOp.elim (motive_1:=fun x=>∀ q:x.ctorIdx=2,Expr.BinOp.elim (motive_1:=fun _=>Bool) x q f=true→P x) x q (fun l op r p _=>k l op r p) q h
 ·rw[dif_neg q] at h
  exact Bool.noConfusion h
noncomputable def onUn(x:Expr)(f:UnaryOp→Expr→Pos→Bool):Bool:=dite (x.ctorIdx=3) (fun h=>Expr.UnaryOp.elim (motive_1:=fun _=>Bool) x h f) fun _=>false
@[elab_as_elim] theorem onUnK {x:Expr} {f:UnaryOp→Expr→Pos→Bool} {P:Expr→Prop} (h:onUn x f=true) (k:∀ op y p,f op y p=true→P (.UnaryOp op y p)):P x:=by
 unfold onUn at h
 by_cases q:x.ctorIdx=3
 ·rw[dif_pos q] at h
  exact Expr.UnaryOp.elim (motive_1:=fun x=>∀ q:x.ctorIdx=3,Expr.UnaryOp.elim (motive_1:=fun _=>Bool) x q f=true→P x) x q (fun op y p _=>k op y p) q h
 ·rw[dif_neg q] at h
  exact Bool.noConfusion h
noncomputable def onIte(x:Expr)(f:Expr→Expr→Expr→Pos→Bool):Bool:=dite (x.ctorIdx=5) (fun h=>Expr.IfExp.elim (motive_1:=fun _=>Bool) x h f) fun _=>false
@[elab_as_elim] theorem onIteK {x:Expr} {f:Expr→Expr→Expr→Pos→Bool} {P:Expr→Prop} (h:onIte x f=true) (k:∀ c l r p,f c l r p=true→P (.IfExp c l r p)):P x:=by
 unfold onIte at h
 by_cases q:x.ctorIdx=5
 ·rw[dif_pos q] at h
  exact Expr.IfExp.elim (motive_1:=fun x=>∀ q:x.ctorIdx=5,Expr.IfExp.elim (motive_1:=fun _=>Bool) x q f=true→P x) x q (fun c l r p _=>k c l r p) q h
 ·rw[dif_neg q] at h
  exact Bool.noConfusion h
noncomputable def onLC(x:Expr)(f:Expr→List Comprehension→Scope→Pos→Bool):Bool:=dite (x.ctorIdx=8) (fun h=>Expr.ListComp.elim (motive_1:=fun _=>Bool) x h f) fun _=>false
@[elab_as_elim] theorem onLCK {x:Expr} {f:Expr→List Comprehension→Scope→Pos→Bool} {P:Expr→Prop} (h:onLC x f=true) (k:∀ e gs sc p,f e gs sc p=true→P (.ListComp e gs sc p)):P x:=by
 unfold onLC at h
 by_cases q:x.ctorIdx=8
 ·rw[dif_pos q] at h
  exact Expr.ListComp.elim (motive_1:=fun x=>∀ q:x.ctorIdx=8,Expr.ListComp.elim (motive_1:=fun _=>Bool) x q f=true→P x) x q (fun e gs sc p _=>k e gs sc p) q h
 ·rw[dif_neg q] at h
  exact Bool.noConfusion h
noncomputable def onCmp(x:Expr)(f:Expr→List CmpOp→List Expr→Pos→Bool):Bool:=dite (x.ctorIdx=15) (fun h=>Expr.Compare.elim (motive_1:=fun _=>Bool) x h f) fun _=>false
@[elab_as_elim] theorem onCmpK {x:Expr} {f:Expr→List CmpOp→List Expr→Pos→Bool} {P:Expr→Prop} (h:onCmp x f=true) (k:∀ l os rs p,f l os rs p=true→P (.Compare l os rs p)):P x:=by
 unfold onCmp at h
 by_cases q:x.ctorIdx=15
 ·rw[dif_pos q] at h
  exact Expr.Compare.elim (motive_1:=fun x=>∀ q:x.ctorIdx=15,Expr.Compare.elim (motive_1:=fun _=>Bool) x q f=true→P x) x q (fun l os rs p _=>k l os rs p) q h
 ·rw[dif_neg q] at h
  exact Bool.noConfusion h
noncomputable def onCall(x:Expr)(f:Expr→List Expr→List Keyword→Pos→Bool):Bool:=dite (x.ctorIdx=16) (fun h=>Expr.Call.elim (motive_1:=fun _=>Bool) x h f) fun _=>false
@[elab_as_elim] theorem onCallK {x:Expr} {f:Expr→List Expr→List Keyword→Pos→Bool} {P:Expr→Prop} (h:onCall x f=true) (k:∀ g xs ks p,f g xs ks p=true→P (.Call g xs ks p)):P x:=by
 unfold onCall at h
 by_cases q:x.ctorIdx=16
 ·rw[dif_pos q] at h
  exact Expr.Call.elim (motive_1:=fun x=>∀ q:x.ctorIdx=16,Expr.Call.elim (motive_1:=fun _=>Bool) x q f=true→P x) x q (fun g xs ks p _=>k g xs ks p) q h
 ·rw[dif_neg q] at h
  exact Bool.noConfusion h
noncomputable def onConst(x:Expr)(f:Const→Nat→Pos→Bool):Bool:=dite (x.ctorIdx=19) (fun h=>Expr.Constant.elim (motive_1:=fun _=>Bool) x h f) fun _=>false
@[elab_as_elim] theorem onConstK {x:Expr} {f:Const→Nat→Pos→Bool} {P:Expr→Prop} (h:onConst x f=true) (k:∀ cc i p,f cc i p=true→P (.Constant cc i p)):P x:=by
 unfold onConst at h
 by_cases q:x.ctorIdx=19
 ·rw[dif_pos q] at h
  exact Expr.Constant.elim (motive_1:=fun x=>∀ q:x.ctorIdx=19,Expr.Constant.elim (motive_1:=fun _=>Bool) x q f=true→P x) x q (fun cc i p _=>k cc i p) q h
 ·rw[dif_neg q] at h
  exact Bool.noConfusion h
noncomputable def onAttr(x:Expr)(f:Expr→Str→Pos→Bool):Bool:=dite (x.ctorIdx=20) (fun h=>Expr.Attribute.elim (motive_1:=fun _=>Bool) x h f) fun _=>false
@[elab_as_elim] theorem onAttrK {x:Expr} {f:Expr→Str→Pos→Bool} {P:Expr→Prop} (h:onAttr x f=true) (k:∀ y n p,f y n p=true→P (.Attribute y n p)):P x:=by
 unfold onAttr at h
 by_cases q:x.ctorIdx=20
 ·rw[dif_pos q] at h
  exact Expr.Attribute.elim (motive_1:=fun x=>∀ q:x.ctorIdx=20,Expr.Attribute.elim (motive_1:=fun _=>Bool) x q f=true→P x) x q (fun y n p _=>k y n p) q h
 ·rw[dif_neg q] at h
  exact Bool.noConfusion h
noncomputable def onSub(x:Expr)(f:Expr→Expr→Pos→Bool):Bool:=dite (x.ctorIdx=21) (fun h=>Expr.Subscript.elim (motive_1:=fun _=>Bool) x h f) fun _=>false
@[elab_as_elim] theorem onSubK {x:Expr} {f:Expr→Expr→Pos→Bool} {P:Expr→Prop} (h:onSub x f=true) (k:∀ y z p,f y z p=true→P (.Subscript y z p)):P x:=by
 unfold onSub at h
 by_cases q:x.ctorIdx=21
 ·rw[dif_pos q] at h
  exact Expr.Subscript.elim (motive_1:=fun x=>∀ q:x.ctorIdx=21,Expr.Subscript.elim (motive_1:=fun _=>Bool) x q f=true→P x) x q (fun y z p _=>k y z p) q h
 ·rw[dif_neg q] at h
  exact Bool.noConfusion h
noncomputable def onName(x:Expr)(f:Str→Pos→Bool):Bool:=dite (x.ctorIdx=23) (fun h=>Expr.Name.elim (motive_1:=fun _=>Bool) x h f) fun _=>false
@[elab_as_elim] theorem onNameK {x:Expr} {f:Str→Pos→Bool} {P:Expr→Prop} (h:onName x f=true) (k:∀ n p,f n p=true→P (.Name n p)):P x:=by
 unfold onName at h
 by_cases q:x.ctorIdx=23
 ·rw[dif_pos q] at h
  exact Expr.Name.elim (motive_1:=fun x=>∀ q:x.ctorIdx=23,Expr.Name.elim (motive_1:=fun _=>Bool) x q f=true→P x) x q (fun n p _=>k n p) q h
 ·rw[dif_neg q] at h
  exact Bool.noConfusion h
noncomputable def onList(x:Expr)(f:List Expr→Pos→Bool):Bool:=dite (x.ctorIdx=24) (fun h=>Expr.List.elim (motive_1:=fun _=>Bool) x h f) fun _=>false
@[elab_as_elim] theorem onListK {x:Expr} {f:List Expr→Pos→Bool} {P:Expr→Prop} (h:onList x f=true) (k:∀ xs p,f xs p=true→P (.List xs p)):P x:=by
 unfold onList at h
 by_cases q:x.ctorIdx=24
 ·rw[dif_pos q] at h
  exact Expr.List.elim (motive_1:=fun x=>∀ q:x.ctorIdx=24,Expr.List.elim (motive_1:=fun _=>Bool) x q f=true→P x) x q (fun xs p _=>k xs p) q h
 ·rw[dif_neg q] at h
  exact Bool.noConfusion h
noncomputable def onTup(x:Expr)(f:List Expr→Nat→Pos→Bool):Bool:=dite (x.ctorIdx=25) (fun h=>Expr.Tuple.elim (motive_1:=fun _=>Bool) x h f) fun _=>false
@[elab_as_elim] theorem onTupK {x:Expr} {f:List Expr→Nat→Pos→Bool} {P:Expr→Prop} (h:onTup x f=true) (k:∀ xs kk p,f xs kk p=true→P (.Tuple xs kk p)):P x:=by
 unfold onTup at h
 by_cases q:x.ctorIdx=25
 ·rw[dif_pos q] at h
  exact Expr.Tuple.elim (motive_1:=fun x=>∀ q:x.ctorIdx=25,Expr.Tuple.elim (motive_1:=fun _=>Bool) x q f=true→P x) x q (fun xs kk p _=>k xs kk p) q h
 ·rw[dif_neg q] at h
  exact Bool.noConfusion h
noncomputable def onSlice(x:Expr)(f:Option Expr→Option Expr→Option Expr→Pos→Bool):Bool:=dite (x.ctorIdx=26) (fun h=>Expr.Slice.elim (motive_1:=fun _=>Bool) x h f) fun _=>false
@[elab_as_elim] theorem onSliceK {x:Expr} {f:Option Expr→Option Expr→Option Expr→Pos→Bool} {P:Expr→Prop} (h:onSlice x f=true) (k:∀ l u t p,f l u t p=true→P (.Slice l u t p)):P x:=by
 unfold onSlice at h
 by_cases q:x.ctorIdx=26
 ·rw[dif_pos q] at h
  exact Expr.Slice.elim (motive_1:=fun x=>∀ q:x.ctorIdx=26,Expr.Slice.elim (motive_1:=fun _=>Bool) x q f=true→P x) x q (fun l u t p _=>k l u t p) q h
 ·rw[dif_neg q] at h
  exact Bool.noConfusion h
noncomputable def on1{α:Type}(xs:List α)(f:α→Bool):Bool:=(one? xs).elim false f
noncomputable def on2{α:Type}(xs:List α)(f:α→α→Bool):Bool:=(two? xs).elim false fun p=>f p.1 p.2
@[elab_as_elim] theorem on1K {α:Type} {xs:List α} {f:α→Bool} {P:List α→Prop} (h:on1 xs f=true) (k:∀ x,f x=true→P [x]):P xs:=by
 match xs,h with
 | [x],h=>exact k x h
@[elab_as_elim] theorem on2K {α:Type} {xs:List α} {f:α→α→Bool} {P:List α→Prop} (h:on2 xs f=true) (k:∀ x y,f x y=true→P [x,y]):P xs:=by
 match xs,h with
 | [x,y],h=>exact k x y h
inductive GK where
 | bi (b:Bi) | range | enum | fn (f:Nat) | dots | hdrs | b3 | b1
 deriving DecidableEq
structure Tb where
 gl:List (Str × GK)
 cm:List (Str × Nat)
noncomputable def isGl(T:Tb)(sc:Scope)(id:Str)(k:GK):Bool:=sc.names.lookup id==some .globalImplicit&&!(id==("__debug__":Str))&&decide (T.gl.lookup id=some k)
noncomputable def noSet:Expr→Bool
 | .Set _ _ _=>false
 | _=>true
noncomputable def plainT:Expr→Bool
 | .UnaryOp .Not _ _=>false
 | .BoolOp _ _ _=>false
 | .IfExp _ _ _ _=>false
 | .Compare _ _ _ _=>false
 | _=>true
noncomputable def noBase(x:Expr):Bool:=!(onCall x fun g xs ks _=>(onName g fun _ _=>true)&&(xs.isEmpty&&ks.isEmpty))
noncomputable def noneE(e:E):Bool:=match e with
 | .lit d=>match d with
  | .none=>true
  | _=>false
 | _=>false
noncomputable def isP(o:Option Expr)(e:E)(f:Expr→Bool):Bool:=match o with
 | none=>noneE e
 | some z=>f z
noncomputable def isIt(T:Tb)(sc:Scope)(k:IK)(iter xt:Expr)(f:List Expr→Bool):Bool:=match k with
 | .e=>f [iter]
 | .range=>onCall iter fun g xs ks _=>ks.isEmpty&&onName g fun id _=>isGl T sc id .range&&f xs
noncomputable def isLC(T:Tb)(C:Ct)(sc:Scope)(t:UK.T)(k:IK)(caps:List Nat)(its:List Expr→Bool)(rest:Scope→List Expr→Expr→Bool)(x:Expr):Bool:=
 onLC x fun xe gs scope _=>on1 gs fun g=>g.is_async==0&&(compOk sc scope&&(noSet g.iter&&(isT C (relab sc scope) false t g.target&&(caps.all (fun x=>scope.names.lookup (C.nm x)==some .free&&!(tNames t).contains x) &&
  (isIt T sc k g.iter g.target its&&rest (relab sc scope) g.ifs xe)))))
mutual
noncomputable def isE(T:Tb)(C:Ct):Bool→Scope→E→Expr→Bool
 | b,sc,.lit d,x=>onConst x fun k _ _=>isC d k
 | b,sc,.name n,x=>onName x fun id _=>id==C.nm n&&(!(id==("__debug__":Str))&&!(id==("__classdict__":Str)))
 | b,sc,.dots,x=>onName x fun id _=>isGl T sc id .dots
 | b,sc,.bin op l r,x=>onBin x fun l' op' r' _=>op.is op'&&(isE T C false sc l l'&&isE T C false sc r r')
 | b,sc,.neg a,x=>onUn x fun op y _=>decide (op=.USub)&&isE T C false sc a y
 | b,sc,.not a,x=>onUn x fun op y _=>decide (op=.Not)&&isE T C b sc a y
 | b,sc,.and l r,x=>onBool x fun op xs _=>decide (op=.And)&&on2 xs fun l' r'=>isE T C b sc l l'&&isE T C b sc r r'
 | b,sc,.or l r,x=>onBool x fun op xs _=>decide (op=.Or)&&on2 xs fun l' r'=>isE T C b sc l l'&&isE T C b sc r r'
 | b,sc,.ite c l r,x=>onIte x fun c' l' r' _=>isE T C true sc c c'&&(isE T C b sc l l'&&isE T C b sc r r')
 | b,sc,.cmp l op r,x=>onCmp x fun l' os rs _=>on1 os fun op'=>on1 rs fun r'=>cmIs op op'&&(!behindInMarks op' r'&&(isE T C false sc l l'&&isE T C false sc r r'))
 | b,sc,.cmp2 l op r op2 r2,x=>onCmp x fun l' os rs _=>on2 os fun op' op2'=>on2 rs fun r' r2'=>cmIs op op'&&(cmIs op2 op2'&&(!lastMarks [op',op2'] [r',r2']&&(isE T C false sc l l'&&(isE T C false sc r r'&&isE T C false sc r2 r2'))))
 | b,sc,.tuple as,x=>onTup x fun xs _ _=>decide (as.length≤1000)&&isEs T C sc as xs
 | b,sc,.list as,x=>onList x fun xs _=>decide (as.length≤1000)&&isEs T C sc as xs
 | b,sc,.index a i,x=>onSub x fun y z _=>isE T C false sc a y&&isE T C false sc i z
 | b,sc,.slice a lo hi st,x=>onSub x fun y z _=>onSlice z fun xl xh xs _=>isE T C false sc a y&&(isP xl lo (isE T C false sc lo)&&(isP xh hi (isE T C false sc hi)&&isP xs st (isE T C false sc st)))
 | b,sc,.comp elt t k its conds caps,x=>isLC T C sc t k caps (isEs T C sc its) (fun sc ifs xe=>isConds T C sc conds ifs&&isE T C false sc elt xe) x
 | b,sc,.call f as,x=>onCall x fun g xs ks _=>ks.isEmpty&&onName g fun id _=>isGl T sc id (.fn f)&&isEs T C sc as xs
 | b,sc,.bi g as,x=>onCall x fun y xs ks _=>ks.isEmpty&&onName y fun id _=>isGl T sc id (.bi g)&&isEs T C sc as xs
 | b,sc,.meth m o as,x=>onCall x fun g xs ks p=>ks.isEmpty&&onAttr g fun y name ap=>name==mname m&&(noBase y&&((ap.endLine==p.line)&&(decide (xs.length<30)&&(isE T C false sc o y&&isEs T C sc as xs))))
 | b,sc,.hm f o as,x=>onCall x fun g xs ks p=>ks.isEmpty&&onAttr g fun y name ap=>decide (T.cm.lookup name=some f)&&(!(name==("_headers":Str))&&(noBase y&&((ap.endLine==p.line)&&(decide (xs.length<30)&&(isE T C false sc o y&&isEs T C sc as xs)))))
 | b,sc,.newH,x=>onCall x fun g xs ks _=>xs.isEmpty&&(ks.isEmpty&&onName g fun id _=>isGl T sc id .hdrs)
 | b,sc,.attrH o,x=>onAttr x fun y name _=>name==("_headers":Str)&&(noBase y&&isE T C false sc o y)
 | b,sc,.conv nm o e,x=>onCall x fun g xs ks p=>on1 xs fun z=>on1 ks fun kw=>onAttr g fun y name ap=>onConst kw.value fun v _ _=>isC (.bool nm) v&&(kw.arg==some ("name":Str)&&(name==("_convert_string_type":Str)&&(noStar z&&(noBase y&&((ap.endLine==p.line)&&(isE T C false sc o y&&isE T C false sc e z))))))
 | b,sc,.b3get e,x=>onCall x fun g xs ks p=>ks.isEmpty&&on1 xs fun z=>onAttr g fun y name ap=>onName y fun id _=>name==("get":Str)&&(isGl T sc id .b3&&((ap.endLine==p.line)&&(noStar z&&isE T C false sc e z)))
 | b,sc,.inB1 e,x=>onCmp x fun z os rs _=>on1 os fun op=>on1 rs fun r=>onName r fun id _=>decide (op=.In)&&(!b&&(isGl T sc id .b1&&isE T C false sc e z))
noncomputable def isEs(T:Tb)(C:Ct):Scope→List E→List Expr→Bool
 | sc,[],xs=>xs.isEmpty
 | sc,e::es,xs=>match xs with
  | x::xs=>noStar x&&(isE T C false sc e x&&isEs T C sc es xs)
  | []=>false
noncomputable def isConds(T:Tb)(C:Ct):Scope→List E→List Expr→Bool
 | sc,[],xs=>xs.isEmpty
 | sc,e::es,xs=>match xs with
  | x::xs=>isE T C true sc e x&&isConds T C sc es xs
  | []=>false
end
end
section
noncomputable def GIs(G:Gl)(fa:Nat→Addr)(b3a b1a:Addr):Str→GK→Prop
 | x,.bi b=>G.look x=some (biVal b)
 | x,.range=>G.look x=some (.type "range")
 | x,.enum=>G.look x=some (.type "enumerate")
 | x,.fn f=>G.look x=some (.ref (fa f))∧FA G (fa f)
 | x,.dots=>∃ t,G.look x=some (.str ⟨#[46,46,46]⟩ t)
 | x,.hdrs=>G.look x=some (.ref G.cls)
 | x,.b3=>G.look x=some (.ref b3a)
 | x,.b1=>G.look x=some (.ref b1a)
structure Facts (T:Tb) (G:Gl) (fa:Nat→Addr) (b3a b1a:Addr) (N:Addr) (mN:Str→Option Value) (cx:Cx):Prop where
 gl:∀ p∈T.gl,GIs G fa b3a b1a p.1 p.2
 cA:CA G N mN
 cm:∀ p∈T.cm,mN p.1=some (.ref (fa p.2))∧FA G (fa p.2)∧∃ y,typeLookup (.type "object") p.1=pure y
 newH:∀ {C:Ct} {A:Around} {env:Env} {F:Nat→List V→Led→Option (V × Led)} {id:Str} {p pos:Pos},env.kindOf id=some .globalImplicit→G.look id=some (.ref G.cls)→(id==("__debug__":Str))=false→SE G C A env { cx with F:=F } .newH (.Call (.Name id p) [] [] pos)
 conv:∀ {C:Ct} {A:Around} {env:Env} {F:Nat→List V→Led→Option (V × Led)} {nm:Bool} {o e:E} {y z:Expr} {ap p p1 p2:Pos} {i:Nat},attributeBase y ("_convert_string_type":Str) env (eval y env)=eval y env→(ap.endLine==p.line)=true→noStar z=true →
  SE G C A env { cx with F:=F } o y→SE G C A env { cx with F:=F } e z→SE G C A env { cx with F:=F } (.conv nm o e) (.Call (.Attribute y ("_convert_string_type":Str) ap) [z] [⟨some ("name":Str),.Constant (.bool nm) i p1,p2⟩] p)
 b3get:∀ {C:Ct} {A:Around} {env:Env} {F:Nat→List V→Led→Option (V × Led)} {e:E} {z:Expr} {id:Str} {q ap p:Pos},env.kindOf id=some .globalImplicit→G.look id=some (.ref b3a)→(id==("__debug__":Str))=false→(ap.endLine==p.line)=true→noStar z=true →
  SE G C A env { cx with F:=F } e z→SE G C A env { cx with F:=F } (.b3get e) (.Call (.Attribute (.Name id q) ("get":Str) ap) [z] [] p)
 inB1:∀ {C:Ct} {A:Around} {env:Env} {F:Nat→List V→Led→Option (V × Led)} {e:E} {z:Expr} {id:Str} {q p:Pos},env.kindOf id=some .globalImplicit→G.look id=some (.ref b1a)→(id==("__debug__":Str))=false →
  SE G C A env { cx with F:=F } e z→SE G C A env { cx with F:=F } (.inB1 e) (.Compare z [.In] [.Name id q] p)
def SX(G:Gl)(C:Ct)(A:Around)(env:Env)(cx:Cx)(b:Bool)(e:E)(x:Expr):Prop:=match b with
 | true=>ST G C A env cx e x
 | false=>SE G C A env cx e x
noncomputable def SEL(G:Gl)(C:Ct)(A:Around)(env:Env)(cx:Cx):List E→List Expr→Prop
 | [],xs=>xs=[]
 | e::es,xs=>∃ x ys,xs=x::ys∧noStar x=true∧SE G C A env cx e x∧SEL G C A env cx es ys
section
variable{G:Gl}{C:Ct}{A:Around}{env:Env}{cx:Cx}{T:Tb}{sc:Scope}{fa:Nat→Addr}{b3a b1a N:Addr}{mN:Str→Option Value}{F:Nat→List V→Led→Option (V × Led)}
theorem SEL.es:∀ {es:List E} {xs:List Expr},SEL G C A env cx es xs→SEs G C A env cx es xs∧noStars xs=true
 | [],xs,h=>by obtain rfl:xs=[]:=h;exact⟨SEs.nil,rfl⟩
 | e::es,xs,⟨x,ys,h0,h1,h2,h3⟩=>by
  subst h0
  obtain⟨i1,i2⟩:=SEL.es h3
  exact⟨SEs.cons h1 h2 i1,Bool.and_eq_true_iff.mpr ⟨h1,i2⟩⟩
theorem SEL.one{its:List E}{y:Expr}(h:SEL G C A env cx its [y]):∃ e,its=[e]∧SE G C A env cx e y∧noStar y=true:=by
 match its,h with
 | [],h=>exact nomatch h
 | [e],⟨x,ys,h0,h1,h2,h3⟩=>
  obtain⟨rfl,rfl⟩:=List.cons.inj h0
  exact⟨e,rfl,h2,h1⟩
 | e::e2::es,⟨x,ys,h0,_,_,⟨x2,ys2,h4,_⟩⟩=>
  obtain⟨rfl,rfl⟩:=List.cons.inj h0
  exact nomatch h4
theorem plainT_is{x:Expr}(h:plainT x=true):isTrue x env (eval x env)=(do let v ←eval x env;standAt x.pos;holding [v] (PySem.truthy v)):=by
 cases x with
 | UnaryOp op y p=>cases op <;> first | rfl | exact Bool.noConfusion h
 | BoolOp _ _ _=>exact Bool.noConfusion h
 | IfExp _ _ _ _=>exact Bool.noConfusion h
 | Compare _ _ _ _=>exact Bool.noConfusion h
 | _=>rfl
theorem SX.plain{b:Bool}{e:E}{x:Expr}(h:SE G C A env cx e x)(hp:plainT x=true):SX G C A env cx b e x:=by
 cases b with
 | false=>exact h
 | true=>exact ST.plain h (plainT_is hp)
theorem SX.mk{b:Bool}{e:E}{x:Expr}(h0:b=false→SE G C A env cx e x)(h1:b=true→ST G C A env cx e x):SX G C A env cx b e x:=by
 cases b with
 | false=>exact h0 rfl
 | true=>exact h1 rfl
theorem SX.e{b:Bool}{e:E}{x:Expr}(h:SX G C A env cx b e x)(q:b=false):SE G C A env cx e x:=by subst q;exact h
theorem SX.t{b:Bool}{e:E}{x:Expr}(h:SX G C A env cx b e x)(q:b=true):ST G C A env cx e x:=by subst q;exact h
theorem notB{b:Bool}(h:(!b)=true):b=false:=by
 cases b
 ·rfl
 ·exact Bool.noConfusion h
theorem noBase_is{x:Expr}{name:Str}{t:Sem Value}(h:noBase x=true):attributeBase x name env t=t:=by
 unfold attributeBase
 split
 ·exact Bool.noConfusion (notB h)
 ·rfl
theorem lookup_mem'{κ α:Type}[BEq κ][LawfulBEq κ]{x:κ}{v:α}:∀ {l:List (κ × α)},l.lookup x=some v→(x,v)∈l
 | [],h=>nomatch h
 | (y,u)::l,h=>by
  rw[List.lookup_cons] at h
  cases he:x==y with
  | true=>
   rw[he] at h
   obtain rfl:=eq_of_beq he
   obtain rfl:=Option.some.inj h
   exact .head _
  | false=>rw[he] at h;exact .tail _ (lookup_mem' h)
theorem isGl_is{id:Str}{k:GK}(hsc:env.scope=sc)(H:Facts T G fa b3a b1a N mN cx)(h:isGl T sc id k=true):env.kindOf id=some .globalImplicit∧(id==("__debug__":Str))=false∧GIs G fa b3a b1a id k:=by
 obtain⟨h1,h3⟩:=andB h
 obtain⟨h1,h2⟩:=andB h1
 exact⟨kind_of' hsc h1,notB h2,H.gl _ (lookup_mem' (of_decide_eq_true h3))⟩
theorem emptyB{α:Type}{l:List α}(h:l.isEmpty=true):l=[]:=List.isEmpty_iff.mp h
theorem noneE_is{e:E}(h:noneE e=true):e=.lit .none:=by
 unfold noneE at h
 split at h
 ·split at h
  ·rfl
  ·exact Bool.noConfusion h
 ·exact Bool.noConfusion h
theorem isP_is{o:Option Expr}{e:E}{f:Expr→Bool}(h:isP o e f=true)(k:∀ z,f z=true→SE G C A env cx e z):SP G C A env cx e o:=by
 cases o with
 | none=>rw[noneE_is h];exact SP.none
 | some z=>exact SP.some (k z h)
theorem it_sound{k:IK}{its:List E}{iter xt:Expr}{f:List Expr→Bool}(H:Facts T G fa b3a b1a N mN cx)(hsc:env.scope=sc)(hE:∀ xs,f xs=true→SEL G C A env { cx with F:=F } its xs)
  (h:isIt T sc k iter xt f=true):∃ en,(en=true→∃ es k pos,xt=.Tuple es k pos)∧SI G C A env { cx with F:=F } k its iter en:=by
 cases k with
 | e=>
  obtain⟨e0,rfl,h1,_⟩:=(hE _ h).one
  exact⟨false,nofun,SI.e h1⟩
 | range=>
  refine onCallK h fun g xs ks p h=>?_
  obtain⟨h1,h⟩:=andB h
  obtain rfl:=emptyB h1
  refine onNameK h fun id p2 h=>?_
  obtain⟨hg,h⟩:=andB h
  obtain⟨q1,q2,q3⟩:=isGl_is hsc H hg
  obtain⟨s1,s2⟩:=(hE _ h).es
  exact⟨false,nofun,SI.range q1 q3 q2 s2 s1⟩
structure LCis (G:Gl) (C:Ct) (A:Around) (env:Env) (cx:Cx) (t:UK.T) (k:IK) (caps:List Nat) (its:List E) (rest:Scope→List Expr→Expr→Bool) (xe xt iter:Expr) (ifs:List Expr) (scope:Scope) (en:Bool):Prop where
 ok:compOk env.scope scope=true
 set:noSet iter=true
 tgt:isT C (relab env.scope scope) false t xt=true
 enum:en=true→∃ es k pos,xt=.Tuple es k pos
 cap:∀ x∈caps,scope.names.lookup (C.nm x)=some .free
 dis:∀ x∈caps,x ∉ tNames t
 it:SI G C A env cx k its iter en
 rest:rest (relab env.scope scope) ifs xe=true
theorem isLC_is{t:UK.T}{k:IK}{caps:List Nat}{its:List E}{f:List Expr→Bool}{rest:Scope→List Expr→Expr→Bool}{x:Expr}(H:Facts T G fa b3a b1a N mN cx)(hE:∀ xs,f xs=true→SEL G C A env { cx with F:=F } its xs)(h:isLC T C env.scope t k caps f rest x=true) :
  ∃ xe xt iter ifs scope p en,x=.ListComp xe [⟨xt,iter,ifs,0⟩] scope p∧LCis G C A env { cx with F:=F } t k caps its rest xe xt iter ifs scope en:=by
 refine onLCK h fun xe gs scope p h=>?_
 refine on1K h fun g h=>?_
 obtain⟨h0,h⟩:=andB h
 obtain⟨h1,h⟩:=andB h
 obtain⟨h2,h⟩:=andB h
 obtain⟨h3,h⟩:=andB h
 obtain⟨h4,h⟩:=andB h
 obtain⟨h5,h⟩:=andB h
 obtain⟨xt,iter,ifs,as⟩:=g
 obtain rfl:as=0:=eq_of_beq h0
 obtain⟨en,hen,hi⟩:=it_sound (A:=A) (F:=F) H rfl hE h5
 have h4:=List.all_eq_true.mp h4
 refine⟨xe,xt,iter,ifs,scope,p,en,rfl,h1,h2,h3,hen,fun x hx=>eq_of_beq (andB (h4 x hx)).1,fun x hx m=>?_,hi,h⟩
 exact Bool.noConfusion ((notB (andB (h4 x hx)).2).symm.trans (List.contains_iff_mem.mpr m))
end
end
section
section
variable{G:Gl}{C:Ct}{A:Around}{cx:Cx}{T:Tb}{fa:Nat→Addr}{b3a b1a N:Addr}{mN:Str→Option Value}{F:Nat→List V→Led→Option (V × Led)}
mutual
theorem isE_sound(H:Facts T G fa b3a b1a N mN cx)(hF:SF G C.lev F fa):∀ (e:E) {b:Bool} {sc:Scope} {env:Env} {x:Expr},env.scope=sc→isE T C b sc e x=true→SX G C A env { cx with F:=F } b e x
 | .lit d,b,sc,env,x,hsc,h=>by
  refine onConstK h fun k i p g1=>?_
  exact SX.plain (SE.lit g1) rfl
 | .name n,b,sc,env,x,hsc,h=>by
  refine onNameK h fun id p g1=>?_
  obtain⟨h1,g2⟩:=andB g1
  exact SX.plain (SE.name (eq_of_beq h1) (notB (andB g2).1) (notB (andB g2).2)) rfl
 | .dots,b,sc,env,x,hsc,h=>by
  refine onNameK h fun id p g1=>?_
  obtain⟨q1,q2,t,q3⟩:=isGl_is hsc H g1
  exact SX.plain (SE.dots q1 q3 q2) rfl
 | .bin op l r,b,sc,env,x,hsc,h=>by
  refine onBinK h fun l' op' r' p g1=>?_
  obtain⟨h1,g2⟩:=andB g1
  exact SX.plain (SE.bin h1 (isE_sound H hF l (b:=false) hsc (andB g2).1) (isE_sound H hF r (b:=false) hsc (andB g2).2)) rfl
 | .neg a,b,sc,env,x,hsc,h=>by
  refine onUnK h fun op y p g1=>?_
  obtain⟨h1,g2⟩:=andB g1
  obtain rfl:=of_decide_eq_true h1
  exact SX.plain (SE.neg (isE_sound H hF a (b:=false) hsc g2)) rfl
 | .not a,b,sc,env,x,hsc,h=>by
  refine onUnK h fun op y p g1=>?_
  obtain⟨h1,g2⟩:=andB g1
  obtain rfl:=of_decide_eq_true h1
  have r:=isE_sound H hF a hsc g2
  exact SX.mk (fun q=>SE.not (r.e q)) fun q=>ST.not (r.t q)
 | .and l r,b,sc,env,x,hsc,h=>by
  refine onBoolK h fun op xs p g1=>?_
  obtain⟨h1,g2⟩:=andB g1
  obtain rfl:=of_decide_eq_true h1
  refine on2K g2 fun l' r' g3=>?_
  have r1:=isE_sound H hF l hsc (andB g3).1
  have r2:=isE_sound H hF r hsc (andB g3).2
  exact SX.mk (fun q=>SE.and (r1.e q) (r2.e q)) fun q=>ST.and (r1.t q) (r2.t q)
 | .or l r,b,sc,env,x,hsc,h=>by
  refine onBoolK h fun op xs p g1=>?_
  obtain⟨h1,g2⟩:=andB g1
  obtain rfl:=of_decide_eq_true h1
  refine on2K g2 fun l' r' g3=>?_
  have r1:=isE_sound H hF l hsc (andB g3).1
  have r2:=isE_sound H hF r hsc (andB g3).2
  exact SX.mk (fun q=>SE.or (r1.e q) (r2.e q)) fun q=>ST.or (r1.t q) (r2.t q)
 | .ite c l r,b,sc,env,x,hsc,h=>by
  refine onIteK h fun c' l' r' p g1=>?_
  obtain⟨h1,g2⟩:=andB g1
  have r0:ST G C A env { cx with F:=F } c c':=isE_sound H hF c (b:=true) hsc h1
  have r1:=isE_sound H hF l hsc (andB g2).1
  have r2:=isE_sound H hF r hsc (andB g2).2
  exact SX.mk (fun q=>SE.ite r0 (r1.e q) (r2.e q)) fun q=>ST.ite r0 (r1.t q) (r2.t q)
 | .cmp l op r,b,sc,env,x,hsc,h=>by
  refine onCmpK h fun l' os rs p g1=>?_
  refine on1K g1 fun op' g2=>?_
  refine on1K g2 fun r' g3=>?_
  obtain⟨h1,g4⟩:=andB g3
  obtain⟨h2,g5⟩:=andB g4
  have s1:SE G C A env { cx with F:=F } l l':=isE_sound H hF l (b:=false) hsc (andB g5).1
  have s2:SE G C A env { cx with F:=F } r r':=isE_sound H hF r (b:=false) hsc (andB g5).2
  exact SX.mk (fun q=>SE.cmp h1 (notB h2) s1 s2) fun q=>ST.cmp h1 (notB h2) s1 s2
 | .cmp2 l op r op2 r2,b,sc,env,x,hsc,h=>by
  refine onCmpK h fun l' os rs p g1=>?_
  refine on2K g1 fun op' op2' g2=>?_
  refine on2K g2 fun r' r2' g3=>?_
  obtain⟨h1,g4⟩:=andB g3
  obtain⟨h2,g5⟩:=andB g4
  obtain⟨h3,g6⟩:=andB g5
  obtain⟨h4,g7⟩:=andB g6
  have s1:SE G C A env { cx with F:=F } l l':=isE_sound H hF l (b:=false) hsc h4
  have s2:SE G C A env { cx with F:=F } r r':=isE_sound H hF r (b:=false) hsc (andB g7).1
  have s3:SE G C A env { cx with F:=F } r2 r2':=isE_sound H hF r2 (b:=false) hsc (andB g7).2
  exact SX.mk (fun q=>SE.cmp2 h1 h2 (notB h3) s1 s2 s3) fun q=>ST.cmp2 h1 h2 (notB h3) s1 s2 s3
 | .tuple as,b,sc,env,x,hsc,h=>by
  refine onTupK h fun xs k p g1=>?_
  exact SX.plain (SE.tuple (of_decide_eq_true (andB g1).1) (isEs_sound H hF as hsc (andB g1).2).es.1) rfl
 | .list as,b,sc,env,x,hsc,h=>by
  refine onListK h fun xs p g1=>?_
  exact SX.plain (SE.list (of_decide_eq_true (andB g1).1) (isEs_sound H hF as hsc (andB g1).2).es.1) rfl
 | .index a i,b,sc,env,x,hsc,h=>by
  refine onSubK h fun y z p g1=>?_
  exact SX.plain (SE.index (isE_sound H hF a (b:=false) hsc (andB g1).1) (isE_sound H hF i (b:=false) hsc (andB g1).2)) rfl
 | .slice a lo hi st,b,sc,env,x,hsc,h=>by
  refine onSubK h fun y z p g1=>?_
  refine onSliceK g1 fun xl xh xs p2 g2=>?_
  obtain⟨h1,g3⟩:=andB g2
  obtain⟨h2,g4⟩:=andB g3
  exact SX.plain (SE.slice (isE_sound H hF a (b:=false) hsc h1) (isP_is h2 fun z h=>isE_sound H hF lo (b:=false) hsc h) (isP_is (andB g4).1 fun z h=>isE_sound H hF hi (b:=false) hsc h) (isP_is (andB g4).2 fun z h=>isE_sound H hF st (b:=false) hsc h)) rfl
 | .comp elt t k its conds caps,b,sc,env,x,hsc,h=>by
  subst hsc
  obtain⟨xe,xt,iter,ifs,scope,p,en,rfl,L⟩:=isLC_is (A:=A) (F:=F) (its:=its) H (fun xs=>isEs_sound H hF its rfl) h
  obtain⟨h6,h7⟩:=andB L.rest
  exact SX.plain (SE.comp L.ok L.set L.tgt L.enum L.cap L.dis L.it (fun cenv hc=>isConds_sound H hF conds hc h6) (fun cenv hc=>isE_sound H hF elt (b:=false) hc h7)) rfl
 | .call f as,b,sc,env,x,hsc,h=>by
  refine onCallK h fun g xs ks p g1=>?_
  obtain⟨h1,g2⟩:=andB g1
  obtain rfl:=emptyB h1
  refine onNameK g2 fun id p2 g3=>?_
  obtain⟨q1,q2,q3,q4⟩:=isGl_is hsc H (andB g3).1
  obtain⟨s1,s2⟩:=(isEs_sound H hF as hsc (andB g3).2).es
  exact SX.plain (SE.call hF q4 q1 q3 q2 s2 s1) rfl
 | .bi g as,b,sc,env,x,hsc,h=>by
  refine onCallK h fun y xs ks p g1=>?_
  obtain⟨h1,g2⟩:=andB g1
  obtain rfl:=emptyB h1
  refine onNameK g2 fun id p2 g3=>?_
  obtain⟨q1,q2,q3⟩:=isGl_is hsc H (andB g3).1
  obtain⟨s1,s2⟩:=(isEs_sound H hF as hsc (andB g3).2).es
  exact SX.plain (SE.bi q1 q3 q2 s2 s1) rfl
 | .meth m o as,b,sc,env,x,hsc,h=>by
  refine onCallK h fun g xs ks p g1=>?_
  obtain⟨h1,g2⟩:=andB g1
  obtain rfl:=emptyB h1
  refine onAttrK g2 fun y name ap g3=>?_
  obtain⟨h1,g4⟩:=andB g3
  obtain⟨h2,g5⟩:=andB g4
  obtain⟨h3,g6⟩:=andB g5
  obtain⟨h4,g7⟩:=andB g6
  obtain⟨s1,s2⟩:=(isEs_sound H hF as hsc (andB g7).2).es
  exact SX.plain (SE.meth (eq_of_beq h1) (noBase_is h2) h3 s2 (of_decide_eq_true h4) (isE_sound H hF o (b:=false) hsc (andB g7).1) s1) rfl
 | .hm f o as,b,sc,env,x,hsc,h=>by
  refine onCallK h fun g xs ks p g1=>?_
  obtain⟨h1,g2⟩:=andB g1
  obtain rfl:=emptyB h1
  refine onAttrK g2 fun y name ap g3=>?_
  obtain⟨h0,g4⟩:=andB g3
  obtain⟨h1,g5⟩:=andB g4
  obtain⟨h2,g6⟩:=andB g5
  obtain⟨h3,g7⟩:=andB g6
  obtain⟨h4,g8⟩:=andB g7
  obtain⟨s1,s2⟩:=(isEs_sound H hF as hsc (andB g8).2).es
  obtain⟨c1,c2,y,c3⟩:=H.cm _ (lookup_mem' (of_decide_eq_true h0))
  exact SX.plain (SE.hm H.cA hF c2 (noBase_is h2) h3 s2 (of_decide_eq_true h4) c1 (ne_of_beq_false (notB h1)) c3 (isE_sound H hF o (b:=false) hsc (andB g8).1) s1) rfl
 | .newH,b,sc,env,x,hsc,h=>by
  refine onCallK h fun g xs ks p g1=>?_
  obtain⟨h1,g2⟩:=andB g1
  obtain⟨h2,g3⟩:=andB g2
  obtain rfl:=emptyB h1
  obtain rfl:=emptyB h2
  refine onNameK g3 fun id p2 g4=>?_
  obtain⟨q1,q2,q3⟩:=isGl_is hsc H g4
  exact SX.plain (H.newH q1 q3 q2) rfl
 | .attrH o,b,sc,env,x,hsc,h=>by
  refine onAttrK h fun y name ap g1=>?_
  obtain⟨h1,g2⟩:=andB g1
  obtain rfl:=eq_of_beq h1
  exact SX.plain (SE.attrH H.cA (noBase_is (andB g2).1) (isE_sound H hF o (b:=false) hsc (andB g2).2)) rfl
 | .conv nm o e,b,sc,env,x,hsc,h=>by
  refine onCallK h fun g xs ks p g1=>?_
  refine on1K g1 fun z g2=>?_
  refine on1K g2 fun kw g3=>?_
  refine onAttrK g3 fun y name ap g4=>?_
  obtain⟨ka,kv,kp⟩:=kw
  refine onConstK (x:=kv) g4 fun v i p1 g5=>?_
  obtain⟨h0,g6⟩:=andB g5
  obtain⟨h1,g7⟩:=andB g6
  obtain⟨h2,g8⟩:=andB g7
  obtain⟨h3,g9⟩:=andB g8
  obtain⟨h4,g10⟩:=andB g9
  obtain⟨h5,g11⟩:=andB g10
  obtain rfl:=eq_of_beq h1
  obtain rfl:=eq_of_beq h2
  have hv:v=.bool nm:=by
   cases v with
   | bool w=>exact congrArg Const.bool (eq_of_beq h0).symm
   | _=>exact Bool.noConfusion h0
  subst hv
  exact SX.plain (H.conv (noBase_is h4) h5 h3 (isE_sound H hF o (b:=false) hsc (andB g11).1) (isE_sound H hF e (b:=false) hsc (andB g11).2)) rfl
 | .b3get e,b,sc,env,x,hsc,h=>by
  refine onCallK h fun g xs ks p g1=>?_
  obtain⟨h1,g2⟩:=andB g1
  obtain rfl:=emptyB h1
  refine on1K g2 fun z g3=>?_
  refine onAttrK g3 fun y name ap g4=>?_
  refine onNameK g4 fun id p2 g5=>?_
  obtain⟨h1,g6⟩:=andB g5
  obtain⟨h2,g7⟩:=andB g6
  obtain⟨h3,g8⟩:=andB g7
  obtain⟨q1,q2,q3⟩:=isGl_is hsc H h2
  obtain rfl:=eq_of_beq h1
  exact SX.plain (H.b3get q1 q3 q2 h3 (andB g8).1 (isE_sound H hF e (b:=false) hsc (andB g8).2)) rfl
 | .inB1 e,b,sc,env,x,hsc,h=>by
  refine onCmpK h fun l' os rs p g1=>?_
  refine on1K g1 fun op' g2=>?_
  refine on1K g2 fun r' g3=>?_
  refine onNameK g3 fun id p2 g4=>?_
  obtain⟨h1,g5⟩:=andB g4
  obtain⟨h2,g6⟩:=andB g5
  obtain rfl:=of_decide_eq_true h1
  obtain rfl:=notB h2
  obtain⟨q1,q2,q3⟩:=isGl_is hsc H (andB g6).1
  exact H.inB1 q1 q3 q2 (isE_sound H hF e (b:=false) hsc (andB g6).2)
theorem isEs_sound(H:Facts T G fa b3a b1a N mN cx)(hF:SF G C.lev F fa):∀ (es:List E) {sc:Scope} {env:Env} {xs:List Expr},env.scope=sc→isEs T C sc es xs=true→SEL G C A env { cx with F:=F } es xs
 | [],sc,env,xs,hsc,h=>emptyB h
 | e::es,sc,env,x::xs,hsc,h=>⟨x,xs,rfl,(andB h).1,isE_sound H hF e (b:=false) hsc (andB (andB h).2).1,isEs_sound H hF es hsc (andB (andB h).2).2⟩
 | e::es,sc,env,[],hsc,h=>Bool.noConfusion h
theorem isConds_sound(H:Facts T G fa b3a b1a N mN cx)(hF:SF G C.lev F fa):∀ (es:List E) {sc:Scope} {env:Env} {xs:List Expr},env.scope=sc→isConds T C sc es xs=true→STs G C A env { cx with F:=F } es xs
 | [],sc,env,xs,hsc,h=>by obtain rfl:=emptyB h;exact STs.nil
 | e::es,sc,env,x::xs,hsc,h=>STs.cons (isE_sound H hF e (b:=true) hsc (andB h).1) (isConds_sound H hF es hsc (andB h).2)
 | e::es,sc,env,[],hsc,h=>Bool.noConfusion h
end
end
end
noncomputable def onRet(x:Stmt)(f:Option Expr→Pos→Bool):Bool:=dite (x.ctorIdx=3) (fun h=>Stmt.Return.elim (motive_2:=fun _=>Bool) x h f) fun _=>false
@[elab_as_elim] theorem onRetK {x:Stmt} {f:Option Expr→Pos→Bool} {P:Stmt→Prop} (h:onRet x f=true) (k:∀ v p,f v p=true→P (.Return v p)):P x:=by
 unfold onRet at h
 by_cases q:x.ctorIdx=3
 ·rw[dif_pos q] at h
  exact Stmt.Return.elim (motive_2:=fun x=>∀ q:x.ctorIdx=3,Stmt.Return.elim (motive_2:=fun _=>Bool) x q f=true→P x) x q (fun v p _=>k v p) q h
 ·rw[dif_neg q] at h
  exact Bool.noConfusion h
noncomputable def onDel(x:Stmt)(f:List Expr→Pos→Bool):Bool:=dite (x.ctorIdx=4) (fun h=>Stmt.Delete.elim (motive_2:=fun _=>Bool) x h f) fun _=>false
@[elab_as_elim] theorem onDelK {x:Stmt} {f:List Expr→Pos→Bool} {P:Stmt→Prop} (h:onDel x f=true) (k:∀ ts p,f ts p=true→P (.Delete ts p)):P x:=by
 unfold onDel at h
 by_cases q:x.ctorIdx=4
 ·rw[dif_pos q] at h
  exact Stmt.Delete.elim (motive_2:=fun x=>∀ q:x.ctorIdx=4,Stmt.Delete.elim (motive_2:=fun _=>Bool) x q f=true→P x) x q (fun ts p _=>k ts p) q h
 ·rw[dif_neg q] at h
  exact Bool.noConfusion h
noncomputable def onAsg(x:Stmt)(f:List Expr→Expr→Pos→Bool):Bool:=dite (x.ctorIdx=5) (fun h=>Stmt.Assign.elim (motive_2:=fun _=>Bool) x h f) fun _=>false
@[elab_as_elim] theorem onAsgK {x:Stmt} {f:List Expr→Expr→Pos→Bool} {P:Stmt→Prop} (h:onAsg x f=true) (k:∀ ts v p,f ts v p=true→P (.Assign ts v p)):P x:=by
 unfold onAsg at h
 by_cases q:x.ctorIdx=5
 ·rw[dif_pos q] at h
  exact Stmt.Assign.elim (motive_2:=fun x=>∀ q:x.ctorIdx=5,Stmt.Assign.elim (motive_2:=fun _=>Bool) x q f=true→P x) x q (fun ts v p _=>k ts v p) q h
 ·rw[dif_neg q] at h
  exact Bool.noConfusion h
noncomputable def onAug(x:Stmt)(f:Expr→Operator→Expr→Pos→Bool):Bool:=dite (x.ctorIdx=7) (fun h=>Stmt.AugAssign.elim (motive_2:=fun _=>Bool) x h f) fun _=>false
@[elab_as_elim] theorem onAugK {x:Stmt} {f:Expr→Operator→Expr→Pos→Bool} {P:Stmt→Prop} (h:onAug x f=true) (k:∀ t op v p,f t op v p=true→P (.AugAssign t op v p)):P x:=by
 unfold onAug at h
 by_cases q:x.ctorIdx=7
 ·rw[dif_pos q] at h
  exact Stmt.AugAssign.elim (motive_2:=fun x=>∀ q:x.ctorIdx=7,Stmt.AugAssign.elim (motive_2:=fun _=>Bool) x q f=true→P x) x q (fun t op v p _=>k t op v p) q h
 ·rw[dif_neg q] at h
  exact Bool.noConfusion h
noncomputable def onFor(x:Stmt)(f:Expr→Expr→List Stmt→List Stmt→Pos→Bool):Bool:=dite (x.ctorIdx=9) (fun h=>Stmt.For.elim (motive_2:=fun _=>Bool) x h f) fun _=>false
@[elab_as_elim] theorem onForK {x:Stmt} {f:Expr→Expr→List Stmt→List Stmt→Pos→Bool} {P:Stmt→Prop} (h:onFor x f=true) (k:∀ t i b o p,f t i b o p=true→P (.For t i b o p)):P x:=by
 unfold onFor at h
 by_cases q:x.ctorIdx=9
 ·rw[dif_pos q] at h
  exact Stmt.For.elim (motive_2:=fun x=>∀ q:x.ctorIdx=9,Stmt.For.elim (motive_2:=fun _=>Bool) x q f=true→P x) x q (fun t i b o p _=>k t i b o p) q h
 ·rw[dif_neg q] at h
  exact Bool.noConfusion h
noncomputable def onWhile(x:Stmt)(f:Expr→List Stmt→List Stmt→Pos→Bool):Bool:=dite (x.ctorIdx=11) (fun h=>Stmt.While.elim (motive_2:=fun _=>Bool) x h f) fun _=>false
@[elab_as_elim] theorem onWhileK {x:Stmt} {f:Expr→List Stmt→List Stmt→Pos→Bool} {P:Stmt→Prop} (h:onWhile x f=true) (k:∀ t b o p,f t b o p=true→P (.While t b o p)):P x:=by
 unfold onWhile at h
 by_cases q:x.ctorIdx=11
 ·rw[dif_pos q] at h
  exact Stmt.While.elim (motive_2:=fun x=>∀ q:x.ctorIdx=11,Stmt.While.elim (motive_2:=fun _=>Bool) x q f=true→P x) x q (fun t b o p _=>k t b o p) q h
 ·rw[dif_neg q] at h
  exact Bool.noConfusion h
noncomputable def onIf(x:Stmt)(f:Expr→List Stmt→List Stmt→Pos→Bool):Bool:=dite (x.ctorIdx=12) (fun h=>Stmt.If.elim (motive_2:=fun _=>Bool) x h f) fun _=>false
@[elab_as_elim] theorem onIfK {x:Stmt} {f:Expr→List Stmt→List Stmt→Pos→Bool} {P:Stmt→Prop} (h:onIf x f=true) (k:∀ t b o p,f t b o p=true→P (.If t b o p)):P x:=by
 unfold onIf at h
 by_cases q:x.ctorIdx=12
 ·rw[dif_pos q] at h
  exact Stmt.If.elim (motive_2:=fun x=>∀ q:x.ctorIdx=12,Stmt.If.elim (motive_2:=fun _=>Bool) x q f=true→P x) x q (fun t b o p _=>k t b o p) q h
 ·rw[dif_neg q] at h
  exact Bool.noConfusion h
noncomputable def onAss(x:Stmt)(f:Expr→Option Expr→Pos→Bool):Bool:=dite (x.ctorIdx=19) (fun h=>Stmt.Assert.elim (motive_2:=fun _=>Bool) x h f) fun _=>false
@[elab_as_elim] theorem onAssK {x:Stmt} {f:Expr→Option Expr→Pos→Bool} {P:Stmt→Prop} (h:onAss x f=true) (k:∀ t m p,f t m p=true→P (.Assert t m p)):P x:=by
 unfold onAss at h
 by_cases q:x.ctorIdx=19
 ·rw[dif_pos q] at h
  exact Stmt.Assert.elim (motive_2:=fun x=>∀ q:x.ctorIdx=19,Stmt.Assert.elim (motive_2:=fun _=>Bool) x q f=true→P x) x q (fun t m p _=>k t m p) q h
 ·rw[dif_neg q] at h
  exact Bool.noConfusion h
noncomputable def onExp(x:Stmt)(f:Expr→Pos→Bool):Bool:=dite (x.ctorIdx=24) (fun h=>Stmt.Expr.elim (motive_2:=fun _=>Bool) x h f) fun _=>false
@[elab_as_elim] theorem onExpK {x:Stmt} {f:Expr→Pos→Bool} {P:Stmt→Prop} (h:onExp x f=true) (k:∀ v p,f v p=true→P (.Expr v p)):P x:=by
 unfold onExp at h
 by_cases q:x.ctorIdx=24
 ·rw[dif_pos q] at h
  exact Stmt.Expr.elim (motive_2:=fun x=>∀ q:x.ctorIdx=24,Stmt.Expr.elim (motive_2:=fun _=>Bool) x q f=true→P x) x q (fun v p _=>k v p) q h
 ·rw[dif_neg q] at h
  exact Bool.noConfusion h
noncomputable def noComp(x:Expr):Bool:=match x with
 | .ListComp _ _ _ _=>false
 | .SetComp _ _ _ _=>false
 | .DictComp _ _ _ _ _=>false
 | _=>true
theorem swaps_no{value:Expr}{t:Option Expr}{line:Nat}{env:Env}(h:noComp value=true):swapsWith value t line env=pure false:=by
 cases value <;> first | rfl | exact Bool.noConfusion h
theorem block_of{env:Env}(hk:env.scope.kind=.function):env.blockKind=.function:=by
 unfold Env.blockKind
 rw[hk];rfl
noncomputable def lcB(sc scope:Scope)(t:Str)(pos p:Pos):Bool:=sc.names.lookup t==some .local&&pos.line==p.line&&!(scope.names.any fun (n,k)=>n==t&&(k==.local || k==.cell))
theorem swaps_lc{env:Env}(hk:env.scope.kind=.function){e:Expr}{g:List Comprehension}{scope:Scope}{p pos:Pos}{t:Str}{line:Nat}:swapsWith (.ListComp e g scope p) (some (.Name t pos)) line env=pure (lcB env.scope scope t pos p):=by
 show pure (env.blockKind==.function&&env.kindOf t==some .local&&pos.line==p.line&&!(scope.names.any fun (n,k)=>n==t&&(k==.local || k==.cell)))=_
 rw[block_of hk];rfl
noncomputable def starX(x:Expr):Bool:=match x with
 | .Starred ..=>true
 | _=>false
noncomputable def swN(sc:Scope)(ts:List Expr):List Str:=ts.filterMap fun x=>match x with
 | .Name id pos=>if sc.names.lookup id==some .local&&pos.line==(ts.head?.map (·.pos.line)).getD 0 then some id else none
 | _=>none
noncomputable def swG{α:Type}(ts vs:List Expr)(names:List Str)(nf:Bool)(no bad yes:α):α:=
 if (!(ts.length==2 || ts.length==3) || vs.length != ts.length || nf)=true then no
 else if vs.any starX=true then no
 else if (names.length != ts.length || names.eraseDups.length != names.length)=true then no
 else if vs.all (foldedForSure 8)=true then no
 else if vs.all (constantsAlone 8)=true then bad else yes
theorem swG_is{env:Env}{ts vs:List Expr}{k k2:Nat}{p p2:Pos}:∃ bad,swappedStores [.Tuple ts k p] (.Tuple vs k2 p2) env=swG ts vs (swN env.scope ts) (env.blockKind != .function) (pure none) bad (pure (some (swN env.scope ts))):=⟨_,rfl⟩
theorem swG_to{α β:Type}{ts vs:List Expr}{names:List Str}{no bad yes:α}{r:β}{no' yes':β}{f:β→α}(h:swG ts vs names false (some no') none (some yes')=some r)(h1:no=f no')(h2:yes=f yes'):swG ts vs names false no bad yes=f r:=by
 have fin:∀ {c:Bool} {a b:Option β} {x y:α},(if c=true then a else b)=some r→(a=some r→x=f r)→(b=some r→y=f r)→(if c=true then x else y)=f r:=fun {c a b x y} h i1 i2=>by
  cases c
  ·exact i2 h
  ·exact i1 h
 have n:some no'=some r→no=f r:=fun q=>by rw[h1,Option.some.inj q]
 exact fin h n fun h=>fin h n fun h=>fin h n fun h=>fin h n fun h=>fin h nofun fun q=>by rw[h2,Option.some.inj q]
noncomputable def swS(sc:Scope)(ts:List Expr)(value:Expr):Option (Option (List Str)):=match value with
 | .Tuple vs _ _=>swG ts vs (swN sc ts) false (some none) none (some (some (swN sc ts)))
 | _=>some none
theorem swS_is{env:Env}(hk:env.scope.kind=.function){ts:List Expr}{k:Nat}{p:Pos}{value:Expr}{r:Option (List Str)}(h:swS env.scope ts value=some r):swappedStores [.Tuple ts k p] value env=pure r:=by
 cases value with
 | Tuple vs k2 p2=>
  obtain⟨bad,e⟩:=swG_is (env:=env) (ts:=ts) (vs:=vs) (k:=k) (k2:=k2) (p:=p) (p2:=p2)
  rw[e,block_of hk]
  exact swG_to (f:=pure) h rfl rfl
 | _=>
  obtain rfl:=Option.some.inj h
  rfl
noncomputable def isCompE(e:E):Bool:=match e with
 | .comp _ _ _ _ _ _=>true
 | _=>false
noncomputable def onSubT(ts:List Expr)(f:Expr→Expr→Bool):Bool:=on1 ts fun t=>onSub t fun y z _=>f y z
mutual
noncomputable def isS(T:Tb)(C:Ct)(sc:Scope):S→Stmt→Bool
 | .assign t e,x=>onAsg x fun ts value p=>on1 ts fun tx=>match t with
  | .name n=>onName tx fun id p'=>isT C sc true (.name n) (.Name id p')&&(isE T C false sc e value&&(noComp value || (isCompE e&&onLC value fun _ _ scope p2=>lcB sc scope id p' p2)))
  | .tup us=>onTup tx fun es _ _=>noComp value&&(isTs C sc true us es&&(isE T C false sc e value&&(swS sc es value).elim false fun r=>r.elim true fun names=>decide ((namesOfT us).map (fun xs=>xs.map C.nm)=some names)))
 | .aug n op e,x=>onAug x fun t op' value _=>onName t fun id p=>op.is op'&&(isT C sc true (.name n) (.Name id p)&&(!(id==("__classdict__":Str))&&isE T C false sc e value))
 | .expr e,x=>onExp x fun y _=>noComp y&&isE T C false sc e y
 | .ret e,x=>onRet x fun y _=>y.elim false fun y=>isE T C false sc e y
 | .ite c a b,x=>onIf x fun y xs ys _=>isE T C true sc c y&&(isSs T C sc a xs&&isSs T C sc b ys)
 | .while c b,x=>onWhile x fun y xs o _=>o.isEmpty&&(isE T C true sc c y&&isSs T C sc b xs)
 | .for t k its b,x=>onFor x fun xt iter xs o _=>o.isEmpty&&(noSet iter&&(isT C sc true t xt&&(isIt T sc k iter xt (isEs T C sc its)&&isSs T C sc b xs)))
 | .assert c,x=>onAss x fun y _ _=>isE T C true sc c y
 | .delx n i,x=>onDel x fun ts _=>onSubT ts fun oe ie=>isE T C false sc (.name n) oe&&isE T C false sc i ie
 | .stuck,_=>true
noncomputable def isSs(T:Tb)(C:Ct)(sc:Scope):List S→List Stmt→Bool
 | [],xs=>xs.isEmpty
 | s::ss,xs=>match xs with
  | x::xs=>isS T C sc s x&&isSs T C sc ss xs
  | []=>false
end
section
section
variable{G:Gl}{C:Ct}{A:Around}{cx:Cx}{T:Tb}{fa:Nat→Addr}{b3a b1a N:Addr}{mN:Str→Option Value}{F:Nat→List V→Led→Option (V × Led)}{env:Env}{own:List Addr}{mu:List Nat}
@[elab_as_elim] theorem onSubTK {ts:List Expr} {f:Expr→Expr→Bool} {P:List Expr→Prop} (h:onSubT ts f=true) (k:∀ y z p,f y z=true→P [.Subscript y z p]):P ts:=by
 refine on1K h fun t h=>?_
 refine onSubK h fun y z p h=>?_
 exact k y z p h
theorem orB{a b:Bool}(h:(a || b)=true):a=true∨b=true:=by rwa [Bool.or_eq_true] at h
theorem swSole{value:Expr}{es:List Expr}{k:Nat}{p:Pos}{line:Nat}(h:noComp value=true):swapsWithSole [.Tuple es k p] value line env=pure false:=by
 show swapsWith value (some (.Tuple es k p)) line env=pure false
 exact swaps_no h
theorem isComp_is{e:E}(h:isCompE e=true):∃ elt t k its conds caps,e=.comp elt t k its conds caps:=by
 cases e <;> first | exact⟨_,_,_,_,_,_,rfl⟩ | exact Bool.noConfusion h
theorem swR_sound{ts:List UK.T}{e:E}{es:List Expr}{k:Nat}{tpos pos:Pos}{value:Expr}{o:Option (Option (List Str))}(hk:env.scope.kind=.function)(ho:swS env.scope es value=o)(hn:noComp value=true)(hfl:FnOk own env)(ht:isTs C env.scope true ts es=true)(he:SE G C A env cx e value)
  (h:(o.elim false fun r=>r.elim true fun names=>decide ((namesOfT ts).map (fun xs=>xs.map C.nm)=some names))=true):SSo G C A env cx own mu (.assign (.tup ts) e) (.Assign [.Tuple es k tpos] value pos):=by
 cases o with
 | none=>exact Bool.noConfusion h
 | some r=>
  cases r with
  | none=>exact SSo.assignTup hfl ht (swSole hn) (swS_is hk ho) he
  | some names=>
   obtain⟨xs,hx,rfl⟩:=Option.map_eq_some_iff.mp (of_decide_eq_true h)
   exact SSo.assignSwap hfl ht hx (swSole hn) (swS_is hk ho) he
mutual
theorem isS_sound(H:Facts T G fa b3a b1a N mN cx)(hF:SF G C.lev F fa)(hfl:FnOk own env)(hk:env.scope.kind=.function):∀ (s:S) {x:Stmt},isS T C env.scope s x=true→SSo G C A env { cx with F:=F } own mu s x
 | .assign (.name n) e,x,h=>by
  refine onAsgK h fun ts value p g1=>?_
  refine on1K g1 fun tx g2=>?_
  refine onNameK g2 fun id p' g3=>?_
  obtain⟨h1,g4⟩:=andB g3
  obtain⟨h2,g5⟩:=andB g4
  rcases orB g5 with g5 | g5
  ·exact SSo.assignName hfl h1 (swaps_no g5) (isE_sound H hF e (b:=false) rfl h2)
  ·obtain⟨h3,g6⟩:=andB g5
   obtain⟨elt,t,k,its,conds,caps,rfl⟩:=isComp_is h3
   obtain⟨xe,xt,iter,ifs,scope,pp,en,rfl,L⟩:=isLC_is (A:=A) (F:=F) (its:=its) H (fun xs=>isEs_sound H hF its rfl) h2
   obtain⟨h6,h7⟩:=andB L.rest
   cases hq:lcB env.scope scope id p' pp with
   | true=>exact SSo.assignComp L.set hfl h1 ((swaps_lc hk).trans (congrArg pure hq)) L.ok L.tgt L.enum L.cap L.dis L.it (fun cenv hc=>isConds_sound H hF conds hc h6) (fun cenv hc=>isE_sound H hF elt (b:=false) hc h7)
   | false=>exact SSo.assignName hfl h1 ((swaps_lc hk).trans (congrArg pure hq)) (isE_sound H hF (.comp elt t k its conds caps) (b:=false) rfl h2)
 | .assign (.tup us) e,x,h=>by
  refine onAsgK h fun ts value p g1=>?_
  refine on1K g1 fun tx g2=>?_
  refine onTupK g2 fun es k p' g3=>?_
  obtain⟨h1,g4⟩:=andB g3
  obtain⟨h2,g5⟩:=andB g4
  obtain⟨h3,g6⟩:=andB g5
  exact swR_sound hk rfl h1 hfl h2 (isE_sound H hF e (b:=false) rfl h3) g6
 | .aug n op e,x,h=>by
  refine onAugK h fun t op' value p g1=>?_
  refine onNameK g1 fun id p2 g2=>?_
  obtain⟨h1,g3⟩:=andB g2
  obtain⟨h2,g4⟩:=andB g3
  exact SSo.aug hfl h1 h2 (notB (andB g4).1) (isE_sound H hF e (b:=false) rfl (andB g4).2)
 | .expr e,x,h=>by
  refine onExpK h fun y p g1=>?_
  exact SSo.expr (by unfold interactive;rw[hk];rfl) (swaps_no (andB g1).1) (isE_sound H hF e (b:=false) rfl (andB g1).2)
 | .ret e,x,h=>by
  refine onRetK h fun v p g1=>?_
  cases v with
  | none=>exact Bool.noConfusion g1
  | some y=>exact SSo.ret (isE_sound H hF e (b:=false) rfl g1)
 | .ite c a b,x,h=>by
  refine onIfK h fun y xs ys p g1=>?_
  obtain⟨h1,g2⟩:=andB g1
  exact SSo.ite (isE_sound H hF c (b:=true) rfl h1) (isSs_sound H hF hfl hk a (andB g2).1) (isSs_sound H hF hfl hk b (andB g2).2)
 | .while c b,x,h=>by
  refine onWhileK h fun y xs o p g1=>?_
  obtain⟨h1,g2⟩:=andB g1
  obtain rfl:=emptyB h1
  exact SSo.while (isE_sound H hF c (b:=true) rfl (andB g2).1) (isSs_sound H hF hfl hk b (andB g2).2)
 | .for t k its b,x,h=>by
  refine onForK h fun xt iter xs o p g1=>?_
  obtain⟨h1,g2⟩:=andB g1
  obtain rfl:=emptyB h1
  obtain⟨h2,g3⟩:=andB g2
  obtain⟨h3,g4⟩:=andB g3
  obtain⟨en,hen,hi⟩:=it_sound (A:=A) (F:=F) H rfl (fun xs=>isEs_sound H hF its rfl) (andB g4).1
  exact SSo.for hfl h2 h3 hen hi (isSs_sound H hF hfl hk b (andB g4).2)
 | .assert c,x,h=>by
  refine onAssK h fun y m p g1=>?_
  exact SSo.assert (isE_sound H hF c (b:=true) rfl g1)
 | .delx n i,x,h=>by
  refine onDelK h fun ts p g1=>?_
  refine onSubTK g1 fun oe ie p2 g2=>?_
  exact SSo.delx (isE_sound H hF (.name n) (b:=false) rfl (andB g2).1) (isE_sound H hF i (b:=false) rfl (andB g2).2)
 | .stuck,x,h=>fun _ _ _ e _=>e.elim
theorem isSs_sound(H:Facts T G fa b3a b1a N mN cx)(hF:SF G C.lev F fa)(hfl:FnOk own env)(hk:env.scope.kind=.function):∀ (ss:List S) {xs:List Stmt},isSs T C env.scope ss xs=true→SSs G C A env { cx with F:=F } own mu ss xs
 | [],xs,h=>by obtain rfl:=emptyB h;exact SSs.nil
 | s::ss,x::xs,h=>SSs.cons (isS_sound H hF hfl hk s (andB h).1) (isSs_sound H hF hfl hk ss (andB h).2)
 | s::ss,[],h=>Bool.noConfusion h
end
end
end
section
section
variable{G:Gl}{C:Ct}{A:Around}{env:Env}{cx:Cx}{w:Wd}{loc:Loc}{led led':Led}{s:Shared}
theorem SetOf_get{K:Type}[DecidableEq K]{p:Program}{W:World}{knd:KeyKind p W K}{h h':Heap}{a:Addr}{S:K→Bool}{n:Nat}(x:h.SetOf knd a S n)(k:∀ o,h.get? a=some o→h'.get? a=some o):h'.SetOf knd a S n:=
 let ⟨o,es,ep,t,ho,r⟩:=x;⟨o,es,ep,t,k o ho,r⟩
theorem MapOf_get{K:Type}[DecidableEq K]{p:Program}{W:World}{knd:KeyKind p W K}{h h':Heap}{a:Addr}{f:K→Option Value}(x:h.MapOf knd a f)(k:∀ o,h.get? a=some o→h'.get? a=some o):h'.MapOf knd a f:=
 let ⟨o,es,ep,ho,r⟩:=x;⟨o,es,ep,k o ho,r⟩
theorem VR.intV{i:Int}{v:V}{val:Value}(r:VR G w v val)(h:v=.d (.int i)):∃ t,val=.int i t:=by subst h;exact r
theorem VR.strV{i:Str}{v:V}{val:Value}(r:VR G w v val)(h:v=.d (.str i)):∃ t,val=.str i t:=by subst h;exact r
theorem St.kept(c:St G C A env w loc led s)(b:Addr)(o:Obj)(e:G.h₀.get? b=some o):s.heap.get? b=some o:=c.heap.1▸(c.conc.keep b o e).1
theorem SE.inB1{b1a:Addr}{n:Nat}{e:E}{z:Expr}{id:Str}{q p:Pos}(hB:G.h₀.SetOf (intKind G.p G.w) b1a cx.b1 n)(hk:env.kindOf id=some .globalImplicit)(hv:G.look id=some (.ref b1a))(hd:(id==("__debug__":Str))=false)
  (h:SE G C A env cx e z):SE G C A env cx (.inB1 e) (.Compare z [.In] [.Name id q] p):=fun {w loc led s K Q} c ev k=>
 wpAny_Compare1 (h c (bindW ev) fun {r xv s1 w1} e1 p1=>by
  obtain⟨i,hi,e2⟩:=V.intW (mapW e1)
  obtain⟨t,rfl⟩:=p1.val.intV hi
  have c1:=p1.st c
  exact global_name c1 hk hv hd (wpAny_inSet_of (knd:=intKind G.p G.w) (k:=i) (n:=n) (intKind_is G.p G.w i t) rfl (SetOf_get hB fun o=>c1.kept _ o) (k e2 ⟨p1.heap,p1.stp,p1.led,p1.nd,rfl⟩))) rfl
theorem SE.b3get{b3a:Addr}{f:Int→Option Value}{e:E}{z:Expr}{id:Str}{q ap p:Pos}(hB:G.h₀.MapOf (intKind G.p G.w) b3a f)(hf:∀ c,(∃ x,cx.b3 c=some x∧∃ t,f c=some (.str x t))∨(cx.b3 c=none∧f c=none))(hne:(b3a==sysModules)=false)
  (hk:env.kindOf id=some .globalImplicit) (hv:G.look id=some (.ref b3a)) (hd:(id==("__debug__":Str))=false) (hline:(ap.endLine==p.line)=true) (hn:noStar z=true)
  (h:SE G C A env cx e z):SE G C A env cx (.b3get e) (.Call (.Attribute (.Name id q) ("get":Str) ap) [z] [] p):=fun {w loc led s K Q} c ev k=>by
 have hns:noStars [z]=true:=by unfold noStars;rw[List.all_cons,hn];rfl
 have hfew:((backTo p (starEach [z] env)).all (fun x=>!x.1)&&(backToKw p (keywordEach [] env)).all (fun x=>x.1.isSome)
   && decide ([z].length+([]:List Keyword).length+(if ([]:List Keyword).isEmpty then 0 else 1)<30))=true:=by
  rw[all_plain hns];rfl
 have hm:=MapOf_get hB fun o=>c.kept _ o
 refine wpAny_Call_method_lateS (noBase_is rfl) hfew hline (global_name c hk hv hd ?_)
 refine⟨"dict","dict.get",PySem.F.plainAttrs_dict,PySem.F.slot_dict_get,PySem.F.type_dict_get,hm.typeIs,hm.noDict,?_⟩
 refine Calls.callWith_builtin (noStars_plain hns) ?_
 rw[starEach_cons hn]
 refine(Calls.evalArgs_plain (Calls.spliced_cons (h c (bindW ev) fun {r kv s2 w2} e1 p2=>Calls.spliced_nil ?_)))
 obtain⟨i,hi,e2⟩:=V.intW (mapW e1)
 obtain⟨t,rfl⟩:=p2.val.intV hi
 have hm2:=MapOf_get hB fun o=>(p2.st c).kept _ o
 refine call_meetsIn PySem.F.slot_dict_get hm2.typeIs PySem.F.entry_dict_get (PySem.F.args_dict_get_2 _ _) (meets_dict_get (prog:=G.p) (w:=G.w) (key:=.int i t) (intKind G.p G.w) b3a (k:=i) (intKind_is G.p G.w i t) hne) ⟨f,hm2,?_⟩
 rcases hf i with ⟨x,h1,t',h2⟩ | ⟨h1,h2⟩ <;> rw[h1] at e2 <;> rw[h2]
 ·exact k e2 ⟨p2.heap,p2.stp,p2.led,p2.nd,t',rfl⟩
 ·exact k e2 ⟨p2.heap,p2.stp,p2.led,p2.nd,rfl⟩
end
end
end UK
end
section
namespace UK
open PySem PySem.W PySem.Calls PyProof.Rows PySem.SeqAt PySem.Builtin PySem.Builtin.Re
section
theorem pat_plain:PlainAttrs "re.Pattern":=
 ⟨⟨"object.__getattribute__",by rw[typeLookup_type,builtinLookup_eq_fast];kernel_rfl,by decide +kernel⟩,by rw[typeLookup_type,builtinLookup_eq_fast];kernel_rfl⟩
theorem pat_owner:Manifest.owners.lookup (String.ofList ['n','r','e','t','t','a','P','.','e','r'].reverse)=some Manifest.sig_re_Pattern:=by kernel_rfl
theorem pat_slot:Slot "re.Pattern" "search" "re.Pattern.search":=
 .of (owner:="re.Pattern") (n:="search") (by rw[typeLookup_type,builtinLookup_eq_fast];kernel_rfl) (by decide +kernel) (by decide +kernel) (by decide +kernel)
  (by first | exact .inl (by decide +kernel) | exact .inr (by decide +kernel)) (by rw[isSubtype_type];kernel_rfl)
theorem pat_type:typeOf (.builtin "re.Pattern.search")=pure (.type "method_descriptor"):=by show builtinType _=_;rw[builtinType_eq_fast];kernel_rfl
theorem pat_entry:entryFor table "re.Pattern.search"=some Builtin.«re.Pattern.search»:=entryFor_of_tree (by kernel_rfl)
theorem pat_args(a b:Value):argsOk "re.Pattern.search" ⟨[a,b],[]⟩:=by
 unfold argsOk;rw[signature?_of (id:="re.Pattern.search") (n:=['h','c','r','a','e','s']) (o:=['n','r','e','t','t','a','P','.','e','r']) (by kernel_rfl) pat_owner];kernel_rfl
noncomputable def drive:Nat→Sre.M→Option Sre.M
 | 0,_=>none
 | n+1,m=>if (m.runFor reTurnSteps).outcome.isSome then some (m.runFor reTurnSteps) else drive n (m.runFor reTurnSteps)
noncomputable def failed(m:Sre.M):Bool:=match m.outcome with
 | some .failed=>true
 | _=>false
noncomputable def searchNo(code cps:Array Nat):Bool:=match drive 400 (Sre.forSearch code cps 0 0 (min 9223372036854775807 cps.size) false) with
 | some m=>failed m
 | none=>false
section
variable{M:Model}{A:Around}{E:Value→Shared→Prop}{s:Shared}
theorem drive_sound:∀ {n T:Nat} {m m':Sre.M} {Q:Sre.M→Shared→Prop},n≤T→drive n m=some m'→Q m' s→wpAny M A (reDrive T m) Q E s
 | 0,_,_,_,_,_,e,_=>by cases e
 | n+1,0,_,_,_,h,_,_=>absurd h (Nat.not_succ_le_zero n)
 | n+1,T+1,m,m',Q,h,e,q=>by
  unfold drive at e
  unfold reDrive
  dsimp only
  split at e
  ·rename_i hs
   rw[if_pos hs];cases e
   exact wpAny_pure q
  ·rename_i hs
   rw[if_neg hs]
   exact wpAny_bind (wpAny_rule (drive_sound (Nat.le_of_succ_le_succ h) e q))
theorem rules_loop{f:Nat→PUnit→Sem (ForInStep PUnit)}(hf:∀ i u,(∃ t,f i u=(do rule t;pure (.yield ⟨⟩)))∨f i u=pure (.yield ⟨⟩)):∀ (l:List Nat) {Q:PUnit→Shared→Prop},Q ⟨⟩ s→wpAny M A (forIn l ⟨⟩ f) Q E s
 | [],Q,h=>by rw[List.forIn_nil];exact wpAny_pure h
 | i::l,Q,h=>by
  rw[List.forIn_cons]
  rcases hf i ⟨⟩ with ⟨t,e⟩ | e
  ·rw[e]
   exact wpAny_bind (wpAny_bind (wpAny_rule (wpAny_pure (rules_loop hf l h))))
  ·rw[e]
   exact wpAny_bind (wpAny_pure (rules_loop hf l h))
theorem runToEnd_failed{n:Nat}{m m':Sre.M}{Q:Option Sre.M→Shared→Prop}(hn:n≤2 ^ 64)(e:drive n m=some m')(hf:failed m'=true)(h:Q none s):wpAny M A (reRunToEnd m) Q E s:=by
 unfold reRunToEnd
 refine wpAny_bind (drive_sound hn e ?_)
 skip
 refine wpAny_bind (rules_loop (fun i u=>?_) _ ?_)
 ·split
  ·exact .inl ⟨_,rfl⟩
  ·exact .inr rfl
 ·unfold failed at hf
  split at hf
  ·rename_i h0
   rw[h0]
   exact wpAny_pure h
  ·cases hf
theorem reNamed_one(v:Value):reNamed "re.Pattern.search" "search" ["string","pos","endpos"] 1 [v] []=pure [some v,none,none]:=by
 rfl
theorem search_no{pa ca:Addr}{o oc:Obj}{fs:Array Value}{cs:Array Value}{n:Nat}{x:Str}{t:Tok}{Q:Fin→Shared→Prop}(ho:s.heap.get? pa=some o)(hd:o.data=.fields fs)(h5:fs.getD 5 .none=.ref ca)
  (h6:reRawNat (fs.getD 6 .none)=0) (h2:reRawNat (fs.getD 2 .none)=0) (hoc:s.heap.get? ca=some oc) (hdc:oc.data=.seq cs n) (hs:searchNo ((cs.map reRawOf).map (·.toNat)) x.cps=true) (h:Q (.done (.ret .none)) s) :
  wpAny M A (Builtin.«re.Pattern.search» ⟨[.ref pa,.str x t],[]⟩) Q E s:=by
 unfold Builtin.«re.Pattern.search» reTarget
 dsimp only
 rw[reNamed_one]
 simp only[pure_bind,bind_assoc]
 refine wpAny_bind (wpAny_fieldsOf ho hd ?_)
 unfold reTextOf asStr?
 simp only[pure_bind]
 rw[h6,h2,h5]
 skip
 simp only[Nat.reduceBEq,Bool.false_and,Bool.and_false,Bool.false_eq_true,if_false,pure_bind]
 unfold reNoCollectionInside
 simp only[Nat.reduceBEq,Bool.false_eq_true,if_false,pure_bind]
 unfold reRawItems
 simp only[bind_assoc]
 refine wpAny_bind (wpAny_seqItems hoc hdc ?_)
 simp only[pure_bind,Option.getD_some]
 unfold reAnswer
 dsimp only
 unfold searchNo at hs
 split at hs
 ·rename_i m' e
  refine wpAny_bind (runToEnd_failed (n:=400) (by decide) (m':=m') ?_ hs ?_)
  ·rw[←e];rfl
  ·exact wpAny_pure h
 ·cases hs
end
end
end UK
end
section
namespace UK
open PySem PySem.W PySem.Calls PyProof.Rows PySem.SeqAt
section
noncomputable def rxName(nm:Bool):Str:=if nm then "_name_disallowed_re" else "_value_disallowed_re"
inductive ConvBody:List Stmt→Prop
 | mk (p1 p2 p3 p4 p5 p6 p7 p8 p9 p10 p11 p12 p13 p14 p15 p16 p17 p18 p19:Pos) (B rest:List Stmt) (hl:(p13.endLine==p15.line)=true):ConvBody (
  .If (.Compare (.Call (.Name ("type":Str) p1) [.Name ("value":Str) p2] [] p3) [.Is] [.Name ("str":Str) p4] p5)
   [.Assign [.Name ("regex":Str) p6] (.IfExp (.Name ("name":Str) p7) (.Name ("_name_disallowed_re":Str) p8) (.Name ("_value_disallowed_re":Str) p9) p10) p11,
   .If (.Call (.Attribute (.Name ("regex":Str) p12) ("search":Str) p13) [.Name ("value":Str) p14] [] p15) B [] p16,
   .Return (some (.Name ("value":Str) p17)) p18] [] p19::rest)
def PatFact(G:Gl)(nm:Bool)(code:Array Nat):Prop:=
 ∃ pa ca o oc fs cs n,G.look (rxName nm)=some (.ref pa)∧G.h₀.get? pa=some o∧o.cls=.type "re.Pattern"∧o.dict=none∧o.data=.fields fs∧fs.getD 5 .none=.ref ca ∧
  Builtin.Re.reRawNat (fs.getD 6 .none)=0∧Builtin.Re.reRawNat (fs.getD 2 .none)=0∧G.h₀.get? ca=some oc∧oc.data=.seq cs n∧(cs.map Builtin.Re.reRawOf).map (·.toNat)=code
structure FunAt (G:Gl) (fc:Addr) (o:Obj) (fd:FuncData) (xs:List Stmt) (as:List Arg) (ks:List Arg) (kd:List (Option Expr)) (dd:List Expr):Prop where
 at':G.h₀.get? fc=some o
 cls:o.cls=.type "function"
 dat:o.data=.func fd
 gl:fd.globals=mainGlobals
 bi:fd.builtins=builtinsNs
 clo:fd.closure=[]
 bd:fd.body=.stmts xs
 cd:G.h₀.CodeRec fd.code fd.qualname
 kind:fd.scope.kind=.function
 co:fd.scope.isCoroutine=false
 gen:fd.scope.isGenerator=false
 par:fd.params=⟨[],as,none,ks,kd,none,dd⟩
def locN(fd:FuncData)(xs:List Str):Prop:=∀ x,x∈xs→fd.scope.names.lookup x=some .local
def gloN(fd:FuncData)(xs:List Str):Prop:=∀ x,x∈xs→fd.scope.names.lookup x=some .globalImplicit
structure ConvAt (G:Gl) (fc:Addr) (o:Obj) (fd:FuncData) (xs:List Stmt) (a1 a2 a3:Arg) (kd:List (Option Expr)):Prop where
 fn:FunAt G fc o fd xs [a1,a2] [a3] kd []
 n1:a1.arg=("self":Str)
 n2:a2.arg=("value":Str)
 n3:a3.arg=("name":Str)
 df:fd.defaults=.none
 kw:fd.kwdefaults=.none
 body:ConvBody xs
 lo:locN fd [("self":Str),("value":Str),("name":Str),("regex":Str)]
 gn:gloN fd [("type":Str),("str":Str),("_name_disallowed_re":Str),("_value_disallowed_re":Str)]
structure ConvFact (G:Gl) (code:Bool→Array Nat) (fc:Addr):Prop where
 ex:∃ o fd xs a1 a2 a3 kd,ConvAt G fc o fd xs a1 a2 a3 kd
 ty:G.look ("type":Str)=some (.type "type")
 st:G.look ("str":Str)=some (.type "str")
 pat:∀ nm,PatFact G nm (code nm)
section
variable{G:Gl}{C:Ct}{A:Around}{env:Env}{cx:Cx}{w:Wd}{loc:Loc}{led led':Led}{s:Shared}
theorem conv_bind{fd:FuncData}{a1 a2 a3:Arg}{kd:List (Option Expr)}{sv xv nv:Value}(hp:fd.params=⟨[],[a1,a2],none,[a3],kd,none,[]⟩)(h1:a1.arg=("self":Str))(h2:a2.arg=("value":Str))(h3:a3.arg=("name":Str))
  (hd:fd.defaults=.none) (hk:fd.kwdefaults=.none):bindArgs fd ⟨[sv,xv],[(("name":Str),nv)]⟩=pure [(("self":Str),sv),(("value":Str),xv),(("name":Str),nv)]:=by
 obtain⟨n1,an1,ps1⟩:=a1
 obtain⟨n2,an2,ps2⟩:=a2
 obtain⟨n3,an3,ps3⟩:=a3
 dsimp only at h1 h2 h3
 subst h1;subst h2;subst h3
 unfold bindArgs
 rw[hp,hd]
 kernel_rfl
structure Fm (G:Gl) (fd:FuncData) (env:Env) (s₀:Shared):Prop where
 sc:env.scope=fd.scope
 kind:fd.scope.kind=.function
 gl:env.globals=mainGlobals
 bi:env.builtins=builtinsNs
 ns:G.h₀.Ns mainGlobals G.mg∧G.h₀.Ns builtinsNs G.mb
 keep:∀ b o,G.h₀.get? b=some o→s₀.heap.get? b=some o
section
variable{fd:FuncData}{s₀:Shared}{m cm:Str→Option Value}
theorem Fm.fn(f:Fm G fd env s₀):env.scope.kind=.function:=by rw[f.sc];exact f.kind
theorem Fm.k(f:Fm G fd env s₀){x:Str}{k:NameKind}(h:fd.scope.names.lookup x=some k):env.kindOf x=some k:=by unfold Env.kindOf;rw[f.sc];exact h
theorem Fm.look(f:Fm G fd env s₀)(x:InCallC s₀ env.locals m env.cells cm s){xs:List Str}(hx:gloN fd xs){id:Str}{v:Value}{pos:Pos}{E:Value→Shared→Prop}{Q:Value→Shared→Prop}(hl:id∈xs)(hv:G.look id=some v)(hd:(id==("__debug__":Str))=false)(h:Q v s) :
  wpAny (Mo G) A (eval (.Name id pos) env) Q E s:=by
 have h1:s.heap.Ns env.globals G.mg:=by rw[f.gl];exact Ns_get f.ns.1 fun o e=>x.toInCall.keep _ o (f.keep _ o e)
 have h2:s.heap.Ns env.builtins G.mb:=by rw[f.bi];exact Ns_get f.ns.2 fun o e=>x.toInCall.keep _ o (f.keep _ o e)
 refine Name_function_global f.fn (f.k (hx _ hl)) ?_ hd
 unfold Gl.look at hv
 cases e:G.mg id with
 | some u=>rw[e] at hv;obtain rfl:=Option.some.inj hv;exact loadGlobal_global h1 e h
 | none=>rw[e] at hv;exact loadGlobal_builtin h1 e h2 hv h
theorem Fm.ld(f:Fm G fd env s₀)(x:InCallC s₀ env.locals m env.cells cm s){xs:List Str}(hx:locN fd xs){id:Str}{v:Value}{pos:Pos}{E:Value→Shared→Prop}{Q:Value→Shared→Prop}(hl:id∈xs)(hv:m id=some v)(hd:(id==("__debug__":Str))=false)(h:Q v s) :
  wpAny (Mo G) A (eval (.Name id pos) env) Q E s:=wpAny_Name (ldLC x f.fn (f.k (hx _ hl)) hv h) hd
end
def Kp(s s':Shared):Prop:=(∀ b o,s.heap.get? b=some o→s'.heap.get? b=some o)∧s'.os=s.os∧s'.gens=s.gens
theorem kp_of{s₀ s:Shared}{m cm:Str→Option Value}{cs:List (Str × Addr)}{L:Addr}(x:InCallC s₀ L m cs cm s):Kp s₀ s:=
 ⟨x.toInCall.keep,(by obtain⟨h,tk,e⟩:=x.toInCall.same;rw[e];exact⟨rfl,rfl⟩)⟩
theorem conv_body{code:Bool→Array Nat}{fc:Addr}{x:Str}{t:Tok}{nm:Bool}{o:Obj}{fd:FuncData}{xs:List Stmt}{a1 a2 a3:Arg}{kd:List (Option Expr)}{s₀:Shared}{m cm:Str→Option Value}{Q:Flow→Shared→Prop}(H:ConvFact G code fc)(F:ConvAt G fc o fd xs a1 a2 a3 kd)(hs:searchNo (code nm) x.cps=true)
  (f:Fm G fd env s₀) (x1:InCallC s₀ env.locals m env.cells cm s) (mv:m ("value":Str)=some (.str x t)) (mn:m ("name":Str)=some (.bool nm)) (k:∀ {s3},Kp s₀ s3→Q (.ret (.str x t)) s3) :
  wpAny (Mo G) A (execs xs env) Q NoE s:=by
 have lo:=F.lo
 have gn:=F.gn
 obtain⟨p1,p2,p3,p4,p5,p6,p7,p8,p9,p10,p11,p12,p13,p14,p15,p16,p17,p18,p19,BB,rest,hl⟩:=F.body
 refine wpAny_execs_cons (wpAny_If (wpAny_isTrue_Compare1 (Call_ (f.look x1 gn (.head _) H.ty (by decide +kernel) ?_)) rfl))
 refine PySem.callWith_type rfl (Calls.evalArgs_plain (Calls.spliced_cons (f.ld x1 lo (.tail _ (.head _)) mv (by decide +kernel) (Calls.spliced_nil (call_type_of (typeIs_str _ _ _) (by decide +kernel) ?_)))))
 refine f.look x1 gn (.tail _ (.head _)) H.st (by decide +kernel) (wpAny_is_self (by rfl) (wpAny_truthy_bool ?_))
 rw[if_pos rfl]
 obtain⟨pa,ca,op,oc,fs,cs,n,g1,g2,g3,g4,g5,g6,g7,g8,g9,g10,g11⟩:=H.pat nm
 refine wpAny_execs_cons (wpAny_Assign_Name (wpAny_IfExp (wpAny_isTrue_value (f.ld x1 lo (.tail _ (.tail _ (.head _))) mn (by decide +kernel) (wpAny_truthy_bool ?_)))) rfl)
 have look:∀ {Q:Value→Shared→Prop},Q (.ref pa) s→if nm=true then wpAny (Mo G) A (eval (.Name ("_name_disallowed_re":Str) p8) env) Q NoE s else wpAny (Mo G) A (eval (.Name ("_value_disallowed_re":Str) p9) env) Q NoE s:=fun h=>by
  cases nm with
  | true=>exact f.look x1 gn (.tail _ (.tail _ (.head _))) g1 (by decide +kernel) h
  | false=>exact f.look x1 gn (.tail _ (.tail _ (.tail _ (.head _)))) g1 (by decide +kernel) h
 refine look ?_
 refine stLC x1 f.fn (f.k (lo _ (.tail _ (.tail _ (.tail _ (.head _)))))) fun s2 x2=>?_
 have mv2:(fun y=>if y=("regex":Str) then some (Value.ref pa) else m y) ("value":Str)=some (.str x t):=(if_neg (by decide +kernel)).trans mv
 have mr2:(fun y=>if y=("regex":Str) then some (Value.ref pa) else m y) ("regex":Str)=some (.ref pa):=if_pos rfl
 generalize (fun y=>if y=("regex":Str) then some (Value.ref pa) else m y)=m2 at x2 mv2 mr2
 have hop:=x2.toInCall.keep _ _ (f.keep _ _ g2)
 refine wpAny_execs_cons (wpAny_If (wpAny_isTrue_value (wpAny_Call_method_lateS rfl rfl hl (f.ld x2 lo (.tail _ (.tail _ (.tail _ (.head _)))) mr2 (by decide +kernel) ?_))))
 refine⟨"re.Pattern","re.Pattern.search",pat_plain,pat_slot,pat_type,⟨_,hop,g3⟩,fun b e=>by cases e;exact⟨_,hop,g4⟩,?_⟩
 refine Calls.callWith_builtin rfl (Calls.evalArgs_plain (Calls.spliced_cons (f.ld x2 lo (.tail _ (.head _)) mv2 (by decide +kernel) (Calls.spliced_nil ?_))))
 refine wpAny_call (codeAny_call_builtin pat_slot.plain pat_entry (pat_slot.check _ _ _ _ _ _ _ _ ⟨_,hop,g3⟩ (pat_args _ _) ?_))
 refine search_no hop g5 g6 g7 g8 (x2.toInCall.keep _ _ (f.keep _ _ g9)) g10 (by rw[g11];exact hs) (truthy_none (wpAny_execs_nil ?_))
 exact wpAny_execs_cons (wpAny_Return_some (f.ld x2 lo (.tail _ (.head _)) mv2 (by decide +kernel) (k (kp_of x2))))
theorem FunAt.fm{fc:Addr}{o:Obj}{fd:FuncData}{xs:List Stmt}{as ks:List Arg}{kd:List (Option Expr)}{dd:List Expr}(H:FunAt G fc o fd xs as ks kd dd){s₀:Shared}(gl:G.h₀.Ns mainGlobals G.mg∧G.h₀.Ns builtinsNs G.mb)(keep:∀ b o,G.h₀.get? b=some o→s₀.heap.get? b=some o)
  {L:Addr} {cs:List (Str × Addr)} {q:Str} {f:Option Addr} {cd:Value} (henv:env=newEnv fd.scope L fd.globals cs q f cd none fd.builtins):Fm G fd env s₀:=
 ⟨by rw[henv];rfl,H.kind,by rw[henv];exact H.gl,by rw[henv];exact H.bi,gl,keep⟩
theorem conv_call{lev:Nat}{code:Bool→Array Nat}{fc:Addr}{sv:Value}{x:Str}{t:Tok}{nm:Bool}{Q:Value→Shared→Prop}(H:ConvFact G code fc)(B:Base G lev A w led)(hh:Hp G w s)(hs:searchNo (code nm) x.cps=true)(k:∀ {s3},Kp s s3→Q (.str x t) s3) :
  wpAny (Mo G) A (call (.ref fc) [sv,.str x t] [(("name":Str),.bool nm)]) Q NoE s:=by
 obtain⟨o,fd,xs,a1,a2,a3,kd,F⟩:=H.ex
 have keep0:∀ b o,G.h₀.get? b=some o→s.heap.get? b=some o:=fun b o e=>hh.1▸(B.keep b o e).1
 refine wpAny_call (codeAny_call_function (o:=o) (fd:=fd) (by have:=B.depth;unfold recursionLimit;(revert this;exact z2 0x7fe1083e8b0160e12c8a849705280)) (keep0 _ _ F.fn.at') F.fn.dat F.fn.co F.fn.gen F.fn.bd (F.fn.cd.keeps keep0) ?_)
 rw[conv_bind F.fn.par F.n1 F.n2 F.n3 F.df F.kw,F.fn.clo]
 refine wpAny_pure (wpAny_newFunctionEnv_cells F.fn.kind (fun y hy=>.inl (F.lo _ ?_)) (fun env henv s1 x1=>?_))
 ·simp only[List.mem_cons,List.not_mem_nil,or_false] at hy
  rcases hy with rfl | rfl | rfl
  ·exact .head _
  ·exact .tail _ (.head _)
  ·exact .tail _ (.tail _ (.head _))
 ·have f:=F.fn.fm B.glob keep0 henv
  have nd:([(("self":Str),sv),(("value":Str),Value.str x t),(("name":Str),Value.bool nm)].map (·.1)).Nodup:=by
   show [("self":Str),("value":Str),("name":Str)].Nodup
   decide +kernel
  exact⟨(B.nolim.keeps keep0).keeps x1.toInCall.keep,codeAny_func (wpAny_mono (conv_body H F hs f x1 (Q:=fun f s3=>f=.ret (.str x t)∧Kp s s3)
   (bindL_at (kindOf:=env.kindOf) (m:=fun _=>none) nd (.tail _ (.head _)) (f.k (F.lo _ (.tail _ (.head _))))) (bindL_at (kindOf:=env.kindOf) (m:=fun _=>none) nd (.tail _ (.tail _ (.head _))) (f.k (F.lo _ (.tail _ (.tail _ (.head _)))))) fun h=>⟨rfl,h⟩)
   (fun f s3 hf=>by obtain⟨rfl,hf⟩:=hf;exact k hf) fun _ _ h=>h.elim)⟩
theorem SE.conv{N:Addr}{mN:Str→Option Value}{code:Bool→Array Nat}{fc:Addr}{yb:Option Value}(hC:CA G N mN)(H:ConvFact G code fc)(hf:mN ("_convert_string_type":Str)=some (.ref fc))(hB:typeLookup (.type "object") ("_convert_string_type":Str)=pure yb)
  (hcx:∀ nm x,cx.conv nm x=true→searchNo (code nm) x.cps=true) {nm:Bool} {o e:E} {y z:Expr} {ap p p1 p2:Pos} {i:Nat} (hbase:attributeBase y ("_convert_string_type":Str) env (eval y env)=eval y env) (hline:(ap.endLine==p.line)=true) (hn:noStar z=true)
  (ho:SE G C A env cx o y) (h:SE G C A env cx e z):SE G C A env cx (.conv nm o e) (.Call (.Attribute y ("_convert_string_type":Str) ap) [z] [⟨some ("name":Str),.Constant (.bool nm) i p1,p2⟩] p):=fun {w loc led s K Q} c ev k=>by
 obtain⟨of,fd,xs,a1,a2,a3,kd,F⟩:=H.ex
 have hns:noStars [z]=true:=by unfold noStars;rw[List.all_cons,hn];rfl
 have hform:methodCallForm ([z].length+[(⟨some ("name":Str),.Constant (.bool nm) i p1,p2⟩:Keyword)].length) (backTo p (starEach [z] env)) (backToKw p (keywordEach [⟨some ("name":Str),.Constant (.bool nm) i p1,p2⟩] env))=true:=by
  unfold methodCallForm
  rw[all_plain hns];rfl
 refine Call_own hC c hbase hform hline hf F.fn.at' F.fn.cls (by decide +kernel) hB ho (bindW ev) (fun e=>let ⟨_,_,e⟩:=isW (bindW e);let ⟨_,_,e⟩:=V.strW (bindW e);(gdW e).1.1) fun {r a s1 w1} e1 q1=>?_
 have c1:=q1.st c
 refine callWith_function_kw (o:=of) (fd:=fd) ?_
 rw[starEach_cons hn]
 refine evalArgs_kw rfl (Calls.spliced_cons (h c1 (bindW e1) fun {r2 xval s2 w2} e2 q2=>Calls.spliced_nil ?_))
 obtain⟨x,hx,e3⟩:=V.strW (bindW e2)
 obtain⟨⟨_,hcv⟩,e4⟩:=gdW e3
 obtain⟨t,rfl⟩:=q2.val.strV hx
 have c2:=q2.st c1
 refine wpAny_evalAll_cons (wpAny_bind (wpAny_pure (wpAny_bind (wpAny_standAt (wpAny_pure (wpAny_evalAll_nil ⟨⟨c2.kept _ _ F.fn.at',F.fn.dat⟩,?_⟩))))))
 exact conv_call H c2.conc.base q2.heap (hcx _ _ hcv) fun {s3} kp=>k e4 (q1.trans (q2.trans (c2.grown (fun b o e=>kp.1 b o (q2.heap.1▸e)) ⟨t,rfl⟩ ⟨kp.2.1.trans q2.heap.2.1,kp.2.2.trans q2.heap.2.2⟩)))
end
end
section
inductive InitBody:List Stmt→Prop
 | mk (p1 p2 p3 p4 p5 p6 p7 p8 p9 p10 p11 p12 p13 p14 p15 p16 p17 p18 p19 p20 p21 p22:Pos) (i j:Nat) (tgt:Expr) (R FB:List Stmt):InitBody [
  .Assign [.Name ("headers":Str) p1] (.IfExp (.Compare (.Name ("headers":Str) p2) [.IsNot] [.Constant .none i p3] p4) (.Name ("headers":Str) p5) (.List [] p6) p7) p8,
  .If (.Compare (.Call (.Name ("type":Str) p9) [.Name ("headers":Str) p10] [] p11) [.IsNot] [.Name ("list":Str) p12] p13) R [] p14,
  .Assign [.Attribute (.Name ("self":Str) p15) ("_headers":Str) p16] (.Name ("headers":Str) p17) p18,
  .If (.Constant (.bool true) j p19) [.For tgt (.Name ("headers":Str) p20) FB [] p21] [] p22]
structure InitAt (G:Gl) (fc:Addr) (o:Obj) (fd:FuncData) (xs:List Stmt) (a1 a2:Arg) (kd:List (Option Expr)) (dd:List Expr) (T:Addr):Prop where
 fn:FunAt G fc o fd xs [a1,a2] [] kd dd
 n1:a1.arg=("self":Str)
 n2:a2.arg=("headers":Str)
 df:fd.defaults=.ref T
 tp:G.h₀.IsTuple T #[.none]
 body:InitBody xs
 lo:locN fd [("self":Str),("headers":Str)]
 gn:gloN fd [("type":Str),("list":Str)]
structure InitFact (G:Gl) (fi:Addr):Prop where
 ex:∃ o fd xs a1 a2 kd dd T,InitAt G fi o fd xs a1 a2 kd dd T
 ty:G.look ("type":Str)=some (.type "type")
 li:G.look ("list":Str)=some (.type "list")
structure NewHdr (h h':Heap) (cls x dx b:Addr):Prop where
 keep:∀ a o,h.get? a=some o→h'.get? a=some o
 nb:h.get? b=none
 nx:h.get? x=none
 nd:h.get? dx=none
 lst:IsL h' b #[]
 obj:∃ o,h'.get? x=some o∧o.cls=.ref cls∧o.dict=some dx∧(∀ c,o.data≠.cls c)
 ns:h'.Ns1 dx (hdrM b)
 ne:dx≠x∧b≠x∧b≠dx
section
variable{G:Gl}{C:Ct}{A:Around}{env:Env}{cx:Cx}{w:Wd}{loc:Loc}{led led':Led}{s:Shared}
theorem InCallC.grow{s₀:Shared}{L:Addr}{m cm:Str→Option Value}{cs:List (Str × Addr)}{h h':Heap}{t t':Nat}(x:InCallC s₀ L m cs cm { s₀ with heap:=h,toks:=t })(k:∀ b o,h.get? b=some o→h'.get? b=some o):InCallC s₀ L m cs cm { s₀ with heap:=h',toks:=t' }:=
 ⟨⟨⟨_,_,rfl⟩,Ns_get x.toInCall.ns (k L),fun b o e=>k b o (x.toInCall.keep b o e),x.toInCall.fresh⟩,fun n c hc=>let ⟨o,ho,hd⟩:=x.cell n c hc;⟨o,k c o ho,hd⟩,x.apart,x.above⟩
theorem init_body{fi N:Addr}{mN:Str→Option Value}{o:Obj}{fd:FuncData}{xs:List Stmt}{a1 a2:Arg}{kd:List (Option Expr)}{dd:List Expr}{T:Addr}{s₀:Shared}{m cm:Str→Option Value}{x dx:Addr}{Q:Flow→Shared→Prop}(H:InitFact G fi)(F:InitAt G fi o fd xs a1 a2 kd dd T)(hC:CA G N mN)
  (f:Fm G fd env s₀) (nx:s₀.heap.get? x=none) (nd:s₀.heap.get? dx=none) (ne:dx≠x) (lx:x<env.locals) (ldx:dx<env.locals) (hhd:A.handled=none)
  (hx:∃ o,s.heap.get? x=some o∧o.cls=.ref G.cls∧o.dict=some dx∧(∀ c,o.data≠.cls c)) (hd:s.heap.Ns1 dx fun _=>none)
  (x1:InCallC s₀ env.locals m env.cells cm s) (mv:m ("headers":Str)=some .none) (mn:m ("self":Str)=some (.ref x)) (kk:∀ {b s3},NewHdr s₀.heap s3.heap G.cls x dx b→s3.os=s₀.os→s3.gens=s₀.gens→Q .next s3) :
  wpAny (Mo G) A (execs xs env) Q NoE s:=by
 have lo:=F.lo
 have gn:=F.gn
 obtain⟨p1,p2,p3,p4,p5,p6,p7,p8,p9,p10,p11,p12,p13,p14,p15,p16,p17,p18,p19,p20,p21,p22,i,j,tgt,R,FB⟩:=F.body
 refine wpAny_execs_cons (wpAny_Assign_Name (wpAny_IfExp (wpAny_isTrue_Compare1 (f.ld x1 lo (.tail _ (.head _)) mv (by decide +kernel) ?_) rfl)) rfl)
 refine wpAny_pure (wpAny_isNot_self (by rfl) (wpAny_truthy_bool ?_))
 rw[if_neg (by decide)]
 rw[arm_eval_List]
 refine wpAny_bind (wpAny_standAt (wpAny_bind (Calls.spliced_nil (wpAny_newList ?_ (by decide)))))
 obtain⟨h1,tk1,rfl⟩:=x1.toInCall.same
 have xL:=InCallC.grow (t':=tk1) x1 fun b o e=>Heap.get?_push_of_some { cls:=.type "list",data:=.seq [].toArray } e
 have hLlt:env.locals<h1.objs.size:=x1.toInCall.ns.lt
 generalize hb:h1.objs.size=b at hLlt
 have hbL:IsL (h1.push { cls:=.type "list",data:=.seq [].toArray }) b #[]:=⟨0,by rw[←hb];exact Heap.get?_push_size _ rfl⟩
 have nb:s₀.heap.get? b=none:=by
  cases q:s₀.heap.get? b with
  | none=>rfl
  | some o=>exact absurd (Heap.lt_size q) (Nat.not_lt.mpr (Nat.le_trans x1.toInCall.fresh (Nat.le_of_lt hLlt)))
 obtain⟨ox,hox,hoc,hod,hon⟩:=hx
 have hox1:=Heap.get?_push_of_some { cls:=.type "list",data:=.seq [].toArray } hox
 have hd1:(h1.push { cls:=.type "list",data:=.seq [].toArray }).Ns1 dx fun _=>none:=hd.at fun o e=>Heap.get?_push_of_some _ e
 generalize h1.push { cls:=.type "list",data:=.seq [].toArray }=h2 at xL hbL hox1 hd1
 refine wpAny_storeName_local (f.k (lo _ (.tail _ (.head _)))) xL.toInCall.ns (fun h3 hn3 hs3=>?_) (by rw[f.fn];rfl)
 have x3:InCallC s₀ env.locals (fun y=>if y=("headers":Str) then some (.ref b) else m y) env.cells cm { s₀ with heap:=h3,toks:=tk1+1 }:=
  ⟨⟨⟨_,_,rfl⟩,hn3,fun c o e=>hs3.extBut c o (Nat.ne_of_lt (Nat.lt_of_lt_of_le (Heap.lt_size e) xL.toInCall.fresh)) (xL.toInCall.keep c o e),xL.toInCall.fresh⟩,
   fun n c hc=>(xL.cell n c hc).sameBut hs3 (Nat.ne_of_gt (xL.above n c (mem_of_lookup hc))),xL.apart,xL.above⟩
 have mv3:(fun y=>if y=("headers":Str) then some (Value.ref b) else m y) ("headers":Str)=some (.ref b):=if_pos rfl
 have mn3:(fun y=>if y=("headers":Str) then some (Value.ref b) else m y) ("self":Str)=some (.ref x):=(if_neg (by decide +kernel)).trans mn
 generalize (fun y=>if y=("headers":Str) then some (Value.ref b) else m y)=m3 at x3 mv3 mn3
 have hbL3:IsL h3 b #[]:=IsL_get hbL fun o e=>hs3.extBut b o (Nat.ne_of_gt hLlt) e
 have hox3:h3.get? x=some ox:=hs3.extBut x _ (Nat.ne_of_lt lx) hox1
 have hd3:h3.Ns1 dx fun _=>none:=hd1.at fun o e=>hs3.extBut dx o (Nat.ne_of_lt ldx) e
 have hbx:b≠x:=fun e=>absurd (e▸hLlt) (Nat.lt_asymm lx)
 have hbd:b≠dx:=fun e=>absurd (e▸hLlt) (Nat.lt_asymm ldx)
 clear hbL hox1 hd1 hox hd hn3 hs3 xL x1 mv mn
 obtain⟨nn,hbo⟩:=id hbL3
 refine wpAny_execs_cons (wpAny_If (wpAny_isTrue_Compare1 (Call_ (f.look x3 gn (.head _) H.ty (by decide +kernel) ?_)) rfl))
 refine PySem.callWith_type rfl (Calls.evalArgs_plain (Calls.spliced_cons (f.ld x3 lo (.tail _ (.head _)) mv3 (by decide +kernel) (Calls.spliced_nil (call_type_of ⟨_,hbo,rfl⟩ (by decide +kernel) ?_)))))
 refine f.look x3 gn (.tail _ (.head _)) H.li (by decide +kernel) (wpAny_isNot_self (by rfl) (wpAny_truthy_bool ?_))
 rw[if_neg (by decide)]
 refine wpAny_execs_nil ?_
 refine wpAny_execs_cons (plainObj_wpAny_Assign_Attribute (f.ld x3 lo (.tail _ (.head _)) mv3 (by decide +kernel) ?_) rfl)
 refine f.ld x3 lo (.head _) mn3 (by decide +kernel) ?_
 obtain⟨nm,q,bs,sn,sub,col,dd,k0,k1,k2,k3,k5',hCo⟩:=hC.at'.obj
 have hCo3:=x3.toInCall.keep _ _ (f.keep _ _ hCo)
 have hN3:h3.Ns N mN:=Ns_get hC.at'.ns fun o e=>x3.toInCall.keep _ o (f.keep _ o e)
 have hxC:x≠G.cls:=fun e=>by rw[e,f.keep _ _ hCo] at nx;exact nomatch nx
 refine store_attr (mA:=fun _=>none) (ns:=[]) PySem.F.store_object hCo3 hN3 hC.sa hC.hd obj_headers hxC ⟨ox,hox3,hoc,hon,.inr ⟨dx,hod,ne,hd3⟩⟩ (fun h4 tk4 I4 hk4 hsame4=>?_) Within.nil (by decide)
 have kp:∀ {c o},c≠x→c≠dx→h3.get? c=some o→h4.get? c=some o:=fun {c o} e1 e2 e=>hk4 c o e1 (fun o₀ d' e₀ ed=>by
  obtain rfl:=Option.some.inj (hox3.symm.trans e₀)
  obtain rfl:=Option.some.inj (hod.symm.trans ed)
  exact e2) e
 have x4:InCallC s₀ env.locals m3 env.cells cm { s₀ with heap:=h4,toks:=tk4 }:=
  ⟨⟨⟨_,_,rfl⟩,Ns_get x3.toInCall.ns fun o e=>kp (Nat.ne_of_gt lx) (Nat.ne_of_gt ldx) e,fun c o e=>kp (fun q=>nomatch (q▸nx).symm.trans e) (fun q=>nomatch (q▸nd).symm.trans e) (x3.toInCall.keep c o e),x3.toInCall.fresh⟩,
   fun n c hc=>(let ⟨o,ho,hd⟩:=x3.cell n c hc;have lc:=x3.above n c (mem_of_lookup hc);⟨o,kp (fun q=>absurd (q▸lc) (Nat.lt_asymm lx)) (fun q=>absurd (q▸lc) (Nat.lt_asymm ldx)) ho,hd⟩),x3.apart,x3.above⟩
 have hbL4:IsL h4 b #[]:=IsL_get hbL3 fun o e=>kp hbx hbd e
 obtain⟨o4,ho4,hc4,hn4,hdict4⟩:=I4
 obtain⟨o1,ho1,_,_,_,hdd⟩:=hsame4 ox hox3
 obtain rfl:=Option.some.inj (ho4.symm.trans ho1)
 have hd4:=hdd dx hod
 have ns4:h4.Ns1 dx (hdrM b):=by
  rcases hdict4 with ⟨e,_⟩ | ⟨d',e,_,hns⟩
  ·exact nomatch hd4.symm.trans e
  ·obtain rfl:=Option.some.inj (hd4.symm.trans e);exact hns
 clear hk4 hsame4 hdict4 hbo hbL3 hox3 hd3 hCo3 hN3 x3 ho1 hdd
 refine wpAny_execs_cons (wpAny_If (wpAny_isTrue_value ?_))
 refine wpAny_pure (wpAny_truthy_bool ?_)
 rw[if_pos rfl]
 refine wpAny_execs_cons (wpAny_For (f.ld x4 lo (.tail _ (.head _)) mv3 (by decide +kernel) ?_))
 refine wpAny_pyIter_list hbL4.list ?_
 refine codeAny_forLoop_any (fun _ s'=>s'={ s₀ with heap:=h4.push { cls:=.type "list_iterator",data:=.fields #[.ref b,.int 0 0] },toks:=tk4 }) (fun _ s' hs'=>?_) 0 rfl
 subst hs'
 have hit:(h4.push { cls:=.type "list_iterator",data:=.fields #[.ref b,.int 0 0] }).IsListIter h4.objs.size b 0:=⟨_,Heap.get?_push_size _ rfl,rfl,rfl⟩
 have hbL5:IsL (h4.push { cls:=.type "list_iterator",data:=.fields #[.ref b,.int 0 0] }) b #[]:=IsL_get hbL4 fun o e=>Heap.get?_push_of_some _ e
 refine wpAny_pyNext_list_end hhd hit hbL5.list rfl fun h6 hs6=>?_
 have fin:∀ {a o},h4.get? a=some o→h6.get? a=some o:=fun {a o} e=>hs6 a o (Nat.ne_of_lt (Heap.lt_size e)) (Heap.get?_push_of_some _ e)
 exact wpAny_execs_nil (wpAny_execs_nil (wpAny_execs_nil (kk (b:=b) ⟨fun a o e=>fin (x4.toInCall.keep a o e),nb,nx,nd,IsL_get hbL4 fun o e=>fin e,⟨o4,fin ho4,hc4,hd4,hn4⟩,ns4.at fun o e=>fin e,ne,hbx,hbd⟩ rfl rfl)))
theorem callWith_cls0{p:Program}{W:World}{E:Value→Shared→Prop}{h₀:Heap}{cls N:Addr}{mN:Str→Option Value}{pos:Pos}{Q:Value→Shared→Prop}(X:ClsAt h₀ cls N mN)(keep:∀ b o,h₀.get? b=some o→s.heap.get? b=some o)
  (h:wpAny (model p W) A (call (.ref cls) []) Q E s):wpAny (model p W) A (callWith pos (.ref cls) [] [] []) Q E s:=by
 unfold callWith
 refine wpAny_bind (wpAny_holding (evalArgs_kw_nil rfl (wpAny_evalAll_nil ?_)))
 obtain⟨hh,g,d,t,os⟩:=s
 obtain⟨nm,q,bs,sn,sub,col,dd,k0,k1,k2,k3,k5,hC⟩:=(X.keeps keep).obj
 have f1:=tc_lookup
 have hT:(⟨hh,g,d,t,os⟩:Shared).TypeIs (.ref cls) "type":=⟨_,hC,rfl⟩
 refine wpAny_bind (wpAny_standAt ?_)
 have K:wpAny (model p W) A (keeperOf (.ref cls)) (fun k s'=>k=.machine∧s'=⟨hh,g,d,t,os⟩) E ⟨hh,g,d,t,os⟩:=by
  unfold keeperOf specialOf
  repeat (any_goals (first | assumption | with_reducible refine wpAny_loadPart_at hC ?_ | with_reducible refine wpAny_load' hC ?_ | wp_step))
  rw[if_pos (by rfl)]
  first
   | exact wpAny_pure ⟨rfl,rfl⟩
   | exact⟨rfl,rfl⟩
 show wpAny _ _ (keeperOf (.ref cls) >>= _) _ _ _
 refine wpAny_bind (wpAny_mono K (fun k s' hk=>?_) fun _ _ x=>x)
 obtain⟨rfl,rfl⟩:=hk
 show wpAny _ _ (call (.ref cls) [] [] >>= fun r=>do holding [r] point;pure r) _ _ _
 exact wpAny_bind (wpAny_mono h (fun r s' hr=>wpAny_bind (wpAny_holding (wpAny_point (wpAny_pure hr)))) fun _ _ x=>x)
theorem init_call{fi N:Addr}{mN:Str→Option Value}{x dx:Addr}{h':Heap}{g:Array GenState}{d:Drawn}{t:Nat}{os:OsState}{Q:Value→Shared→Prop}(H:InitFact G fi)(hC:CA G N mN)(hdep:A.depth<recursionLimit)(hhd:A.handled=none)
  (keep0:∀ b o,G.h₀.get? b=some o→s.heap.get? b=some o) (gl:G.h₀.Ns mainGlobals G.mg∧G.h₀.Ns builtinsNs G.mb) (hnl:G.h₀.NoLimit) (Mk:Heap.MadeObj s.heap h' x dx G.cls) (hs:∃ tk,s=⟨s.heap,g,d,tk,os⟩)
  (kk:∀ {b s3},NewHdr s.heap s3.heap G.cls x dx b→s3.os=s.os→s3.gens=s.gens→Q .none s3) :
  wpAny (Mo G) A (call (.ref fi) [.ref x]) Q NoE ⟨h',g,d,t,os⟩:=by
 obtain⟨o,fd,xs,a1,a2,kd,dd,T,F⟩:=H.ex
 have keep1:∀ b o,G.h₀.get? b=some o→h'.get? b=some o:=fun b o e=>Mk.keeps b o (keep0 b o e)
 have par:=F.fn.par
 refine wpAny_call (codeAny_call_function (o:=o) (fd:=fd) hdep (keep1 _ _ F.fn.at') F.fn.dat F.fn.co F.fn.gen F.fn.bd (F.fn.cd.keeps keep1) ?_)
 refine bindsTo_plain (s:=⟨h',g,d,t,os⟩) (fd:=fd) (vals:=[.ref x]) (kwm:=fun _=>none) (dv:=[.none]) par (.inr ⟨T,F.df,IsTuple_get F.tp fun o=>keep1 _ o⟩) (fun n h=>Bool.noConfusion h)
  (fun n h=>nomatch h) (Nat.le_succ 1) (Nat.le_refl 2) (Nat.le_succ 1) _ _ _ _ ?_
 have hb:bindsOf ([a1,a2].map (·.arg)) (([]:List Arg).map (·.arg)) [Value.ref x] [Value.none] (fun _=>none)=[(("self":Str),Value.ref x),(("headers":Str),Value.none)]:=by
  show bindsOf [a1.arg,a2.arg] [] _ _ _=_
  rw[F.n1,F.n2]
  kernel_rfl
 rw[hb,F.fn.clo]
 refine wpAny_newFunctionEnv_cells F.fn.kind (fun y hy=>.inl (F.lo _ ?_)) (fun env henv s1 x1=>?_)
 ·simp only[List.mem_cons,List.not_mem_nil,or_false] at hy
  rcases hy with rfl | rfl
  ·exact .head _
  ·exact .tail _ (.head _)
 ·have f:=F.fn.fm gl keep0 henv
  have hloc:env.locals=h'.objs.size:=by rw[henv];rfl
  have nd:([(("self":Str),Value.ref x),(("headers":Str),Value.none)].map (·.1)).Nodup:=by
   show [("self":Str),("headers":Str)].Nodup
   decide +kernel
  refine⟨(hnl.keeps keep1).keeps x1.toInCall.keep,codeAny_func ?_⟩
  obtain⟨ox,hox,hoc,hon,hdict⟩:=Mk.inst
  have hod:=Mk.dict ox hox
  have hnd:dx≠x∧h'.Ns1 dx fun _=>none:=by
   rcases hdict with ⟨e,_⟩ | ⟨d',e,e1,e2⟩
   ·exact nomatch hod.symm.trans e
   ·obtain rfl:=Option.some.inj (hod.symm.trans e);exact⟨e1,e2⟩
  have x2:InCallC s env.locals (bindL env.kindOf [(("self":Str),Value.ref x),(("headers":Str),Value.none)] fun _=>none) env.cells (bindC env.kindOf [(("self":Str),Value.ref x),(("headers":Str),Value.none)] fun _=>none) s1:=
   ⟨⟨(let ⟨h2,tk2,e⟩:=x1.toInCall.same;let ⟨tk,e2⟩:=hs;⟨h2,tk2,by rw[e,e2]⟩),x1.toInCall.ns,fun b o e=>x1.toInCall.keep b o (Mk.keeps b o e),Nat.le_trans Mk.grows (by rw[hloc];exact Nat.le_refl _)⟩,x1.cell,x1.apart,x1.above⟩
  exact wpAny_mono (init_body (Q:=fun f s'=>f=.next∧Q .none s') H F hC f Mk.newX Mk.newD hnd.1 (by rw[hloc];exact Heap.lt_size hox) (by rw[hloc];exact hnd.2.lt) hhd
   ⟨ox,x1.toInCall.keep _ _ hox,hoc,hod,hon⟩ (hnd.2.at fun o e=>x1.toInCall.keep _ o e) x2
   (bindL_at (kindOf:=env.kindOf) (m:=fun _=>none) nd (.tail _ (.head _)) (f.k (F.lo _ (.tail _ (.head _))))) (bindL_at (kindOf:=env.kindOf) (m:=fun _=>none) nd (.head _) (f.k (F.lo _ (.head _)))) fun h1 h2 h3=>⟨rfl,kk h1 h2 h3⟩)
   (fun f s3 hf=>by obtain⟨rfl,hf⟩:=hf;exact hf) fun _ _ h=>h.elim
theorem SE.newH{fi N:Addr}{mN:Str→Option Value}{id:Str}{p pos:Pos}(hC:CA G N mN)(H:InitFact G fi)(hi:mN ("__init__":Str)=some (.ref fi))(hk:env.kindOf id=some .globalImplicit)(hv:G.look id=some (.ref G.cls))(hd:(id==("__debug__":Str))=false) :
  SE G C A env cx .newH (.Call (.Name id p) [] [] pos):=fun {w loc led s K Q} c e k=>by
 refine Call_ (global_name c hk hv hd (callWith_cls0 hC.at' c.kept ?_))
 have keep0:=c.kept
 have hh:=c.heap
 have cc:=c.conc
 obtain⟨h,g,d,t,os⟩:=s
 obtain rfl:w.h=h:=hh.1
 obtain⟨nm,q,bs,sn,sub,col,dd,k0,k1,k2,k3,k5,hCo⟩:=(hC.at'.keeps keep0).obj
 obtain⟨of,_,_,_,_,_,_,_,F⟩:=H.ex
 refine wpAny_call_obj_init PySem.F.objNew hCo (hC.at'.keeps keep0).ns hi (keep0 _ _ F.fn.at') F.fn.cls fun h' x dx Mk=>?_
 refine init_call (s:=⟨w.h,g,d,t,os⟩) H hC (by
   have:=cc.depth
   show A.depth+1<recursionLimit
   unfold recursionLimit;(revert this;exact z2 0x3ff0841f4583505160e12c8a849705280)) cc.handled keep0 cc.glob cc.nolim Mk ⟨t,rfl⟩ fun {b s'} X rs1 rs2=>?_
 have S:Stp w ⟨s'.heap,w.own,w.prot,w.ads++[b]⟩:=Stp.new X.keep X.nb
 have stn:∀ {a},w.h.get? a=none→a≠b→Wd.st ⟨s'.heap,w.own,w.prot,w.ads++[b]⟩ a:=fun ha hab=>
  have f:=fresh_st cc ha
  ⟨f.1,f.2.1,fun m=>(List.mem_append.mp m).elim f.2.2 fun m=>hab (mem1 m)⟩
 obtain⟨o,e1,e2,e3,e4⟩:=X.obj
 have p0:=PostE.new (s':=s') (o:=.list []) cc X.keep X.nb ⟨#[],X.lst,trivial⟩ ⟨rs1.trans hh.2.1,rs2.trans hh.2.2⟩
 obtain⟨a0,ha0,h0⟩:=p0.val
 obtain rfl:b=a0:=Value.ref.inj ha0
 exact⟨rfl,k e ⟨p0.heap,p0.stp,p0.led,p0.nd,x,b,rfl,⟨o,dx,e1,e2,e3,e4,stn X.nx (Ne.symm X.ne.2.1),X.ne.1,X.ns,stn X.nd (Ne.symm X.ne.2.2)⟩,h0⟩⟩
end
end
section
noncomputable abbrev Fr0:=List (Addr × Obj)
noncomputable def at?(K:Fr0)(a:Addr):Option Obj:=K.lookup a
theorem at_in{K:Fr0}{h:Heap}(hin:∀ p∈K,h.get? p.1=some p.2){a:Addr}{o:Obj}(e:at? K a=some o):h.get? a=some o:=hin (a,o) (lookup_mem' (l:=K) e)
noncomputable def fnChk(T:Tb)(nms:List Str)(lev:Nat)(fn:Fn)(fd:FuncData)(xs:List Stmt):Bool:=
 decide (fd.globals=mainGlobals)&&(decide (fd.builtins=builtinsNs)&&(fd.closure.isEmpty&&(decide (fd.scope.kind=.function)&&(!fd.scope.isCoroutine&&(!fd.scope.isGenerator &&
 (fd.params.posonlyargs.isEmpty&&(fd.params.vararg.isNone&&(fd.params.kwarg.isNone &&
 ((fd.params.args.map (·.arg)==fn.params.map fun x=>nms.getD x Str.empty)&&((fd.params.kwonlyargs.map (·.arg)==fn.kw.map fun p=>nms.getD p.1 Str.empty) &&
 (((fn.params++fn.kw.map (·.1)).all fun x=>decide (x<nms.length)&&(fd.scope.names.lookup (nms.getD x Str.empty)==some .local || fd.scope.names.lookup (nms.getD x Str.empty)==some .cell)) &&
 (decide ((fn.params++fn.kw.map (·.1)).Nodup)&&((fd.scope.names.all fun p=>p.2 != .free)&&isSs T ⟨nms,lev⟩ fd.scope fn.body xs)))))))))))))
section
variable{G:Gl}{C:Ct}{A:Around}{cx:Cx}{T:Tb}{fa:Nat→Addr}{b3a b1a N:Addr}{mN:Str→Option Value}
theorem fnChk_hd{nms:List Str}{lev:Nat}{fn:Fn}{fd:FuncData}{xs:List Stmt}(h:fnChk T nms lev fn fd xs=true):FnHd nms fn fd∧isSs T ⟨nms,lev⟩ fd.scope fn.body xs=true:=by
 obtain⟨c1,h⟩:=andB h
 obtain⟨c2,h⟩:=andB h
 obtain⟨c3,h⟩:=andB h
 obtain⟨c4,h⟩:=andB h
 obtain⟨c5,h⟩:=andB h
 obtain⟨c6,h⟩:=andB h
 obtain⟨c7,h⟩:=andB h
 obtain⟨c8,h⟩:=andB h
 obtain⟨c9,h⟩:=andB h
 obtain⟨c10,h⟩:=andB h
 obtain⟨c11,h⟩:=andB h
 obtain⟨c12,h⟩:=andB h
 obtain⟨c13,h⟩:=andB h
 obtain⟨c14,h⟩:=andB h
 exact⟨⟨of_decide_eq_true c1,of_decide_eq_true c2,emptyB c3,of_decide_eq_true c4,notB c5,notB c6,emptyB c7,Option.isNone_iff_eq_none.mp c8,Option.isNone_iff_eq_none.mp c9,eq_of_beq c10,eq_of_beq c11,
  fun hx=>have r:=andB (List.all_eq_true.mp c12 _ hx);⟨of_decide_eq_true r.1,(orB r.2).imp eq_of_beq eq_of_beq⟩,of_decide_eq_true c13,fun hx=>bne_iff_ne.mp (List.all_eq_true.mp c14 _ hx)⟩,h⟩
theorem FnFact.of{K:Fr0}{nms:List Str}{fn:Fn}{a c:Addr}{o oc:Obj}{fd:FuncData}{xs:List Stmt}{vs:Array Value}{dv:List Value}{kwm:Str→Option Value}{t:Tok}(H:Facts T G fa b3a b1a N mN cx)(hin:∀ p∈K,G.h₀.get? p.1=some p.2)
  (ho:at? K a=some o) (hcls:o.cls=.type "function") (hd:o.data=.func fd) (hb:fd.body=.stmts xs) (hc:fd.code=.ref c) (hoc:at? K c=some oc) (hdc:oc.data=.fields vs) (hq:vs[1]?=some (.str fd.qualname t))
  (hchk:∀ lev,fnChk T nms lev fn fd xs=true)
  (hdef:(fd.defaults=.none∧dv=[])∨∃ T,fd.defaults=.ref T∧G.h₀.IsTuple T dv.toArray) (hdv:∀ {w:Wd},DRs w fn.dflt dv) (hdl:dv.length≤fn.params.length)
  (hkd:∀ n,(kwm n).isSome=true→∃ d m,fd.kwdefaults=.ref d∧G.h₀.Ns d m∧m n=kwm n) (hkv:∀ {p},p∈fn.kw→∃ v,kwm (nms.getD p.1 Str.empty)=some v∧∀ {w:Wd},DR w p.2 v):FnFact G nms fa cx fn a:=
 have hd0:=(fnChk_hd (hchk 0)).1
 ⟨o,fd,xs,dv,kwm,{
  at':=at_in hin ho
  cls:=hcls
  dat:=hd
  hd:=hd0
  bd:=hb
  cd:=⟨c,oc,vs,t,hc,at_in hin hoc,hdc,hq⟩
  df:=hdef
  dr:=hdv
  dl:=hdl
  kd:=hkd
  kv:=hkv
  run:=fun {lev A env F own} hsc hfl hF=>isSs_sound (A:=A) (mu:=fn.mu) (C:=⟨nms,lev⟩) H hF hfl (by rw[hsc];exact hd0.kind) fn.body (by rw[hsc];exact(fnChk_hd (hchk lev)).2) }⟩
end
end
end UK
end
section
namespace uk0030_02
open PySem PySem.W UK
noncomputable def m2f2:Fn:=⟨[0,1,6],[.none],[],[],[
  .assign (.name 1) (.conv true (.name 0) (.meth .lower (.name 1) [])),
  .for (.tup [(.name 4),(.name 5)]) .e [(.attrH (.name 0))] [.ite (.cmp (.meth .lower (.name 4) []) .eq (.name 1)) [.ret (.name 5)] []],
  .ret (.name 6)]⟩
noncomputable def m2f3:Fn:=⟨[0],[],[],[],[
  .ret (.slice (.attrH (.name 0)) (.lit .none) (.lit .none) (.lit .none))]⟩
noncomputable def m2f4:Fn:=⟨[0,1,8],[],[],[],[
  .assign (.name 7) (.hm 2 (.name 0) [(.name 1)]),
  .ite (.cmp (.name 7) .is (.lit .none)) [.expr (.meth .append (.attrH (.name 0)) [(.tuple [(.conv true (.name 0) (.name 1)),(.conv false (.name 0) (.name 8))])]),.ret (.name 8)] [.ret (.name 7)]]⟩
noncomputable def m2f5:Fn:=⟨[0,1],[],[],[],[
  .assign (.name 1) (.conv true (.name 0) (.meth .lower (.name 1) [])),
  .ret (.comp (.index (.name 3) (.lit (.int 1))) (.name 3) .e [(.attrH (.name 0))] [(.cmp (.meth .lower (.index (.name 3) (.lit (.int 0))) []) .eq (.name 1))] [1])]⟩
noncomputable def m2f6:Fn:=⟨[0],[],[],[],[
  .ret (.comp (.name 5) (.tup [(.name 4),(.name 5)]) .e [(.attrH (.name 0))] [] [])]⟩
noncomputable def m2f7:Fn:=⟨[9,10],[],[],[11],[
  .ite (.cmp .dots .notin (.name 9)) [.ret (.cmp (.name 9) .eq (.name 10))] [],
  .assign (.name 11) (.meth .split (.name 9) [.dots]),
  .assert (.cmp (.bi .len [(.name 11)]) .ge (.lit (.int 2))),
  .assign (.tup [(.name 12),(.name 13)]) (.tuple [(.lit (.int 0)),(.bi .len [(.name 10)])]),
  .assign (.name 14) (.index (.name 11) (.lit (.int 0))),
  .ite (.name 14) [.ite (.meth .startswith (.name 10) [(.name 14)]) [.assign (.name 12) (.bi .len [(.name 14)]),.delx 11 (.lit (.int 0))] [.ret (.lit (.bool false))]] [],
  .assign (.name 14) (.index (.name 11) (.neg (.lit (.int 1)))),
  .ite (.name 14) [.ite (.meth .endswith (.name 10) [(.name 14)]) [.aug 13 .sub (.bi .len [(.name 14)]),.delx 11 (.neg (.lit (.int 1)))] [.ret (.lit (.bool false))]] [],
  .ite (.cmp (.name 12) .gt (.name 13)) [.ret (.lit (.bool false))] [],
  .for (.name 14) .e [(.name 11)] [.assign (.name 12) (.meth .find (.name 10) [(.name 14),(.name 12),(.name 13)]),.ite (.cmp (.name 12) .lt (.lit (.int 0))) [.ret (.lit (.bool false))] [],.aug 12 .add (.bi .len [(.name 14)])],
  .ret (.lit (.bool true))]⟩
noncomputable def m2f8:Fn:=⟨[17,18,16,19],[(.int 0),.none],[(15,.none)],[],[
  .ite (.cmp (.name 15) .is (.lit .none)) [.assign (.name 16) (.call 9 [(.name 17),(.name 18),(.name 16),(.name 19)])] [.stuck],
  .expr (.meth .insert (.name 17) [(.name 16),(.name 18)])]⟩
noncomputable def m2f9:Fn:=⟨[17,18,16,19],[(.int 0),.none],[(15,.none)],[],[
  .ite (.cmp (.name 16) .lt (.lit (.int 0))) [.stuck] [],
  .ite (.cmp (.name 19) .is (.lit .none)) [.assign (.name 19) (.bi .len [(.name 17)])] [],
  .ite (.cmp (.name 15) .is (.lit .none)) [.while (.cmp (.name 16) .lt (.name 19)) [.assign (.name 20) (.bin .fdiv (.bin .add (.name 16) (.name 19)) (.lit (.int 2))),.ite (.cmp (.name 18) .lt (.index (.name 17) (.name 20))) [.assign (.name 19) (.name 20)] [.assign (.name 16) (.bin .add (.name 20) (.lit (.int 1)))]]] [.while (.cmp (.name 16) .lt (.name 19)) [.assign (.name 20) (.bin .fdiv (.bin .add (.name 16) (.name 19)) (.lit (.int 2))),.stuck]],
  .ret (.name 16)]⟩
noncomputable def m2f10:Fn:=⟨[17,18,16,19],[(.int 0),.none],[(15,.none)],[],[
  .ite (.cmp (.name 16) .lt (.lit (.int 0))) [.stuck] [],
  .ite (.cmp (.name 19) .is (.lit .none)) [.assign (.name 19) (.bi .len [(.name 17)])] [],
  .ite (.cmp (.name 15) .is (.lit .none)) [.while (.cmp (.name 16) .lt (.name 19)) [.assign (.name 20) (.bin .fdiv (.bin .add (.name 16) (.name 19)) (.lit (.int 2))),.ite (.cmp (.index (.name 17) (.name 20)) .lt (.name 18)) [.assign (.name 16) (.bin .add (.name 20) (.lit (.int 1)))] [.assign (.name 19) (.name 20)]]] [.while (.cmp (.name 16) .lt (.name 19)) [.assign (.name 20) (.bin .fdiv (.bin .add (.name 16) (.name 19)) (.lit (.int 2))),.stuck]],
  .ret (.name 16)]⟩
noncomputable def m2f11:Fn:=⟨[21],[],[],[],[
  .ret (.inB1 (.bi .ord [(.name 21)]))]⟩
noncomputable def m2f12:Fn:=⟨[21],[],[],[],[
  .assign (.name 22) (.b3get (.bi .ord [(.name 21)])),
  .ite (.cmp (.name 22) .isnot (.lit .none)) [.ret (.name 22)] [],
  .ret (.meth .lower (.name 21) [])]⟩
noncomputable def m2f13:Fn:=⟨[4],[],[],[],[
  .ite (.cmp (.name 4) .lt (.lit (.int 11))) [.ret (.bi .chr [(.index (.list [(.lit (.int 173)),(.lit (.int 847)),(.lit (.int 6150)),(.lit (.int 6155)),(.lit (.int 6156)),(.lit (.int 6157)),(.lit (.int 8203)),(.lit (.int 8204)),(.lit (.int 8205)),(.lit (.int 8288)),(.lit (.int 65279))]) (.name 4))])] [],
  .ret (.bi .chr [(.bin .add (.lit (.int 65013)) (.name 4))])]⟩
noncomputable def m2f14:Fn:=⟨[4],[],[],[],[
  .ret (.bi .chr [(.index (.list [(.lit (.int 172)),(.lit (.int 174)),(.lit (.int 846)),(.lit (.int 848)),(.lit (.int 6149)),(.lit (.int 6151)),(.lit (.int 6154)),(.lit (.int 6158)),(.lit (.int 8202)),(.lit (.int 8206)),(.lit (.int 8287)),(.lit (.int 8289)),(.lit (.int 65278)),(.lit (.int 65280)),(.lit (.int 65023)),(.lit (.int 65040))]) (.name 4))])]⟩
noncomputable def m2f15:Fn:=⟨[23,4],[],[],[],[
  .ite (.cmp (.name 4) .eq (.lit (.int 0))) [.ret (.name 23)] [],
  .ite (.cmp (.name 4) .eq (.lit (.int 1))) [.ret (.bi .chr [(.bin .sub (.bi .ord [(.name 23)]) (.lit (.int 32)))])] [],
  .ret (.bi .chr [(.bin .add (.bin .add (.lit (.int 119711)) (.bin .mul (.lit (.int 52)) (.index (.list [(.lit (.int 0)),(.lit (.int 1)),(.lit (.int 2)),(.lit (.int 4)),(.lit (.int 7)),(.lit (.int 8)),(.lit (.int 9)),(.lit (.int 10)),(.lit (.int 11)),(.lit (.int 12))]) (.bin .sub (.name 4) (.lit (.int 2)))))) (.bi .ord [(.name 23)]))])]⟩
noncomputable def m2f16:Fn:=⟨[27,26],[],[],[],[
  .assign (.name 24) (.list [(.tuple [(.lit (.str ⟨#[102,102,105]⟩)),(.lit (.int 64259))]),(.tuple [(.lit (.str ⟨#[102,102]⟩)),(.lit (.int 64256))]),(.tuple [(.lit (.str ⟨#[102,105]⟩)),(.lit (.int 64257))]),(.tuple [(.lit (.str ⟨#[102,108]⟩)),(.lit (.int 64258))])]),
  .assign (.tup [(.name 25),(.name 26)]) (.tuple [(.call 13 [(.bin .mod (.name 26) (.lit (.int 27)))]),(.bin .fdiv (.name 26) (.lit (.int 27)))]),
  .while (.cmp (.name 27) .ne (.lit (.str ⟨#[]⟩))) [.assign (.name 28) (.comp (.name 29) (.name 29) .e [(.name 24)] [(.cmp (.slice (.name 27) (.lit .none) (.bi .len [(.index (.name 29) (.lit (.int 0)))]) (.lit .none)) .eq (.index (.name 29) (.lit (.int 0))))] [27]),.ite (.and (.cmp (.name 28) .ne (.list [])) (.cmp (.bin .mod (.name 26) (.lit (.int 2))) .eq (.lit (.int 0)))) [.assign (.tup [(.name 25),(.name 27)]) (.tuple [(.bin .add (.name 25) (.bi .chr [(.index (.index (.name 28) (.lit (.int 0))) (.lit (.int 1)))])),(.slice (.name 27) (.bi .len [(.index (.index (.name 28) (.lit (.int 0))) (.lit (.int 0)))]) (.lit .none) (.lit .none))])] [.assign (.tup [(.name 25),(.name 27)]) (.tuple [(.bin .add (.name 25) (.call 15 [(.index (.name 27) (.lit (.int 0))),(.bin .mod (.bin .fdiv (.name 26) (.lit (.int 2))) (.lit (.int 12)))])),(.slice (.name 27) (.lit (.int 1)) (.lit .none) (.lit .none))])],.assign (.name 26) (.bin .fdiv (.name 26) (.lit (.int 24)))],
  .ret (.name 25)]⟩
noncomputable def m2f17:Fn:=⟨[25],[],[],[],[
  .ret (.meth .join (.lit (.str ⟨#[]⟩)) [(.comp (.call 12 [(.name 30)]) (.name 30) .e [(.name 25)] [(.cmp (.call 11 [(.name 30)]) .is (.lit (.bool false)))] [])])]⟩
noncomputable def m2f18:Fn:=⟨[31],[],[],[],[
  .ret (.meth .join (.lit (.str ⟨#[]⟩)) [(.comp (.index (.lit (.str ⟨#[108,105,102]⟩)) (.meth .index (.lit (.str ⟨#[102,105,108]⟩)) [(.name 32)])) (.name 32) .e [(.name 31)] [] [])])]⟩
noncomputable def m2f19:Fn:=⟨[36],[],[],[33,34],[
  .assign (.tup [(.name 33),(.name 34)]) (.tuple [(.list []),(.list [])]),
  .for (.name 35) .range [(.bin .sub (.bi .len [(.name 36)]) (.lit (.int 1))),(.neg (.lit (.int 1))),(.neg (.lit (.int 1)))] [.assign (.name 37) (.slice (.name 36) (.name 35) (.lit .none) (.lit .none)),.ite (.cmp (.call 8 [(.name 33),(.name 37)]) .isnot (.lit .none)) [.ret (.bin .mul (.list [(.bi .len [(.name 36)])]) (.bi .len [(.name 36)]))] [],.assign (.name 38) (.slice (.name 33) (.lit .none) (.call 10 [(.name 33),(.name 37)]) (.lit .none)),.expr (.meth .append (.name 34) [(.bi .min [(.bin .add (.comp (.bin .sub (.bi .len [(.name 37)]) (.bi .len [(.name 39)])) (.name 39) .e [(.name 38)] [] [37]) (.list [(.bi .len [(.name 36)])]))])])],
  .ret (.slice (.name 34) (.lit .none) (.lit .none) (.neg (.lit (.int 1))))]⟩
noncomputable def m2f20:Fn:=⟨[31,35,42],[],[],[],[
  .assign (.tup [(.name 40),(.name 41)]) (.tuple [(.name 35),(.bin .add (.name 35) (.name 42))]),
  .while (.and (.cmp (.name 40) .gt (.lit (.int 0))) (.cmp (.index (.name 31) (.bin .sub (.name 40) (.lit (.int 1)))) .eq (.index (.name 31) (.bin .add (.bin .sub (.name 40) (.lit (.int 1))) (.name 42))))) [.aug 40 .sub (.lit (.int 1))],
  .while (.and (.cmp (.name 41) .lt (.bi .len [(.name 31)])) (.cmp (.index (.name 31) (.name 41)) .eq (.index (.name 31) (.bin .sub (.name 41) (.name 42))))) [.aug 41 .add (.lit (.int 1))],
  .ret (.tuple [(.name 40),(.name 41)])]⟩
noncomputable def m2f21:Fn:=⟨[31],[],[],[43],[
  .assign (.tup [(.name 43),(.name 44)]) (.tuple [.newH,(.lit (.bool true))]),
  .for (.tup [(.name 36),(.name 45)]) .e [(.list [(.tuple [(.bin .add (.name 31) (.lit (.str ⟨#[33]⟩))),(.lit (.str ⟨#[97,98,99,100,101,102,103,104,105]⟩))]),(.tuple [(.bin .add (.call 18 [(.name 31)]) (.lit (.str ⟨#[126]⟩))),(.lit (.str ⟨#[65,66,67,68,69,70,71,72,73]⟩))])])] [.assign (.name 46) (.call 19 [(.name 36)]),.for (.name 35) .range [(.bi .len [(.name 31)])] [.ite (.cmp (.bin .add (.name 35) (.index (.name 46) (.name 35))) .le (.bi .len [(.name 31)])) [.assign (.tup [(.name 40),(.name 41)]) (.call 20 [(.name 31),(.name 35),(.index (.name 46) (.name 35))]),.ite (.and (.cmp (.name 40) .lt (.name 35)) (.cmp (.bin .sub (.name 41) (.name 40)) .ge (.bin .mul (.lit (.int 2)) (.index (.name 46) (.name 35))))) [.assign (.name 34) (.bin .add (.bin .add (.bi .str [(.name 40)]) (.bi .str [(.name 41)])) (.bi .str [(.index (.name 46) (.name 35))])),.assign (.name 44) (.and (.name 44) (.cmp (.hm 4 (.name 43) [(.index (.name 45) (.name 35)),(.name 34)]) .eq (.name 34)))] []] []]],
  .ret (.tuple [(.name 43),(.name 44)])]⟩
noncomputable def m2f22:Fn:=⟨[31],[],[],[47],[
  .assign (.name 47) (.list []),
  .for (.name 42) .range [(.lit (.int 1)),(.bin .add (.bin .fdiv (.bi .len [(.name 31)]) (.lit (.int 2))) (.lit (.int 1)))] [.for (.name 35) .range [(.bin .add (.bin .sub (.bi .len [(.name 31)]) (.bin .mul (.lit (.int 2)) (.name 42))) (.lit (.int 1)))] [.assign (.tup [(.name 40),(.name 41)]) (.call 20 [(.name 31),(.name 35),(.name 42)]),.ite (.and (.cmp (.name 40) .eq (.name 35)) (.cmp (.bin .sub (.name 41) (.name 40)) .ge (.bin .mul (.lit (.int 2)) (.name 42)))) [.ite (.cmp (.comp (.name 4) (.name 4) .range [(.lit (.int 1)),(.name 42)] [(.cmp (.slice (.name 31) (.name 40) (.bin .sub (.name 41) (.name 4)) (.lit .none)) .eq (.slice (.name 31) (.bin .add (.name 40) (.name 4)) (.name 41) (.lit .none)))] [31,40,41]) .eq (.list [])) [.expr (.meth .append (.name 47) [(.tuple [(.name 40),(.name 41),(.name 42)])])] []] []]],
  .ret (.name 47)]⟩
noncomputable def m2f23:Fn:=⟨[27],[],[],[],[
  .ret (.cmp (.comp (.name 4) (.name 4) .range [(.lit (.int 1)),(.bi .len [(.name 27)])] [(.cmp (.bin .add (.slice (.name 27) (.name 4) (.lit .none) (.lit .none)) (.slice (.name 27) (.lit .none) (.name 4) (.lit .none))) .le (.name 27))] [27]) .eq (.list []))]⟩
noncomputable def m2f24:Fn:=⟨[31,47],[],[],[48],[
  .assign (.name 48) (.list []),
  .for (.tup [(.name 36),(.name 45),(.name 49)]) .e [(.list [(.tuple [(.name 31),(.lit (.str ⟨#[97,98,99,100,101,102,103,104,105]⟩)),(.lit (.bool true))]),(.tuple [(.call 18 [(.name 31)]),(.lit (.str ⟨#[65,66,67,68,69,70,71,72,73]⟩)),(.lit (.bool false))])])] [.for (.name 35) .range [(.bi .len [(.name 31)])] [.for (.tup [(.name 40),(.name 41),(.name 42)]) .e [(.name 47)] [.ite (.and (.cmp2 (.name 40) .lt (.name 35) .le (.bin .sub (.name 41) (.name 42))) (.call 23 [(.slice (.name 36) (.name 35) (.bin .add (.name 35) (.name 42)) (.lit .none))])) [.ite (.cmp (.name 49) .eq (.or (.cmp (.name 41) .eq (.bi .len [(.name 31)])) (.cmp (.index (.name 31) (.name 41)) .lt (.index (.name 31) (.bin .sub (.name 41) (.name 42)))))) [.expr (.meth .append (.name 48) [(.tuple [(.index (.name 45) (.name 35)),(.bin .add (.bin .add (.bi .str [(.name 40)]) (.bi .str [(.name 41)])) (.bi .str [(.name 42)]))])])] []] []]]],
  .ret (.name 48)]⟩
noncomputable def m2f25:Fn:=⟨[43,48],[],[],[50],[
  .for (.tup [(.name 1),(.name 8)]) .e [(.name 48)] [.ite (.or (.cmp (.hm 4 (.name 43) [(.meth .upper (.name 1) []),(.lit (.str ⟨#[]⟩))]) .ne (.name 8)) (.cmp (.hm 4 (.name 43) [(.meth .lower (.name 1) []),(.lit (.str ⟨#[]⟩))]) .ne (.name 8))) [.ret (.lit (.bool false))] []],
  .assign (.name 50) (.hm 3 (.name 43) []),
  .ite (.cmp (.name 50) .ne (.name 48)) [.ret (.lit (.bool false))] [],
  .expr (.meth .insert (.name 50) [(.lit (.int 0)),(.tuple [(.lit (.str ⟨#[97]⟩)),(.lit (.str ⟨#[]⟩))])]),
  .for (.name 32) .e [(.lit (.str ⟨#[65,66,67,68,69,70,71,72,73]⟩))] [.ite (.cmp (.hm 5 (.name 43) [(.name 32)]) .ne (.comp (.name 8) (.tup [(.name 1),(.name 8)]) .e [(.name 48)] [(.cmp (.meth .upper (.name 1) []) .eq (.name 32))] [32])) [.ret (.lit (.bool false))] []],
  .ret (.cmp (.hm 6 (.name 43) []) .eq (.comp (.name 8) (.tup [(.name 1),(.name 8)]) .e [(.name 48)] [] []))]⟩
noncomputable def m2f26:Fn:=⟨[31,52],[],[],[51],[
  .assign (.name 51) (.list []),
  .for (.name 8) .e [(.name 52)] [.assign (.tup [(.name 40),(.name 41),(.name 42)]) (.tuple [(.bi .int [(.index (.name 8) (.lit (.int 0)))]),(.bi .int [(.index (.name 8) (.lit (.int 1)))]),(.bi .int [(.index (.name 8) (.lit (.int 2)))])]),.for (.name 53) .range [(.name 42),(.bin .add (.bin .fdiv (.bin .sub (.name 41) (.name 40)) (.lit (.int 2))) (.lit (.int 1))),(.name 42)] [.expr (.meth .extend (.name 51) [(.comp (.slice (.name 31) (.name 4) (.bin .add (.name 4) (.name 53)) (.lit .none)) (.name 4) .range [(.name 40),(.bin .add (.bin .sub (.name 41) (.bin .mul (.lit (.int 2)) (.name 53))) (.lit (.int 1)))] [] [31,53])])]],
  .ret (.name 51)]⟩
noncomputable def m2f27:Fn:=⟨[31,47,51],[],[],[],[
  .for (.name 53) .range [(.lit (.int 1)),(.bin .add (.bin .fdiv (.bi .len [(.name 31)]) (.lit (.int 2))) (.lit (.int 1)))] [.for (.name 4) .range [(.bin .add (.bin .sub (.bi .len [(.name 31)]) (.name 53)) (.lit (.int 1)))] [.assign (.name 54) (.slice (.name 31) (.name 4) (.bin .add (.name 4) (.name 53)) (.lit .none)),.ite (.cmp (.call 7 [(.bin .add (.bin .add (.bin .add (.lit (.str ⟨#[46,46,46]⟩)) (.name 54)) (.name 54)) (.lit (.str ⟨#[46,46,46]⟩))),(.name 31)]) .isnot (.cmp (.name 54) .inn (.name 51))) [.ret (.lit (.bool false))] [],.ite (.cmp (.call 7 [(.bin .add (.bin .add (.bin .add (.bin .add (.lit (.str ⟨#[46,46,46]⟩)) (.name 54)) (.lit (.str ⟨#[46,46,46]⟩))) (.name 54)) (.lit (.str ⟨#[46,46,46]⟩))),(.name 31)]) .isnot (.cmp (.meth .count (.name 31) [(.name 54)]) .ge (.lit (.int 2)))) [.ret (.lit (.bool false))] []]],
  .for (.tup [(.name 40),(.name 41),(.name 42)]) .e [(.name 47)] [.assign (.name 55) (.slice (.name 31) (.name 40) (.name 41) (.lit .none)),.ite (.cmp (.call 7 [(.name 55),(.name 31)]) .isnot (.cmp (.name 55) .eq (.name 31))) [.ret (.lit (.bool false))] [],.for (.name 53) .range [(.name 42),(.bin .add (.bi .len [(.name 55)]) (.lit (.int 1)))] [.assign (.name 56) (.and (.cmp (.bin .mul (.lit (.int 2)) (.name 53)) .le (.bi .len [(.name 55)])) (.cmp (.bin .mod (.bin .sub (.bi .len [(.name 55)]) (.name 53)) (.name 42)) .eq (.lit (.int 0)))),.for (.name 54) .e [(.list [(.slice (.name 55) (.lit .none) (.name 53) (.lit .none)),(.slice (.name 55) (.neg (.name 53)) (.lit .none) (.lit .none))])] [.ite (.cmp (.call 7 [(.bin .add (.bin .add (.name 54) (.lit (.str ⟨#[46,46,46]⟩))) (.name 54)),(.name 55)]) .isnot (.name 56)) [.ret (.lit (.bool false))] []]]],
  .ret (.lit (.bool true))]⟩
noncomputable def m2f28:Fn:=⟨[58],[],[],[],[
  .assign (.tup [(.name 57),(.name 25)]) (.tuple [(.lit (.str ⟨#[]⟩)),(.lit (.str ⟨#[]⟩))]),
  .for (.name 18) .e [(.bin .add (.slice (.name 58) (.lit .none) (.lit (.int 6)) (.lit .none)) (.slice (.list [(.lit (.int 42)),(.lit (.int 1674)),(.lit (.int 216)),(.lit (.int 971)),(.lit (.int 244)),(.lit (.int 73))]) (.bi .len [(.slice (.name 58) (.lit .none) (.lit (.int 6)) (.lit .none))]) (.lit .none) (.lit .none)))] [.assign (.name 59) (.index (.list [(.lit (.str ⟨#[102,105]⟩)),(.lit (.str ⟨#[102,102]⟩)),(.lit (.str ⟨#[102,102,105]⟩)),(.lit (.str ⟨#[102]⟩)),(.lit (.str ⟨#[105]⟩)),(.lit (.str ⟨#[102,105]⟩)),(.lit (.str ⟨#[108]⟩)),(.lit (.str ⟨#[102,108]⟩))]) (.bin .mod (.name 18) (.lit (.int 8)))),.ite (.cmp (.bi .len [(.bin .add (.name 57) (.name 59))]) .le (.lit (.int 9))) [.assign (.tup [(.name 57),(.name 25)]) (.tuple [(.bin .add (.name 57) (.name 59)),(.bin .add (.name 25) (.call 16 [(.name 59),(.bin .fdiv (.bi .abs [(.name 18)]) (.lit (.int 8)))]))])] []],
  .assign (.name 60) (.call 14 [(.bin .mod (.bi .sum [(.name 58)]) (.lit (.int 16)))]),
  .ite (.cmp (.call 17 [(.bin .add (.name 25) (.name 60))]) .ne (.bin .add (.name 57) (.name 60))) [.ret (.lit (.bool false))] [],
  .assign (.name 31) (.call 17 [(.name 25)]),
  .assign (.name 47) (.call 22 [(.name 31)]),
  .assign (.name 48) (.call 24 [(.name 31),(.name 47)]),
  .assign (.tup [(.name 43),(.name 44)]) (.call 21 [(.name 31)]),
  .ite (.or (.not (.name 44)) (.not (.call 25 [(.name 43),(.name 48)]))) [.ret (.lit (.bool false))] [],
  .ret (.call 27 [(.name 31),(.name 47),(.call 26 [(.name 31),(.hm 6 (.name 43) [])])])]⟩
noncomputable def m2fns:List Fn:=[m2f2,m2f2,m2f2,m2f3,m2f4,m2f5,m2f6,m2f7,m2f8,m2f9,m2f10,m2f11,m2f12,m2f13,m2f14,m2f15,m2f16,m2f17,m2f18,m2f19,m2f20,m2f21,m2f22,m2f23,m2f24,m2f25,m2f26,m2f27,m2f28]
end uk0030_02
end
section
namespace uk0030_02
open PySem PySem.W PySem.Calls PyProof.Rows UK HL
section
noncomputable def nms:List Str:=[⟨#[115,101,108,102]⟩,⟨#[110,97,109,101]⟩,⟨#[118,97,108]⟩,⟨#[107,118]⟩,⟨#[107]⟩,⟨#[118]⟩,⟨#[100,101,102,97,117,108,116]⟩,⟨#[114,101,115,117,108,116]⟩,⟨#[118,97,108,117,101]⟩,⟨#[119,97,110,116]⟩,⟨#[103,111,116]⟩,⟨#[119,115]⟩,⟨#[115,116,97,114,116,112,111,115]⟩,⟨#[101,110,100,112,111,115]⟩,⟨#[119]⟩,⟨#[107,101,121]⟩,⟨#[108,111]⟩,⟨#[97]⟩,⟨#[120]⟩,⟨#[104,105]⟩,⟨#[109,105,100]⟩,⟨#[99,111,100,101]⟩,⟨#[114]⟩,⟨#[115,109,97,108,108]⟩,⟨#[115,104,97,112,101,115]⟩,⟨#[116,121,112,101,100]⟩,⟨#[110]⟩,⟨#[119,111,114,100]⟩,⟨#[102,105,116,115]⟩,⟨#[115,104,97,112,101]⟩,⟨#[115,105,103,110]⟩,⟨#[116,101,120,116]⟩,⟨#[108,101,116,116,101,114]⟩,⟨#[114,111,119]⟩,⟨#[116,111,108,100]⟩,⟨#[112,108,97,99,101]⟩,⟨#[116,97,112,101]⟩,⟨#[116,97,105,108]⟩,⟨#[108,101,115,115]⟩,⟨#[111,116,104,101,114]⟩,⟨#[98,101,103,105,110]⟩,⟨#[101,110,100]⟩,⟨#[115,105,122,101]⟩,⟨#[116,97,98,108,101]⟩,⟨#[107,101,112,116]⟩,⟨#[110,97,109,101,115]⟩,⟨#[114,111,117,110,100,115]⟩,⟨#[114,117,110,115]⟩,⟨#[100,117,101]⟩,⟨#[108,111,119,101,114]⟩,⟨#[104,97,110,100,101,100]⟩,⟨#[115,113,117,97,114,101,115]⟩,⟨#[118,97,108,117,101,115]⟩,⟨#[119,105,100,116,104]⟩,⟨#[112,97,114,116]⟩,⟨#[114,117,110]⟩,⟨#[119,104,111,108,101]⟩,⟨#[109,101,97,110,116]⟩,⟨#[115,99,114,105,112,116]⟩,⟨#[112,105,101,99,101]⟩,⟨#[98,101,115,105,100,101]⟩]
theorem nms_nodup:nms.Nodup:=by decide +kernel
noncomputable def fa:Nat→Addr:=fun i=>[214,214,214,231,257,206,224,72,47,56,65,90,136,278,285,292,297,302,307,312,319,326,331,336,343,348,353,360,367].getD i 0
noncomputable def gB:List (Str × GK):=[(⟨#[108,101,110]⟩,.bi .len),(⟨#[99,104,114]⟩,.bi .chr),(⟨#[111,114,100]⟩,.bi .ord),(⟨#[115,117,109]⟩,.bi .sum),(⟨#[97,98,115]⟩,.bi .abs),(⟨#[105,110,116]⟩,.bi .int),(⟨#[115,116,114]⟩,.bi .str),(⟨#[109,105,110]⟩,.bi .min),(⟨#[114,97,110,103,101]⟩,.range)]
noncomputable def gB2:List (Str × Value):=[(⟨#[108,101,110]⟩,.builtin "len"),(⟨#[99,104,114]⟩,.builtin "chr"),(⟨#[111,114,100]⟩,.builtin "ord"),(⟨#[115,117,109]⟩,.builtin "sum"),(⟨#[97,98,115]⟩,.builtin "abs"),(⟨#[105,110,116]⟩,.type "int"),(⟨#[115,116,114]⟩,.type "str"),(⟨#[109,105,110]⟩,.builtin "min"),(⟨#[114,97,110,103,101]⟩,.type "range"),(⟨#[108,105,115,116]⟩,.type "list"),(⟨#[116,121,112,101]⟩,.type "type")]
noncomputable def gF:List (Str × GK):=[(⟨#[95,101,108,108,105,112,115,105,115,95,109,97,116,99,104]⟩,.fn 7),(⟨#[105,110,115,111,114,116,95,114,105,103,104,116]⟩,.fn 8),(⟨#[98,105,115,101,99,116,95,114,105,103,104,116]⟩,.fn 9),(⟨#[98,105,115,101,99,116,95,108,101,102,116]⟩,.fn 10),(⟨#[105,110,95,116,97,98,108,101,95,98,49]⟩,.fn 11),(⟨#[109,97,112,95,116,97,98,108,101,95,98,51]⟩,.fn 12),(⟨#[95,108,97,119,95,117,110,115,101,101,110]⟩,.fn 13),(⟨#[95,108,97,119,95,98,101,115,105,100,101]⟩,.fn 14),(⟨#[95,108,97,119,95,108,101,116,116,101,114]⟩,.fn 15),(⟨#[95,108,97,119,95,116,121,112,101,100]⟩,.fn 16),(⟨#[95,108,97,119,95,112,114,101,112,97,114,101,100]⟩,.fn 17),(⟨#[95,108,97,119,95,109,105,114,114,111,114]⟩,.fn 18),(⟨#[95,108,97,119,95,114,111,117,110,100,115]⟩,.fn 19),(⟨#[95,108,97,119,95,115,116,114,101,116,99,104]⟩,.fn 20),(⟨#[95,108,97,119,95,116,97,98,108,101]⟩,.fn 21),(⟨#[95,108,97,119,95,114,117,110,115]⟩,.fn 22),(⟨#[95,108,97,119,95,105,115,95,108,101,97,115,116]⟩,.fn 23),(⟨#[95,108,97,119,95,100,117,101]⟩,.fn 24),(⟨#[95,108,97,119,95,97,115,107,101,100,95,97,103,97,105,110]⟩,.fn 25),(⟨#[95,108,97,119,95,115,113,117,97,114,101,115]⟩,.fn 26),(⟨#[95,108,97,119,95,100,111,116,115,95,97,103,114,101,101]⟩,.fn 27),(⟨#[108,97,119]⟩,.fn 28)]
noncomputable def gO:List (Str × GK):=[(⟨#[69,76,76,73,80,83,73,83,95,77,65,82,75,69,82]⟩,.dots),(⟨#[72,101,97,100,101,114,115]⟩,.hdrs),(⟨#[98,51,95,101,120,99,101,112,116,105,111,110,115]⟩,.b3),(⟨#[98,49,95,115,101,116]⟩,.b1)]
noncomputable def tb:UK.Tb:=⟨gB++gF++gO,[(⟨#[103,101,116]⟩,2),(⟨#[105,116,101,109,115]⟩,3),(⟨#[115,101,116,100,101,102,97,117,108,116]⟩,4),(⟨#[103,101,116,95,97,108,108]⟩,5),(⟨#[118,97,108,117,101,115]⟩,6)]⟩
noncomputable def es3(P:Params):Array DictEntry:=match (o3f P).data with | .dict es _=>es | _=>#[]
noncomputable def esN(P:Params):Array DictEntry:=match (o266f P).data with | .dict es _=>es | _=>#[]
noncomputable def AllB(P:Nat→Prop):Nat→Prop
 | 0=>True
 | n+1=>AllB P n∧P n
theorem allB{P:Nat→Prop}:∀ {n:Nat},AllB P n→∀ i,i<n→P i
 | 0,_,i,h=>absurd h (Nat.not_lt_zero i)
 | n+1,p,i,h=>(Nat.lt_or_eq_of_le (Nat.le_of_lt_succ h)).elim (allB p.1 i) fun q=>q▸p.2
noncomputable def AllF{a:Type}(P:a→Nat→Prop):List a→Nat→Prop
 | [],_=>True
 | x::l,k=>P x k∧AllF P l (k+1)
theorem allF{a:Type}{P:a→Nat→Prop}:∀ {l:List a} {k:Nat},AllF P l k→∀ f x,l[f]?=some x→P x (k+f)
 | y::l,k,p,0,x,e=>Option.some.inj e▸p.1
 | y::l,k,p,f+1,x,e=>Nat.succ_add_eq_add_succ k f▸allF p.2 f x e
noncomputable def fnAddr:GK→Option Value
 | .fn f=>some (.ref (fa f))
 | .hdrs=>some (.ref 267)
 | .b3=>some (.ref 91)
 | .b1=>some (.ref 80)
 | .dots=>some (.str ⟨#[46,46,46]⟩ 334)
 | _=>none
theorem g_raw(P:Params):(tb.gl.map fun p=>nsFind (es3 P) p.1)=tb.gl.map fun p=>fnAddr p.2:=by kernel_rfl
theorem b_raw(P:Params):(gB2.map fun p=>(nsFind (es3 P) p.1,bootBuiltins p.1))=gB2.map fun p=>(none,some p.2):=by kernel_rfl
theorem rx_raw(P:Params):([true,false].map fun b=>nsFind (es3 P) (rxName b))=[some (.ref 141),some (.ref 146)]:=by kernel_rfl
theorem c_raw(P:Params):(tb.cm.map fun p=>nsFind (esN P) p.1)=tb.cm.map fun p=>some (.ref (fa p.2)):=by kernel_rfl
theorem c_raw2(P:Params):(([("__getattribute__":Str),("__getattr__":Str),("__setattr__":Str),("_headers":Str),("_convert_string_type":Str),("__init__":Str)]:List Str).map fun (x:Str)=>nsFind (esN P) x)=[none,none,none,none,some (.ref 168),some (.ref 161)]:=by kernel_rfl
theorem b_ne:(gB2.all fun p=>!(p.1==("__name__":Str)))=true:=by decide +kernel
noncomputable def b3L:List DictEntry:=ents (prs.take 646) k3++entsS (prs.drop 646) (k3+1938)
noncomputable def codeB:Bool→Array Nat:=fun b=>if b then #[14,10,4,1,1,22,0,31,16,127,0,13,7,22,0,31,16,127,0,1] else #[14,14,4,1,1,9,4294966783,0,0,2147483648,0,0,0,0,0,13,11,9,4294966783,0,0,2147483648,0,0,0,0,0,1]
noncomputable def b1P:List (Int × Nat):=[(65024,366),(65025,367),(65026,368),(65027,369),(65028,370),(65029,371),(6150,352),(65030,372),(65031,373),(65032,374),(65033,375),(6155,353),(6156,354),(6157,355),(8203,356),(8204,357),(8205,358),(65034,376),(65035,377),(65036,378),(65037,379),(65038,380),(65039,381),(173,350),(847,351),(8288,359),(65279,360)]
noncomputable def b1L:List Int:=b1P.map (·.1)
noncomputable def cx0:Cx where
 F:=fun _ _ _=>none
 conv:=fun nm x=>searchNo (codeB nm) x.cps
 b3:=fun c=>match findBy Value.isInt b3L.toArray c with | some (.str x _)=>some x | _=>none
 b1:=fun c=>b1L.contains c
 N:=4096
theorem mem_map{α β:Type}{f g:α→β}:∀ {l:List α},l.map f=l.map g→∀ p∈l,f p=g p
 | [],_,_,h=>nomatch h
 | x::l,e,p,h=>by
  simp only[List.map_cons,List.cons.injEq] at e
  rcases List.mem_cons.mp h with rfl | h
  ·exact e.1
  ·exact mem_map e.2 p h
section
variable{w:World}{h:Heap}{mg mb:Str→Option Value}
structure Pre (w:World) (h:Heap) (mg mb:Str→Option Value):Prop where
 k:∀ p∈KF w.params,h.get? p.1=some p.2
 g:h.Ns mainGlobals mg
 b:h.Ns builtinsNs mb
 nolim:h.NoLimit
 boot:∀ x:Str,x≠"__name__"→mb x=bootBuiltins x
noncomputable def G0(w:World)(h:Heap)(mg mb:Str→Option Value)(os:OsState)(gens:Array GenState):Gl:=⟨PySem.Challenge.rw_uk0030_02.row.prog,w,h,267,mg,mb,os,gens⟩
variable{os:OsState}{gens:Array GenState}(X:Pre w h mg mb)
include X
theorem at_{a:Addr}{o:Obj}(e:at? (KF w.params) a=some o):h.get? a=some o:=at_in X.k e
theorem mg_is(x:Str):mg x=nsFind (es3 w.params) x:=by
 obtain⟨o,es,ep,ho,hd,_,hf⟩:=X.g
 have h3:h.get? mainGlobals=some (o3f w.params):=at_ X (by rfl)
 rw[h3] at ho;cases ho
 have e:es=es3 w.params:=by
  have:(o3f w.params).data=.dict es ep:=hd
  unfold es3;rw[this]
 rw[←hf,e]
theorem look_blt{p:Str × Value}(hp:p∈gB2):(G0 w h mg mb os gens).look p.1=some p.2:=by
 have:=mem_map (b_raw w.params) p hp
 simp only[Prod.mk.injEq] at this
 unfold Gl.look
 show (match mg p.1 with | some v=>some v | none=>mb p.1)=_
 rw[mg_is X,this.1]
 have hne:=List.all_eq_true.mp b_ne p hp
 show mb p.1=_
 rw[X.boot p.1 (by
  intro q
  rw[q] at hne
  exact absurd hne (by decide +kernel)),this.2]
theorem look_top{x:Str}{v:Value}(e:nsFind (es3 w.params) x=some v):(G0 w h mg mb os gens).look x=some v:=by
 unfold Gl.look
 show (match mg x with | some v=>some v | none=>mb x)=_
 rw[mg_is X,e]
theorem fa2:FA (G0 w h mg mb os gens) (fa 2):=⟨o214f w.params,_,at_ X (by rfl),rfl,rfl⟩
theorem fa3:FA (G0 w h mg mb os gens) (fa 3):=⟨o231f w.params,_,at_ X (by rfl),rfl,rfl⟩
theorem fa4:FA (G0 w h mg mb os gens) (fa 4):=⟨o257f w.params,_,at_ X (by rfl),rfl,rfl⟩
theorem fa5:FA (G0 w h mg mb os gens) (fa 5):=⟨o206f w.params,_,at_ X (by rfl),rfl,rfl⟩
theorem fa6:FA (G0 w h mg mb os gens) (fa 6):=⟨o224f w.params,_,at_ X (by rfl),rfl,rfl⟩
theorem fa7:FA (G0 w h mg mb os gens) (fa 7):=⟨o72s1 w.params,_,at_ X (by rfl),rfl,rfl⟩
theorem fa8:FA (G0 w h mg mb os gens) (fa 8):=⟨o47s1 w.params,_,at_ X (by rfl),rfl,rfl⟩
theorem fa9:FA (G0 w h mg mb os gens) (fa 9):=⟨o56s1 w.params,_,at_ X (by rfl),rfl,rfl⟩
theorem fa10:FA (G0 w h mg mb os gens) (fa 10):=⟨o65s1 w.params,_,at_ X (by rfl),rfl,rfl⟩
theorem fa11:FA (G0 w h mg mb os gens) (fa 11):=⟨o90s3 w.params,_,at_ X (by rfl),rfl,rfl⟩
theorem fa12:FA (G0 w h mg mb os gens) (fa 12):=⟨o136f w.params,_,at_ X (by rfl),rfl,rfl⟩
theorem fa13:FA (G0 w h mg mb os gens) (fa 13):=⟨o278f w.params,_,at_ X (by rfl),rfl,rfl⟩
theorem fa14:FA (G0 w h mg mb os gens) (fa 14):=⟨o285f w.params,_,at_ X (by rfl),rfl,rfl⟩
theorem fa15:FA (G0 w h mg mb os gens) (fa 15):=⟨o292f w.params,_,at_ X (by rfl),rfl,rfl⟩
theorem fa16:FA (G0 w h mg mb os gens) (fa 16):=⟨o297f w.params,_,at_ X (by rfl),rfl,rfl⟩
theorem fa17:FA (G0 w h mg mb os gens) (fa 17):=⟨o302f w.params,_,at_ X (by rfl),rfl,rfl⟩
theorem fa18:FA (G0 w h mg mb os gens) (fa 18):=⟨o307f w.params,_,at_ X (by rfl),rfl,rfl⟩
theorem fa19:FA (G0 w h mg mb os gens) (fa 19):=⟨o312f w.params,_,at_ X (by rfl),rfl,rfl⟩
theorem fa20:FA (G0 w h mg mb os gens) (fa 20):=⟨o319f w.params,_,at_ X (by rfl),rfl,rfl⟩
theorem fa21:FA (G0 w h mg mb os gens) (fa 21):=⟨o326f w.params,_,at_ X (by rfl),rfl,rfl⟩
theorem fa22:FA (G0 w h mg mb os gens) (fa 22):=⟨o331f w.params,_,at_ X (by rfl),rfl,rfl⟩
theorem fa23:FA (G0 w h mg mb os gens) (fa 23):=⟨o336f w.params,_,at_ X (by rfl),rfl,rfl⟩
theorem fa24:FA (G0 w h mg mb os gens) (fa 24):=⟨o343f w.params,_,at_ X (by rfl),rfl,rfl⟩
theorem fa25:FA (G0 w h mg mb os gens) (fa 25):=⟨o348f w.params,_,at_ X (by rfl),rfl,rfl⟩
theorem fa26:FA (G0 w h mg mb os gens) (fa 26):=⟨o353f w.params,_,at_ X (by rfl),rfl,rfl⟩
theorem fa27:FA (G0 w h mg mb os gens) (fa 27):=⟨o360f w.params,_,at_ X (by rfl),rfl,rfl⟩
theorem fa28:FA (G0 w h mg mb os gens) (fa 28):=⟨o367f w.params,_,at_ X (by rfl),rfl,rfl⟩
theorem fa_all:∀ i,i<29→FA (G0 w h mg mb os gens) (fa i):=allB ⟨⟨⟨⟨⟨⟨⟨⟨⟨⟨⟨⟨⟨⟨⟨⟨⟨⟨⟨⟨⟨⟨⟨⟨⟨⟨⟨⟨⟨trivial,fa2 X⟩,fa2 X⟩,fa2 X⟩,fa3 X⟩,fa4 X⟩,fa5 X⟩,fa6 X⟩,fa7 X⟩,fa8 X⟩,fa9 X⟩,fa10 X⟩,fa11 X⟩,fa12 X⟩,fa13 X⟩,fa14 X⟩,fa15 X⟩,fa16 X⟩,fa17 X⟩,fa18 X⟩,fa19 X⟩,fa20 X⟩,fa21 X⟩,fa22 X⟩,fa23 X⟩,fa24 X⟩,fa25 X⟩,fa26 X⟩,fa27 X⟩,fa28 X⟩
theorem gl_ok:∀ p∈tb.gl,GIs (G0 w h mg mb os gens) fa 91 80 p.1 p.2:=by
 intro p hp
 have e:=mem_map (g_raw w.params) p hp
 have hb:p∈gB∨p∈gF∨p∈gO:=by
  have:p∈gB++gF++gO:=hp
  simp only[List.mem_append] at this
  rcases this with (h | h) | h
  ·exact .inl h
  ·exact .inr (.inl h)
  ·exact .inr (.inr h)
 rcases hb with hb | hb | hb
 ·have:(gB.map fun p=>match p.2 with | .bi b=>(p.1,biVal b) | .range=>(p.1,Value.type "range") | _=>(p.1,Value.type "enumerate"))=gB2.take 9:=by rfl
  obtain⟨x,k⟩:=p
  have hm:(match k with | .bi b=>(x,biVal b) | .range=>(x,Value.type "range") | _=>(x,Value.type "enumerate"))∈gB2:=by
   refine List.mem_of_mem_take (i:=9) ?_
   rw[←this]
   exact List.mem_map.mpr ⟨_,hb,by cases k <;> rfl⟩
  have hk:(gB.all fun p=>match p.2 with | .bi _=>true | .range=>true | _=>false)=true:=by rfl
  have hk:=List.all_eq_true.mp hk _ hb
  cases k with
  | bi b=>exact look_blt X hm
  | range=>exact look_blt X hm
  | _=>cases hk
 ·have hk:(gF.all fun p=>match p.2 with | .fn f=>decide (f<29) | _=>false)=true:=by decide +kernel
  have hk:=List.all_eq_true.mp hk _ hb
  obtain⟨x,k⟩:=p
  cases k with
  | fn f=>exact⟨look_top X e,fa_all X f (by simpa using hk)⟩
  | _=>cases hk
 ·have hk:(gO.all fun p=>match p.2 with | .dots=>true | .hdrs=>true | .b3=>true | .b1=>true | _=>false)=true:=by rfl
  have hk:=List.all_eq_true.mp hk _ hb
  obtain⟨x,k⟩:=p
  cases k with
  | dots=>exact⟨_,look_top X e⟩
  | hdrs=>exact look_top X e
  | b3=>exact look_top X e
  | b1=>exact look_top X e
  | _=>cases hk
theorem ns_strs:StrKeys (esN w.params):=by
 have:((esN w.params).toList.all fun e=>match e.key with | .str _ _=>true | _=>false)=true:=by kernel_rfl
 intro e he
 have:=List.all_eq_true.mp this e (by simpa using he)
 split at this
 ·exact⟨_,_,by assumption⟩
 ·cases this
theorem ca_ok:CA (G0 w h mg mb os gens) 266 (nsFind (esN w.params)):=by
 have r:=c_raw2 w.params
 simp only[List.map_cons,List.map_nil,List.cons.injEq] at r
 obtain⟨r1,r2,r3,r4,_⟩:=r
 refine⟨⟨⟨_,_,_,_,_,_,_,_,_,_,_,_,at_ X (a:=267) (by rfl)⟩,⟨o266f w.params,esN w.params,_,at_ X (by rfl),rfl,ns_strs X,fun _=>rfl⟩⟩,r1,r2,r3,r4⟩
theorem cm_ok:∀ p∈tb.cm,nsFind (esN w.params) p.1=some (.ref (fa p.2))∧FA (G0 w h mg mb os gens) (fa p.2)∧∃ y,typeLookup (.type "object") p.1=pure y:=by
 intro p hp
 refine⟨mem_map (c_raw w.params) p hp,fa_all X _ ?_,none,?_⟩
 ·have hk:(tb.cm.all fun p=>decide (p.2<29))=true:=by decide +kernel
  simpa using List.all_eq_true.mp hk p hp
 ·have hk:(tb.cm.map fun p=>typeLookup (.type "object") p.1)=tb.cm.map fun p=>pure none:=by
   have e:∀ p:Str × Nat,typeLookup (.type "object") p.1=_:=fun p=>by rw[typeLookup_type,builtinLookup_eq_fast]
   rw[show (fun p:Str × Nat=>typeLookup (.type "object") p.1)=_ from funext e]
   kernel_rfl
  exact mem_map hk p hp
end
end
section
noncomputable def bodyOf(fd:FuncData):List Stmt:=match fd.body with | .stmts xs=>xs | _=>[]
theorem look_all{fd:FuncData}{k:NameKind}{xs:List Str}(h:(xs.all fun x=>fd.scope.names.lookup x==some k)=true)(x:Str)(hx:x∈xs):fd.scope.names.lookup x=some k:=eq_of_beq (List.all_eq_true.mp h x hx)
theorem ents_key{p:Program}{w:World}:∀ (ps:List Pair) (k:Nat),∀ e∈ents ps k,∃ c,(intKind p w).is c e.key=true∧e.hash=hashInt c
 | [],_,e,he=>nomatch he
 | (c,x)::ps,k,e,he=>by
  rcases List.mem_cons.mp he with rfl | he
  ·exact⟨c,intKind_is _ _ _ _,rfl⟩
  ·exact ents_key ps _ e he
theorem entsS_key{p:Program}{w:World}:∀ (ps:List Pair) (k:Nat),∀ e∈entsS ps k,∃ c,(intKind p w).is c e.key=true∧e.hash=hashInt c
 | [],_,e,he=>nomatch he
 | (c,x)::ps,k,e,he=>by
  rcases List.mem_cons.mp he with rfl | he
  ·exact⟨c,intKind_is _ _ _ _,rfl⟩
  ·exact entsS_key ps _ e he
theorem ents_val:∀ (ps:List Pair) (k:Nat),∀ e∈ents ps k,∃ x t,e.val=.str x t
 | [],_,e,he=>nomatch he
 | (c,x)::ps,k,e,he=>by
  rcases List.mem_cons.mp he with rfl | he
  ·exact⟨_,_,rfl⟩
  ·exact ents_val ps _ e he
theorem entsS_val:∀ (ps:List Pair) (k:Nat),∀ e∈entsS ps k,∃ x t,e.val=.str x t
 | [],_,e,he=>nomatch he
 | (c,x)::ps,k,e,he=>by
  rcases List.mem_cons.mp he with rfl | he
  ·exact⟨_,_,rfl⟩
  ·exact entsS_val ps _ e he
section
variable{w:World}{h:Heap}{mg mb:Str→Option Value}{os:OsState}{gens:Array GenState}(X:Pre w h mg mb)
include X
theorem init_ok:InitFact (G0 w h mg mb os gens) 161 where
 ex:=⟨o161f w.params,_,bodyOf (fd2 17 0),(fd2 17 0).params.args.getD 0 default,(fd2 17 0).params.args.getD 1 default,(fd2 17 0).params.kw_defaults,(fd2 17 0).params.defaults,154,{
  fn:=⟨at_ X (by rfl),rfl,rfl,rfl,rfl,rfl,by kernel_rfl,⟨160,_,_,_,rfl,at_ X (a:=160) (by rfl),rfl,by rfl⟩,by kernel_rfl,by kernel_rfl,by kernel_rfl,by kernel_rfl⟩
  n1:=by kernel_rfl
  n2:=by kernel_rfl
  df:=rfl
  tp:=⟨_,at_ X (a:=154) (by rfl),rfl,_,rfl⟩
  body:=by exact InitBody.mk _ _ _ _ _ _ _ _ _ _ _ _ _ _ _ _ _ _ _ _ _ _ _ _ _ _ _
  lo:=look_all (by kernel_rfl)
  gn:=look_all (by kernel_rfl) }⟩
 ty:=look_blt X (p:=(⟨#[116,121,112,101]⟩,.type "type")) (by simp [gB2])
 li:=look_blt X (p:=(⟨#[108,105,115,116]⟩,.type "list")) (by simp [gB2])
theorem pat_ok:∀ nm,PatFact (G0 w h mg mb os gens) nm (codeB nm)
 | true=>⟨141,140,_,_,_,_,_,look_top X (by have:=rx_raw w.params;simp only[List.map_cons,List.cons.injEq] at this;exact this.1),at_ X (a:=141) (by rfl),rfl,rfl,rfl,rfl,rfl,rfl,at_ X (a:=140) (by rfl),rfl,by kernel_rfl⟩
 | false=>⟨146,145,_,_,_,_,_,look_top X (by have:=rx_raw w.params;simp only[List.map_cons,List.cons.injEq] at this;exact this.2.1),at_ X (a:=146) (by rfl),rfl,rfl,rfl,rfl,rfl,rfl,at_ X (a:=145) (by rfl),rfl,by kernel_rfl⟩
theorem conv_ok:ConvFact (G0 w h mg mb os gens) codeB 168 where
 ex:=⟨o168f w.params,_,bodyOf (fd2 17 1),(fd2 17 1).params.args.getD 0 default,(fd2 17 1).params.args.getD 1 default,(fd2 17 1).params.kwonlyargs.getD 0 default,(fd2 17 1).params.kw_defaults,{
  fn:=⟨at_ X (by rfl),rfl,rfl,rfl,rfl,rfl,by kernel_rfl,⟨167,_,_,_,rfl,at_ X (a:=167) (by rfl),rfl,by rfl⟩,by kernel_rfl,by kernel_rfl,by kernel_rfl,by kernel_rfl⟩
  n1:=by kernel_rfl
  n2:=by kernel_rfl
  n3:=by kernel_rfl
  df:=rfl
  kw:=rfl
  body:=by exact ConvBody.mk _ _ _ _ _ _ _ _ _ _ _ _ _ _ _ _ _ _ _ _ _ (by rfl)
  lo:=look_all (by kernel_rfl)
  gn:=look_all (by kernel_rfl) }⟩
 ty:=look_blt X (p:=(⟨#[116,121,112,101]⟩,.type "type")) (by simp [gB2])
 st:=look_blt X (p:=(⟨#[115,116,114]⟩,.type "str")) (by simp [gB2])
 pat:=pat_ok X
theorem b1_set_ok:h.SetOf (intKind (G0 w h mg mb os gens).p w) 80 cx0.b1 27:=by
 refine⟨_,(b1P.map fun p=>(p.1,Value.int p.1 p.2)).toArray,_,_,at_ X (a:=80) (by rfl),⟨rfl,rfl,rfl⟩,by rfl,fun e he=>?_,fun c=>?_,by decide,by rfl,rfl⟩
 ·have he:e∈b1P.map fun p=>(p.1,Value.int p.1 p.2):=by simpa using he
  obtain⟨p,hp,rfl⟩:=List.mem_map.mp he
  have hh:(b1P.all fun p=>hashInt p.1==p.1)=true:=by decide +kernel
  have:=List.all_eq_true.mp hh p hp
  exact⟨⟨p.1,intKind_is _ _ _ _,(eq_of_beq this).symm⟩,rfl⟩
 ·show b1L.contains c=true↔_
  rw[List.contains_iff_mem]
  constructor
  ·intro hc
   obtain⟨p,hp,rfl⟩:=List.mem_map.mp hc
   exact⟨(p.1,Value.int p.1 p.2),by simpa using hp,intKind_is _ _ _ _⟩
  ·rintro ⟨e,he,hc⟩
   have he:e∈b1P.map fun p=>(p.1,Value.int p.1 p.2):=by simpa using he
   obtain⟨p,hp,rfl⟩:=List.mem_map.mp he
   have hc:Value.isInt c (Value.int p.1 p.2)=true:=hc
   obtain⟨t,ht⟩:=Value.isInt_shape hc
   cases ht
   exact List.mem_map.mpr ⟨p,hp,rfl⟩
theorem dict_keys:KeysOf (intKind (G0 w h mg mb os gens).p w) b3L.toArray:=by
 intro e he
 have he:e∈b3L:=by simpa using he
 rcases List.mem_append.mp he with he | he
 ·exact ents_key _ _ e he
 ·exact entsS_key _ _ e he
theorem dict_vals:∀ e∈b3L,∃ x t,e.val=.str x t:=by
 intro e he
 rcases List.mem_append.mp he with he | he
 ·exact ents_val _ _ e he
 ·exact entsS_val _ _ e he
theorem b3_map:h.MapOf (intKind (G0 w h mg mb os gens).p w) 91 (findBy Value.isInt b3L.toArray):=
 ⟨_,b3L.toArray,650,at_ X (a:=91) (by rfl),⟨rfl,rfl,rfl⟩,rfl,dict_keys X,fun _=>rfl⟩
theorem b3_vals(c:Int):(∃ x,cx0.b3 c=some x∧∃ t,findBy Value.isInt b3L.toArray c=some (.str x t))∨(cx0.b3 c=none∧findBy Value.isInt b3L.toArray c=none):=by
 show (∃ x,(match findBy Value.isInt b3L.toArray c with | some (.str x _)=>some x | _=>none)=some x∧_)∨_
 cases e:findBy Value.isInt b3L.toArray c with
 | none=>exact .inr ⟨by show (match findBy Value.isInt b3L.toArray c with | some (.str x _)=>some x | _=>none)=none;rw[e],rfl⟩
 | some v=>
  unfold findBy at e
  obtain⟨d,hd,rfl⟩:=Option.map_eq_some_iff.mp e
  have hm:=Array.mem_of_find?_eq_some hd
  obtain⟨x,t,hx⟩:=dict_vals X d (by simpa using hm)
  rw[hx]
  exact .inl ⟨x,rfl,t,rfl⟩
theorem facts_ok:Facts tb (G0 w h mg mb os gens) fa 91 80 266 (nsFind (esN w.params)) cx0 where
 gl:=gl_ok X
 cA:=ca_ok X
 cm:=cm_ok X
 newH:=fun hk hv hd=>SE.newH (ca_ok X) (init_ok X) (by have r:=c_raw2 w.params;simp only[List.map_cons,List.map_nil,List.cons.injEq] at r;exact r.2.2.2.2.2.1) hk hv hd
 conv:=fun h1 h2 h3 h4 h5=>SE.conv (ca_ok X) (conv_ok X) (by have r:=c_raw2 w.params;simp only[List.map_cons,List.map_nil,List.cons.injEq] at r;exact r.2.2.2.2.1) (yb:=none) (by rw[typeLookup_type,builtinLookup_eq_fast];kernel_rfl) (fun _ _ e=>e) h1 h2 h3 h4 h5
 b3get:=fun {C A env F e z id q ap p} h1 h2 h3 h4 h5 h6=>SE.b3get (cx:={ cx0 with F:=F }) (b3_map (os:=os) (gens:=gens) X) (b3_vals X) (by decide) h1 h2 h3 h4 h5 h6
 inB1:=fun {C A env F e z id q p} h1 h2 h3 h4=>SE.inB1 (cx:={ cx0 with F:=F }) (b1_set_ok (os:=os) (gens:=gens) X) h1 h2 h3 h4
end
end
section
section
variable{w:World}{h:Heap}{mg mb:Str→Option Value}{os:OsState}{gens:Array GenState}(X:Pre w h mg mb)
include X
theorem ff2:FnFact (G0 w h mg mb os gens) nms fa cx0 m2f2 (fa 2):=by
 have hb:(fd2 17 8).body=.stmts (bodyOf (fd2 17 8)):=by kernel_rfl
 exact FnFact.of (kwm:=fun _=>none) (dv:=[.none]) (K:=KF w.params) (c:=213) (oc:=o213f w.params) (o:=o214f w.params) (xs:=bodyOf (fd2 17 8)) (facts_ok X) X.k (by rfl) rfl rfl hb rfl (by rfl) rfl (by rfl) (fun lev=>by kernel_rfl) (.inr ⟨207,rfl,⟨_,at_ X (a:=207) (by rfl),rfl,_,rfl⟩⟩) ⟨rfl,trivial⟩ (by decide) (fun _ h=>nomatch h) (fun hp=>nomatch hp)
theorem ff3:FnFact (G0 w h mg mb os gens) nms fa cx0 m2f3 (fa 3):=by
 have hb:(fd2 17 11).body=.stmts (bodyOf (fd2 17 11)):=by kernel_rfl
 exact FnFact.of (kwm:=fun _=>none) (dv:=[]) (K:=KF w.params) (c:=230) (oc:=o230f w.params) (o:=o231f w.params) (xs:=bodyOf (fd2 17 11)) (facts_ok X) X.k (by rfl) rfl rfl hb rfl (by rfl) rfl (by rfl) (fun lev=>by kernel_rfl) (.inl ⟨rfl,rfl⟩) trivial (Nat.zero_le _) (fun _ h=>nomatch h) (fun hp=>nomatch hp)
theorem ff4:FnFact (G0 w h mg mb os gens) nms fa cx0 m2f4 (fa 4):=by
 have hb:(fd2 17 15).body=.stmts (bodyOf (fd2 17 15)):=by kernel_rfl
 exact FnFact.of (kwm:=fun _=>none) (dv:=[]) (K:=KF w.params) (c:=256) (oc:=o256f w.params) (o:=o257f w.params) (xs:=bodyOf (fd2 17 15)) (facts_ok X) X.k (by rfl) rfl rfl hb rfl (by rfl) rfl (by rfl) (fun lev=>by kernel_rfl) (.inl ⟨rfl,rfl⟩) trivial (Nat.zero_le _) (fun _ h=>nomatch h) (fun hp=>nomatch hp)
theorem ff5:FnFact (G0 w h mg mb os gens) nms fa cx0 m2f5 (fa 5):=by
 have hb:(fd2 17 7).body=.stmts (bodyOf (fd2 17 7)):=by kernel_rfl
 exact FnFact.of (kwm:=fun _=>none) (dv:=[]) (K:=KF w.params) (c:=205) (oc:=o205f w.params) (o:=o206f w.params) (xs:=bodyOf (fd2 17 7)) (facts_ok X) X.k (by rfl) rfl rfl hb rfl (by rfl) rfl (by rfl) (fun lev=>by kernel_rfl) (.inl ⟨rfl,rfl⟩) trivial (Nat.zero_le _) (fun _ h=>nomatch h) (fun hp=>nomatch hp)
theorem ff6:FnFact (G0 w h mg mb os gens) nms fa cx0 m2f6 (fa 6):=by
 have hb:(fd2 17 10).body=.stmts (bodyOf (fd2 17 10)):=by kernel_rfl
 exact FnFact.of (kwm:=fun _=>none) (dv:=[]) (K:=KF w.params) (c:=223) (oc:=o223f w.params) (o:=o224f w.params) (xs:=bodyOf (fd2 17 10)) (facts_ok X) X.k (by rfl) rfl rfl hb rfl (by rfl) rfl (by rfl) (fun lev=>by kernel_rfl) (.inl ⟨rfl,rfl⟩) trivial (Nat.zero_le _) (fun _ h=>nomatch h) (fun hp=>nomatch hp)
theorem ff7:FnFact (G0 w h mg mb os gens) nms fa cx0 m2f7 (fa 7):=by
 have hb:(fd1 8).body=.stmts (bodyOf (fd1 8)):=by kernel_rfl
 exact FnFact.of (kwm:=fun _=>none) (dv:=[]) (K:=KF w.params) (c:=71) (oc:=o71s1 w.params) (o:=o72s1 w.params) (xs:=bodyOf (fd1 8)) (facts_ok X) X.k (by rfl) rfl rfl hb rfl (by rfl) rfl (by rfl) (fun lev=>by kernel_rfl) (.inl ⟨rfl,rfl⟩) trivial (Nat.zero_le _) (fun _ h=>nomatch h) (fun hp=>nomatch hp)
theorem ff8:FnFact (G0 w h mg mb os gens) nms fa cx0 m2f8 (fa 8):=by
 have hb:(fd1 3).body=.stmts (bodyOf (fd1 3)):=by kernel_rfl
 refine FnFact.of (kwm:=nsFind #[⟨PyData.keyHash w.params ("key":Str),.str ("key":Str) 292,.none⟩]) (dv:=[(.int 0 291),.none]) (K:=KF w.params) (c:=46) (oc:=o46s1 w.params) (o:=o47s1 w.params) (xs:=bodyOf (fd1 3)) (facts_ok X) X.k (by rfl) rfl rfl hb rfl (by rfl) rfl (by rfl) (fun lev=>by kernel_rfl) (.inr ⟨39,rfl,⟨_,at_ X (a:=39) (by rfl),rfl,_,rfl⟩⟩) ⟨⟨_,rfl⟩,rfl,trivial⟩ (by decide)
  (fun n _=>⟨40,_,rfl,⟨_,_,_,at_ X (a:=40) (by rfl),rfl,fun e he=>?_,fun _=>rfl⟩,rfl⟩) (fun {p} hp=>?_)
 ·simp only[List.mem_toArray,List.mem_cons,List.not_mem_nil,or_false] at he
  subst he;exact⟨_,_,rfl⟩
 ·have hp:p∈[((15:Nat),D.none)]:=hp
  rw[List.mem_singleton] at hp
  subst hp
  exact⟨.none,by kernel_rfl,rfl⟩
theorem ff9:FnFact (G0 w h mg mb os gens) nms fa cx0 m2f9 (fa 9):=by
 have hb:(fd1 4).body=.stmts (bodyOf (fd1 4)):=by kernel_rfl
 refine FnFact.of (kwm:=nsFind #[⟨PyData.keyHash w.params ("key":Str),.str ("key":Str) 305,.none⟩]) (dv:=[(.int 0 304),.none]) (K:=KF w.params) (c:=55) (oc:=o55s1 w.params) (o:=o56s1 w.params) (xs:=bodyOf (fd1 4)) (facts_ok X) X.k (by rfl) rfl rfl hb rfl (by rfl) rfl (by rfl) (fun lev=>by kernel_rfl) (.inr ⟨48,rfl,⟨_,at_ X (a:=48) (by rfl),rfl,_,rfl⟩⟩) ⟨⟨_,rfl⟩,rfl,trivial⟩ (by decide)
  (fun n _=>⟨49,_,rfl,⟨_,_,_,at_ X (a:=49) (by rfl),rfl,fun e he=>?_,fun _=>rfl⟩,rfl⟩) (fun {p} hp=>?_)
 ·simp only[List.mem_toArray,List.mem_cons,List.not_mem_nil,or_false] at he
  subst he;exact⟨_,_,rfl⟩
 ·have hp:p∈[((15:Nat),D.none)]:=hp
  rw[List.mem_singleton] at hp
  subst hp
  exact⟨.none,by kernel_rfl,rfl⟩
theorem ff10:FnFact (G0 w h mg mb os gens) nms fa cx0 m2f10 (fa 10):=by
 have hb:(fd1 5).body=.stmts (bodyOf (fd1 5)):=by kernel_rfl
 refine FnFact.of (kwm:=nsFind #[⟨PyData.keyHash w.params ("key":Str),.str ("key":Str) 319,.none⟩]) (dv:=[(.int 0 318),.none]) (K:=KF w.params) (c:=64) (oc:=o64s1 w.params) (o:=o65s1 w.params) (xs:=bodyOf (fd1 5)) (facts_ok X) X.k (by rfl) rfl rfl hb rfl (by rfl) rfl (by rfl) (fun lev=>by kernel_rfl) (.inr ⟨57,rfl,⟨_,at_ X (a:=57) (by rfl),rfl,_,rfl⟩⟩) ⟨⟨_,rfl⟩,rfl,trivial⟩ (by decide)
  (fun n _=>⟨58,_,rfl,⟨_,_,_,at_ X (a:=58) (by rfl),rfl,fun e he=>?_,fun _=>rfl⟩,rfl⟩) (fun {p} hp=>?_)
 ·simp only[List.mem_toArray,List.mem_cons,List.not_mem_nil,or_false] at he
  subst he;exact⟨_,_,rfl⟩
 ·have hp:p∈[((15:Nat),D.none)]:=hp
  rw[List.mem_singleton] at hp
  subst hp
  exact⟨.none,by kernel_rfl,rfl⟩
theorem ff11:FnFact (G0 w h mg mb os gens) nms fa cx0 m2f11 (fa 11):=by
 have hb:(fd1 11).body=.stmts (bodyOf (fd1 11)):=by kernel_rfl
 exact FnFact.of (kwm:=fun _=>none) (dv:=[]) (K:=KF w.params) (c:=89) (oc:=o89s3 w.params) (o:=o90s3 w.params) (xs:=bodyOf (fd1 11)) (facts_ok X) X.k (by rfl) rfl rfl hb rfl (by rfl) rfl (by rfl) (fun lev=>by kernel_rfl) (.inl ⟨rfl,rfl⟩) trivial (Nat.zero_le _) (fun _ h=>nomatch h) (fun hp=>nomatch hp)
theorem ff12:FnFact (G0 w h mg mb os gens) nms fa cx0 m2f12 (fa 12):=by
 have hb:(fd1 13).body=.stmts (bodyOf (fd1 13)):=by kernel_rfl
 exact FnFact.of (kwm:=fun _=>none) (dv:=[]) (K:=KF w.params) (c:=135) (oc:=o135f w.params) (o:=o136f w.params) (xs:=bodyOf (fd1 13)) (facts_ok X) X.k (by rfl) rfl rfl hb rfl (by rfl) rfl (by rfl) (fun lev=>by kernel_rfl) (.inl ⟨rfl,rfl⟩) trivial (Nat.zero_le _) (fun _ h=>nomatch h) (fun hp=>nomatch hp)
theorem ff13:FnFact (G0 w h mg mb os gens) nms fa cx0 m2f13 (fa 13):=by
 have hb:(fd1 19).body=.stmts (bodyOf (fd1 19)):=by kernel_rfl
 exact FnFact.of (kwm:=fun _=>none) (dv:=[]) (K:=KF w.params) (c:=277) (oc:=o277f w.params) (o:=o278f w.params) (xs:=bodyOf (fd1 19)) (facts_ok X) X.k (by rfl) rfl rfl hb rfl (by rfl) rfl (by rfl) (fun lev=>by kernel_rfl) (.inl ⟨rfl,rfl⟩) trivial (Nat.zero_le _) (fun _ h=>nomatch h) (fun hp=>nomatch hp)
theorem ff14:FnFact (G0 w h mg mb os gens) nms fa cx0 m2f14 (fa 14):=by
 have hb:(fd1 20).body=.stmts (bodyOf (fd1 20)):=by kernel_rfl
 exact FnFact.of (kwm:=fun _=>none) (dv:=[]) (K:=KF w.params) (c:=284) (oc:=o284f w.params) (o:=o285f w.params) (xs:=bodyOf (fd1 20)) (facts_ok X) X.k (by rfl) rfl rfl hb rfl (by rfl) rfl (by rfl) (fun lev=>by kernel_rfl) (.inl ⟨rfl,rfl⟩) trivial (Nat.zero_le _) (fun _ h=>nomatch h) (fun hp=>nomatch hp)
theorem ff15:FnFact (G0 w h mg mb os gens) nms fa cx0 m2f15 (fa 15):=by
 have hb:(fd1 21).body=.stmts (bodyOf (fd1 21)):=by kernel_rfl
 exact FnFact.of (kwm:=fun _=>none) (dv:=[]) (K:=KF w.params) (c:=291) (oc:=o291f w.params) (o:=o292f w.params) (xs:=bodyOf (fd1 21)) (facts_ok X) X.k (by rfl) rfl rfl hb rfl (by rfl) rfl (by rfl) (fun lev=>by kernel_rfl) (.inl ⟨rfl,rfl⟩) trivial (Nat.zero_le _) (fun _ h=>nomatch h) (fun hp=>nomatch hp)
theorem ff16:FnFact (G0 w h mg mb os gens) nms fa cx0 m2f16 (fa 16):=by
 have hb:(fd1 22).body=.stmts (bodyOf (fd1 22)):=by kernel_rfl
 exact FnFact.of (kwm:=fun _=>none) (dv:=[]) (K:=KF w.params) (c:=296) (oc:=o296f w.params) (o:=o297f w.params) (xs:=bodyOf (fd1 22)) (facts_ok X) X.k (by rfl) rfl rfl hb rfl (by rfl) rfl (by rfl) (fun lev=>by kernel_rfl) (.inl ⟨rfl,rfl⟩) trivial (Nat.zero_le _) (fun _ h=>nomatch h) (fun hp=>nomatch hp)
theorem ff17:FnFact (G0 w h mg mb os gens) nms fa cx0 m2f17 (fa 17):=by
 have hb:(fd1 23).body=.stmts (bodyOf (fd1 23)):=by kernel_rfl
 exact FnFact.of (kwm:=fun _=>none) (dv:=[]) (K:=KF w.params) (c:=301) (oc:=o301f w.params) (o:=o302f w.params) (xs:=bodyOf (fd1 23)) (facts_ok X) X.k (by rfl) rfl rfl hb rfl (by rfl) rfl (by rfl) (fun lev=>by kernel_rfl) (.inl ⟨rfl,rfl⟩) trivial (Nat.zero_le _) (fun _ h=>nomatch h) (fun hp=>nomatch hp)
theorem ff18:FnFact (G0 w h mg mb os gens) nms fa cx0 m2f18 (fa 18):=by
 have hb:(fd1 24).body=.stmts (bodyOf (fd1 24)):=by kernel_rfl
 exact FnFact.of (kwm:=fun _=>none) (dv:=[]) (K:=KF w.params) (c:=306) (oc:=o306f w.params) (o:=o307f w.params) (xs:=bodyOf (fd1 24)) (facts_ok X) X.k (by rfl) rfl rfl hb rfl (by rfl) rfl (by rfl) (fun lev=>by kernel_rfl) (.inl ⟨rfl,rfl⟩) trivial (Nat.zero_le _) (fun _ h=>nomatch h) (fun hp=>nomatch hp)
theorem ff19:FnFact (G0 w h mg mb os gens) nms fa cx0 m2f19 (fa 19):=by
 have hb:(fd1 25).body=.stmts (bodyOf (fd1 25)):=by kernel_rfl
 exact FnFact.of (kwm:=fun _=>none) (dv:=[]) (K:=KF w.params) (c:=311) (oc:=o311f w.params) (o:=o312f w.params) (xs:=bodyOf (fd1 25)) (facts_ok X) X.k (by rfl) rfl rfl hb rfl (by rfl) rfl (by rfl) (fun lev=>by kernel_rfl) (.inl ⟨rfl,rfl⟩) trivial (Nat.zero_le _) (fun _ h=>nomatch h) (fun hp=>nomatch hp)
theorem ff20:FnFact (G0 w h mg mb os gens) nms fa cx0 m2f20 (fa 20):=by
 have hb:(fd1 26).body=.stmts (bodyOf (fd1 26)):=by kernel_rfl
 exact FnFact.of (kwm:=fun _=>none) (dv:=[]) (K:=KF w.params) (c:=318) (oc:=o318f w.params) (o:=o319f w.params) (xs:=bodyOf (fd1 26)) (facts_ok X) X.k (by rfl) rfl rfl hb rfl (by rfl) rfl (by rfl) (fun lev=>by kernel_rfl) (.inl ⟨rfl,rfl⟩) trivial (Nat.zero_le _) (fun _ h=>nomatch h) (fun hp=>nomatch hp)
theorem ff21:FnFact (G0 w h mg mb os gens) nms fa cx0 m2f21 (fa 21):=by
 have hb:(fd1 27).body=.stmts (bodyOf (fd1 27)):=by kernel_rfl
 exact FnFact.of (kwm:=fun _=>none) (dv:=[]) (K:=KF w.params) (c:=325) (oc:=o325f w.params) (o:=o326f w.params) (xs:=bodyOf (fd1 27)) (facts_ok X) X.k (by rfl) rfl rfl hb rfl (by rfl) rfl (by rfl) (fun lev=>by kernel_rfl) (.inl ⟨rfl,rfl⟩) trivial (Nat.zero_le _) (fun _ h=>nomatch h) (fun hp=>nomatch hp)
theorem ff22:FnFact (G0 w h mg mb os gens) nms fa cx0 m2f22 (fa 22):=by
 have hb:(fd1 28).body=.stmts (bodyOf (fd1 28)):=by kernel_rfl
 exact FnFact.of (kwm:=fun _=>none) (dv:=[]) (K:=KF w.params) (c:=330) (oc:=o330f w.params) (o:=o331f w.params) (xs:=bodyOf (fd1 28)) (facts_ok X) X.k (by rfl) rfl rfl hb rfl (by rfl) rfl (by rfl) (fun lev=>by kernel_rfl) (.inl ⟨rfl,rfl⟩) trivial (Nat.zero_le _) (fun _ h=>nomatch h) (fun hp=>nomatch hp)
theorem ff23:FnFact (G0 w h mg mb os gens) nms fa cx0 m2f23 (fa 23):=by
 have hb:(fd1 29).body=.stmts (bodyOf (fd1 29)):=by kernel_rfl
 exact FnFact.of (kwm:=fun _=>none) (dv:=[]) (K:=KF w.params) (c:=335) (oc:=o335f w.params) (o:=o336f w.params) (xs:=bodyOf (fd1 29)) (facts_ok X) X.k (by rfl) rfl rfl hb rfl (by rfl) rfl (by rfl) (fun lev=>by kernel_rfl) (.inl ⟨rfl,rfl⟩) trivial (Nat.zero_le _) (fun _ h=>nomatch h) (fun hp=>nomatch hp)
theorem ff24:FnFact (G0 w h mg mb os gens) nms fa cx0 m2f24 (fa 24):=by
 have hb:(fd1 30).body=.stmts (bodyOf (fd1 30)):=by kernel_rfl
 exact FnFact.of (kwm:=fun _=>none) (dv:=[]) (K:=KF w.params) (c:=342) (oc:=o342f w.params) (o:=o343f w.params) (xs:=bodyOf (fd1 30)) (facts_ok X) X.k (by rfl) rfl rfl hb rfl (by rfl) rfl (by rfl) (fun lev=>by kernel_rfl) (.inl ⟨rfl,rfl⟩) trivial (Nat.zero_le _) (fun _ h=>nomatch h) (fun hp=>nomatch hp)
theorem ff25:FnFact (G0 w h mg mb os gens) nms fa cx0 m2f25 (fa 25):=by
 have hb:(fd1 31).body=.stmts (bodyOf (fd1 31)):=by kernel_rfl
 exact FnFact.of (kwm:=fun _=>none) (dv:=[]) (K:=KF w.params) (c:=347) (oc:=o347f w.params) (o:=o348f w.params) (xs:=bodyOf (fd1 31)) (facts_ok X) X.k (by rfl) rfl rfl hb rfl (by rfl) rfl (by rfl) (fun lev=>by kernel_rfl) (.inl ⟨rfl,rfl⟩) trivial (Nat.zero_le _) (fun _ h=>nomatch h) (fun hp=>nomatch hp)
theorem ff26:FnFact (G0 w h mg mb os gens) nms fa cx0 m2f26 (fa 26):=by
 have hb:(fd1 32).body=.stmts (bodyOf (fd1 32)):=by kernel_rfl
 exact FnFact.of (kwm:=fun _=>none) (dv:=[]) (K:=KF w.params) (c:=352) (oc:=o352f w.params) (o:=o353f w.params) (xs:=bodyOf (fd1 32)) (facts_ok X) X.k (by rfl) rfl rfl hb rfl (by rfl) rfl (by rfl) (fun lev=>by kernel_rfl) (.inl ⟨rfl,rfl⟩) trivial (Nat.zero_le _) (fun _ h=>nomatch h) (fun hp=>nomatch hp)
theorem ff27:FnFact (G0 w h mg mb os gens) nms fa cx0 m2f27 (fa 27):=by
 have hb:(fd1 33).body=.stmts (bodyOf (fd1 33)):=by kernel_rfl
 exact FnFact.of (kwm:=fun _=>none) (dv:=[]) (K:=KF w.params) (c:=359) (oc:=o359f w.params) (o:=o360f w.params) (xs:=bodyOf (fd1 33)) (facts_ok X) X.k (by rfl) rfl rfl hb rfl (by rfl) rfl (by rfl) (fun lev=>by kernel_rfl) (.inl ⟨rfl,rfl⟩) trivial (Nat.zero_le _) (fun _ h=>nomatch h) (fun hp=>nomatch hp)
theorem ff28:FnFact (G0 w h mg mb os gens) nms fa cx0 m2f28 (fa 28):=by
 have hb:(fd1 34).body=.stmts (bodyOf (fd1 34)):=by kernel_rfl
 exact FnFact.of (kwm:=fun _=>none) (dv:=[]) (K:=KF w.params) (c:=366) (oc:=o366f w.params) (o:=o367f w.params) (xs:=bodyOf (fd1 34)) (facts_ok X) X.k (by rfl) rfl rfl hb rfl (by rfl) rfl (by rfl) (fun lev=>by kernel_rfl) (.inl ⟨rfl,rfl⟩) trivial (Nat.zero_le _) (fun _ h=>nomatch h) (fun hp=>nomatch hp)
theorem ff_all(f:Nat)(fn:Fn)(e:m2fns[f]?=some fn):FnFact (G0 w h mg mb os gens) nms fa cx0 fn (fa f):=
 Nat.zero_add f▸allF (P:=fun fn i=>FnFact (G0 w h mg mb os gens) nms fa cx0 fn (fa i)) (l:=m2fns) (k:=0) ⟨ff2 X,ff2 X,ff2 X,ff3 X,ff4 X,ff5 X,ff6 X,ff7 X,ff8 X,ff9 X,ff10 X,ff11 X,ff12 X,ff13 X,ff14 X,ff15 X,ff16 X,ff17 X,ff18 X,ff19 X,ff20 X,ff21 X,ff22 X,ff23 X,ff24 X,ff25 X,ff26 X,ff27 X,ff28 X,trivial⟩ f fn e
theorem law_walk{s:Shared}{a:Addr}{vs:List Value}{is:List Int}{n:Nat}(hs:s.heap=h)(ho:s.os=os)(hg:s.gens=gens)(ha:h.get? a=some { cls:=.type "list",data:=.seq vs.toArray n })(hI:IntsAre vs is)
  (hrun:runF m2fns cx0 20 28 [.lst (is.map .int)] []=some (.d (.bool true),[])) :
  wpAny (model PySem.Challenge.rw_uk0030_02.row.prog w) callerA (call (.ref 367) [.ref a]) (fun v s'=>v=.bool true∧(∀ b o,s.heap.get? b=some o→s'.heap.get? b=some o)∧s'.os=s.os∧s'.gens=s.gens) (fun _ _=>False) s:=by
 have B:Base (G0 w h mg mb os gens) 20 callerA ⟨h,[],[],[]⟩ []:={
  keep:=fun b o e=>⟨e,nofun,nofun,nofun⟩
  glob:=⟨X.g,X.b⟩
  nolim:=X.nolim
  handled:=rfl
  depth:=by decide
  units:=by decide
  led:=trivial
  nd:=.nil
  sep:=fun a h=>(h.elim (fun m=>nomatch m) fun m=>nomatch m)
  ownex:=fun a h=>(h.elim (fun m=>nomatch m) fun m=>nomatch m)
  op:=fun a m=>nomatch m }
 have r:VRs (G0 w h mg mb os gens) ⟨h,[],[],[]⟩ [.lst (is.map .int)] [.ref a]:=⟨⟨a,vs.toArray,rfl,⟨n,ha⟩,⟨nofun,nofun,nofun⟩,by simpa using DRs_ints hI⟩,trivial⟩
 refine runF_sound (G:=G0 w h mg mb os gens) (fa:=fa) nms_nodup (ff_all X) 20 (f:=28) (K:=fun r=>r=(.d (.bool true),[])) B ⟨hs.symm,ho,hg⟩ r (toW hrun rfl) fun {q v s' w'} e p=>?_
 subst e
 refine⟨p.val,fun b o e=>?_,p.heap.2.1.trans ho.symm,p.heap.2.2.trans hg.symm⟩
 rw[←p.heap.1]
 exact(p.stp.keep b o (hs▸e) nofun).1
end
end
end uk0030_02
end
section
namespace UK
open PySem PySem.W
section
section
variable{cx:Cx}{mu:List Nat}{n₀:Nat}{loc l:Loc}{led l1 l2 l3 d:Led}
theorem bindF{α β:Type}{o:Option α}{f:α→Option β}{a:α}(h:o=some a):o.bind f=f a:=by subst h;rfl
theorem mapF{α β:Type}{o:Option α}{f:α→β}{a:α}(h:o=some a):o.map f=some (f a):=by subst h;rfl
theorem gdF{p:Prop}[Decidable p]{α:Type}{x:Option α}(h:p):gd p x=x:=if_pos h
theorem seq1{s:S}{ss:List S}(h:evS cx mu n₀ s loc led=some (.nx,l,d)):evSs cx mu n₀ (s::ss) loc led=evSs cx mu n₀ ss l d:=bindF h
theorem seqR{s:S}{ss:List S}{v:V}(h:evS cx mu n₀ s loc led=some (.ret v,l,d)):evSs cx mu n₀ (s::ss) loc led=some (.ret v,l,d):=bindF h
theorem ite_t{c:E}{a b:List S}{v:V}(h:evE cx c loc led=some (v,l1))(t:tru l1 v=some true):evS cx mu n₀ (.ite c a b) loc led=evSs cx mu n₀ a loc (l1.take led.length):=(bindF h).trans (bindF t)
theorem ite_f{c:E}{a b:List S}{v:V}(h:evE cx c loc led=some (v,l1))(t:tru l1 v=some false):evS cx mu n₀ (.ite c a b) loc led=evSs cx mu n₀ b loc (l1.take led.length):=(bindF h).trans (bindF t)
theorem assign1{t:T}{e:E}{v:V}{b:BS}(h:evE cx e loc led=some (v,l1))(hb:bindV mu n₀ l1 t v ⟨led.length,loc,l1.take led.length⟩=some b):evS cx mu n₀ (.assign t e) loc led=some (.nx,b.loc,b.base):=(bindF h).trans (mapF hb)
theorem expr1{e:E}{v:V}(h:evE cx e loc led=some (v,l1)):evS cx mu n₀ (.expr e) loc led=some (.nx,loc,l1.take led.length):=mapF h
theorem ret1{e:E}{v:V}(h:evE cx e loc led=some (v,l1)):evS cx mu n₀ (.ret e) loc led=some (.ret v,loc,l1):=mapF h
theorem bin_e{op:Op2}{a b:E}{x y:V}(h1:evE cx a loc led=some (x,l1))(h2:evE cx b loc l1=some (y,l2)):evE cx (.bin op a b) loc led=evBin l2 op x y:=(bindF h1).trans (bindF h2)
theorem call_e{f:Nat}{as:List E}{vs:List V}(h:evEs cx as loc led=some (vs,l1)):evE cx (.call f as) loc led=cx.F f vs l1:=bindF h
theorem bi_e{b:Bi}{as:List E}{vs:List V}(h:evEs cx as loc led=some (vs,l1)):evE cx (.bi b as) loc led=evBi l1 b vs:=bindF h
theorem meth_e{m:Me}{o:E}{as:List E}{v:V}{vs:List V}(h:evE cx o loc led=some (v,l1))(hm:methAt l1 m v=true)(h2:evEs cx as loc l1=some (vs,l2)):evE cx (.meth m o as) loc led=evMeth l2 m v vs:=(bindF h).trans ((gdF hm).trans (bindF h2))
theorem hm_e{f:Nat}{o:E}{as:List E}{v:V}{vs:List V}(h:evE cx o loc led=some (v,l1))(h2:evEs cx as loc l1=some (vs,l2))(hh:isHdr v=true):evE cx (.hm f o as) loc led=cx.F f (v::vs) l2:=(bindF h).trans ((bindF h2).trans (gdF hh))
theorem es1{e:E}{es:List E}{v:V}{vs:List V}(h1:evE cx e loc led=some (v,l1))(h2:evEs cx es loc l1=some (vs,l2)):evEs cx (e::es) loc led=some (v::vs,l2):=(bindF h1).trans (mapF h2)
theorem es0{e:E}{v:V}(h1:evE cx e loc led=some (v,l1)):evEs cx [e] loc led=some ([v],l1):=es1 h1 rfl
theorem tuple_e{as:List E}{vs:List V}{ds:List D}(h:evEs cx as loc led=some (vs,l1))(ha:allD vs=some ds):evE cx (.tuple as) loc led=some (.d (.tup ds),l1):=(mapF h).trans (by show some (match allD vs with | some ds=>(V.d (.tup ds),l1) | none=>(.tup vs,l1))=_;rw[ha])
theorem list_e{as:List E}{vs:List V}{ds:List D}(h:evEs cx as loc led=some (vs,l1))(ha:allD vs=some ds):evE cx (.list as) loc led=some (.ref l1.length,l1++[.list ds]):=(bindF h).trans (mapF ha)
theorem index_e{a i:E}{x y r:V}(h1:evE cx a loc led=some (x,l1))(h2:evE cx i loc l1=some (y,l2))(h3:evIndex l2 x y=some r):evE cx (.index a i) loc led=some (r,l2):=(bindF h1).trans ((bindF h2).trans (mapF h3))
theorem cmp_e{a b:E}{op:Cm}{x y:V}{r:Bool}(h1:evE cx a loc led=some (x,l1))(h2:evE cx b loc l1=some (y,l2))(h3:evCmp l2 op x y=some r):evE cx (.cmp a op b) loc led=some (.d (.bool r),l2):=(bindF h1).trans ((bindF h2).trans (mapF h3))
theorem not_e{a:E}{x:V}{r:Bool}(h1:evE cx a loc led=some (x,l1))(h3:tru l1 x=some r):evE cx (.not a) loc led=some (.d (.bool !r),l1):=(bindF h1).trans (mapF h3)
theorem and_e{a b:E}{x:V}(h1:evE cx a loc led=some (x,l1))(h3:tru l1 x=some true):evE cx (.and a b) loc led=evE cx b loc l1:=(bindF h1).trans (bindF h3)
theorem and_f{a b:E}{x:V}(h1:evE cx a loc led=some (x,l1))(h3:tru l1 x=some false):evE cx (.and a b) loc led=some (x,l1):=(bindF h1).trans (bindF h3)
theorem or_t{a b:E}{x:V}(h1:evE cx a loc led=some (x,l1))(h3:tru l1 x=some true):evE cx (.or a b) loc led=some (x,l1):=(bindF h1).trans (bindF h3)
theorem or_f{a b:E}{x:V}(h1:evE cx a loc led=some (x,l1))(h3:tru l1 x=some false):evE cx (.or a b) loc led=evE cx b loc l1:=(bindF h1).trans (bindF h3)
theorem slice_e{a lo hi st:E}{x y z u:V}{l4:Led}(h1:evE cx a loc led=some (x,l1))(h2:evE cx lo loc l1=some (y,l2))(h3:evE cx hi loc l2=some (z,l3))(h4:evE cx st loc l3=some (u,l4)):evE cx (.slice a lo hi st) loc led=evSlice l4 x y z u:=
 (bindF h1).trans ((bindF h2).trans ((bindF h3).trans (bindF h4)))
theorem name_e{x:Nat}{v:V}(h:get loc x=some v):evE cx (.name x) loc led=some (v,led):=mapF h
theorem conv_e{nm:Bool}{o e:E}{v:V}{x:Str}(h1:evE cx o loc led=some (v,l1))(h2:evE cx e loc l1=some (.d (.str x),l2))(h3:isHdr v=true)(h4:cx.conv nm x=true):evE cx (.conv nm o e) loc led=some (.d (.str x),l2):=(bindF h1).trans ((bindF h2).trans (gdF ⟨h3,h4⟩))
theorem b3_e{e:E}{c:Int}(h:evE cx e loc led=some (.d (.int c),l1)):evE cx (.b3get e) loc led=some ((cx.b3 c).elim (.d .none) fun x=>.d (.str x),l1):=(bindF h).trans (by
 show some (match cx.b3 c with | some x=>(V.d (.str x),l1) | none=>(.d .none,l1))=_
 cases cx.b3 c <;> rfl)
theorem add_str{x y:Str}(h:x.length+y.length≤cap):evBin led .add (.d (.str x)) (.d (.str y))=some (.d (.str (x++y)),led):=by
 show Option.map _ (gd (x.length+y.length≤cap) _)=_
 rw[gdF h];rfl
theorem mul_int{x y:Int}(h:x.natAbs<2 ^ 32∨y.natAbs<2 ^ 32):evBin led .mul (.d (.int x)) (.d (.int y))=some (.d (.int (x*y)),led):=by
 show Option.map _ (gd (x.natAbs<2 ^ 32∨y.natAbs<2 ^ 32) _)=_
 rw[gdF h];rfl
theorem aug_e{x:Nat}{op:Op2}{e:E}{a b:Int}(h1:get loc x=some (.d (.int a)))(h2:evE cx e loc led=some (.d (.int b),l1))(ho:op=.add):evS cx mu n₀ (.aug x op e) loc led=some (.nx,put loc x (.d (.int (a+b))),l1.take led.length):=by
 subst ho
 exact(bindF h1).trans ((bindF (a:=a) rfl).trans ((bindF h2).trans (bindF (a:=b) rfl)))
noncomputable def cF(cx:Cx)(c:E):Loc→Led→Option (Bool × Led):=fun loc led=>(evE cx c loc led).bind fun p=>(tru p.2 p.1).map fun r=>(r,p.2)
theorem while_eq{c:E}{b:List S}:evS cx mu n₀ (.while c b) loc led=whileLoop (cF cx c) (fun loc led'=>evSs cx mu led.length b loc led') cx.N loc led:=rfl
theorem while_f{cond:Loc→Led→Option (Bool × Led)}{body:Loc→Led→Option Res}{N:Nat}(hc:cond loc led=some (false,l1))(ht:l1.take led.length=led):whileLoop cond body (N+1) loc led=some (.nx,loc,led):=
 (bindF hc).trans (by show some (Fl.nx,loc,l1.take led.length)=_;rw[ht])
theorem while_t{cond:Loc→Led→Option (Bool × Led)}{body:Loc→Led→Option Res}{N:Nat}{loc2 loc3:Loc}(hc:cond loc led=some (true,l1))(ht:l1.take led.length=led)(hb:body loc led=some (.nx,loc2,l2))(h3:trunc loc.length led.length loc2 l2=some (loc3,l3)) :
  whileLoop cond body (N+1) loc led=whileLoop cond body N loc3 l3:=
 (bindF hc).trans (by
  show (body loc (l1.take led.length)).bind _=_
  rw[ht,bindF hb]
  exact bindF h3)
theorem for_eq{t:T}{k:IK}{its:List E}{b:List S}{vs:List V}{src:Src}(h1:evEs cx its loc led=some (vs,l1))(h2:srcOf led.length l1 k vs=some src) :
  evS cx mu n₀ (.for t k its b) loc led=forLoop t (fun loc led'=>evSs cx mu led.length b loc led') cx.N src loc (l1.take led.length):=(bindF h1).trans (bindF h2)
theorem for_go{t:T}{body:Loc→Led→Option Res}{N:Nat}{src src':Src}{x:D}{loc1 loc2 loc3:Loc}(hn:src.next led=some (some (x,src')))(hb:bindD t x loc=some loc1)(he:body loc1 led=some (.nx,loc2,l2))
  (ht:trunc loc.length led.length loc2 l2=some (loc3,l3)):forLoop t body (N+1) src loc led=forLoop t body N src' loc3 l3:=
 (bindF hn).trans ((bindF hb).trans ((bindF he).trans (bindF ht)))
theorem for_stop{t:T}{body:Loc→Led→Option Res}{N:Nat}{src src':Src}{x:D}{loc1 loc2:Loc}{v:V}(hn:src.next led=some (some (x,src')))(hb:bindD t x loc=some loc1)(he:body loc1 led=some (.ret v,loc2,l2)) :
  forLoop t body (N+1) src loc led=some (.ret v,loc2,l2):=(bindF hn).trans ((bindF hb).trans (bindF he))
theorem for_end{t:T}{body:Loc→Led→Option Res}{N:Nat}{src:Src}(hn:src.next led=some none):forLoop t body (N+1) src loc led=some (.nx,loc,led):=bindF hn
theorem for_step{t:T}{body:Loc→Led→Option Res}{N:Nat}{x:D}{xs:List D}{loc1 loc2 loc3:Loc}(hb:bindD t x loc=some loc1)(he:body loc1 led=some (.nx,loc2,l2))
  (ht:trunc loc.length led.length loc2 l2=some (loc3,l3)):forLoop t body (N+1) (.fz (x::xs)) loc led=forLoop t body N (.fz xs) loc3 l3:=for_go rfl hb he ht
theorem for_nil{t:T}{body:Loc→Led→Option Res}{N:Nat}:forLoop t body (N+1) (.fz []) loc led=some (.nx,loc,led):=rfl
noncomputable def turnP(cx:Cx)(elt:E)(t:T)(conds:List E)(lc:Loc)(d:D)(led:Led):Option (Option D × Led):=(bindD t d lc).bind fun loc'=>(evConds cx conds loc' led).bind fun c=>
 cond c.1 ((evE cx elt loc' c.2).bind fun y=>(ofV y.1).map fun d=>(some d,y.2)) (some (none,c.2))
theorem turn_no{elt:E}{t:T}{lc:Loc}{x y:D}(hb:bindD t x lc=some loc)(he:evE cx elt loc led=some (.d y,l1)):turnP cx elt t [] lc x led=some (some y,l1):=(bindF hb).trans (bindF he)
theorem cond1{c:E}{v:V}{b:Bool}(h:evE cx c loc led=some (v,l1))(t:tru l1 v=some b):evConds cx [c] loc led=some (b,l1):=(bindF h).trans ((bindF t).trans (by cases b <;> rfl))
theorem turn_t{elt c:E}{t:T}{lc:Loc}{x y:D}{v:V}(hb:bindD t x lc=some loc)(hc:evE cx c loc led=some (v,l1))(ht:tru l1 v=some true)(he:evE cx elt loc l1=some (.d y,l2)):turnP cx elt t [c] lc x led=some (some y,l2):=
 (bindF hb).trans ((bindF (cond1 hc ht)).trans (bindF he))
theorem turn_f{elt c:E}{t:T}{lc:Loc}{x:D}{v:V}(hb:bindD t x lc=some loc)(hc:evE cx c loc led=some (v,l1))(ht:tru l1 v=some false):turnP cx elt t [c] lc x led=some (none,l1):=
 (bindF hb).trans (bindF (cond1 hc ht))
theorem comp_eq{elt:E}{t:T}{k:IK}{its conds:List E}{caps:List Nat}{ledF:Led}{vs:List V}{src:Src}(h1:evEs cx its loc led=some (vs,l1))(h2:srcOf l1.length l1 k vs=some src)
  (h3:compLoop l1.length (turnP cx elt t conds (capt caps loc)) cx.N src (l1++[.list []])=some ledF):evE cx (.comp elt t k its conds caps) loc led=some (.ref l1.length,ledF):=(bindF h1).trans ((bindF h2).trans (mapF h3))
theorem keep_none{n:Nat}:keepL n none led=some (led.take (n+1)):=rfl
theorem keep_some{n:Nat}{y:D}{led0 l1:Led}{ys:List D}(hn:led0.length=n)(h:l1.take (n+1)=led0++[.list ys])(hc:ys.length<cap):keepL n (some y) l1=some (led0++[.list (ys++[y])]):=by
 subst hn
 have hg:l1[led0.length]?=some (.list ys):=by
  have:=congrArg (fun l=>l[led0.length]?) h
  rwa [List.getElem?_take_of_lt (Nat.lt_succ_self _),List.getElem?_concat_length] at this
 refine(bindF (a:=ys) (bindF (f:=O.list?) hg)).trans ((gdF hc).trans ?_)
 rw[h,List.set_append_right _ _ (Nat.le_refl _),Nat.sub_self];rfl
theorem comp_fz{n:Nat}{turn:D→Led→Option (Option D × Led)}{led0:Led}(hn:led0.length=n)(f:D→Option D):∀ (xs ys:List D) (N:Nat),xs.length<N→ys.length+xs.length<cap →
  (∀ x∈xs,∀ ys',∃ l,turn x (led0++[.list ys'])=some (f x,l)∧l.take (n+1)=led0++[.list ys'])→compLoop n turn N (.fz xs) (led0++[.list ys])=some (led0++[.list (ys++xs.filterMap f)])
 | [],ys,0,h1,_,_=>absurd h1 (Nat.not_lt_zero _)
 | [],ys,N+1,_,_,_=>by rw[List.filterMap_nil,List.append_nil];rfl
 | x::xs,ys,0,h1,_,_=>absurd h1 (Nat.not_lt_zero _)
 | x::xs,ys,N+1,h1,h2,h=>by
  obtain⟨l,ht,hl⟩:=h x (.head _) ys
  have ih:=comp_fz (turn:=turn) hn f xs
  have h2':ys.length+xs.length+1<cap:=h2
  refine(bindF ht).trans ?_
  cases hf:f x with
  | none=>
   rw[List.filterMap_cons_none hf]
   refine(bindF (keep_none.trans (congrArg some hl))).trans ?_
   exact ih ys N (Nat.lt_of_succ_lt_succ h1) (Nat.lt_of_succ_lt h2') fun y hy=>h y (.tail _ hy)
  | some y=>
   rw[List.filterMap_cons_some hf,List.append_cons ys y]
   refine(bindF (keep_some hn hl (Nat.lt_of_le_of_lt (Nat.le_add_right _ _) (Nat.lt_of_succ_lt h2')))).trans ?_
   refine ih (ys++[y]) N (Nat.lt_of_succ_lt_succ h1) ?_ fun z hz=>h z (.tail _ hz)
   rw[List.length_append,Nat.add_right_comm];exact h2'
theorem turn_pl{n:Nat}{led0:Led}(hn:led0.length=n){ys:List D}{o:Option D}{r:Option (Option D × Led)}(h:r=some (o,led0++[.list ys])):∃ l,r=some (o,l)∧l.take (n+1)=led0++[.list ys]:=
 ⟨_,h,by rw[List.take_of_length_le];rw[List.length_append,hn];exact Nat.le_refl _⟩
theorem run_step{fns:List Fn}{k f:Nat}{fn:Fn}{as:List V}{loc':Loc}{fl:Fl}{r:V × Led}(hf:fns[f]?=some fn)(ha:argsV fn as=some loc)
  (he:evSs { cx with F:=runF fns cx k } fn.mu led.length fn.body loc led=some (fl,loc',l1)) (hr:resV led.length l1 fl.val=some r):runF fns cx (k+1) f as led=some r:=
 (bindF hf).trans ((bindF ha).trans ((bindF he).trans hr))
end
end
end UK
end
section
namespace uk0030_02
open PySem PySem.W UK
section
noncomputable def mapR{α β:Type}(f:α→β):List α→List β
 | []=>[]
 | x::l=>f x::mapR f l
theorem mapAt{α β:Type}{f g:α→β}:∀ {l:List α},l.map f=mapR g l→∀ p∈l,f p=g p
 | [],_,_,h=>nomatch h
 | x::l,e,p,h=>(List.mem_cons.mp h).elim (fun q=>q▸(List.cons.inj e).1) fun q=>mapAt (List.cons.inj e).2 p q
structure Tab where
 conv:Bool→Str→Bool
 b3:Int→Option Str
 b1:Int→Bool
noncomputable def cxA(X:Tab):Cx:=⟨fun _ _ _=>none,X.conv,X.b3,X.b1,4096⟩
noncomputable def R(X:Tab)(k f:Nat)(as:List V)(led:Led):Option (V × Led):=runF m2fns (cxA X) k f as led
noncomputable def cxK(X:Tab)(k:Nat):Cx:=⟨R X k,X.conv,X.b3,X.b1,4096⟩
noncomputable abbrev ch(c:Nat):V:=.d (.str ⟨#[c]⟩)
noncomputable abbrev dI(i:Int):V:=.d (.int i)
noncomputable abbrev dS(x:Str):V:=.d (.str x)
noncomputable def tS(w:List Nat):Str:=⟨w.toArray⟩
section
variable{X:Tab}{k:Nat}{loc loc':UK.Loc}{led led':Led}
theorem R_step{f:Nat}{fn:Fn}{as:List V}{fl:Fl}{r:V × Led}(hf:m2fns[f]?=some fn)(ha:argsV fn as=some loc)
  (he:evSs (cxK X k) fn.mu led.length fn.body loc led=some (fl,loc',led')) (hr:resV led.length led' fl.val=some r):R X (k+1) f as led=some r:=run_step hf ha he hr
theorem resD{x:D}:resV led.length led (.d x)=some (.d x,led):=by show some (V.d x,led.take led.length)=_;rw[List.take_length]
theorem R_d{f:Nat}{fn:Fn}{as:List V}{fl:Fl}{x:D}(hf:m2fns[f]?=some fn)(ha:argsV fn as=some loc)
  (he:evSs (cxK X k) fn.mu led.length fn.body loc led=some (fl,loc',led)) (hx:fl.val=.d x):R X (k+1) f as led=some (.d x,led):=R_step hf ha he (by rw[hx];exact resD)
theorem call_R{f:Nat}{as:List E}{vs:List V}(h:evEs (cxK X k) as loc led=some (vs,led')):evE (cxK X k) (.call f as) loc led=R X k f vs led':=call_e h
theorem hm_R{f:Nat}{o:E}{as:List E}{v:V}{vs:List V}{l1:Led}(h:evE (cxK X k) o loc led=some (v,l1))(h2:evEs (cxK X k) as loc l1=some (vs,led'))(hh:isHdr v=true):evE (cxK X k) (.hm f o as) loc led=R X k f (v::vs) led':=hm_e h h2 hh
theorem ite_t'{mu:List Nat}{n₀:Nat}{cx:Cx}{c:E}{a b:List UK.S}{v:V}(h:evE cx c loc led=some (v,led))(t:tru led v=some true):evS cx mu n₀ (.ite c a b) loc led=evSs cx mu n₀ a loc led:=(ite_t h t).trans (by rw[List.take_length])
theorem ite_f'{mu:List Nat}{n₀:Nat}{cx:Cx}{c:E}{a b:List UK.S}{v:V}(h:evE cx c loc led=some (v,led))(t:tru led v=some false):evS cx mu n₀ (.ite c a b) loc led=evSs cx mu n₀ b loc led:=(ite_f h t).trans (by rw[List.take_length])
theorem assignD{mu:List Nat}{n₀ x:Nat}{cx:Cx}{e:E}{y:D}(h:evE cx e loc led=some (.d y,led))(hm:mu.contains x=false):evS cx mu n₀ (.assign (.name x) e) loc led=some (.nx,put loc x (.d y),led):=by
 refine(assign1 (b:=⟨led.length,put loc x (.d y),led.take led.length⟩) h ?_).trans (by rw[List.take_length])
 show cond (mu.contains x) _ _=_
 rw[hm];rfl
theorem tab1(c:Nat)(led:Led):R X (k+1) 11 [ch c] led=some (.d (.bool (X.b1 c)),led):=
 R_d (fn:=m2f11) (loc:=[(21,ch c)]) (loc':=[(21,ch c)]) (fl:=.ret (.d (.bool (X.b1 c)))) rfl rfl rfl rfl
noncomputable def unS:List Nat:=[173,847,6150,6155,6156,6157,8203,8204,8205,8288,65279,65024,65025,65026,65027,65028,65029,65030,65031,65032,65033,65034,65035,65036,65037,65038,65039]
noncomputable def beS:List Nat:=[172,174,846,848,6149,6151,6154,6158,8202,8206,8287,8289,65278,65280,65023,65040]
noncomputable def FIL:List Nat:=[102,105,108]
noncomputable def leT:List (Nat × List Nat):=[(102,[102,70,119813,119865,119917,120021,120177,120229,120281,120333,120385,120437]),(105,[105,73,119816,119868,119920,120024,120180,120232,120284,120336,120388,120440]),(108,[108,76,119819,119871,119923,120027,120183,120235,120287,120339,120391,120443])]
noncomputable def leS2(c i:Nat):Nat:=((leT.lookup c).getD []).getD i 0
theorem unseen_all(o:O):((List.range 27).map fun (i:Nat)=>R X (k+1) 13 [dI i] [])=mapR (fun i=>some (ch (unS.getD i 0),[])) (List.range 27):=by kernel_rfl
theorem beside_all(o:O):((List.range 16).map fun (i:Nat)=>R X (k+1) 14 [dI i] [])=mapR (fun i=>some (ch (beS.getD i 0),[])) (List.range 16):=by kernel_rfl
theorem letter_all(o:O):(FIL.map fun c=>(List.range 12).map fun (i:Nat)=>R X (k+1) 15 [ch c,dI i] [])=mapR (fun c=>mapR (fun i=>some (ch (leS2 c i),[])) (List.range 12)) FIL:=by kernel_rfl
noncomputable def pc(X:Tab)(c:Nat):Option Str:=cond (X.b1 c) none (some ((X.b3 c).getD (Txt.lower ⟨#[c]⟩)))
noncomputable def pcS(X:Tab)(c:Nat):List Nat:=((pc X c).getD ⟨#[]⟩).cps.toList
def okC(X:Tab)(c:Nat):Prop:=(pcS X c).length≤8∧(Txt.lower ⟨#[c]⟩).length≤cap
theorem map3{c:Nat}(hl:(Txt.lower ⟨#[c]⟩).length≤cap):R X (k+1) 12 [ch c] led=some (dS ((X.b3 c).getD (Txt.lower ⟨#[c]⟩)),led):=by
 have e1:evE (cxK X k) (.b3get (.bi .ord [(.name 21)])) [(21,ch c)] led=some ((X.b3 c).elim (.d .none) fun x=>.d (.str x),led):=b3_e (c:=c) rfl
 cases h:X.b3 c with
 | some x=>
  rw[h] at e1
  exact R_d (fn:=m2f12) (loc:=[(21,ch c)]) (loc':=[(21,ch c),(22,dS x)]) (fl:=.ret (dS x)) rfl rfl ((seq1 (assignD e1 rfl)).trans (seqR ((ite_t' (v:=.d (.bool true)) rfl rfl).trans rfl))) rfl
 | none=>
  rw[h] at e1
  refine R_d (fn:=m2f12) (loc:=[(21,ch c)]) (loc':=[(21,ch c),(22,.d .none)]) (fl:=.ret (dS (Txt.lower ⟨#[c]⟩))) rfl rfl ((seq1 (assignD e1 rfl)).trans ((seq1 (l:=[(21,ch c),(22,.d .none)]) (d:=led) ((ite_f' (v:=.d (.bool false)) rfl rfl).trans rfl)).trans (seqR (ret1 ?_)))) rfl
  exact(meth_e (v:=ch c) (vs:=[]) rfl rfl rfl).trans (gdF hl)
theorem strsOf_map:∀ l:List Str,strsOf (l.map .str)=some l
 | []=>rfl
 | x::l=>(bindF (a:=x) rfl).trans (mapF (strsOf_map l))
theorem str_append(a b:Str):(a++b).cps=a.cps++b.cps:=rfl
theorem join_nil(ys:List Str):Txt.join ⟨#[]⟩ ys=⟨(ys.flatMap (·.cps.toList)).toArray⟩:=by
 show Builtin.Str.glued _ _=_
 rw[StrLaws.glued_eq_join]
 induction ys with
 | nil=>rfl
 | cons x ys ih=>
  cases ys with
  | nil=>show x=_;simp
  | cons y ys=>
   show x++⟨#[]⟩++Str.join ⟨#[]⟩ (y::ys)=_
   rw[ih]
   exact congrArg Str.mk (by simp [str_append])
theorem join_e{ss:List Str}{n:Nat}(h:led[n]?=some (.list (ss.map .str)))(hs:(ss.map (·.length)).sum≤cap):evMeth led .join (.d (.str ⟨#[]⟩)) [.ref n]=some (dS ⟨(ss.flatMap (·.cps.toList)).toArray⟩,led):=by
 rw[←join_nil]
 exact(bindF (a:=ss) ((bindF (a:=ss.map .str) (bindF (f:=O.list?) h)).trans (strsOf_map ss))).trans (gdF (by show _+ss.length*0≤cap;rw[Nat.mul_zero];exact hs))
theorem prep_turn{T:Str}{c:Nat}(hc:okC X c)(led':Led):turnP (cxK X (k+1)) (.call 12 [(.name 30)]) (.name 30) [(.cmp (.call 11 [(.name 30)]) .is (.lit (.bool false)))] (capt [] [(25,dS T)]) (.str ⟨#[c]⟩) led'=some ((pc X c).map .str,led'):=by
 have h1:evE (cxK X (k+1)) (.cmp (.call 11 [(.name 30)]) .is (.lit (.bool false))) [(30,ch c)] led'=some (.d (.bool (false==X.b1 c)),led'):=cmp_e ((call_R (es0 (name_e rfl))).trans (tab1 c led')) rfl rfl
 unfold pc
 cases hb:X.b1 c with
 | true=>rw[hb] at h1;exact turn_f rfl h1 rfl
 | false=>rw[hb] at h1;exact turn_t rfl h1 rfl ((call_R (es0 (name_e rfl))).trans (map3 hc.2))
theorem flat_pc:∀ l:List Nat,(l.filterMap (pc X)).flatMap (·.cps.toList)=l.flatMap (pcS X)
 | []=>rfl
 | c::l=>by
  have ih:=flat_pc l
  rw[List.filterMap_cons,List.flatMap_cons]
  unfold pcS at ih ⊢
  cases h:pc X c with
  | none=>exact ih
  | some x=>exact congrArg (x.cps.toList++·) ih
theorem sum_pc:∀ l:List Nat,(∀ c∈l,okC X c)→((l.filterMap (pc X)).map (·.length)).sum≤8*l.length
 | [],_=>Nat.le_refl _
 | c::l,h=>by
  have hc:=(h c (.head _)).1
  have ih:=sum_pc l fun d hd=>h d (.tail _ hd)
  rw[List.filterMap_cons,List.length_cons]
  unfold pcS at hc
  cases hp:pc X c with
  | none=>exact Nat.le_trans ih (Nat.mul_le_mul_left 8 (Nat.le_succ _))
  | some x=>
   rw[hp] at hc
   have hx:x.length≤8:=hc
   show x.length+((l.filterMap (pc X)).map (·.length)).sum≤_
   (revert ih hx;exact z3 0xffc21086a2a22e105148a800245c20)
theorem prepared_ok{T:Str}{led:Led}(hT:∀ c∈T.cps.toList,okC X c)(hl:T.cps.size≤100):R X (k+2) 17 [dS T] led=some (dS ⟨(T.cps.toList.flatMap (pcS X)).toArray⟩,led):=by
 have hlen:(chars T).length≤100:=by unfold chars;rw[List.length_map,Array.length_toList];exact hl
 have hcomp:=comp_fz (n:=led.length) (turn:=turnP (cxK X (k+1)) (.call 12 [(.name 30)]) (.name 30) [(.cmp (.call 11 [(.name 30)]) .is (.lit (.bool false)))] (capt [] [(25,dS T)])) (led0:=led) rfl (fun d=>d.str?.bind fun x=>(pc X (x.cps.getD 0 0)).map .str) (chars T) [] 4096
  (Nat.lt_of_le_of_lt hlen (by decide)) (by rw[List.length_nil,Nat.zero_add];exact Nat.lt_of_le_of_lt hlen (by decide)) (fun x hx ys'=>by
   obtain⟨c,hc,rfl⟩:=List.mem_map.mp hx
   exact turn_pl rfl (prep_turn (hT c hc) _))
 have hfm:(chars T).filterMap (fun d=>d.str?.bind fun x=>(pc X (x.cps.getD 0 0)).map .str)=((T.cps.toList.filterMap (pc X)).map D.str):=by
  unfold chars
  rw[List.filterMap_map,List.map_filterMap];rfl
 rw[List.nil_append,hfm] at hcomp
 have hE:=comp_eq (cx:=cxK X (k+1)) (its:=[(.name 25)]) (caps:=[]) (k:=.e) (loc:=[(25,dS T)]) (l1:=led) (vs:=[dS T]) (src:=.fz (chars T)) rfl rfl hcomp
 have hj:=join_e (n:=led.length) (led:=led++[.list ((T.cps.toList.filterMap (pc X)).map .str)]) List.getElem?_concat_length (Nat.le_trans (sum_pc _ hT) (by rw[Array.length_toList];unfold cap;(revert hl;exact z1 0x3ff4048005808ba80325800)))
 rw[flat_pc] at hj
 refine R_step (fn:=m2f17) (loc:=[(25,dS T)]) (fl:=.ret (dS ⟨(T.cps.toList.flatMap (pcS X)).toArray⟩)) rfl rfl (seqR (ret1 ((meth_e (v:=.d (.str ⟨#[]⟩)) rfl rfl (es0 hE)).trans hj))) ?_
 show some (dS _,List.take led.length (led++_))=_
 rw[List.take_left]
structure Kn (X:Tab):Prop where
 un:∀ i,i<27→okC X (unS.getD i 0)∧pcS X (unS.getD i 0)=[]
 be:∀ i,i<16→okC X (beS.getD i 0)∧pcS X (beS.getD i 0)=[beS.getD i 0]
 le:∀ c∈FIL,∀ i,i<12→okC X (leS2 c i)∧pcS X (leS2 c i)=[c]
 lig:∀ p∈[(64256,[102,102]),(64257,[102,105]),(64258,[102,108]),(64259,[102,102,105])],okC X p.1∧pcS X p.1=p.2
theorem fd24(m:Nat):(m:Int).fdiv 24=((m / 24:Nat):Int):=by
 rw[Int.fdiv_eq_ediv_of_nonneg _ (by decide)];rfl
theorem fm12(m:Nat):((m:Int).fdiv 2).fmod 12=((m / 2 % 12:Nat):Int):=by
 rw[Int.fmod_eq_emod_of_nonneg _ (by decide),Int.fdiv_eq_ediv_of_nonneg _ (by decide)];rfl
theorem fm27(m:Nat):(m:Int).fmod 27=((m % 27:Nat):Int):=by
 rw[Int.fmod_eq_emod_of_nonneg _ (by decide)];rfl
theorem fd27(m:Nat):(m:Int).fdiv 27=((m / 27:Nat):Int):=by
 rw[Int.fdiv_eq_ediv_of_nonneg _ (by decide)];rfl
noncomputable def shapesL:List (List Nat × Nat):=[([102,102,105],64259),([102,102],64256),([102,105],64257),([102,108],64258)]
noncomputable def shapesD:List D:=shapesL.map fun p=>.tup [.str (tS p.1),.int p.2]
noncomputable def locT(w:List Nat)(m:Int)(T:Str):UK.Loc:=[(27,dS (tS w)),(26,dI m),(24,.lst shapesD),(25,dS T)]
noncomputable def tB1:UK.S:=.assign (.name 28) (.comp (.name 29) (.name 29) .e [(.name 24)] [(.cmp (.slice (.name 27) (.lit .none) (.bi .len [(.index (.name 29) (.lit (.int 0)))]) (.lit .none)) .eq (.index (.name 29) (.lit (.int 0))))] [27])
noncomputable def tC:E:=(.and (.cmp (.name 28) .ne (.list [])) (.cmp (.bin .mod (.name 26) (.lit (.int 2))) .eq (.lit (.int 0))))
noncomputable def tAc:E:=.bi .chr [(.index (.index (.name 28) (.lit (.int 0))) (.lit (.int 1)))]
noncomputable def tAs:E:=.slice (.name 27) (.bi .len [(.index (.index (.name 28) (.lit (.int 0))) (.lit (.int 0)))]) (.lit .none) (.lit .none)
noncomputable def tA:UK.S:=.assign (.tup [(.name 25),(.name 27)]) (.tuple [(.bin .add (.name 25) tAc),tAs])
noncomputable def tBi:E:=.index (.name 27) (.lit (.int 0))
noncomputable def tBm:E:=.bin .mod (.bin .fdiv (.name 26) (.lit (.int 2))) (.lit (.int 12))
noncomputable def tBs:E:=.slice (.name 27) (.lit (.int 1)) (.lit .none) (.lit .none)
noncomputable def tB:UK.S:=.assign (.tup [(.name 25),(.name 27)]) (.tuple [(.bin .add (.name 25) (.call 15 [tBi,tBm])),tBs])
noncomputable def tB3:UK.S:=.assign (.name 26) (.bin .fdiv (.name 26) (.lit (.int 24)))
noncomputable def tBody:List UK.S:=[tB1,.ite tC [tA] [tB],tB3]
noncomputable def fits(w:List Nat):List (List Nat × Nat):=shapesL.filter fun p=>w.take p.1.length==p.1
noncomputable def locF(w:List Nat)(m:Int)(T:Str):UK.Loc:=locT w m T++[(28,.lst ((fits w).map fun p=>.tup [.str (tS p.1),.int p.2]))]
noncomputable def words:List (List Nat):=[[102],[105],[108],[102,102],[102,105],[102,108],[102,102,105]]
noncomputable def fit(w:List Nat):List Nat × Nat:=(fits w).headD ([],0)
noncomputable def evenB(w:List Nat)(m:Int):Bool:=!(fits w).isEmpty&&(m.fmod 2==0)
section
variable(m:Int)(T:Str)(o:O)
theorem all_1:(words.map fun w=>evS (cxK X k) [] 0 tB1 (locT w m T) [])=mapR (fun w=>some (.nx,locF w m T,[])) words:=by kernel_rfl
theorem all_c:(words.map fun w=>evE (cxK X k) tC (locF w m T) [])=mapR (fun w=>some (.d (.bool (evenB w m)),[]++[.list []])) words:=by kernel_rfl
theorem all_a:((words.filter fun w=>!(fits w).isEmpty).map fun w=>(evE (cxK X k) tAc (locF w m T) [],evE (cxK X k) tAs (locF w m T) []))=mapR (fun w=>(some (ch (fit w).2,[]),some (dS (tS (w.drop (fit w).1.length)),[]))) (words.filter fun w=>!(fits w).isEmpty):=by kernel_rfl
theorem all_b:(words.map fun w=>(evE (cxK X k) tBi (locF w m T) [],evE (cxK X k) tBm (locF w m T) [],evE (cxK X k) tBs (locF w m T) []))=mapR (fun w=>(some (ch (w.headD 0),[]),some (dI ((m.fdiv 2).fmod 12),[]),some (dS (tS w.tail),[]))) words:=by kernel_rfl
end
theorem words_fit:∀ w∈words,!(fits w).isEmpty→((fit w).2,(fit w).1)∈[(64256,[102,102]),(64257,[102,105]),(64258,[102,108]),(64259,[102,102,105])]∧(fit w).1++w.drop (fit w).1.length=w∧(w.drop (fit w).1.length).length<w.length∧(w.drop (fit w).1.length=[]∨w.drop (fit w).1.length∈words):=by decide +kernel
theorem words_tail:∀ w∈words,w.headD 0∈FIL∧w.headD 0::w.tail=w∧w.tail.length<w.length∧(w.tail=[]∨w.tail∈words)∧w.length≤3∧(tS w==⟨#[]⟩)=false:=by decide +kernel
theorem pair_e{mu:List Nat}{n₀:Nat}{cx:Cx}{loc:UK.Loc}{led:Led}{a b:E}{x y:D}{t u:Nat}(h1:evE cx a loc led=some (.d x,led))(h2:evE cx b loc led=some (.d y,led))(hm:mu.contains t=false)(hn:mu.contains u=false)(hne:(t==u)=false) :
  evS cx mu n₀ (.assign (.tup [(.name t),(.name u)]) (.tuple [a,b])) loc led=some (.nx,put (put loc t (.d x)) u (.d y),led):=by
 refine(assign1 (b:=⟨led.length,put (put loc t (.d x)) u (.d y),led.take led.length⟩) (tuple_e (es1 h1 (es0 h2)) rfl) ?_).trans (by rw[List.take_length])
 refine(gdF (by show ((t==u) || false)=false;rw[hne];rfl)).trans ((bindF (a:=BS.mk led.length (put loc t (.d x)) (led.take led.length)) ?_).trans ((gdF rfl).trans (bindF (a:=BS.mk led.length (put (put loc t (.d x)) u (.d y)) (led.take led.length)) ?_)))
 ·show cond (mu.contains t) _ _=_;rw[hm];rfl
 ·show cond (mu.contains u) _ _=_;rw[hn];rfl
theorem turn_ok(K:Kn X){w:List Nat}(hw:w∈words)(m:Nat)(T:Str)(o:O)(hT:T.length≤100):∃ (c:Nat) (rest:List Nat),evSs (cxK X (k+1)) [] 0 tBody (locT w m T) []=some (.nx,locT rest (m / 24:Nat) (T++⟨#[c]⟩)++[(28,.lst ((fits w).map fun p=>.tup [.str (tS p.1),.int p.2]))],[]) ∧
  okC X c∧pcS X c++rest=w∧rest.length<w.length∧(rest=[]∨rest∈words):=by
 have e1:=mapAt (all_1 (X:=X) (k:=k+1) m T) w hw
 have ec:=mapAt (all_c (X:=X) (k:=k+1) m T) w hw
 have ad:∀ {e:E} {c:Nat},evE (cxK X (k+1)) e (locF w m T) []=some (ch c,[])→evE (cxK X (k+1)) (.bin .add (.name 25) e) (locF w m T) []=some (dS (T++⟨#[c]⟩),[]):=fun h=>(bin_e (x:=dS T) rfl h).trans (add_str (by show T.length+1≤4096;omega))
 have fin:∀ (c:Nat) (rest:List Nat),evS (cxK X (k+1)) [] 0 tB3 (locT rest m (T++⟨#[c]⟩)++[(28,.lst ((fits w).map fun p=>.tup [.str (tS p.1),.int p.2]))]) []=some (.nx,locT rest (m / 24:Nat) (T++⟨#[c]⟩)++[(28,.lst ((fits w).map fun p=>.tup [.str (tS p.1),.int p.2]))],[]):=fun c rest=>
  (assignD (y:=.int (m / 24:Nat)) ((bin_e (x:=dI m) (y:=dI 24) rfl rfl).trans (by rw[←fd24];rfl)) rfl).trans rfl
 cases hb:evenB w m with
 | true=>
  rw[hb] at ec
  have hf:=(Bool.and_eq_true_iff.mp hb).1
  obtain⟨f1,f2,f3,f4⟩:=words_fit w hw hf
  have ea:=mapAt (all_a (X:=X) (k:=k+1) m T) w (List.mem_filter.mpr (And.intro hw hf))
  have ea1:evE (cxK X (k+1)) tAc (locF w m T) []=some (ch (fit w).2,[]):=congrArg Prod.fst ea
  have ea2:evE (cxK X (k+1)) tAs (locF w m T) []=some (dS (tS (w.drop (fit w).1.length)),[]):=congrArg Prod.snd ea
  have L:=K.lig _ f1
  refine⟨(fit w).2,w.drop (fit w).1.length,?_,L.1,by rw[L.2];exact f2,f3,f4⟩
  refine(seq1 e1).trans ((seq1 (((ite_t ec rfl).trans (seq1 (pair_e (ad ea1) ea2 rfl rfl rfl))).trans rfl)).trans ((seq1 (fin _ _)).trans rfl))
 | false=>
  rw[hb] at ec
  obtain⟨f0,f2,f3,f4,_⟩:=words_tail w hw
  have eb:=mapAt (all_b (X:=X) (k:=k+1) m T) w hw
  have eb1:evE (cxK X (k+1)) tBi (locF w m T) []=some (ch (w.headD 0),[]):=congrArg Prod.fst eb
  have em:evE (cxK X (k+1)) tBm (locF w m T) []=some (dI ((m:Int).fdiv 2 |>.fmod 12),[]):=congrArg (fun p=>p.2.1) eb
  have eb2:evE (cxK X (k+1)) tBs (locF w m T) []=some (dS (tS w.tail),[]):=congrArg (fun p=>p.2.2) eb
  rw[fm12] at em
  have hj:m / 2 % 12<12:=Nat.mod_lt _ (by decide)
  have el:=mapAt (mapAt (letter_all (X:=X) (k:=k) o) _ f0) (m / 2 % 12) (List.mem_range.mpr hj)
  have L:=K.le _ f0 _ hj
  refine⟨leS2 (w.headD 0) (m / 2 % 12),w.tail,?_,L.1,by rw[L.2];exact f2,f3,f4⟩
  refine(seq1 e1).trans ((seq1 (((ite_f ec rfl).trans (seq1 (pair_e (ad ((call_R (es1 eb1 (es0 em))).trans el)) eb2 rfl rfl rfl))).trans rfl)).trans ((seq1 (fin _ _)).trans rfl))
noncomputable def tCond:E:=.cmp (.name 27) .ne (.lit (.str ⟨#[]⟩))
theorem typed_loop(K:Kn X)(o:O):∀ (N:Nat) (w:List Nat),(w=[]∨w∈words)→w.length<N→∀ (m:Nat) (T:Str),T.length+w.length≤100→(∀ c∈T.cps.toList,okC X c) →
  ∃ (T':Str) (m':Nat),whileLoop (cF (cxK X (k+1)) tCond) (fun loc led'=>evSs (cxK X (k+1)) [] 0 tBody loc led') N (locT w m T) []=some (.nx,locT [] m' T',[]) ∧
   (∀ c∈T'.cps.toList,okC X c)∧T'.cps.toList.flatMap (pcS X)=T.cps.toList.flatMap (pcS X)++w∧T'.length≤T.length+w.length
 | 0,w,_,hN,_,_,_,_=>absurd hN (Nat.not_lt_zero _)
 | N+1,w,hw,hN,m,T,hT,hok=>by
  rcases hw with rfl | hw
  ·exact⟨T,m,while_f (l1:=[]) (by kernel_rfl) rfl,hok,by rw[List.append_nil],Nat.le_refl _⟩
  ·obtain⟨c,rest,e,hc,hp,hr,hd⟩:=turn_ok (k:=k) K hw m T o (by(revert hT;exact z2 0x3ff084032580a00c9608280))
   have hlen:(T++(⟨#[c]⟩:Str)).length=T.length+1:=by show (T.cps++#[c]).size=_;rw[Array.size_append];rfl
   have happ:(T++(⟨#[c]⟩:Str)).cps.toList=T.cps.toList++[c]:=Array.toList_append
   have hcond:cF (cxK X (k+1)) tCond (locT w m T) []=some (true,[]):=by
    show some (!(tS w==⟨#[]⟩),[])=_
    rw[(words_tail w hw).2.2.2.2.2];rfl
   obtain⟨T',m',e2,h1,h2,h3⟩:=typed_loop K o N rest hd (by(revert hN hr;exact z3 0x1ff842108162004350d041)) (m / 24) (T++⟨#[c]⟩) (by(revert hT hr hlen;exact z4 0xffc2100420192c105141a8a8010c2100c9618a80)) (fun d hd=>by
    rw[happ] at hd
    exact(List.mem_append.mp hd).elim (hok d) fun q=>(List.mem_singleton.mp q)▸hc)
   refine⟨T',m',(while_t hcond rfl e rfl).trans e2,h1,?_,by(revert hr hlen h3;exact z5 0x3ff080210883402864a0001a868410861)⟩
   rw[h2,happ,List.flatMap_append,List.append_assoc,List.flatMap_cons,List.flatMap_nil,List.append_nil,hp]
theorem typed_ok(K:Kn X)(m:Nat)(o:O){w:List Nat}(hw:w∈words):∃ T:Str,R X (k+2) 16 [dS (tS w),dI m] []=some (dS T,[])∧(∀ c∈T.cps.toList,okC X c)∧T.cps.toList.flatMap (pcS X)=w∧T.length≤4:=by
 have h27:m % 27<27:=Nat.mod_lt _ (by decide)
 have hu:=K.un (m % 27) h27
 have hwl:=(words_tail w hw).2.2.2.2.1
 obtain⟨T',m',e2,h1,h2,h3⟩:=typed_loop (k:=k) K o 4096 w (.inr hw) (by(revert hwl;exact z1 0x3ff084800580b1d400)) (m / 27) ⟨#[unS.getD (m % 27) 0]⟩ (by show 1+_≤_;omega) (fun c hc=>(List.mem_singleton.mp hc)▸hu.1)
 have h3':T'.length≤1+w.length:=h3
 refine⟨T',?_,h1,?_,by(revert hwl h3';exact z2 0x7fe10849502821ad0001d420)⟩
 ·have hm:evE (cxK X (k+1)) (.bin .mod (.name 26) (.lit (.int 27))) [(27,dS (tS w)),(26,dI m),(24,.lst shapesD)] []=some (dI ((m % 27:Nat):Int),[]):=by rw[←fm27];kernel_rfl
  have hd:evE (cxK X (k+1)) (.bin .fdiv (.name 26) (.lit (.int 27))) [(27,dS (tS w)),(26,dI m),(24,.lst shapesD)] []=some (dI ((m / 27:Nat):Int),[]):=by rw[←fd27];kernel_rfl
  have hs:=seq1 (ss:=[.assign (.tup [(.name 25),(.name 26)]) (.tuple [(.call 13 [(.bin .mod (.name 26) (.lit (.int 27)))]),(.bin .fdiv (.name 26) (.lit (.int 27)))]),.while tCond tBody,.ret (.name 25)]) (s:=m2f16.body.headD .stuck) (cx:=cxK X (k+1)) (mu:=[]) (n₀:=0) (loc:=[(27,dS (tS w)),(26,dI m)]) (led:=[]) (l:=[(27,dS (tS w)),(26,dI m),(24,.lst shapesD)]) (d:=[]) (by kernel_rfl)
  refine R_d (fn:=m2f16) (loc:=[(27,dS (tS w)),(26,dI m)]) (fl:=.ret (dS T')) (loc':=locT [] m' T') rfl rfl (hs.trans ((seq1 (pair_e ((call_R (es0 hm)).trans (mapAt (unseen_all (X:=X) (k:=k) o) _ (List.mem_range.mpr h27))) hd rfl rfl rfl)).trans ((seq1 (while_eq.trans e2)).trans rfl))) rfl
 ·rw[h2]
  show List.flatMap _ [unS.getD (m % 27) 0]++w=w
  rw[List.flatMap_cons,hu.2];rfl
end
end
section
noncomputable def Feeds(led:Led):List D→Src→Prop
 | [],src=>src.next led=some none
 | x::xs,src=>∃ src',src.next led=some (some (x,src'))∧Feeds led xs src'
theorem feeds_fz{led:Led}:∀ xs,Feeds led xs (.fz xs)
 | []=>rfl
 | x::xs=>⟨.fz xs,rfl,feeds_fz xs⟩
theorem feeds_live{led:Led}{k:Nat}{zs:List D}(h:led[k]?=some (.list zs)):∀ (xs:List D) (i:Nat),zs.drop i=xs→Feeds led xs (.live k i)
 | [],i,hd=>by
  have hz:zs[i]?=none:=List.getElem?_eq_none (List.drop_eq_nil_iff.mp hd)
  exact(mapF (a:=zs) (bindF (f:=O.list?) h)).trans (by rw[hz];rfl)
 | x::xs,i,hd=>by
  have hz:zs[i]?=some x:=by
   have:=congrArg (fun l=>l[0]?) hd
   rwa [List.getElem?_drop] at this
  exact⟨.live k (i+1),(mapF (a:=zs) (bindF (f:=O.list?) h)).trans (by rw[hz];rfl),feeds_live h xs (i+1) (by rw[←List.drop_drop,hd];rfl)⟩
theorem filterC{α:Type}{f:α→Bool}{x:α}{l:List α}:(x::l).filter f=cond (f x) (x::l.filter f) (l.filter f):=by
 show (match f x with | true=>x::l.filter f | false=>l.filter f)=_
 cases f x <;> rfl
theorem findC{α:Type}{f:α→Bool}{x:α}{l:List α}:(x::l).find? f=cond (f x) (some x) (l.find? f):=by
 show (match f x with | true=>some x | false=>l.find? f)=_
 cases f x <;> rfl
noncomputable abbrev low(x:Str):Str:=Txt.lower x
noncomputable def pr(p:Str × Str):D:=.tup [.str p.1,.str p.2]
noncomputable def dL(L:List (Str × Str)):List D:=L.map pr
theorem dL_len(L:List (Str × Str)):(dL L).length=L.length:=List.length_map _
noncomputable def getV(L:List (Str × Str))(key:Str):Option Str:=(L.find? fun p=>low p.1==key).map (·.2)
section
variable{X:Tab}{k:Nat}
def okN(X:Tab)(x:Str):Prop:=x.length≤100∧(low x).length≤100∧X.conv true x=true∧X.conv true (low x)=true
theorem low_m{led:Led}{x:Str}(h:(low x).length≤cap):evMeth led .lower (dS x) []=some (dS (low x),led):=by
 show gd ((Txt.lower x).length≤cap) _=_
 exact gdF h
theorem up_m{led:Led}{x:Str}(h:(Txt.upper x).length≤cap):evMeth led .upper (dS x) []=some (dS (Txt.upper x),led):=by
 show gd ((Txt.upper x).length≤cap) _=_
 exact gdF h
theorem low_e{e:E}{loc:UK.Loc}{led:Led}{x:Str}(h:evE (cxK X k) e loc led=some (dS x,led))(hx:(low x).length≤100):evE (cxK X k) (.meth .lower e []) loc led=some (dS (low x),led):=
 (meth_e h rfl rfl).trans (low_m (Nat.le_trans hx (by decide)))
theorem conv_low{loc:UK.Loc}{led:Led}{v:V}{name:Str}(h0:UK.get loc 0=some v)(hv:isHdr v=true)(h1:UK.get loc 1=some (dS name))(hn:okN X name) :
  evE (cxK X k) (.conv true (.name 0) (.meth .lower (.name 1) [])) loc led=some (dS (low name),led):=conv_e (name_e h0) (low_e (name_e h1) hn.2.1) hv hn.2.2.2
theorem ledL_is{led:Led}{n:Nat}{xs:List D}(h:led[n]?=some (.list xs)):ledL led (.ref n)=some (n,xs):=bindF (a:=O.list xs) h
theorem app_at{led:Led}{n:Nat}{xs:List D}(h:led[n]?=some (.list xs)):methAt led .append (.ref n)=true:=by
 show (ledL led (.ref n)).isSome=true
 rw[ledL_is h];rfl
theorem app_m{led:Led}{n:Nat}{xs:List D}{x:D}(h:led[n]?=some (.list xs))(hl:xs.length<cap):evMeth led .append (.ref n) [.d x]=some (.d .none,led.set n (.list (xs++[x]))):=
 (bindF (ledL_is h)).trans (by show gd (xs.length<cap) _=_;exact gdF hl)
theorem item0{p:Str × Str}{led:Led}:evIndex led (.d (pr p)) (.d (.int 0))=some (dS p.1):=by kernel_rfl
theorem item1{p:Str × Str}{led:Led}:evIndex led (.d (pr p)) (.d (.int 1))=some (dS p.2):=by kernel_rfl
theorem key_e{led:Led}{loc:UK.Loc}{v:Nat}{p:Str × Str}{key:Str}{op:Cm}{b:Bool}(h3:UK.get loc v=some (.d (pr p)))(h1:UK.get loc 1=some (dS key))(hp:(low p.1).length≤100)(hb:evCmp led op (dS (low p.1)) (dS key)=some b) :
  evE (cxK X k) (.cmp (.meth .lower (.index (.name v) (.lit (.int 0))) []) op (.name 1)) loc led=some (.d (.bool b),led):=cmp_e (low_e (index_e (name_e h3) rfl item0) hp) (name_e h1) hb
noncomputable def gTgt:UK.T:=.tup [(.name 4),(.name 5)]
noncomputable def gBody:List UK.S:=[.ite (.cmp (.meth .lower (.name 4) []) .eq (.name 1)) [.ret (.name 5)] []]
theorem get_loop{led:Led}{self:V}{dx:D}{key:Str}(hs:below led.length self=true):∀ (L:List (Str × Str)) (src:Src) (N:Nat),Feeds led (dL L) src→L.length<N→(∀ p∈L,(low p.1).length≤100) →
  ∃ loc',forLoop gTgt (fun loc led'=>evSs (cxK X k) [] led.length gBody loc led') N src [(0,self),(1,dS key),(6,.d dx)] led=some ((getV L key).elim .nx fun x=>.ret (dS x),loc',led)∧(getV L key=none→loc'=[(0,self),(1,dS key),(6,.d dx)])
 | L,src,0,_,hN,_=>absurd hN (Nat.not_lt_zero _)
 | [],src,N+1,hf,_,_=>⟨_,for_end hf,fun _=>rfl⟩
 | p::L,src,N+1,⟨src',hf,hf'⟩,hN,hp=>by
  have hc:evE (cxK X k) (.cmp (.meth .lower (.name 4) []) .eq (.name 1)) [(0,self),(1,dS key),(6,.d dx),(4,dS p.1),(5,dS p.2)] led=some (.d (.bool (low p.1==key)),led):=cmp_e (low_e (name_e rfl) (hp p (.head _))) (name_e rfl) rfl
  unfold getV
  rw[findC]
  cases h:(low p.1==key) with
  | true=>
   rw[h] at hc
   exact⟨_,for_stop hf rfl (seqR ((ite_t' hc rfl).trans (seqR (ret1 (name_e rfl))))),nofun⟩
  | false=>
   rw[h] at hc
   obtain⟨l,e1,e2⟩:=get_loop hs L src' N hf' (Nat.lt_of_succ_lt_succ hN) fun q hq=>hp q (.tail _ hq)
   refine⟨l,(for_go (loc3:=[(0,self),(1,dS key),(6,.d dx)]) (l3:=led) hf rfl (seq1 ((ite_f' hc rfl).trans rfl)) ?_).trans e1,e2⟩
   refine(gdF ?_).trans (by rw[List.take_length];rfl)
   show (below led.length self&&true)=true
   rw[hs];rfl
theorem get_ok{led:Led}{L:List (Str × Str)}{self:V}{name:Str}(hs:below led.length self=true)(hh:isHdr self=true){r:V}(hr:hdrL self=some r){src:Src}(hsrc:srcE led.length led [r]=some src)(hf:Feeds led (dL L) src)(hn:okN X name)(hL:L.length≤50)(hp:∀ p∈L,(low p.1).length≤100)(dx:D)(as:List V)
  (ha:argsV m2f2 as=some [(0,self),(1,dS name),(6,.d dx)]):R X (k+1) 2 as led=some (.d ((getV L (low name)).elim dx .str),led):=by
 obtain⟨loc',g1,g2⟩:=get_loop (X:=X) (k:=k) (led:=led) (dx:=dx) (key:=low name) hs L src 4096 hf (by(revert hL;exact z1 0xffc212001602c0195800)) hp
 have h1:evS (cxK X k) [] led.length (.assign (.name 1) (.conv true (.name 0) (.meth .lower (.name 1) []))) [(0,self),(1,dS name),(6,.d dx)] led=some (.nx,[(0,self),(1,dS (low name)),(6,.d dx)],led):=assignD (conv_low rfl hh rfl hn) rfl
 have hA:evE (cxK X k) (.attrH (.name 0)) [(0,self),(1,dS (low name)),(6,.d dx)] led=some (r,led):=(bindF (name_e rfl)).trans (mapF hr)
 have hF:=for_eq (mu:=[]) (n₀:=led.length) (t:=gTgt) (k:=.e) (b:=gBody) (es0 hA) hsrc
 rw[List.take_length] at hF
 have hF:=hF.trans g1
 cases hg:getV L (low name) with
 | some x=>
  rw[hg] at hF
  exact R_d (fn:=m2f2) (fl:=.ret (dS x)) rfl ha ((seq1 h1).trans (seqR hF)) rfl
 | none=>
  rw[hg,g2 hg] at hF
  exact R_d (fn:=m2f2) (fl:=.ret (.d dx)) rfl ha ((seq1 h1).trans ((seq1 hF).trans (seqR (ret1 (name_e rfl))))) rfl
end
end
end uk0030_02
end
section
namespace UK
open PySem PySem.W
theorem range_pick:∀ (xs:List D) (a c:Nat),a+c≤xs.length→((List.range c).map fun k=>a+k).filterMap (xs[·]?)=(xs.drop a).take c:=by
 intro xs a c
 induction c with
 | zero=>intro _;simp
 | succ c ih=>
  intro h
  rw[List.range_succ,List.map_append,List.filterMap_append,ih (by(revert h;exact z3 0x1ff84220828a106a1a0280))]
  have hx:xs[a+c]?=some xs[a+c]:=List.getElem?_eq_getElem (by(revert h;exact z3 0x1ff84220828b106a1a0280))
  simp only[List.map_cons,List.map_nil,List.filterMap_cons,hx,List.filterMap_nil]
  rw[List.take_add_one,List.getElem?_drop,hx]
  rfl
theorem sliceRange_nat(a b:Nat):sliceRange a b 1=(List.range (b-a)).map fun k=>a+k:=by
 unfold sliceRange
 simp only[show (1:Int) > 0 from by decide,if_true,Int.ediv_one,Int.one_mul]
 have:(if (a:Int)<b then (b:Int)-a+1-1 else 0).toNat=b-a:=by
  split
  ·rw[Int.add_sub_cancel];exact Int.toNat_sub b a
  ·rename_i h;exact(Nat.sub_eq_zero_of_le (Int.ofNat_le.mp (Int.not_lt.mp h))).symm
 rw[this]
 exact List.map_congr_left fun k _=>rfl
theorem pickD_nat{xs:List D}{lo hi:Option Int}{a b:Nat}(e:sliceBounds lo hi none xs.length=((a:Int),(b:Int),1))(hb:b≤xs.length):pickD xs lo hi none=(xs.drop a).take (b-a):=by
 unfold pickD
 rw[e]
 dsimp only
 rw[sliceRange_nat]
 by_cases h:a≤b
 ·rw[range_pick xs a (b-a) (by(revert hb h;exact z3 0x1ff8400084600d15f004200982000820))]
 ·rw[show b-a=0 by(revert h;exact z2 0x3e1f843f080010f8150302038024)];simp
theorem pick_all(xs:List D):pickD xs none none none=xs:=by
 rw[pickD_nat (a:=0) (b:=xs.length) (by simp [sliceBounds]) (Nat.le_refl _)]
 simp
abbrev ltS (a b:Str):Prop:=a.cps.toList<b.cps.toList
theorem ltS_trans{a b c:Str}(h:ltS a b)(g:ltS b c):ltS a c:=List.lt_trans h g
theorem ltS_le{a b c:Str}(h:ltS a b)(g:¬ltS c b):ltS a c:=Std.lt_of_lt_of_le h g
theorem ltS_asymm{a b:Str}(h:ltS a b):¬ltS b a:=List.lt_asymm h
theorem ltS_le'{a b c:Str}(h:¬ltS b a)(g:ltS b c):ltS a c:=by
 refine Decidable.byContradiction fun q=>?_
 by_cases e:ltS a b
 ·exact q (ltS_trans e g)
 ·have:a.cps.toList=b.cps.toList:=List.le_antisymm h e
  apply q
  unfold ltS at g ⊢
  rw[this];exact g
def SortedS(ys:List Str):Prop:=ys.Pairwise fun a b=>¬ltS b a
noncomputable def cntR(x:Str)(ys:List Str):Nat:=(ys.filter fun y=>!decide (ltS x y)).length
noncomputable def cntL(x:Str)(ys:List Str):Nat:=(ys.filter fun y=>decide (ltS y x)).length
def Parts(t:Str→Prop)(ys:List Str)(p:Nat):Prop:=p≤ys.length∧(∀ (i:Nat) (h:i<ys.length),i<p→t ys[i])∧(∀ (i:Nat) (h:i<ys.length),p≤i→¬t ys[i])
theorem parts_sorted{t:Str→Prop}[DecidablePred t](ht:∀ a b,¬t a→¬ltS b a→¬t b):∀ {ys:List Str},SortedS ys→Parts t ys (ys.filter fun y=>decide (t y)).length
 | [],_=>⟨Nat.le_refl _,fun i h=>absurd h (by simp),fun i h=>absurd h (by simp)⟩
 | y::ys,hs=>by
  obtain⟨h1,h2⟩:=List.pairwise_cons.mp hs
  obtain⟨p1,p2,p3⟩:=parts_sorted ht h2
  by_cases hy:t y
  ·rw[List.filter_cons_of_pos (by simpa using hy)]
   refine⟨by simpa using p1,fun i h hi=>?_,fun i h hi=>?_⟩
   ·cases i with
    | zero=>exact hy
    | succ i=>exact p2 i (by simpa using h) (by simpa using hi)
   ·cases i with
    | zero=>simp at hi
    | succ i=>exact p3 i (by simpa using h) (by simpa using hi)
  ·have hall:∀ z∈ys,¬t z:=fun z hz=>ht y z hy (h1 z hz)
   have hf:(y::ys).filter (fun y=>decide (t y))=[]:=by
    rw[List.filter_eq_nil_iff]
    intro z hz
    rcases List.mem_cons.mp hz with rfl | hz
    ·simpa using hy
    ·simpa using hall z hz
   rw[hf]
   refine⟨Nat.zero_le _,fun i h hi=>absurd hi (by simp),fun i h _=>?_⟩
   cases i with
   | zero=>exact hy
   | succ i=>exact hall _ (List.getElem_mem _)
theorem parts_R{x:Str}{ys:List Str}(h:SortedS ys):Parts (fun y=>¬ltS x y) ys (cntR x ys):=by
 have:=parts_sorted (t:=fun y=>¬ltS x y) (fun a b h1 h2=>by
  rw[Decidable.not_not] at h1 ⊢
  exact ltS_le h1 h2) h
 unfold cntR
 simp only[decide_not] at this
 exact this
theorem parts_L{x:Str}{ys:List Str}(h:SortedS ys):Parts (fun y=>ltS y x) ys (cntL x ys):=
 parts_sorted (t:=fun y=>ltS y x) (fun a b h1 h2 q=>h1 (ltS_le' h2 q)) h
theorem Parts.of{t u:Str→Prop}{ys:List Str}{p:Nat}(h:Parts t ys p)(e:∀ y,t y↔u y):Parts u ys p:=⟨h.1,fun i hi q=>(e _).mp (h.2.1 i hi q),fun i hi q r=>h.2.2 i hi q ((e _).mpr r)⟩
theorem parts_B{x:Str}{ys:List Str}{p:Nat}(h:Parts (fun y=>¬ltS x y) ys p):Parts (fun y=>(!decide (ltS x y))=true) ys p:=h.of fun y=>by rw[←decide_not,decide_eq_true_iff]
theorem parts_BL{x:Str}{ys:List Str}{p:Nat}(h:Parts (fun y=>ltS y x) ys p):Parts (fun y=>decide (ltS y x)=true) ys p:=h.of fun y=>by rw[decide_eq_true_iff]
noncomputable def insR(x:Str)(ys:List Str):List Str:=ys.take (cntR x ys)++x::ys.drop (cntR x ys)
theorem insR_perm(x:Str)(ys:List Str):(insR x ys).Perm (x::ys):=by
 unfold insR
 refine List.perm_middle.trans ?_
 rw[List.take_append_drop]
theorem insR_length(x:Str)(ys:List Str):(insR x ys).length=ys.length+1:=by rw[(insR_perm x ys).length_eq];rfl
theorem insR_sorted{x:Str}{ys:List Str}(h:SortedS ys):SortedS (insR x ys):=by
 obtain⟨p1,p2,p3⟩:=parts_R (x:=x) h
 unfold insR SortedS
 have hs:=h
 unfold SortedS at hs
 rw[←List.take_append_drop (cntR x ys) ys,List.pairwise_append] at hs
 obtain⟨a1,a2,a3⟩:=hs
 rw[List.pairwise_append]
 have ht:∀ z∈ys.take (cntR x ys),¬ltS x z:=fun z hz=>by
  obtain⟨i,hi,rfl⟩:=List.mem_iff_getElem.mp hz
  have hi':=hi
  rw[List.length_take] at hi'
  rw[List.getElem_take]
  exact p2 i (by(revert hi';exact z3 0x7fe1004220ac0108450)) (by(revert hi';exact z3 0x3ff084220ac0108830))
 have hd:∀ z∈ys.drop (cntR x ys),ltS x z:=fun z hz=>by
  obtain⟨i,hi,rfl⟩:=List.mem_iff_getElem.mp hz
  have hi':=hi
  rw[List.length_drop] at hi'
  rw[List.getElem_drop]
  exact Decidable.not_not.mp (p3 (cntR x ys+i) (by(revert hi';exact z3 0x1ff8401f8421f0c41a2c0208047)) (by exact z2 0xffc210500a))
 refine⟨a1,List.pairwise_cons.mpr ⟨fun z hz=>ltS_asymm (hd z hz),a2⟩,fun a ha b hb=>?_⟩
 rcases List.mem_cons.mp hb with rfl | hb
 ·exact ht a ha
 ·exact a3 a ha b hb
theorem sorted_nil:SortedS []:=List.Pairwise.nil
theorem seqIndex_nat{i n:Nat}(h:i<n):seqIndex? (i:Int) n=some i:=by
 unfold seqIndex?
 simp only[show ¬((i:Int)<0) from Int.not_lt.mpr (Int.natCast_nonneg i),if_false,Int.toNat_natCast]
 rw[if_pos (by simp;(revert h;exact z2 0x3ff0842058401))]
theorem n100{i:Nat}(h:i≤100):-(2 ^ 62)<(i:Int)∧(i:Int)<2 ^ 62:=Z.n62 (Nat.lt_of_lt_of_le (Nat.lt_succ_of_le h) (by decide))
theorem atI_nat{xs:List D}{i:Nat}{x:D}(hx:xs[i]?=some x):atI xs (i:Int)=some (.d x):=mapF ((bindF (seqIndex_nat (List.getElem?_eq_some_iff.mp hx).1)).trans hx)
theorem evIndex_list{led:Led}{a:V}{xs:List D}(ha:ofV a=none)(h:led.list a=some xs){i:Nat}{x:D}(hx:xs[i]?=some x)(h62:i<2 ^ 62):evIndex led a (.d (.int i))=some (.d x):=by
 refine(bindF (a:=D.int i) rfl).trans ((gdF ?_).trans ?_)
 ·exact Z.n62 h62
 ·cases a with
  | d x=>exact nomatch ha
  | _=>exact(bindF h).trans (atI_nat hx)
end UK
end
section
namespace uk0030_02
open PySem PySem.W UK
theorem tS_app(a b:List Nat):tS a++tS b=tS (a++b):=by
 show (⟨a.toArray++b.toArray⟩:Str)=⟨(a++b).toArray⟩
 simp
theorem tS_inj{a b:List Nat}(h:tS a=tS b):a=b:=congrArg (fun s=>s.cps.toList) h
theorem tS_beq(a b:List Nat):(tS a==tS b)=(a==b):=by
 rw[Bool.eq_iff_iff,beq_iff_eq,beq_iff_eq]
 exact⟨tS_inj,fun h=>h▸rfl⟩
noncomputable def sub(t:List Nat)(a b:Nat):List Nat:=(t.drop a).take (b-a)
theorem sub_len{t:List Nat}{a b:Nat}(h:b≤t.length):(sub t a b).length=b-a:=by
 unfold sub
 rw[List.length_take,List.length_drop];(revert h;exact z3 0x7c200fc200040000421f77e10fbe10880c0060219c2038800)
theorem sub_get{t:List Nat}{a b i:Nat}(h:a+i<b):(sub t a b)[i]?=t[a+i]?:=by
 unfold sub
 rw[List.getElem?_take_of_lt (by(revert h;exact z3 0xffc21004015fc21104c100a81)),List.getElem?_drop]
noncomputable def clipA(lo:Option Int)(n:Nat):Int:=lo.elim 0 fun i=>max 0 (min (if i<0 then i+n else i) n)
noncomputable def clipB(hi:Option Int)(n:Nat):Int:=hi.elim n fun i=>max 0 (min (if i<0 then i+n else i) n)
theorem idx_gen{lo hi:Option Int}{n a b:Nat}(h1:clipA lo n=a)(h2:clipB hi n=b):Builtin.Str.strSliceIndices lo hi 1 n=(List.range (b-a)).map fun k=>a+k:=by
 have e:Builtin.Str.strSliceIndices lo hi 1 n=sliceRange (clipA lo n) (clipB hi n) 1:=by cases lo <;> cases hi <;> rfl
 rw[e,h1,h2,sliceRange_nat]
theorem slice_gen{t:List Nat}{lo hi:Option Int}{a b:Nat}(h1:clipA lo t.length=a)(h2:clipB hi t.length=b)(ha:a≤t.length)(hb:b≤t.length):Txt.slice (tS t) lo hi=tS (sub t a b):=by
 have hp:((List.range (b-a)).map fun k=>a+k).filterMap (t[·]?)=sub t a b:=StrLaws.picks t (b-a) a (by(revert ha hb;exact z3 0x1ff84000043f080010f8600d14009c4100800))
 have hl:Builtin.Str.strSliceIndices lo hi 1 (tS t).length=(List.range (b-a)).map fun k=>a+k:=idx_gen h1 h2
 unfold Txt.slice
 rw[hl]
 have hg:(fun i:Nat=>(tS t).cps[i]?)=fun i=>t[i]?:=funext fun i=>by show t.toArray[i]?=_;exact List.getElem?_toArray
 rw[hg,hp,List.length_map,List.length_range]
 split
 ·rename_i h
  have h:b-a=t.length:=by
   have:=(Bool.and_eq_true_iff.mp h).2
   rw[beq_iff_eq] at this
   exact this
  have ha0:a=0:=by(revert ha hb h;exact z3 0xf87e1000010043f080010043e0542c1004011c2200400)
  have hb0:b=t.length:=by(revert h ha0;exact z3 0xf84200003f08001004220b0151884010807)
  subst ha0;subst hb0
  unfold sub
  rw[Nat.sub_zero,List.drop_zero,List.take_length]
 ·rfl
theorem clipB_some{b n:Nat}(h:b≤n):clipB (some (b:Int)) n=b:=by
 show max (0:Int) (min (if (b:Int)<0 then (b:Int)+n else b) n)=b
 rw[if_neg (Int.not_lt.mpr (Int.natCast_nonneg b)),Int.min_eq_left (Int.ofNat_le.mpr h),Int.max_eq_right (Int.natCast_nonneg b)]
theorem clipA_some{b n:Nat}(h:b≤n):clipA (some (b:Int)) n=b:=clipB_some h
theorem clipA_neg{b n:Nat}(h:b≤n)(h0:0<b):clipA (some (-(b:Int))) n=((n-b:Nat):Int):=by
 show max (0:Int) (min (if -(b:Int)<0 then -(b:Int)+n else -(b:Int)) n)=_
 rw[if_pos (Int.neg_neg_of_pos (Int.ofNat_lt.mpr h0)),Int.add_comm,←Int.sub_eq_add_neg,←Int.ofNat_sub h,Int.min_eq_left (Int.ofNat_le.mpr (Nat.sub_le n b)),Int.max_eq_right (Int.natCast_nonneg _)]
noncomputable def endV:Option Int→V
 | none=>.d .none
 | some i=>dI i
theorem slice_m{led:Led}{t:List Nat}{lo hi:Option Int}{a b:Nat}(hlo:∀ i,lo=some i→-100≤i∧i≤100)(hhi:∀ i,hi=some i→-100≤i∧i≤100)(h1:clipA lo t.length=a)(h2:clipB hi t.length=b)(ha:a≤t.length)(hb:b≤t.length)(hl:t.length≤100) :
  evSlice led (dS (tS t)) (endV lo) (endV hi) (.d .none)=some (dS (tS (sub t a b)),led):=by
 have en:∀ o:Option Int,(∀ i,o=some i→-100≤i∧i≤100)→endOf (endV o)=some o:=fun o h=>by
  cases o with
  | none=>rfl
  | some i=>
   exact(bindF (a:=D.int i) rfl).trans (gdF (Z.s62 (h i rfl)))
 refine(bindF (a:=D.none) rfl).trans ((bindF (en lo hlo)).trans ((bindF (en hi hhi)).trans ?_))
 refine(bindF (a:=tS t) rfl).trans ((gdF (p:=(tS t).length≤cap) (Nat.le_trans hl (by decide))).trans ?_)
 rw[slice_gen h1 h2 ha hb]
theorem idxS{led:Led}{t:List Nat}{i c:Nat}(h:t[i]?=some c)(hl:t.length≤100):evIndex led (dS (tS t)) (dI (i:Int))=some (ch c):=by
 have hi:=(List.getElem?_eq_some_iff.mp h).1
 refine(bindF (a:=D.int i) rfl).trans ((gdF (Z.n62 (Nat.lt_of_lt_of_le hi (Nat.le_trans hl (by decide))))).trans ?_)
 refine mapF (f:=fun c=>V.d (.str ⟨#[c]⟩)) ((bindF (seqIndex_nat (n:=(tS t).length) hi)).trans ?_)
 show t.toArray[i]?=_
 rw[List.getElem?_toArray];exact h
theorem lenS{led:Led}{t:List Nat}(hl:t.length≤100):evBi led .len [dS (tS t)]=some (dI t.length,led):=by
 show gd ((tS t).length≤cap) _=_
 exact gdF (Nat.le_trans (show (tS t).length≤100 from hl) (by decide))
theorem addS{led:Led}{a b:List Nat}(hl:a.length+b.length≤100):evBin led .add (dS (tS a)) (dS (tS b))=some (dS (tS (a++b)),led):=by
 have h:=add_str (led:=led) (x:=tS a) (y:=tS b) (Nat.le_trans hl (by decide))
 rw[tS_app] at h;exact h
noncomputable def pr20:List (Nat × Nat):=(List.range 21).flatMap fun a=>(List.range 21).map fun b=>(a,b)
theorem rng_all:(pr20.map fun p=>rng p.1 p.2 1)=mapR (fun p=>some ((List.range (p.2-p.1)).map fun i=>D.int ((p.1+i:Nat):Int))) pr20:=by kernel_rfl
theorem rng_up{a b:Nat}(ha:a≤20)(hb:b≤20):rng a b 1=some ((List.range (b-a)).map fun i=>D.int ((a+i:Nat):Int)):=
 mapAt rng_all (a,b) (List.mem_flatMap.mpr ⟨a,List.mem_range.mpr (by(revert ha;exact z1 0xffc21ad40ba5400)),List.mem_map.mpr ⟨b,List.mem_range.mpr (by(revert hb;exact z1 0xffc21ad40ba5400)),rfl⟩⟩)
section
noncomputable def strB(t:List Nat)(s:Nat):Nat→Nat
 | 0=>0
 | b+1=>cond (t[b]?==t[b+s]?) (strB t s b) (b+1)
noncomputable def strE(t:List Nat)(s:Nat):Nat→Nat→Nat
 | 0,e=>e
 | d+1,e=>cond (t[e]?==t[e-s]?) (strE t s d (e+1)) e
section
variable{X:Tab}{k:Nat}{led:Led}{t:List Nat}{s p:Nat}
theorem aug_s{cx:Cx}{mu:List Nat}{n₀:Nat}{loc:UK.Loc}{x:Nat}{e:E}{a b:Int}(h1:UK.get loc x=some (dI a))(h2:evE cx e loc led=some (dI b,led)):evS cx mu n₀ (.aug x .sub e) loc led=some (.nx,put loc x (dI (a-b)),led):=
 ((bindF h1).trans ((bindF (a:=a) rfl).trans ((bindF h2).trans (bindF (a:=b) rfl)))).trans (by rw[List.take_length])
theorem aug_a{cx:Cx}{mu:List Nat}{n₀:Nat}{loc:UK.Loc}{x:Nat}{e:E}{a b:Int}(h1:UK.get loc x=some (dI a))(h2:evE cx e loc led=some (dI b,led)):evS cx mu n₀ (.aug x .add e) loc led=some (.nx,put loc x (dI (a+b)),led):=
 (aug_e h1 h2 rfl).trans (by rw[List.take_length])
noncomputable def locS(t:List Nat)(p s b e:Nat):UK.Loc:=[(31,dS (tS t)),(35,dI p),(42,dI s),(40,dI b),(41,dI e)]
noncomputable def sIdx(e:E):E:=.index (.name 31) e
noncomputable def sC1:E:=.and (.cmp (.name 40) .gt (.lit (.int 0))) (.cmp (sIdx (.bin .sub (.name 40) (.lit (.int 1)))) .eq (sIdx (.bin .add (.bin .sub (.name 40) (.lit (.int 1))) (.name 42))))
noncomputable def sC2:E:=.and (.cmp (.name 41) .lt (.bi .len [(.name 31)])) (.cmp (sIdx (.name 41)) .eq (sIdx (.bin .sub (.name 41) (.name 42))))
theorem chEq{a b:Nat}:evCmp led .eq (ch a) (ch b)=some (a==b):=by
 show some (tS [a]==tS [b])=_
 rw[tS_beq,show ([a]==[b])=(a==b) from by rw[Bool.eq_iff_iff];simp]
theorem trS{cx:Cx}{b e b' e':Nat}:trunc (locS t p s b e).length led.length (locS t p s b' e') led=some (locS t p s b' e',led):=by
 refine(gdF rfl).trans ?_
 rw[List.take_length];rfl
theorem loopB(hl:t.length≤20)(e:Nat):∀ (b N:Nat),b<N→b+s≤t.length→whileLoop (cF (cxK X k) sC1) (fun loc led'=>evSs (cxK X k) [] led.length [.aug 40 .sub (.lit (.int 1))] loc led') N (locS t p s b e) led=some (.nx,locS t p s (strB t s b) e,led)
 | b,0,hN,_=>absurd hN (Nat.not_lt_zero _)
 | 0,N+1,_,_=>while_f (l1:=led) ((bindF (and_f (l1:=led) (x:=.d (.bool false)) rfl rfl)).trans rfl) List.take_length
 | b+1,N+1,hN,hs=>by
  have h1:t[b]?=some (t[b]'(by(revert hs;exact z3 0x7fe10840b0883505280))):=List.getElem?_eq_getElem _
  have h2:t[b+s]?=some (t[b+s]'(Nat.lt_of_succ_le (Nat.succ_add b s▸hs))):=List.getElem?_eq_getElem _
  have i1:evE (cxK X k) (.bin .sub (.name 40) (.lit (.int 1))) (locS t p s (b+1) e) led=some (dI (b:Int),led):=(bin_e (l1:=led) (l2:=led) (x:=dI ((b+1:Nat):Int)) (y:=dI 1) rfl rfl).trans (by show some (dI (((b+1:Nat):Int)-1),led)=_;rw[show ((b+1:Nat):Int)-1=b from Int.add_sub_cancel (b:Int) 1])
  have i2:evE (cxK X k) (.bin .add (.bin .sub (.name 40) (.lit (.int 1))) (.name 42)) (locS t p s (b+1) e) led=some (dI ((b+s:Nat):Int),led):=(bin_e (l2:=led) (y:=dI s) i1 rfl).trans rfl
  have hc:=and_e (cx:=cxK X k) (loc:=locS t p s (b+1) e) (led:=led) (a:=.cmp (.name 40) .gt (.lit (.int 0))) (b:=.cmp (sIdx (.bin .sub (.name 40) (.lit (.int 1)))) .eq (sIdx (.bin .add (.bin .sub (.name 40) (.lit (.int 1))) (.name 42)))) (x:=.d (.bool true)) (l1:=led) (cmp_e (x:=dI ((b+1:Nat):Int)) (y:=dI 0) (l1:=led) (l2:=led) rfl rfl (by show some (decide ((0:Int)<((b+1:Nat):Int)))=_;rw[decide_eq_true (show (0:Int)<((b+1:Nat):Int) from Int.ofNat_lt.mpr (Nat.succ_pos b))])) rfl
  have hc:=hc.trans (cmp_e (index_e (name_e rfl) i1 (idxS h1 (by(revert hl;exact z1 0x3ff084032580aa5400)))) (index_e (name_e rfl) i2 (idxS h2 (by(revert hl;exact z1 0x3ff084032580aa5400)))) chEq)
  have hcf:cF (cxK X k) sC1 (locS t p s (b+1) e) led=some (t[b]?==t[b+s]?,led):=(bindF hc).trans (by rw[h1,h2];rfl)
  show _=some (Fl.nx,locS t p s (cond (t[b]?==t[b+s]?) (strB t s b) (b+1)) e,led)
  cases hq:t[b]?==t[b+s]? with
  | true=>
   rw[hq] at hcf
   have ha:evS (cxK X k) [] led.length (.aug 40 .sub (.lit (.int 1))) (locS t p s (b+1) e) led=some (.nx,locS t p s b e,led):=(aug_s (a:=((b+1:Nat):Int)) (b:=1) rfl rfl).trans (by rw[show ((b+1:Nat):Int)-1=b from Int.add_sub_cancel (b:Int) 1];rfl)
   exact(while_t hcf List.take_length (seq1 ha) (trS (cx:=cxK X k))).trans (loopB hl e b N (by(revert hN;exact z2 0xffc2108161a8681a8281)) (Nat.le_trans (Nat.add_le_add_right (Nat.le_succ b) s) hs))
  | false=>
   rw[hq] at hcf
   exact while_f hcf List.take_length
theorem loopE(hl:t.length≤20)(b:Nat):∀ (d e N:Nat),d<N→e+d=t.length→s≤e→0<s→whileLoop (cF (cxK X k) sC2) (fun loc led'=>evSs (cxK X k) [] led.length [.aug 41 .add (.lit (.int 1))] loc led') N (locS t p s b e) led=some (.nx,locS t p s b (strE t s d e),led)
 | d,e,0,hN,_,_,_=>absurd hN (Nat.not_lt_zero _)
 | d,e,N+1,hN,hd,hs,h0=>by
  have hlen:evE (cxK X k) (.bi .len [(.name 31)]) (locS t p s b e) led=some (dI t.length,led):=(bi_e (es0 (name_e rfl))).trans (lenS (by(revert hl;exact z1 0x3ff084032580aa5400)))
  have hlt:=cmp_e (a:=.name 41) (op:=.lt) (x:=dI e) (r:=decide (e<t.length)) (name_e rfl) hlen (by show some (decide ((e:Int)<t.length))=_;rw[decide_eq_decide.mpr Int.ofNat_lt])
  match d with
  | 0=>
   rw[decide_eq_false (show ¬e<t.length by(revert hd;exact z2 0x3ff0802103420a8282))] at hlt
   exact while_f ((bindF (and_f hlt rfl)).trans rfl) List.take_length
  | d+1=>
   rw[decide_eq_true (show e<t.length by(revert hd;exact z3 0x7fe10840b086a2a0282))] at hlt
   have he:e<t.length:=by(revert hd;exact z3 0x7fe10840b086a2a0282)
   have h1:t[e]?=some (t[e]'he):=List.getElem?_eq_getElem _
   have h2:t[e-s]?=some (t[e-s]'(Nat.lt_of_le_of_lt (Nat.sub_le e s) he)):=List.getElem?_eq_getElem _
   have i2:evE (cxK X k) (.bin .sub (.name 41) (.name 42)) (locS t p s b e) led=some (dI ((e-s:Nat):Int),led):=(bin_e (l1:=led) (l2:=led) (x:=dI e) (y:=dI s) rfl rfl).trans (by show some (dI ((e:Int)-s),led)=_;rw[show (e:Int)-s=((e-s:Nat):Int) from (Int.ofNat_sub hs).symm])
   have hc:=(and_e (b:=.cmp (sIdx (.name 41)) .eq (sIdx (.bin .sub (.name 41) (.name 42)))) hlt rfl).trans (cmp_e (index_e (y:=dI e) (name_e rfl) (name_e rfl) (idxS h1 (by(revert hl;exact z1 0x3ff084032580aa5400)))) (index_e (name_e rfl) i2 (idxS h2 (by(revert hl;exact z1 0x3ff084032580aa5400)))) chEq)
   have hcf:cF (cxK X k) sC2 (locS t p s b e) led=some (t[e]?==t[e-s]?,led):=(bindF hc).trans (by rw[h1,h2];rfl)
   show _=some (Fl.nx,locS t p s b (cond (t[e]?==t[e-s]?) (strE t s d (e+1)) e),led)
   cases hq:t[e]?==t[e-s]? with
   | true=>
    rw[hq] at hcf
    have ha:evS (cxK X k) [] led.length (.aug 41 .add (.lit (.int 1))) (locS t p s b e) led=some (.nx,locS t p s b (e+1),led):=(aug_a (a:=e) (b:=1) rfl rfl).trans rfl
    exact(while_t hcf List.take_length (seq1 ha) (trS (cx:=cxK X k))).trans (loopE hl b d (e+1) N (by(revert hN;exact z2 0xffc2108161a8681a8281)) (by rw[Nat.succ_add_eq_add_succ];exact hd) (Nat.le_succ_of_le hs) h0)
   | false=>
    rw[hq] at hcf
    exact while_f hcf List.take_length
noncomputable def strD2(t:List Nat)(p s:Nat):D:=.tup [.int (strB t s p),.int (strE t s (t.length-(p+s)) (p+s))]
theorem stretch_ok(hl:t.length≤20)(hp:p+s≤t.length)(h0:0<s):R X (k+1) 20 [dS (tS t),dI p,dI s] led=some (.d (strD2 t p s),led):=by
 have e0:evS (cxK X k) [] led.length (.assign (.tup [(.name 40),(.name 41)]) (.tuple [(.name 35),(.bin .add (.name 35) (.name 42))])) [(31,dS (tS t)),(35,dI p),(42,dI s)] led=some (.nx,locS t p s p (p+s),led):=
  (pair_e (x:=.int p) (y:=.int ((p+s:Nat):Int)) (name_e rfl) ((bin_e (l1:=led) (l2:=led) (x:=dI p) (y:=dI s) rfl rfl).trans rfl) rfl rfl rfl).trans rfl
 have e1:=loopB (X:=X) (k:=k) (led:=led) (t:=t) (s:=s) (p:=p) hl (p+s) p 4096 (by(revert hl hp;exact z3 0xffc2109000b016110280a5420)) hp
 have e2:=loopE (X:=X) (k:=k) (led:=led) (t:=t) (s:=s) (p:=p) hl (strB t s p) (t.length-(p+s)) (p+s) 4096 (by(revert hl;exact z3 0x1ff840109000b01620d007a5400)) (by(revert hp;exact z3 0x7c200fc2118041a519f08420a08c208280)) (by exact z2 0xffc200d00a) h0
 have e3:=tuple_e (cx:=cxK X k) (loc:=locS t p s (strB t s p) (strE t s (t.length-(p+s)) (p+s))) (led:=led) (as:=[(.name 40),(.name 41)]) (es1 (v:=dI (strB t s p)) rfl (es0 (v:=dI (strE t s (t.length-(p+s)) (p+s))) rfl)) rfl
 exact R_d (fn:=m2f20) (loc:=[(31,dS (tS t)),(35,dI p),(42,dI s)]) (fl:=.ret (.d (strD2 t p s))) rfl rfl ((seq1 e0).trans ((seq1 (while_eq.trans e1)).trans ((seq1 (while_eq.trans e2)).trans (seqR (ret1 e3))))) rfl
end
theorem strB_spec(t:List Nat)(s:Nat):∀ b,strB t s b≤b∧(∀ j,strB t s b≤j→j<b→t[j]?=t[j+s]?)∧(strB t s b=0∨∃ c,strB t s b=c+1∧t[c]?≠t[c+s]?)
 | 0=>⟨Nat.le_refl _,fun j _ h=>absurd h (Nat.not_lt_zero _),.inl rfl⟩
 | b+1=>by
  obtain⟨i1,i2,i3⟩:=strB_spec t s b
  unfold strB
  cases h:t[b]?==t[b+s]? with
  | true=>
   refine⟨Nat.le_succ_of_le i1,fun j h1 h2=>?_,i3⟩
   by_cases hj:j=b
   ·subst hj;exact eq_of_beq h
   ·exact i2 j h1 (by(revert h2 hj;exact z2 0x1ff8401f843e08161014350d001))
  | false=>exact⟨Nat.le_refl _,fun j h1 h2=>absurd h2 (Nat.not_lt.mpr h1),.inr ⟨b,rfl,beq_eq_false_iff_ne.mp h⟩⟩
theorem strE_spec(t:List Nat)(s:Nat):∀ d e,e≤strE t s d e∧strE t s d e≤e+d∧(∀ j,e≤j→j<strE t s d e→t[j]?=t[j-s]?)∧(strE t s d e=e+d∨t[strE t s d e]?≠t[strE t s d e-s]?)
 | 0,e=>⟨Nat.le_refl _,Nat.le_refl _,fun j h1 h2=>absurd h2 (Nat.not_lt.mpr h1),.inl rfl⟩
 | d+1,e=>by
  obtain⟨i1,i2,i3,i4⟩:=strE_spec t s d (e+1)
  unfold strE
  cases h:t[e]?==t[e-s]? with
  | true=>
   refine⟨Nat.le_of_succ_le i1,by show strE t s d (e+1)≤_;(revert i2;exact z3 0xffc210d4540d00a106a1a5000),fun j h1 h2=>?_,i4.imp (fun q=>by show strE t s d (e+1)=_;(revert q;exact z3 0x7c200fc210d4540d00c106a1a5002)) id⟩
   by_cases hj:j=e
   ·subst hj;exact eq_of_beq h
   ·exact i3 j (by(revert h1 hj;exact z2 0x1ff843f0803e086a0a280128400)) h2
  | false=>exact⟨Nat.le_refl _,Nat.le_add_right _ _,fun j h1 h2=>absurd h2 (Nat.not_lt.mpr h1),.inr (beq_eq_false_iff_ne.mp h)⟩
end
section
section
variable{X:Tab}{k:Nat}{led:Led}{a:V}{x:Str}{ys:List Str}
noncomputable def strD(ys:List Str):List D:=ys.map .str
theorem strD_at{m:Nat}{y:Str}(h:ys[m]?=some y):(strD ys)[m]?=some (.str y):=by unfold strD;rw[List.getElem?_map,h];rfl
noncomputable def locB(a:V)(x:Str)(lo hi:Nat):UK.Loc:=[(17,a),(18,dS x),(16,dI lo),(19,dI hi),(15,.d .none)]
noncomputable def locC(a:V)(x:Str)(lo hi m:Nat):UK.Loc:=locB a x lo hi++[(20,dI m)]
noncomputable def bCond:E:=.cmp (.name 16) .lt (.name 19)
noncomputable def bM:UK.S:=.assign (.name 20) (.bin .fdiv (.bin .add (.name 16) (.name 19)) (.lit (.int 2)))
noncomputable def bRc:E:=.cmp (.name 18) .lt (.index (.name 17) (.name 20))
noncomputable def bLc:E:=.cmp (.index (.name 17) (.name 20)) .lt (.name 18)
noncomputable def bHi:UK.S:=.assign (.name 19) (.name 20)
noncomputable def bLo:UK.S:=.assign (.name 16) (.bin .add (.name 20) (.lit (.int 1)))
theorem b_cond(lo hi:Nat):cF (cxK X k) bCond (locB a x lo hi) led=some (decide (lo<hi),led):=by
 show some (decide ((lo:Int)<hi),led)=_
 rw[decide_eq_decide.mpr (Int.ofNat_lt)]
theorem b_m(lo hi:Nat):evS (cxK X k) [] led.length bM (locB a x lo hi) led=some (.nx,locC a x lo hi ((lo+hi) / 2),led):=by
 have e:((lo:Int)+hi).fdiv 2=(((lo+hi) / 2:Nat):Int):=by rw[Int.fdiv_eq_ediv_of_nonneg _ (by decide)];rfl
 refine assignD (y:=.int (((lo+hi) / 2:Nat):Int)) ((bin_e (l2:=led) (x:=dI ((lo:Int)+hi)) (y:=dI 2) ((bin_e (l1:=led) (l2:=led) (x:=dI lo) (y:=dI hi) rfl rfl).trans rfl) rfl).trans ?_) rfl
 rw[←e];rfl
theorem b_hi(lo hi m:Nat):evSs (cxK X k) [] led.length [bHi] (locC a x lo hi m) led=some (.nx,locC a x lo m m,led):=seq1 (assignD (y:=.int m) (name_e rfl) rfl)
theorem b_lo(lo hi m:Nat):evSs (cxK X k) [] led.length [bLo] (locC a x lo hi m) led=some (.nx,locC a x (m+1) hi m,led):=seq1 (assignD (y:=.int ((m:Int)+1)) ((bin_e (x:=dI m) (y:=dI 1) (l1:=led) (l2:=led) rfl rfl).trans rfl) rfl)
theorem b_idx(ha:ofV a=none∧led.list a=some (strD ys)){lo hi m:Nat}{y:Str}(hy:ys[m]?=some y)(hl:ys.length≤4000):evE (cxK X k) (.index (.name 17) (.name 20)) (locC a x lo hi m) led=some (dS y,led):=
 index_e (y:=dI m) (name_e rfl) rfl (evIndex_list ha.1 ha.2 (strD_at hy) (Nat.lt_of_lt_of_le (List.getElem?_eq_some_iff.mp hy).1 (Nat.le_trans hl (by decide))))
def BisOk(X:Tab)(k:Nat)(led:Led)(a:V)(x:Str)(ys:List Str)(bs:UK.S)(t:Str→Bool):Prop:=∀ (lo hi m:Nat) (y:Str),ys[m]?=some y→evS (cxK X k) [] led.length bs (locC a x lo hi m) led=some (.nx,cond (t y) (locC a x (m+1) hi m) (locC a x lo m m),led)
theorem bisR(ha:ofV a=none∧led.list a=some (strD ys))(hl:ys.length≤4000):BisOk X k led a x ys (.ite bRc [bHi] [bLo]) fun y=>!decide (ltS x y):=fun lo hi m y hy=>by
 have hc:evE (cxK X k) bRc (locC a x lo hi m) led=some (.d (.bool (decide (ltS x y))),led):=cmp_e (name_e rfl) (b_idx ha hy hl) rfl
 show _=some (Fl.nx,cond (!decide (ltS x y)) _ _,led)
 cases h:decide (ltS x y) with
 | true=>rw[h] at hc;exact(ite_t' hc rfl).trans (b_hi lo hi m)
 | false=>rw[h] at hc;exact(ite_f' hc rfl).trans (b_lo lo hi m)
theorem bisL(ha:ofV a=none∧led.list a=some (strD ys))(hl:ys.length≤4000):BisOk X k led a x ys (.ite bLc [bLo] [bHi]) fun y=>decide (ltS y x):=fun lo hi m y hy=>by
 have hc:evE (cxK X k) bLc (locC a x lo hi m) led=some (.d (.bool (decide (ltS y x))),led):=cmp_e (b_idx ha hy hl) (name_e rfl) rfl
 show _=some (Fl.nx,cond (decide (ltS y x)) _ _,led)
 cases h:decide (ltS y x) with
 | true=>rw[h] at hc;exact(ite_t' hc rfl).trans (b_lo lo hi m)
 | false=>rw[h] at hc;exact(ite_f' hc rfl).trans (b_hi lo hi m)
theorem bis_loop{bs:UK.S}{t:Str→Bool}(hb:below led.length a=true)(hs:BisOk X k led a x ys bs t){p:Nat}(hp:Parts (fun y=>t y=true) ys p):∀ (N lo hi:Nat),hi-lo<N→lo≤p→p≤hi→hi≤ys.length →
  whileLoop (cF (cxK X k) bCond) (fun loc led'=>evSs (cxK X k) [] led.length [bM,bs] loc led') N (locB a x lo hi) led=some (.nx,locB a x p p,led)
 | 0,lo,hi,h,_,_,_=>absurd h (Nat.not_lt_zero _)
 | N+1,lo,hi,hN,h1,h2,h3=>by
  by_cases hlt:lo<hi
  ·have hm:(lo+hi) / 2<ys.length:=by(revert h3 hlt;exact z3 0x1ff882008860584141202008820)
   have e:=hs lo hi _ _ (List.getElem?_eq_getElem hm)
   have tr:∀ l h,trunc (locB a x lo hi).length led.length (locC a x l h ((lo+hi) / 2)) led=some (locB a x l h,led):=fun l h=>by
    refine(gdF ?_).trans (by rw[List.take_length];rfl)
    show (below led.length a&&true)=true
    rw[hb];rfl
   have go:=fun {l h:Nat} (he:evS (cxK X k) [] led.length bs (locC a x lo hi ((lo+hi) / 2)) led=some (.nx,locC a x l h ((lo+hi) / 2),led))=>while_t (N:=N) (cond:=cF (cxK X k) bCond) (body:=fun loc led'=>evSs (cxK X k) [] led.length [bM,bs] loc led') ((b_cond (X:=X) (k:=k) (a:=a) (x:=x) (led:=led) lo hi).trans (by rw[decide_eq_true hlt])) List.take_length ((seq1 (b_m lo hi)).trans (seq1 he)) (tr l h)
   cases ht:t ys[(lo+hi) / 2] with
   | true=>
    have hpm:(lo+hi) / 2<p:=Nat.lt_of_not_le fun q=>hp.2.2 _ hm q ht
    rw[ht] at e
    exact(go e).trans (bis_loop hb hs hp N _ _ (by(revert hN hlt;exact z3 0x1ff880208400108a05fc0000401106a0a08c11504808821a8e8008407)) hpm h2 h3)
   | false=>
    have hpm:p≤(lo+hi) / 2:=Nat.le_of_not_lt fun q=>Bool.noConfusion (ht.symm.trans (hp.2.1 _ hm q))
    rw[ht] at e
    exact(go e).trans (bis_loop hb hs hp N _ _ (by(revert hN hlt;exact z3 0x3ff10041004021140bf800008402100c20d04810421a8e8008027)) h1 hpm (by omega))
  ·obtain rfl:lo=p:=by(revert h1 h2 hlt;exact z3 0x1f0843f080010818200c4100400)
   obtain rfl:hi=lo:=by(revert hlt h2;exact z2 0xf843f080210300100023)
   exact while_f ((b_cond _ _).trans (by rw[decide_eq_false hlt])) List.take_length
noncomputable def locB0(a:V)(x:Str):UK.Loc:=[(17,a),(18,dS x),(16,dI 0),(19,.d .none),(15,.d .none)]
theorem len_list{led:Led}{a:V}{xs:List D}(ha:ofV a=none∧led.list a=some xs)(hl:xs.length≤cap):evBi led .len [a]=some (dI xs.length,led):=by
 have e:lenOf led a=some xs.length:=by
  cases a with
  | d x=>exact nomatch ha.1
  | _=>exact mapF ha.2
 show (lenOf led a).bind _=_
 rw[bindF e];exact gdF hl
noncomputable def bBody(bs e:UK.S):List UK.S:=[.ite (.cmp (.name 16) .lt (.lit (.int 0))) [.stuck] [],.ite (.cmp (.name 19) .is (.lit .none)) [.assign (.name 19) (.bi .len [(.name 17)])] [],.ite (.cmp (.name 15) .is (.lit .none)) [.while bCond [bM,bs]] [e],.ret (.name 16)]
theorem bis_run{bs e:UK.S}{t:Str→Bool}(ha:ofV a=none∧led.list a=some (strD ys))(hb:below led.length a=true)(hl:ys.length≤4000)(hs:BisOk X k led a x ys bs t){p:Nat}(hp:Parts (fun y=>t y=true) ys p) :
  evSs (cxK X k) [] led.length (bBody bs e) (locB0 a x) led=some (.ret (dI p),locB a x p p,led):=by
 have hsl:(strD ys).length=ys.length:=List.length_map _
 have h2:evS (cxK X k) [] led.length (.ite (.cmp (.name 19) .is (.lit .none)) [.assign (.name 19) (.bi .len [(.name 17)])] []) (locB0 a x) led=some (.nx,locB a x 0 ys.length,led):=
  (ite_t' (v:=.d (.bool true)) rfl rfl).trans (seq1 (assignD (y:=.int ys.length) ((bi_e (es0 (name_e rfl))).trans ((len_list ha (by rw[hsl];exact Nat.le_trans hl (by decide))).trans (by rw[hsl]))) rfl))
 have hw:=bis_loop hb hs hp 4096 0 ys.length (by(revert hl;exact z1 0x1ff840109000b017f004150187d05800)) (Nat.zero_le _) hp.1 (Nat.le_refl _)
 exact(seq1 ((ite_f' (v:=.d (.bool false)) rfl rfl).trans rfl)).trans ((seq1 h2).trans ((seq1 ((ite_t' (v:=.d (.bool true)) rfl rfl).trans (seq1 (while_eq.trans hw)))).trans (seqR (ret1 (name_e rfl)))))
theorem bisR_ok(ha:ofV a=none∧led.list a=some (strD ys))(hb:below led.length a=true)(hl:ys.length≤4000)(hs:SortedS ys){as:List V}(has:argsV m2f9 as=some (locB0 a x)):R X (k+1) 9 as led=some (dI (cntR x ys),led):=
 R_d (fn:=m2f9) (fl:=.ret (dI (cntR x ys))) rfl has (bis_run ha hb hl (bisR ha hl) (parts_B (parts_R hs))) rfl
theorem bisL_ok(ha:ofV a=none∧led.list a=some (strD ys))(hb:below led.length a=true)(hl:ys.length≤4000)(hs:SortedS ys){as:List V}(has:argsV m2f10 as=some (locB0 a x)):R X (k+1) 10 as led=some (dI (cntL x ys),led):=
 R_d (fn:=m2f10) (fl:=.ret (dI (cntL x ys))) rfl has (bis_run ha hb hl (bisL ha hl) (parts_BL (parts_L hs))) rfl
theorem insort_ok{j:Nat}(hj:led[j]?=some (.list (strD ys)))(hl:ys.length≤4000)(hs:SortedS ys):R X (k+2) 8 [.ref j,dS x] led=some (.d .none,led.set j (.list (strD (insR x ys)))):=by
 have hjl:j<led.length:=(List.getElem?_eq_some_iff.mp hj).1
 have ha:ofV (.ref j)=none∧led.list (.ref j)=some (strD ys):=⟨rfl,bindF (f:=O.list?) hj⟩
 have hc:cntR x ys≤ys.length:=List.length_filter_le _ _
 have hsl:(strD ys).length=ys.length:=List.length_map _
 have e1:evS (cxK X (k+1)) [] led.length (.ite (.cmp (.name 15) .is (.lit .none)) [.assign (.name 16) (.call 9 [(.name 17),(.name 18),(.name 16),(.name 19)])] [.stuck]) (locB0 (.ref j) x) led=some (.nx,put (locB0 (.ref j) x) 16 (dI (cntR x ys)),led):=
  (ite_t' (v:=.d (.bool true)) rfl rfl).trans (seq1 (assignD (y:=.int (cntR x ys)) ((call_R (vs:=[.ref j,dS x,dI 0,.d .none]) (led':=led) rfl).trans (bisR_ok (k:=k) ha (decide_eq_true hjl) hl hs rfl)) rfl))
 have hins:evMeth led .insert (.ref j) [dI (cntR x ys),dS x]=some (.d .none,led.set j (.list (strD (insR x ys)))):=by
  refine(bindF (ledL_is hj)).trans ?_
  refine(gdF (p:=(strD ys).length<cap∧(0:Int)≤(cntR x ys:Nat)∧((cntR x ys:Nat):Int)≤(strD ys).length) ⟨?_,?_,?_⟩).trans ?_
  ·rw[hsl];exact Nat.lt_of_le_of_lt hl (by decide)
  ·exact Int.natCast_nonneg _
  ·rw[hsl];exact Int.ofNat_le.mpr hc
  ·unfold insR strD
   rw[List.map_append,List.map_cons,List.map_take,List.map_drop];rfl
 have e2:=expr1 (mu:=[]) (n₀:=led.length) (cx:=cxK X (k+1)) ((meth_e (m:=.insert) (o:=.name 17) (as:=[(.name 16),(.name 18)]) (loc:=put (locB0 (.ref j) x) 16 (dI (cntR x ys))) (led:=led) (v:=.ref j) (vs:=[dI (cntR x ys),dS x]) (l2:=led) rfl (by show (ledL led (.ref j)).isSome=true;rw[ledL_is hj];rfl) rfl).trans hins)
 have ht:(led.set j (.list (strD (insR x ys)))).take led.length=led.set j (.list (strD (insR x ys))):=by rw[List.take_of_length_le];rw[List.length_set];exact Nat.le_refl _
 rw[ht] at e2
 refine R_step (fn:=m2f8) (loc:=locB0 (.ref j) x) (fl:=.nx) rfl rfl ((seq1 e1).trans (seq1 e2)) ?_
 show some (V.d .none,List.take led.length (led.set j (.list (strD (insR x ys)))))=_
 rw[ht]
end
end
section
theorem for_acc{β:Type}{tg:UK.T}{body:UK.Loc→Led→Option Res}{loc:UK.Loc}{led0:Led}{mk:β→D}{f:β→List D}:∀ (xs:List β) (acc:List D) (N:Nat),xs.length<N→acc.length+(xs.flatMap f).length≤1000 →
  (∀ x∈xs,∀ acc,acc.length+(f x).length≤1000→∃ loc1 loc2 l2,bindD tg (mk x) loc=some loc1∧body loc1 (led0++[.list acc])=some (.nx,loc2,l2)∧trunc loc.length (led0++[O.list acc]).length loc2 l2=some (loc,led0++[.list (acc++f x)])) →
  forLoop tg body N (.fz (xs.map mk)) loc (led0++[.list acc])=some (.nx,loc,led0++[.list (acc++xs.flatMap f)])
 | xs,acc,0,hN,_,_=>absurd hN (Nat.not_lt_zero _)
 | [],acc,N+1,_,_,_=>by rw[List.flatMap_nil,List.append_nil];rfl
 | x::xs,acc,N+1,hN,hl,h=>by
  rw[List.flatMap_cons,List.length_append] at hl
  obtain⟨loc1,loc2,l2,e1,e2,e3⟩:=h x (.head _) acc (by(revert hl;exact z3 0x3ff0841f45820a281f45841a0280))
  have ih:=for_acc (mk:=mk) (f:=f) xs (acc++f x) N (Nat.lt_of_succ_lt_succ hN) (by rw[List.length_append];(revert hl;exact z3 0xffc2107d1610414a281f45841a0280)) fun y hy=>h y (.tail _ hy)
  rw[List.append_assoc] at ih
  rw[List.flatMap_cons]
  exact(for_step e1 e2 e3).trans ih
section
variable{X:Tab}{k:Nat}{led:Led}{t:List Nat}
noncomputable def mir(c:Nat):Nat:=210-c
noncomputable def mElt:E:=.index (.lit (.str ⟨#[108,105,102]⟩)) (.meth .index (.lit (.str ⟨#[102,105,108]⟩)) [(.name 32)])
theorem mir_all:(FIL.map fun c=>evE (cxK X k) mElt [(32,ch c)] led)=mapR (fun c=>some (ch (mir c),led)) FIL:=by kernel_rfl
theorem lens1(l:List Nat):((l.map fun c=>tS [c]).map (·.length)).sum=l.length:=by
 induction l with
 | nil=>rfl
 | cons c l ih=>rw[List.map_cons,List.map_cons,List.sum_cons,ih,List.length_cons];exact Nat.add_comm 1 _
theorem flat1(l:List Nat):(l.map fun c=>tS [c]).flatMap (·.cps.toList)=l:=by
 induction l with
 | nil=>rfl
 | cons c l ih=>exact congrArg (c::·) ih
theorem mirror_ok(ht:∀ c∈t,c∈FIL)(hl:t.length≤20):R X (k+1) 18 [dS (tS t)] led=some (dS (tS (t.map mir)),led):=by
 have hlen:(chars (tS t)).length=t.length:=List.length_map _
 have hc:=comp_fz (n:=led.length) (led0:=led) (turn:=turnP (cxK X k) mElt (.name 32) [] (capt [] [(31,dS (tS t))])) rfl (fun d=>d.str?.map fun x=>.str (tS [mir (x.cps.getD 0 0)])) (chars (tS t)) [] 4096
  (by(revert hl hlen;exact z2 0x7fe100424002c058402a5420)) (by rw[List.length_nil,Nat.zero_add,hlen];exact Nat.lt_of_le_of_lt hl (by decide)) (fun x hx ys'=>by
   obtain⟨c,hc,rfl⟩:=List.mem_map.mp hx
   exact turn_pl rfl (turn_no rfl (mapAt mir_all c (ht c hc))))
 have hm:(chars (tS t)).filterMap (fun d=>d.str?.map fun x=>D.str (tS [mir (x.cps.getD 0 0)]))=((t.map mir).map fun c=>tS [c]).map .str:=by
  unfold chars
  rw[List.filterMap_map,List.map_map,List.map_map,←List.filterMap_eq_map];rfl
 rw[List.nil_append,hm] at hc
 have hE:=comp_eq (cx:=cxK X k) (loc:=[(31,dS (tS t))]) (led:=led) (l1:=led) (its:=[(.name 31)]) (caps:=[]) (k:=.e) (vs:=[dS (tS t)]) (src:=.fz (chars (tS t))) rfl rfl hc
 have hj:=join_e (n:=led.length) (led:=led++[.list (((t.map mir).map fun c=>tS [c]).map .str)]) List.getElem?_concat_length (by rw[lens1,List.length_map];exact Nat.le_trans hl (by decide))
 rw[flat1] at hj
 refine R_step (fn:=m2f18) (loc:=[(31,dS (tS t))]) (fl:=.ret (dS (tS (t.map mir)))) rfl rfl (seqR (ret1 ((meth_e (v:=.d (.str ⟨#[]⟩)) rfl rfl (es0 hE)).trans hj))) ?_
 show some (dS _,List.take led.length (led++_))=_
 rw[List.take_left]
noncomputable def rot(w:List Nat)(k:Nat):List Nat:=w.drop k++w.take k
noncomputable def badR(w:List Nat):List Nat:=(List.range (w.length-1)).filter fun i=>!decide (w<rot w (1+i))
noncomputable def isLst(w:List Nat):Bool:=(badR w).isEmpty
theorem leS_e{a b:List Nat}:evCmp led .le (dS (tS a)) (dS (tS b))=some (!decide (b<a)):=rfl
theorem sub_drop{w:List Nat}{i:Nat}:sub w i w.length=w.drop i:=by
 unfold sub
 rw[List.take_of_length_le];rw[List.length_drop];exact Nat.le_refl _
theorem sub_take{w:List Nat}{i:Nat}:sub w 0 i=w.take i:=rfl
theorem eqNil{n m:Nat}{xs:List D}(h1:led[n]?=some (.list xs))(h2:led[m]?=some (.list [])):evCmp led .eq (.ref n) (.ref m)=some xs.isEmpty:=by
 refine(bindF (bindF (f:=O.list?) (a:=.list xs) h1)).trans ((bindF (bindF (f:=O.list?) (a:=.list []) h2)).trans ?_)
 cases xs <;> rfl
theorem nil_e{cx:Cx}{loc:UK.Loc}:evE cx (.list []) loc led=some (.ref led.length,led++[.list []]):=rfl
theorem filt_map{α β:Type}{mk:α→β}{g:β→Option β}{q:α→Bool}(h:∀ x,g (mk x)=cond (q x) (some (mk x)) none):∀ l:List α,(l.map mk).filterMap g=(l.filter q).map mk
 | []=>rfl
 | x::l=>by
  rw[List.map_cons,filterC]
  cases hq:q x with
  | true=>rw[List.filterMap_cons_some ((h x).trans (by rw[hq];rfl)),filt_map h l];rfl
  | false=>rw[List.filterMap_cons_none ((h x).trans (by rw[hq];rfl)),filt_map h l];rfl
theorem isEmpty_map{α β:Type}{f:α→β}{l:List α}:(l.map f).isEmpty=l.isEmpty:=by cases l <;> rfl
theorem srcR2{n:Nat}{a b:Int}{xs:List D}(h:rng a b 1=some xs):srcOf n led .range [dI a,dI b]=some (.fz xs):=by
 show Option.map Src.fz (rng a b 1)=_
 rw[h];rfl
theorem srcR1{n:Nat}{b:Int}{xs:List D}(h:rng 0 b 1=some xs):srcOf n led .range [dI b]=some (.fz xs):=by
 show Option.map Src.fz (rng 0 b 1)=_
 rw[h];rfl
theorem least_ok{w:List Nat}(hl:w.length≤20)(h0:0<w.length):R X (k+1) 23 [dS (tS w)] led=some (.d (.bool (isLst w)),led):=by
 have hr:rng 1 (w.length:Int) 1=some ((List.range (w.length-1)).map fun i=>D.int ((1+i:Nat):Int)):=rng_up (a:=1) (b:=w.length) (by decide) hl
 have hlen:((List.range (w.length-1)).map fun i=>D.int ((1+i:Nat):Int)).length≤20:=by rw[List.length_map,List.length_range];(revert hl;exact z1 0x3ff08021a540a0d407a5400)
 have hc:=comp_fz (n:=led.length) (led0:=led) (turn:=turnP (cxK X k) (.name 4) (.name 4) [(.cmp (.bin .add (.slice (.name 27) (.name 4) (.lit .none) (.lit .none)) (.slice (.name 27) (.lit .none) (.name 4) (.lit .none))) .le (.name 27))] (capt [27] [(27,dS (tS w))])) rfl
  (fun d=>d.int?.bind fun i=>cond (!decide (w<rot w i.toNat)) (some d) none) ((List.range (w.length-1)).map fun i=>D.int ((1+i:Nat):Int)) [] 4096 (by(revert hlen;exact z1 0x3ff084800580ba5400)) (by rw[List.length_nil,Nat.zero_add];exact Nat.lt_of_le_of_lt hlen (by decide)) (fun x hx ys'=>by
   obtain⟨i,hi,rfl⟩:=List.mem_map.mp hx
   have hi:=List.mem_range.mp hi
   have s1:=(slice_e (cx:=cxK X k) (loc:=[(27,dS (tS w)),(4,dI ((1+i:Nat):Int))]) (led:=led++[.list ys']) (a:=.name 27) (lo:=.name 4) (hi:=.lit .none) (st:=.lit .none) (x:=dS (tS w)) (y:=endV (some ((1+i:Nat):Int))) (z:=endV none) (u:=.d .none) (l1:=led++[.list ys']) (l2:=led++[.list ys']) (l3:=led++[.list ys']) (l4:=led++[.list ys']) rfl rfl rfl rfl).trans
    (slice_m (a:=1+i) (b:=w.length) (fun j h=>by cases h;exact Z.r100 (by(revert hl hi;exact z2 0x7fe10042100c96086b4500210d427a5420))) nofun (clipA_some (by(revert hi;exact z2 0x3ff08422086b4500210d427))) rfl (by(revert hi;exact z2 0x3ff08422086b4500210d427)) (Nat.le_refl _) (by(revert hl;exact z1 0x3ff084032580aa5400)))
   have s2:=(slice_e (cx:=cxK X k) (loc:=[(27,dS (tS w)),(4,dI ((1+i:Nat):Int))]) (led:=led++[.list ys']) (a:=.name 27) (lo:=.lit .none) (hi:=.name 4) (st:=.lit .none) (x:=dS (tS w)) (y:=endV none) (z:=endV (some ((1+i:Nat):Int))) (u:=.d .none) (l1:=led++[.list ys']) (l2:=led++[.list ys']) (l3:=led++[.list ys']) (l4:=led++[.list ys']) rfl rfl rfl rfl).trans
    (slice_m (a:=0) (b:=1+i) nofun (fun j h=>by cases h;exact Z.r100 (by(revert hl hi;exact z2 0x7fe10042100c96086b4500210d427a5420))) rfl (clipB_some (by(revert hi;exact z2 0x3ff08422086b4500210d427))) (by exact z1 0x7fe1002aa) (by(revert hi;exact z2 0x3ff08422086b4500210d427)) (by(revert hl;exact z1 0x3ff084032580aa5400)))
   rw[sub_drop] at s1
   rw[sub_take] at s2
   have ha:=(bin_e (op:=.add) s1 s2).trans (addS (by rw[List.length_drop,List.length_take];(revert hl;exact z2 0xffc400840100c960068a08835a4021ad007a5400)))
   have hcmp:=cmp_e (op:=.le) (b:=.name 27) (y:=dS (tS w)) ha (name_e rfl) leS_e
   refine turn_pl rfl ?_
   show _=some (cond (!decide (w<rot w (1+i))) (some (D.int ((1+i:Nat):Int))) none,led++[O.list ys'])
   have hrot:w.drop (1+i)++w.take (1+i)=rot w (1+i):=rfl
   rw[hrot] at hcmp
   cases hq:!decide (w<rot w (1+i)) with
   | true=>rw[hq] at hcmp;exact turn_t rfl hcmp rfl (name_e rfl)
   | false=>rw[hq] at hcmp;exact turn_f rfl hcmp rfl)
 rw[List.nil_append,filt_map (q:=fun i=>!decide (w<rot w (1+i))) (fun i=>rfl)] at hc
 have hE:=comp_eq (cx:=cxK X k) (loc:=[(27,dS (tS w))]) (led:=led) (l1:=led) (its:=[(.lit (.int 1)),(.bi .len [(.name 27)])]) (caps:=[27]) (k:=.range) (vs:=[dI 1,dI w.length]) (src:=.fz ((List.range (w.length-1)).map fun i=>D.int ((1+i:Nat):Int))) (es1 rfl (es0 ((bi_e (es0 (name_e rfl))).trans (lenS (by(revert hl;exact z1 0x3ff084032580aa5400)))))) (srcR2 hr) hc
 have h1:(led++[O.list ((badR w).map fun i=>D.int ((1+i:Nat):Int))]++[O.list []])[led.length]?=some (.list ((badR w).map fun i=>D.int ((1+i:Nat):Int))):=by
  rw[List.getElem?_append_left (by rw[List.length_append];exact Nat.lt_succ_self _),List.getElem?_concat_length]
 have hq:=cmp_e (op:=.eq) hE nil_e (eqNil h1 List.getElem?_concat_length)
 rw[isEmpty_map] at hq
 refine R_step (fn:=m2f23) (loc:=[(27,dS (tS w))]) (fl:=.ret (.d (.bool (isLst w)))) rfl rfl (seqR (ret1 hq)) ?_
 show some (V.d (.bool (isLst w)),List.take led.length (led++_++_))=_
 rw[List.append_assoc,List.take_left]
end
end
section
noncomputable def noper(t:List Nat)(b e s:Nat):Bool:=((List.range (s-1)).filter fun i=>sub t b (e-(1+i))==sub t (b+(1+i)) e).isEmpty
noncomputable abbrev Run:=Nat × Nat × Nat
noncomputable def endS(t:List Nat)(s p:Nat):Nat:=strE t s (t.length-(p+s)) (p+s)
noncomputable def isRun(t:List Nat)(s p:Nat):Bool:=strB t s p==p&&(decide (2*s≤endS t s p-strB t s p)&&noper t (strB t s p) (endS t s p) s)
noncomputable def runAt(t:List Nat)(s p:Nat):List Run:=cond (isRun t s p) [(strB t s p,endS t s p,s)] []
noncomputable def runRow(t:List Nat)(s:Nat):List Run:=(List.range (t.length-2*s+1)).flatMap (runAt t s)
noncomputable def runL(t:List Nat):List Run:=(List.range (t.length / 2)).flatMap fun i=>runRow t (1+i)
noncomputable def rD(r:Run):D:=.tup [.int r.1,.int r.2.1,.int r.2.2]
noncomputable def rAll(l:List Run):List D:=l.map rD
theorem endS_le{t:List Nat}{s p:Nat}(h:p+s≤t.length):p+s≤endS t s p∧endS t s p≤t.length:=by
 obtain⟨a,b,_⟩:=strE_spec t s (t.length-(p+s)) (p+s)
 exact⟨a,Nat.le_trans b (Nat.le_of_eq (Nat.add_sub_cancel' h))⟩
theorem runRow_len(t:List Nat)(s:Nat):(runRow t s).length≤t.length+1:=by
 unfold runRow
 rw[List.length_flatMap]
 have:∀ l:List Nat,(l.map fun p=>(runAt t s p).length).sum≤l.length:=fun l=>by
  induction l with
  | nil=>exact Nat.le_refl _
  | cons p l ih=>
   rw[List.map_cons,List.sum_cons,List.length_cons]
   have:(runAt t s p).length≤1:=by unfold runAt;cases isRun t s p;exact Nat.zero_le _;exact Nat.le_refl _
   (revert ih this;exact z3 0xffc21086a2a0414506a000820)
 have h:=this (List.range (t.length-2*s+1))
 rw[List.length_range] at h
 (revert h;exact z3 0x3ff08421a8a81506a0a040215c27)
section
variable{X:Tab}{k:Nat}{t:List Nat}{s p:Nat}
noncomputable def nC:E:=.cmp (.slice (.name 31) (.name 40) (.bin .sub (.name 41) (.name 4)) (.lit .none)) .eq (.slice (.name 31) (.bin .add (.name 40) (.name 4)) (.name 41) (.lit .none))
noncomputable def nComp:E:=.comp (.name 4) (.name 4) .range [(.lit (.int 1)),(.name 42)] [nC] [31,40,41]
noncomputable def rIf:UK.S:=.ite (.and (.cmp (.name 40) .eq (.name 35)) (.cmp (.bin .sub (.name 41) (.name 40)) .ge (.bin .mul (.lit (.int 2)) (.name 42)))) [.ite (.cmp nComp .eq (.list [])) [.expr (.meth .append (.name 47) [(.tuple [(.name 40),(.name 41),(.name 42)])])] []] []
noncomputable def rBody:List UK.S:=[.assign (.tup [(.name 40),(.name 41)]) (.call 20 [(.name 31),(.name 35),(.name 42)]),rIf]
noncomputable def locN(t:List Nat)(s:Nat):UK.Loc:=[(31,dS (tS t)),(47,.ref 0),(42,dI s)]
noncomputable def locO(t:List Nat)(s p b e:Nat):UK.Loc:=locN t s++[(35,dI p),(40,dI b),(41,dI e)]
theorem strEq{led:Led}{a b:List Nat}:evCmp led .eq (dS (tS a)) (dS (tS b))=some (a==b):=by
 show some (tS a==tS b)=_
 rw[tS_beq]
theorem sl_e{cx:Cx}{loc:UK.Loc}{led:Led}{x:Nat}{e1 e2:E}{a b:Nat}(h0:UK.get loc x=some (dS (tS t)))(h1:evE cx e1 loc led=some (dI a,led))(h2:evE cx e2 loc led=some (dI b,led))(hl:t.length≤20)(ha:a≤t.length)(hb:b≤t.length) :
  evE cx (.slice (.name x) e1 e2 (.lit .none)) loc led=some (dS (tS (sub t a b)),led):=
 (slice_e (name_e h0) h1 h2 rfl).trans (slice_m (lo:=some (a:Int)) (hi:=some (b:Int)) (fun j h=>by cases h;exact Z.r100 (by(revert hl ha;exact z2 0x3ff08420192c050400a5420))) (fun j h=>by cases h;exact Z.r100 (by(revert hl hb;exact z2 0x3ff08420192c050400a5420))) (clipA_some ha) (clipB_some hb) ha hb (by(revert hl;exact z1 0x3ff084032580aa5400)))
theorem subI_e{cx:Cx}{loc:UK.Loc}{led:Led}{e1 e2:E}{a b:Nat}(h1:evE cx e1 loc led=some (dI a,led))(h2:evE cx e2 loc led=some (dI b,led))(h:b≤a):evE cx (.bin .sub e1 e2) loc led=some (dI ((a-b:Nat):Int),led):=by
 rw[Int.ofNat_sub h];exact(bin_e h1 h2).trans rfl
theorem addI_e{cx:Cx}{loc:UK.Loc}{led:Led}{e1 e2:E}{a b:Nat}(h1:evE cx e1 loc led=some (dI a,led))(h2:evE cx e2 loc led=some (dI b,led)):evE cx (.bin .add e1 e2) loc led=some (dI ((a+b:Nat):Int),led):=(bin_e h1 h2).trans rfl
theorem mul2_e{cx:Cx}{loc:UK.Loc}{led:Led}{e2:E}{b:Nat}(h2:evE cx e2 loc led=some (dI b,led)):evE cx (.bin .mul (.lit (.int 2)) e2) loc led=some (dI ((2*b:Nat):Int),led):=(bin_e (x:=dI 2) rfl h2).trans ((mul_int (.inl (by decide))).trans (by rw[Int.natCast_mul];rfl))
theorem geI{led:Led}{a b:Nat}:evCmp led .ge (dI a) (dI b)=some (decide (b≤a)):=by
 show some (decide ((b:Int)≤a))=_
 rw[decide_eq_decide.mpr Int.ofNat_le]
theorem leI{led:Led}{a b:Nat}:evCmp led .le (dI a) (dI b)=some (decide (a≤b)):=by
 show some (decide ((a:Int)≤b))=_
 rw[decide_eq_decide.mpr Int.ofNat_le]
theorem ltI{led:Led}{a b:Nat}:evCmp led .lt (dI a) (dI b)=some (decide (a<b)):=by
 show some (decide ((a:Int)<b))=_
 rw[decide_eq_decide.mpr Int.ofNat_lt]
theorem eqI{led:Led}{a b:Nat}:evCmp led .eq (dI a) (dI b)=some (a==b):=by
 show some ((a:Int)==b)=_
 rw[show ((a:Int)==b)=(a==b) from by rw[Bool.eq_iff_iff,beq_iff_eq,beq_iff_eq];exact Int.ofNat_inj]
theorem nper_ok{b e:Nat}{acc:List D}(hl:t.length≤20)(he:e≤t.length)(hb:b+s≤e)(hs:1≤s):evE (cxK X k) (.cmp nComp .eq (.list [])) (locO t s p b e) [.list acc]=some (.d (.bool (noper t b e s)),[.list acc,.list (((List.range (s-1)).filter fun i=>sub t b (e-(1+i))==sub t (b+(1+i)) e).map fun i=>D.int ((1+i:Nat):Int)),.list []]):=by
 have hr:rng 1 (s:Int) 1=some ((List.range (s-1)).map fun i=>D.int ((1+i:Nat):Int)):=rng_up (a:=1) (b:=s) (by decide) (by(revert hl he hb;exact z4 0x3ff08421a540a1007400440a5420))
 have hlen:((List.range (s-1)).map fun i=>D.int ((1+i:Nat):Int)).length≤20:=by rw[List.length_map,List.length_range];(revert hl he hb;exact z4 0xffc2108021a540a0d4071007400440a5420)
 have hc:=comp_fz (n:=1) (led0:=[.list acc]) (turn:=turnP (cxK X k) (.name 4) (.name 4) [nC] (capt [31,40,41] (locO t s p b e))) rfl
  (fun d=>d.int?.bind fun i=>cond (sub t b (e-i.toNat)==sub t (b+i.toNat) e) (some d) none) ((List.range (s-1)).map fun i=>D.int ((1+i:Nat):Int)) [] 4096 (by(revert hlen;exact z1 0x3ff084800580ba5400)) (by rw[List.length_nil,Nat.zero_add];exact Nat.lt_of_le_of_lt hlen (by decide)) (fun x hx ys'=>by
   obtain⟨i,hi,rfl⟩:=List.mem_map.mp hx
   have hi:=List.mem_range.mp hi
   have s1:=sl_e (cx:=cxK X k) (loc:=[(31,dS (tS t)),(40,dI b),(41,dI e),(4,dI ((1+i:Nat):Int))]) (led:=[.list acc]++[.list ys']) (x:=31) (e1:=.name 40) (e2:=.bin .sub (.name 41) (.name 4)) rfl rfl (subI_e rfl rfl (by(revert hb hi;exact z4 0x1ff8401084410d68a00421a8ce118a80))) hl (by(revert he hb;exact z4 0xffc210840a10c1400440)) (by(revert he;exact z3 0x3ff08021181410d68038800))
   have s2:=sl_e (cx:=cxK X k) (loc:=[(31,dS (tS t)),(40,dI b),(41,dI e),(4,dI ((1+i:Nat):Int))]) (led:=[.list acc]++[.list ys']) (x:=31) (e1:=.bin .add (.name 40) (.name 4)) (e2:=.name 41) rfl (addI_e rfl rfl) rfl hl (by(revert he hb hi;exact z5 0x7fe10802108c41ad034500410d4871901400860)) (by(revert he;exact z2 0x3ff0842050400))
   have hcmp:=cmp_e (op:=.eq) s1 s2 strEq
   refine turn_pl (n:=1) (led0:=[.list acc]) (ys:=ys') rfl ?_
   show _=some (cond (sub t b (e-(1+i))==sub t (b+(1+i)) e) (some (D.int ((1+i:Nat):Int))) none,_)
   cases hq:sub t b (e-(1+i))==sub t (b+(1+i)) e with
   | true=>rw[hq] at hcmp;exact turn_t rfl hcmp rfl (name_e rfl)
   | false=>rw[hq] at hcmp;exact turn_f rfl hcmp rfl)
 rw[List.nil_append,filt_map (q:=fun i=>sub t b (e-(1+i))==sub t (b+(1+i)) e) (fun i=>rfl)] at hc
 have hE:=comp_eq (cx:=cxK X k) (loc:=locO t s p b e) (led:=[.list acc]) (l1:=[.list acc]) (its:=[(.lit (.int 1)),(.name 42)]) (caps:=[31,40,41]) (k:=.range) (vs:=[dI 1,dI s]) (src:=.fz ((List.range (s-1)).map fun i=>D.int ((1+i:Nat):Int))) rfl (srcR2 hr) hc
 have hq:=cmp_e (op:=.eq) hE nil_e (eqNil (n:=1) (m:=2) rfl rfl)
 rw[isEmpty_map] at hq
 exact hq
theorem run_turn(hl:t.length≤20)(hs:1≤s)(hp:p+2*s≤t.length){acc:List D}(ha:acc.length+(runAt t s p).length≤1000):evSs (cxK X (k+1)) [47] 1 rBody (locN t s++[(35,dI p)]) [.list acc]=some (.nx,locO t s p (strB t s p) (endS t s p),[.list (acc++rAll (runAt t s p))]):=by
 have he:=endS_le (t:=t) (s:=s) (p:=p) (by(revert hp;exact z3 0xffc211041450822b8280))
 have hb:=(strB_spec t s p).1
 have e1:evS (cxK X (k+1)) [47] 1 (.assign (.tup [(.name 40),(.name 41)]) (.call 20 [(.name 31),(.name 35),(.name 42)])) (locN t s++[(35,dI p)]) [.list acc]=some (.nx,locO t s p (strB t s p) (endS t s p),[.list acc]):=
  assign1 (l1:=[.list acc]) (b:=⟨1,locO t s p (strB t s p) (endS t s p),[.list acc]⟩) ((call_R (vs:=[dS (tS t),dI p,dI s]) (led':=[.list acc]) rfl).trans (stretch_ok hl (by(revert he;exact z4 0x7fe108441051421806105009)) (by(revert hs;exact z1 0xffc21002ab006a0)))) rfl
 refine(seq1 e1).trans ?_
 clear e1
 unfold runAt isRun at ha ⊢
 revert ha he
 generalize strB t s p=b at hb ⊢
 generalize endS t s p=e
 intro ha he
 have q1:=cmp_e (cx:=cxK X (k+1)) (loc:=locO t s p b e) (led:=[.list acc]) (l1:=[.list acc]) (l2:=[.list acc]) (a:=.name 40) (b:=.name 35) (op:=.eq) (x:=dI b) (y:=dI p) rfl rfl eqI
 have q2:=cmp_e (cx:=cxK X (k+1)) (loc:=locO t s p b e) (led:=[.list acc]) (l1:=[.list acc]) (l2:=[.list acc]) (a:=.bin .sub (.name 41) (.name 40)) (b:=.bin .mul (.lit (.int 2)) (.name 42)) (op:=.ge) (subI_e (a:=e) (b:=b) rfl rfl (by(revert hb he;exact z5 0x1ff84200840a2040118a8048800))) (mul2_e (b:=s) rfl) geI
 have hno:∀ ys:List D,ys=[]→some (Fl.nx,locO t s p b e,[O.list acc])=some (Fl.nx,locO t s p b e,[O.list (acc++ys)]):=fun ys h=>by rw[h,List.append_nil]
 have hand:=and_e (b:=.cmp (.bin .sub (.name 41) (.name 40)) .ge (.bin .mul (.lit (.int 2)) (.name 42))) q1
 cases h1:b==p with
 | false=>
  rw[h1] at q1
  exact((seq1 ((ite_f' (and_f q1 rfl) rfl).trans rfl)).trans rfl).trans (hno _ rfl)
 | true=>
  rw[h1] at hand
  have hand:=hand rfl
  cases h2:decide (2*s≤e-b) with
  | false=>
   rw[h2] at q2
   exact((seq1 ((ite_f' (hand.trans q2) rfl).trans rfl)).trans rfl).trans (hno _ rfl)
  | true=>
   rw[h2] at q2
   rw[h1,h2] at ha
   have h2:=of_decide_eq_true h2
   have q3:=nper_ok (X:=X) (k:=k+1) (t:=t) (s:=s) (p:=p) (b:=b) (e:=e) (acc:=acc) hl he.2 (by(revert hb he;exact z5 0x7fe1080220828a2080208e8048c00)) hs
   cases h3:noper t b e s with
   | false=>
    rw[h3] at q3
    exact((seq1 ((ite_t' (hand.trans q2) rfl).trans (seq1 ((ite_f q3 rfl).trans rfl)))).trans rfl).trans (hno _ rfl)
   | true=>
    rw[h3] at q3 ha
    have hap:=(meth_e (cx:=cxK X (k+1)) (m:=.append) (o:=.name 47) (v:=.ref 0) (led:=[.list acc]) (loc:=locO t s p b e) rfl (app_at rfl) (es0 (tuple_e (as:=[(.name 40),(.name 41),(.name 42)]) (vs:=[dI b,dI e,dI s]) (l1:=[.list acc]) rfl rfl))).trans (app_m (x:=.tup [.int b,.int e,.int s]) rfl (Nat.lt_of_lt_of_le (show acc.length<1001 by(revert ha;exact z2 0x3ff0841f4d80b07d1608280)) (by decide)))
    exact(seq1 ((ite_t' (hand.trans q2) rfl).trans (seq1 ((ite_t q3 rfl).trans ((seq1 (expr1 hap)).trans rfl))))).trans rfl
theorem rAll_flat{α:Type}{g:α→List Run}{l:List α}:(l.flatMap fun p=>rAll (g p))=rAll (l.flatMap g):=List.map_flatMap.symm
theorem rng0{b:Nat}(hb:b≤20):rng 0 b 1=some ((List.range b).map fun i:Nat=>D.int (i:Int)):=by
 have:=rng_up (a:=0) (b:=b) (Nat.zero_le _) hb
 rw[Nat.sub_zero] at this
 exact this.trans (congrArg some (List.map_congr_left (f:=fun i:Nat=>D.int ((0+i:Nat):Int)) (g:=fun i:Nat=>D.int (i:Int)) fun i _=>by show D.int ((0+i:Nat):Int)=_;rw[Nat.zero_add]))
theorem half_e{cx:Cx}{loc:UK.Loc}{led:Led}{e:E}{a:Nat}(h:evE cx e loc led=some (dI a,led)):evE cx (.bin .add (.bin .fdiv e (.lit (.int 2))) (.lit (.int 1))) loc led=some (dI ((a / 2+1:Nat):Int),led):=by
 have e2:(a:Int).fdiv 2=((a / 2:Nat):Int):=by rw[Int.fdiv_eq_ediv_of_nonneg _ (by decide)];rfl
 refine(bin_e (l2:=led) (x:=dI ((a / 2:Nat):Int)) (y:=dI 1) ((bin_e (l2:=led) (y:=dI 2) h rfl).trans ?_) rfl).trans rfl
 rw[←e2];rfl
theorem len_e{cx:Cx}{loc:UK.Loc}{led:Led}{x:Nat}(h:UK.get loc x=some (dS (tS t)))(hl:t.length≤100):evE cx (.bi .len [.name x]) loc led=some (dI t.length,led):=(bi_e (es0 (name_e h))).trans (lenS hl)
theorem row_ok(hl:t.length≤9)(hs:1≤s)(h2:2*s≤t.length){acc:List D}(ha:acc.length+(rAll (runRow t s)).length≤1000) :
  evSs (cxK X (k+1)) [47] 1 [.for (.name 35) .range [(.bin .add (.bin .sub (.bi .len [(.name 31)]) (.bin .mul (.lit (.int 2)) (.name 42))) (.lit (.int 1)))] rBody] (locN t s) [.list acc]=some (.nx,locN t s,[.list (acc++rAll (runRow t s))]):=by
 have hF:=for_acc (tg:=.name 35) (body:=fun loc led'=>evSs (cxK X (k+1)) [47] 1 rBody loc led') (loc:=locN t s) (led0:=[]) (mk:=fun i:Nat=>D.int (i:Int)) (f:=fun p=>rAll (runAt t s p)) (List.range (t.length-2*s+1)) acc 4096 (by rw[List.length_range];(revert hl;exact z2 0xffc2008480058350516115c074d400)) (by rw[rAll_flat];exact ha) (fun p hp acc ha=>by
  have hp:=List.mem_range.mp hp
  refine⟨_,_,_,rfl,run_turn (by(revert hl;exact z1 0xffc21a540a4d400)) hs (by(revert h2 hp;exact z3 0x7fe10846215c34506a0a043f08422b88c208ae0)) (by unfold rAll at ha;rw[List.length_map] at ha;exact ha),rfl⟩)
 rw[rAll_flat] at hF
 have i1:=addI_e (cx:=cxK X (k+1)) (loc:=locN t s) (led:=[.list acc]) (e2:=.lit (.int 1)) (b:=1) (subI_e (len_e (t:=t) (x:=31) rfl (by(revert hl;exact z1 0x3ff084032580a4d400))) (mul2_e (e2:=.name 42) (b:=s) rfl) h2) rfl
 have hsrc:srcOf 1 [.list acc] .range [dI ((t.length-2*s+1:Nat):Int)]=some (.fz ((List.range (t.length-2*s+1)).map fun i:Nat=>D.int (i:Int))):=srcR1 (rng0 (b:=t.length-2*s+1) (by(revert hl;exact z2 0x3ff08021a54350514115c074d400)))
 exact(seq1 ((for_eq (es0 i1) hsrc).trans hF)).trans rfl
theorem sum_le{α:Type}{g:α→Nat}{c:Nat}:∀ l:List α,(∀ x∈l,g x≤c)→(l.map g).sum≤l.length*c
 | [],_=>Nat.zero_le _
 | x::l,h=>by
  have h1:=sum_le l fun y hy=>h y (.tail _ hy)
  have h2:=h x (.head _)
  rw[List.map_cons,List.sum_cons,List.length_cons,Nat.succ_mul];(revert h1 h2;exact z4 0x3ff0842315020a286000820)
theorem runL_len(hl:t.length≤9):(rAll (runL t)).length≤40:=by
 unfold rAll runL
 rw[List.length_map,List.length_flatMap]
 refine Nat.le_trans (sum_le (c:=10) _ fun i _=>Nat.le_trans (runRow_len t (1+i)) (by(revert hl;exact z1 0x7fe10aaa1a828a4d400))) ?_
 rw[List.length_range]
 exact Nat.mul_le_mul_right 10 (Nat.div_le_div_right (c:=2) hl)
theorem runs_ok(hl:t.length≤9):R X (k+2) 22 [dS (tS t)] []=some (.ref 0,[.list (rAll (runL t))]):=by
 have hlen:=runL_len hl
 have hF:=for_acc (tg:=.name 42) (body:=fun loc led'=>evSs (cxK X (k+1)) [47] 1 [.for (.name 35) .range [(.bin .add (.bin .sub (.bi .len [(.name 31)]) (.bin .mul (.lit (.int 2)) (.name 42))) (.lit (.int 1)))] rBody] loc led') (loc:=[(31,dS (tS t)),(47,.ref 0)]) (led0:=[]) (mk:=fun i:Nat=>D.int ((1+i:Nat):Int)) (f:=fun i=>rAll (runRow t (1+i))) (List.range (t.length / 2)) [] 4096 (by rw[List.length_range];(revert hl;exact z1 0x7fe100444002c0580484d400)) (by rw[rAll_flat,List.length_nil];exact Nat.le_trans (Nat.le_of_eq (Nat.zero_add _)) (Nat.le_trans hlen (by decide))) (fun i hi acc ha=>by
  have hi:=List.mem_range.mp hi
  exact⟨_,_,_,rfl,row_ok hl (by exact z1 0x3ff08035a06aa) (by(revert hi;exact z2 0x7fe1104410d682ba80108448)) ha,rfl⟩)
 rw[rAll_flat] at hF
 have e0:evS (cxK X (k+1)) [47] 0 (.assign (.name 47) (.list [])) [(31,dS (tS t))] []=some (.nx,[(31,dS (tS t)),(47,.ref 0)],[.list []]):=assign1 (l1:=[.list []]) (b:=⟨1,[(31,dS (tS t)),(47,.ref 0)],[.list []]⟩) rfl rfl
 have i1:=half_e (cx:=cxK X (k+1)) (len_e (loc:=[(31,dS (tS t)),(47,.ref 0)]) (led:=[.list []]) (t:=t) (x:=31) rfl (by(revert hl;exact z1 0x3ff084032580a4d400)))
 have hr:=rng_up (a:=1) (b:=t.length / 2+1) (by decide) (by(revert hl;exact z1 0xffc2008a950d414500484d400))
 have hsrc:srcOf 1 [.list []] .range [dI 1,dI ((t.length / 2+1:Nat):Int)]=some (.fz ((List.range (t.length / 2)).map fun i=>D.int ((1+i:Nat):Int))):=by
  rw[Nat.add_sub_cancel] at hr
  exact srcR2 hr
 exact R_step (fn:=m2f22) (loc:=[(31,dS (tS t))]) (fl:=.ret (.ref 0)) rfl rfl ((seq1 e0).trans ((seq1 ((for_eq (cx:=cxK X (k+1)) (mu:=[47]) (n₀:=0) (loc:=[(31,dS (tS t)),(47,.ref 0)]) (led:=[.list []]) (vs:=[dI 1,dI ((t.length / 2+1:Nat):Int)]) (l1:=[.list []]) (src:=.fz ((List.range (t.length / 2)).map fun i=>D.int ((1+i:Nat):Int))) (es1 (l1:=[.list []]) rfl (es0 i1)) hsrc).trans hF)).trans (seqR (ret1 (name_e rfl))))) rfl
end
end
section
noncomputable def rnd(t:List Nat)(i:Nat):Nat:=((List.range (t.length-i)).find? fun s=>decide (t.drop (i+s)<t.drop i)).getD t.length
theorem rnd_spec{t:List Nat}{i:Nat}:(rnd t i=t.length∨(i+rnd t i<t.length∧t.drop (i+rnd t i)<t.drop i))∧rnd t i≤t.length∧∀ s,i+s<t.length→t.drop (i+s)<t.drop i→rnd t i≤s:=by
 unfold rnd
 cases h:(List.range (t.length-i)).find? fun s=>decide (t.drop (i+s)<t.drop i) with
 | none=>
  refine⟨.inl rfl,Nat.le_refl _,fun s h1 h2=>?_⟩
  have:=List.find?_eq_none.mp h s (List.mem_range.mpr (by(revert h1;exact z3 0xffc21004015fc21104c100a81)))
  exact absurd (decide_eq_true h2) this
 | some s=>
  obtain⟨h1,h2,h3⟩:=List.find?_range_eq_some.mp h
  have h2:=List.mem_range.mp h2
  refine⟨.inr ⟨by show i+s<_;(revert h2;exact z3 0x1ff8401f8421f0c41a2c0208047),of_decide_eq_true h1⟩,by show s≤_;(revert h2;exact z3 0x3ff084220a80108827),fun r h4 h5=>?_⟩
  refine Nat.le_of_not_lt fun h6=>?_
  have:=h3 r h6
  rw[decide_eq_true h5] at this
  exact absurd this (by decide)
noncomputable def minL:List Int→Int
 | []=>0
 | x::xs=>minZ x xs
theorem minZ_spec:∀ (l:List Int) (x:Int),minZ x l∈x::l∧∀ z∈x::l,minZ x l≤z
 | [],x=>⟨.head _,fun z h=>by cases h with | head=>exact Int.le_refl _ | tail _ h=>cases h⟩
 | y::l,x=>by
  obtain⟨h1,h2⟩:=minZ_spec l (if y<x then y else x)
  show minZ (if y<x then y else x) l∈_∧∀ z∈_,minZ (if y<x then y else x) l≤z
  revert h1 h2
  by_cases hy:y<x
  ·rw[if_pos hy]
   intro h1 h2
   refine⟨.tail _ h1,fun z hz=>?_⟩
   rcases List.mem_cons.mp hz with rfl | hz
   ·exact Int.le_trans (h2 y (.head _)) (Int.le_of_lt hy)
   ·exact h2 z hz
  ·rw[if_neg hy]
   intro h1 h2
   refine⟨(List.mem_cons.mp h1).elim (fun e=>by rw[e];exact .head _) fun e=>.tail _ (.tail _ e),fun z hz=>?_⟩
   rcases List.mem_cons.mp hz with rfl | hz
   ·exact h2 z (.head _)
   ·rcases List.mem_cons.mp hz with rfl | hz
    ·exact Int.le_trans (h2 x (.head _)) (Int.not_lt.mp hy)
    ·exact h2 z (.tail _ hz)
theorem minL_spec{l:List Int}(h:l≠[]):minL l∈l∧∀ z∈l,minL l≤z:=by
 cases l with
 | nil=>exact absurd rfl h
 | cons x l=>exact minZ_spec l x
theorem min_m{led:Led}{n:Nat}{is:List Int}(h:led[n]?=some (.list (is.map .int)))(h0:is≠[]):evBi led .min [.ref n]=some (dI (minL is),led):=by
 have e:∀ is:List Int,intsOf (is.map .int)=some is:=fun is=>by
  induction is with
  | nil=>rfl
  | cons x is ih=>exact(bindF (a:=x) rfl).trans (mapF ih)
 refine(bindF (a:=is) ((bindF (a:=is.map .int) (bindF (f:=O.list?) h)).trans (e is))).trans ?_
 cases is with
 | nil=>exact absurd rfl h0
 | cons x is=>rfl
theorem rev_all:((List.range 21).map fun n=>sliceRange (sliceBounds none none (some (-1)) n).1 (sliceBounds none none (some (-1)) n).2.1 (sliceBounds none none (some (-1)) n).2.2)=mapR (fun n=>(List.range n).reverse) (List.range 21):=by kernel_rfl
theorem pick_rev{xs:List D}(h:xs.length≤20):pickD xs none none (some (-1))=xs.reverse:=by
 unfold pickD
 rw[mapAt rev_all xs.length (List.mem_range.mpr (by(revert h;exact z1 0xffc21ad40ba5400))),List.filterMap_reverse]
 have:=range_pick xs 0 xs.length (by exact z1 0x1ff84000568a)
 rw[List.drop_zero,List.take_length] at this
 refine congrArg List.reverse (Eq.trans ?_ this)
 rw[List.map_congr_left (g:=id) (fun k _=>Nat.zero_add k),List.map_id]
theorem down_all:((List.range 21).map fun n:Nat=>rng ((n:Int)-1) (-1) (-1))=mapR (fun n=>some ((List.range n).reverse.map fun i:Nat=>D.int (i:Int))) (List.range 21):=by kernel_rfl
theorem rng_down{n:Nat}(h:n≤20):rng ((n:Int)-1) (-1) (-1)=some ((List.range n).reverse.map fun i:Nat=>D.int (i:Int)):=mapAt down_all n (List.mem_range.mpr (by(revert h;exact z1 0xffc21ad40ba5400)))
section
variable{X:Tab}{k:Nat}{t:List Nat}{o:O}{ys:List Str}{acc:List D}{i:Nat}
def RowOk(t:List Nat)(ys:List Str)(i:Nat):Prop:=SortedS ys∧ys.length+i=t.length∧∀ y,y∈ys↔∃ q,i≤q∧q<t.length∧y=tS (t.drop q)
theorem RowOk.ins(h:RowOk t ys (i+1)):RowOk t (insR (tS (t.drop i)) ys) i:=by
 obtain⟨h1,h2,h3⟩:=h
 refine⟨insR_sorted h1,by rw[insR_length];(revert h2;exact z3 0x7c200fc21104350528c106a1a0282),fun y=>?_⟩
 rw[(insR_perm _ _).mem_iff,List.mem_cons,h3]
 constructor
 ·rintro (rfl | ⟨q,q1,q2,q3⟩)
  ·exact⟨i,Nat.le_refl _,by(revert h2;exact z3 0x7fe10840b086a0a0a82),rfl⟩
  ·exact⟨q,by(revert q1;exact z2 0x1ff842102821a8280),q2,q3⟩
 ·rintro ⟨q,q1,q2,q3⟩
  by_cases e:q=i
  ·exact .inl (e▸q3)
  ·exact .inr ⟨q,by(revert q1 e;exact z2 0x1ff843f0803e086a0a280128400),q2,q3⟩
theorem less_mem(h:RowOk t ys i){x:Str}{y:Str}:y∈ys.take (cntL x ys)↔ltS y x∧y∈ys:=by
 obtain⟨p1,p2,p3⟩:=parts_L (x:=x) h.1
 constructor
 ·intro hy
  refine⟨?_,List.mem_of_mem_take hy⟩
  obtain⟨j,hj,rfl⟩:=List.mem_iff_getElem.mp hy
  have hj':=hj
  rw[List.length_take] at hj'
  rw[List.getElem_take]
  exact p2 j (by(revert hj';exact z3 0x7fe1004220ac0108450)) (by(revert hj';exact z3 0x3ff084220ac0108830))
 ·rintro ⟨h1,h2⟩
  obtain⟨j,hj,rfl⟩:=List.mem_iff_getElem.mp h2
  have hlt:j<cntL x ys:=Nat.lt_of_not_le fun q=>p3 j hj q h1
  exact List.mem_iff_getElem.mpr ⟨j,by rw[List.length_take];exact Nat.lt_min.mpr ⟨hlt,hj⟩,List.getElem_take⟩
noncomputable def cand(t:List Nat)(ys:List Str)(i:Nat):List Int:=((ys.take (cntL (tS (t.drop i)) ys)).map fun y=>((t.length-i:Nat):Int)-(y.length:Int))++[(t.length:Int)]
theorem cand_min(h:RowOk t ys i):minL (cand t ys i)=rnd t i:=by
 obtain⟨r1,r2,r3⟩:=rnd_spec (t:=t) (i:=i)
 have hne:cand t ys i≠[]:=fun e=>by
  have:=congrArg List.length e
  unfold cand at this
  rw[List.length_append] at this
  exact absurd this (Nat.succ_ne_zero _)
 obtain⟨m1,m2⟩:=minL_spec hne
 have hl:∀ q,q≤t.length→(tS (t.drop q)).length=t.length-q:=fun q _=>List.length_drop
 apply Int.le_antisymm
 ·apply m2
  unfold cand
  rcases r1 with e | ⟨e1,e2⟩
  ·rw[e];exact List.mem_append_right _ (.head _)
  ·refine List.mem_append_left _ (List.mem_map.mpr ⟨tS (t.drop (i+rnd t i)),(less_mem h).mpr ⟨e2,(h.2.2 _).mpr ⟨_,Nat.le_add_right _ _,e1,rfl⟩⟩,?_⟩)
   rw[hl _ (Nat.le_of_lt e1),Nat.sub_add_eq,←Int.ofNat_sub (Nat.sub_le _ _),Nat.sub_sub_self (Nat.le_sub_of_add_le' (Nat.le_of_lt e1))]
 ·revert m1
  generalize minL (cand t ys i)=m
  intro m1
  rcases List.mem_append.mp m1 with hm | hm
  ·obtain⟨y,hy,rfl⟩:=List.mem_map.mp hm
   obtain⟨y1,y2⟩:=(less_mem h).mp hy
   obtain⟨q,q1,q2,rfl⟩:=(h.2.2 _).mp y2
   have:=r3 (q-i) (by(revert q1 q2;exact z3 0xffc20084600d17f080200984108400)) (by rw[Nat.add_sub_cancel' q1];exact y1)
   rw[hl _ (Nat.le_of_lt q2),←Int.ofNat_sub (Nat.sub_le_sub_left q1 _)];exact Int.ofNat_le.mpr (by(revert q2 this;exact z4 0x1ff840000000087e10800108021f77a0228013fc200000009466188e00804338461))
  ·rw[List.mem_singleton.mp hm];exact Int.ofNat_le.mpr r2
noncomputable def locR(t:List Nat):UK.Loc:=[(36,dS (tS t)),(33,.ref 1),(34,.ref 2)]
noncomputable def locR2(t:List Nat)(i:Nat):UK.Loc:=[(36,dS (tS t)),(33,.ref 1),(34,.ref 2),(35,dI i),(37,dS (tS (t.drop i)))]
noncomputable def rElt:E:=.bin .sub (.bi .len [(.name 37)]) (.bi .len [(.name 39)])
noncomputable def rCat:E:=.bin .add (.comp rElt (.name 39) .e [(.name 38)] [] [37]) (.list [(.bi .len [(.name 36)])])
noncomputable def rS2:UK.S:=.ite (.cmp (.call 8 [(.name 33),(.name 37)]) .isnot (.lit .none)) [.ret (.bin .mul (.list [(.bi .len [(.name 36)])]) (.bi .len [(.name 36)]))] []
noncomputable def rS3:UK.S:=.assign (.name 38) (.slice (.name 33) (.lit .none) (.call 10 [(.name 33),(.name 37)]) (.lit .none))
noncomputable def rBod:List UK.S:=[.assign (.name 37) (.slice (.name 36) (.name 35) (.lit .none) (.lit .none)),rS2,rS3,.expr (.meth .append (.name 34) [(.bi .min [rCat])])]
theorem pick_take{xs:List D}{p:Nat}(h:p≤xs.length):pickD xs none (some (p:Int)) none=xs.take p:=by
 rw[pickD_nat (a:=0) (b:=p) (by
  unfold sliceBounds
  simp only[Option.getD_none,show ¬((p:Int)<0) from Int.not_lt.mpr (Int.natCast_nonneg p),if_false]
  rw[show min (p:Int) xs.length=p from Int.min_eq_left (Int.ofNat_le.mpr h)]
  simp) h,List.drop_zero,Nat.sub_zero]
theorem cat_l{led:Led}{n m:Nat}{xs ys:List D}(h1:led[n]?=some (.list xs))(h2:led[m]?=some (.list ys))(h:xs.length+ys.length≤cap):evBin led .add (.ref n) (.ref m)=some (.ref led.length,led++[.list (xs++ys)]):=by
 show (Led.list led (.ref n)).bind (fun xs=>(Led.list led (.ref m)).bind fun ys=>gd (xs.length+ys.length≤cap) (some (V.ref led.length,led++[O.list (xs++ys)])))=_
 exact(bindF (bindF (f:=O.list?) h1)).trans ((bindF (bindF (f:=O.list?) h2)).trans (gdF h))
theorem slice_l{led:Led}{n p:Nat}{xs:List D}(h:led[n]?=some (.list xs))(hp:p≤xs.length)(hl:xs.length≤100):evSlice led (.ref n) (.d .none) (dI p) (.d .none)=some (.ref led.length,led++[.list (xs.take p)]):=by
 refine(bindF (a:=D.none) rfl).trans ((bindF (a:=(none:Option Int)) rfl).trans ((bindF (a:=some (p:Int)) ((bindF (a:=D.int p) rfl).trans (gdF (by exact n100 (Nat.le_trans hp hl))))).trans ?_))
 refine(bindF (a:=xs) (bindF (f:=O.list?) h)).trans ((gdF (p:=xs.length≤cap) (Nat.le_trans hl (by decide))).trans ?_)
 rw[pick_take hp]
theorem round_turn(hl:t.length≤10)(hi:i<t.length)(h:RowOk t ys (i+1))(ha:acc.length≤20) :
  ∃ loc2 l2,evSs (cxK X (k+2)) [33,34] 3 rBod (locR t++[(35,dI i)]) [o,.list (strD ys),.list acc]=some (.nx,loc2,l2)∧trunc (locR t).length 3 loc2 l2=some (locR t,[o,.list (strD (insR (tS (t.drop i)) ys)),.list (acc++[.int (rnd t i)])]):=by
 have h':=h.ins
 have hlen:(insR (tS (t.drop i)) ys).length≤10:=by have:=h'.2.1;(revert hl this;exact z3 0x7fe10042aa81411028255420)
 have hys:ys.length≤10:=by have:=h.2.1;(revert hl this;exact z3 0x3ff080215540a086a2a028255420)
 have hx:evE (cxK X (k+2)) (.slice (.name 36) (.name 35) (.lit .none) (.lit .none)) (locR t++[(35,dI i)]) [o,.list (strD ys),.list acc]=some (dS (tS (t.drop i)),[o,.list (strD ys),.list acc]):=by
  have:=(slice_e (cx:=cxK X (k+2)) (loc:=locR t++[(35,dI i)]) (led:=[o,.list (strD ys),.list acc]) (a:=.name 36) (lo:=.name 35) (hi:=.lit .none) (st:=.lit .none) (x:=dS (tS t)) (y:=endV (some (i:Int))) (z:=endV none) (u:=.d .none) (l1:=[o,.list (strD ys),.list acc]) (l2:=[o,.list (strD ys),.list acc]) (l3:=[o,.list (strD ys),.list acc]) (l4:=[o,.list (strD ys),.list acc]) rfl rfl rfl rfl).trans
   (slice_m (a:=i) (b:=t.length) (fun j h=>by cases h;exact Z.r100 (by(revert hl hi;exact z2 0x3ff08420192c05040155420))) nofun (clipA_some (by(revert hi;exact z2 0x3ff0842050401))) rfl (by(revert hi;exact z2 0x3ff0842050401)) (Nat.le_refl _) (by(revert hl;exact z1 0x3ff084032580a55400)))
  rw[sub_drop] at this;exact this
 have s1:evS (cxK X (k+2)) [33,34] 3 (.assign (.name 37) (.slice (.name 36) (.name 35) (.lit .none) (.lit .none))) (locR t++[(35,dI i)]) [o,.list (strD ys),.list acc]=some (.nx,locR2 t i,[o,.list (strD ys),.list acc]):=assignD hx rfl
 have hins:R X (k+2) 8 [.ref 1,dS (tS (t.drop i))] [o,.list (strD ys),.list acc]=some (.d .none,[o,.list (strD (insR (tS (t.drop i)) ys)),.list acc]):=insort_ok (j:=1) rfl (Nat.le_trans hys (by decide)) h.1
 have s2:evS (cxK X (k+2)) [33,34] 3 rS2 (locR2 t i) [o,.list (strD ys),.list acc]=some (.nx,locR2 t i,[o,.list (strD (insR (tS (t.drop i)) ys)),.list acc]):=
  (ite_f (cmp_e (op:=.isnot) (b:=.lit .none) (y:=.d .none) (r:=false) ((call_R (vs:=[.ref 1,dS (tS (t.drop i))]) (led':=[o,.list (strD ys),.list acc]) rfl).trans hins) rfl rfl) rfl).trans rfl
 have hm:=cand_min h'
 unfold cand at hm
 have hmem:=fun y=>(less_mem h' (x:=tS (t.drop i)) (y:=y)).mp
 have hcl:cntL (tS (t.drop i)) (insR (tS (t.drop i)) ys)≤(insR (tS (t.drop i)) ys).length:=List.length_filter_le _ _
 have hbl:R X (k+2) 10 [.ref 1,dS (tS (t.drop i))] [o,.list (strD (insR (tS (t.drop i)) ys)),.list acc]=some (dI (cntL (tS (t.drop i)) (insR (tS (t.drop i)) ys)),[o,.list (strD (insR (tS (t.drop i)) ys)),.list acc]):=bisL_ok (k:=k+1) ⟨rfl,rfl⟩ rfl (Nat.le_trans hlen (by decide)) h'.1 rfl
 have hrow:=h'.2.2
 suffices hh:∃ loc2 l2,evSs (cxK X (k+2)) [33,34] 3 [rS3,.expr (.meth .append (.name 34) [(.bi .min [rCat])])] (locR2 t i) [o,.list (strD (insR (tS (t.drop i)) ys)),.list acc]=some (.nx,loc2,l2)∧trunc (locR t).length 3 loc2 l2=some (locR t,[o,.list (strD (insR (tS (t.drop i)) ys)),.list (acc++[.int (rnd t i)])]) from by
  obtain⟨l,d,h1,h2⟩:=hh
  exact⟨l,d,(seq1 s1).trans ((seq1 s2).trans h1),h2⟩
 clear s1 hins s2 hx
 revert hm hlen hcl hbl hrow hmem
 generalize insR (tS (t.drop i)) ys=zs
 generalize cntL (tS (t.drop i)) zs=p
 intro hlen hm hmem hcl hbl hrow
 have hsl:(strD zs).length=zs.length:=List.length_map _
 have hS:=(slice_e (cx:=cxK X (k+2)) (loc:=locR2 t i) (a:=.name 33) (lo:=.lit .none) (hi:=.call 10 [(.name 33),(.name 37)]) (st:=.lit .none) (x:=.ref 1) (y:=.d .none) (z:=dI p) (u:=.d .none) rfl rfl ((call_R (vs:=[.ref 1,dS (tS (t.drop i))]) (led':=[o,.list (strD zs),.list acc]) rfl).trans hbl) rfl).trans (slice_l (n:=1) (xs:=strD zs) rfl (by(revert hcl hsl;exact z3 0x7fe1080210284110800)) (by(revert hlen hsl;exact z2 0x7fe100420192c05040255420)))
 have s3:evS (cxK X (k+2)) [33,34] 3 rS3 (locR2 t i) [o,.list (strD zs),.list acc]=some (.nx,locR2 t i++[(38,.lst ((strD zs).take p))],[o,.list (strD zs),.list acc]):=assign1 (b:=⟨4,locR2 t i++[(38,.lst ((strD zs).take p))],[o,.list (strD zs),.list acc]⟩) hS rfl
 have htk:(strD zs).take p=strD (zs.take p):=List.map_take.symm
 rw[htk] at s3
 have hc:=comp_fz (n:=3) (led0:=[o,.list (strD zs),.list acc]) (turn:=turnP (cxK X (k+2)) rElt (.name 39) [] [(37,dS (tS (t.drop i)))]) rfl (fun d=>d.str?.map fun y=>D.int (((t.drop i).length:Int)-(y.length:Int))) (strD (zs.take p)) [] 4096
  (by unfold strD;rw[List.length_map,List.length_take];(revert hlen;exact z2 0x7fe108024002c05841055420)) (by unfold strD;rw[List.length_nil,Nat.zero_add,List.length_map,List.length_take];exact Nat.lt_of_le_of_lt (show min p zs.length≤10 by(revert hlen;exact z2 0x1ff84200aaa05041055420)) (by decide)) (fun x hx ys'=>by
   obtain⟨y,hy,rfl⟩:=List.mem_map.mp hx
   obtain⟨q,q1,q2,rfl⟩:=(hrow y).mp (hmem y hy).2
   exact turn_pl (n:=3) (led0:=[o,.list (strD zs),.list acc]) (ys:=ys') rfl (turn_no rfl ((bin_e (op:=.sub) (len_e (t:=t.drop i) (x:=37) rfl (by rw[List.length_drop];(revert hl;exact z2 0x7fe100420192c05040755400))) (len_e (t:=t.drop q) (x:=39) rfl (by rw[List.length_drop];(revert hl;exact z2 0x7fe100420192c05040755400)))).trans rfl)))
 have hfm:(strD (zs.take p)).filterMap (fun d=>d.str?.map fun y=>D.int (((t.drop i).length:Int)-(y.length:Int)))=((zs.take p).map fun y=>((t.drop i).length:Int)-(y.length:Int)).map .int:=by
  unfold strD
  rw[List.filterMap_map,List.map_map,←List.filterMap_eq_map];rfl
 rw[List.nil_append,hfm] at hc
 have hE:=comp_eq (cx:=cxK X (k+2)) (loc:=locR2 t i++[(38,.lst (strD (zs.take p)))]) (led:=[o,.list (strD zs),.list acc]) (l1:=[o,.list (strD zs),.list acc]) (its:=[(.name 38)]) (caps:=[37]) (k:=.e) (vs:=[.lst (strD (zs.take p))]) (src:=.fz (strD (zs.take p))) rfl rfl hc
 have hN:=list_e (cx:=cxK X (k+2)) (as:=[(.bi .len [(.name 36)])]) (loc:=locR2 t i++[(38,.lst (strD (zs.take p)))]) (led:=[o,.list (strD zs),.list acc]++[.list (((zs.take p).map fun y=>((t.drop i).length:Int)-(y.length:Int)).map .int)]) (ds:=[.int t.length]) (es0 (len_e (t:=t) (x:=36) rfl (by(revert hl;exact z1 0x3ff084032580a55400)))) rfl
 have hcl2:(((zs.take p).map fun y=>((t.drop i).length:Int)-(y.length:Int)).map D.int).length≤10:=by rw[List.length_map,List.length_map,List.length_take];(revert hlen;exact z2 0x1ff84200aaa05041055420)
 revert hm hE hN hcl2
 rw[List.length_drop]
 generalize ((zs.take p).map fun y=>((t.length-i:Nat):Int)-(y.length:Int))=is
 intro hm hE hN hcl2
 have hC:evE (cxK X (k+2)) rCat (locR2 t i++[(38,.lst (strD (zs.take p)))]) [o,.list (strD zs),.list acc]=some (.ref 5,[o,.list (strD zs),.list acc,.list (is.map .int),.list [.int t.length],.list ((is++[(t.length:Int)]).map .int)]):=by
  refine(bin_e (op:=.add) hE hN).trans ?_
  refine(cat_l (n:=3) (m:=4) (xs:=is.map D.int) (ys:=[D.int t.length]) rfl rfl (Nat.le_trans (Nat.succ_le_succ hcl2) (by decide))).trans ?_
  rw[List.map_append];rfl
 have hM:=(bi_e (b:=.min) (es0 hC)).trans (min_m (n:=5) (is:=is++[(t.length:Int)]) rfl (fun e=>absurd (congrArg List.length e) (by rw[List.length_append];exact Nat.succ_ne_zero _)))
 rw[hm] at hM
 have hap:=(meth_e (m:=.append) (o:=.name 34) (v:=.ref 2) rfl (app_at rfl) (es0 hM)).trans (app_m (n:=2) (xs:=acc) (x:=.int (rnd t i)) rfl (Nat.lt_of_le_of_lt ha (by decide)))
 exact⟨_,_,(seq1 s3).trans ((seq1 (expr1 hap)).trans rfl),rfl⟩
theorem rounds_loop(hl:t.length≤10):∀ (i N:Nat) (ys:List Str) (acc:List D),i<N→RowOk t ys i→acc.length+i≤20 →
  ∃ zs,forLoop (.name 35) (fun loc led'=>evSs (cxK X (k+2)) [33,34] 3 rBod loc led') N (.fz ((List.range i).reverse.map fun i:Nat=>D.int (i:Int))) (locR t) [o,.list (strD ys),.list acc]=some (.nx,locR t,[o,.list (strD zs),.list (acc++(List.range i).reverse.map fun i=>D.int (rnd t i))])
 | i,0,_,_,h,_,_=>absurd h (Nat.not_lt_zero _)
 | 0,N+1,ys,acc,_,_,_=>⟨ys,by rw[show (List.range 0).reverse=[] from rfl,List.map_nil,List.map_nil,List.append_nil];rfl⟩
 | i+1,N+1,ys,acc,hN,h,ha=>by
  have hi:i<t.length:=by have:=h.2.1;(revert this;exact z3 0x7fe10840b086a0a0a82)
  obtain⟨l,d,e1,e2⟩:=round_turn (X:=X) (k:=k) (o:=o) hl hi h (acc:=acc) (by(revert ha;exact z2 0x1ff8434a8154a86a1a0280))
  obtain⟨zs,hz⟩:=rounds_loop hl i N _ (acc++[.int (rnd t i)]) (by(revert hN;exact z2 0xffc2108161a8681a8281)) h.ins (by rw[List.length_append];show acc.length+1+i≤20;omega)
  have er:(List.range (i+1)).reverse=i::(List.range i).reverse:=by rw[List.range_succ,List.reverse_append];rfl
  refine⟨zs,?_⟩
  rw[List.append_assoc] at hz
  rw[er,List.map_cons,List.map_cons]
  exact(for_step (t:=.name 35) (body:=fun loc led'=>evSs (cxK X (k+2)) [33,34] 3 rBod loc led') (N:=N) (loc:=locR t) (led:=[o,.list (strD ys),.list acc]) (x:=D.int (i:Int)) rfl e1 e2).trans hz
noncomputable def rndD(t:List Nat):List D:=(List.range t.length).map fun i=>D.int (rnd t i)
theorem rounds_ok(hl:t.length≤10):R X (k+3) 19 [dS (tS t)] [o]=some (.ref 1,[o,.list (rndD t)]):=by
 obtain⟨zs,hz⟩:=rounds_loop (X:=X) (k:=k) (o:=o) hl t.length 4096 [] [] (by(revert hl;exact z1 0x3ff084800580b55400)) ⟨sorted_nil,Nat.zero_add _,fun y=>⟨nofun,fun ⟨q,h1,h2,_⟩=>absurd (Nat.lt_of_lt_of_le h2 h1) (Nat.lt_irrefl _)⟩⟩ (by show 0+t.length≤20;(revert hl;exact z1 0x7fe10d2a00568a55400))
 rw[List.nil_append] at hz
 have e0:evS (cxK X (k+2)) [33,34] 1 (.assign (.tup [(.name 33),(.name 34)]) (.tuple [(.list []),(.list [])])) [(36,dS (tS t))] [o]=some (.nx,locR t,[o,.list [],.list []]):=rfl
 have i1:evE (cxK X (k+2)) (.bin .sub (.bi .len [(.name 36)]) (.lit (.int 1))) (locR t) [o,.list [],.list []]=some (dI ((t.length:Int)-1),[o,.list [],.list []]):=(bin_e (l2:=[o,.list [],.list []]) (y:=dI 1) (len_e (t:=t) (x:=36) rfl (by(revert hl;exact z1 0x3ff084032580a55400))) rfl).trans rfl
 have hr:=rng_down (n:=t.length) (by(revert hl;exact z1 0xffc21a540a55400))
 have hsrc:srcOf 3 [o,.list [],.list []] .range [dI ((t.length:Int)-1),dI (-1),dI (-1)]=some (.fz ((List.range t.length).reverse.map fun i:Nat=>D.int (i:Int))):=by
  show Option.map Src.fz (rng _ (-1) (-1))=_
  rw[hr];rfl
 have hF:=for_eq (cx:=cxK X (k+2)) (mu:=[33,34]) (n₀:=1) (t:=.name 35) (b:=rBod) (loc:=locR t) (led:=[o,.list [],.list []]) (l1:=[o,.list [],.list []]) (its:=[(.bin .sub (.bi .len [(.name 36)]) (.lit (.int 1))),(.neg (.lit (.int 1))),(.neg (.lit (.int 1)))]) (vs:=[dI ((t.length:Int)-1),dI (-1),dI (-1)]) (es1 i1 (es1 (l1:=[o,.list [],.list []]) (v:=dI (-1)) rfl rfl)) hsrc
 have hF:=hF.trans hz
 have hpick:evSlice [o,.list (strD zs),.list ((List.range t.length).reverse.map fun i=>D.int (rnd t i))] (.ref 2) (.d .none) (.d .none) (dI (-1))=some (.ref 3,[o,.list (strD zs),.list ((List.range t.length).reverse.map fun i=>D.int (rnd t i)),.list (rndD t)]):=by
  have hlen:((List.range t.length).reverse.map fun i=>D.int (rnd t i)).length≤20:=by rw[List.length_map,List.length_reverse,List.length_range];(revert hl;exact z1 0xffc21a540a55400)
  have hp:=pick_rev hlen
  rw[←List.map_reverse,List.reverse_reverse] at hp
  revert hp hlen
  generalize ((List.range t.length).reverse.map fun i=>D.int (rnd t i))=rs
  intro hlen hp
  refine(bindF (a:=D.int (-1)) rfl).trans ((gdF rfl).trans ((bindF (a:=(none:Option Int)) rfl).trans ((bindF (a:=(none:Option Int)) rfl).trans ((gdF ⟨rfl,rfl⟩).trans ((bindF (a:=rs) rfl).trans ((gdF (p:=rs.length≤cap) (Nat.le_trans hlen (by decide))).trans ?_))))))
  rw[hp];rfl
 have hR:=(slice_e (cx:=cxK X (k+2)) (loc:=locR t) (led:=[o,.list (strD zs),.list ((List.range t.length).reverse.map fun i=>D.int (rnd t i))]) (a:=.name 34) (lo:=.lit .none) (hi:=.lit .none) (st:=.neg (.lit (.int 1))) (x:=.ref 2) (y:=.d .none) (z:=.d .none) (u:=dI (-1)) rfl rfl rfl rfl).trans hpick
 exact R_step (fn:=m2f19) (loc:=[(36,dS (tS t))]) (fl:=.ret (.ref 3)) rfl rfl ((seq1 e0).trans ((seq1 hF).trans (seqR (ret1 hR)))) rfl
end
end
section
noncomputable def tp(lo:Bool)(t:List Nat):List Nat:=cond lo t (t.map mir)
noncomputable def nm(lo:Bool)(p:Nat):Nat:=cond lo 97 65+p
noncomputable def nmz(lo:Bool):List Nat:=(List.range 9).map (nm lo)
noncomputable def valS(r:Run):List Nat:=[48+r.1,48+r.2.1,48+r.2.2]
noncomputable def entP(lo:Bool)(p:Nat)(r:Run):Str × Str:=(tS [nm lo p],tS (valS r))
noncomputable def upE(t:List Nat)(r:Run):Bool:=r.2.1==t.length || decide (t.getD r.2.1 0<t.getD (r.2.1-r.2.2) 0)
noncomputable def plcE(p:Nat)(r:Run):Bool:=decide (r.1<p)&&decide (p≤r.2.1-r.2.2)
noncomputable def dueAt(t:List Nat)(lo:Bool)(p:Nat)(r:Run):Bool:=plcE p r&&(isLst (sub (tp lo t) p (p+r.2.2))&&(lo==upE t r))
noncomputable def dueRow(t:List Nat)(lo:Bool)(rs:List Run)(p:Nat):List (Str × Str):=rs.flatMap fun r=>cond (dueAt t lo p r) [entP lo p r] []
noncomputable def dueSide(t:List Nat)(rs:List Run)(lo:Bool):List (Str × Str):=(List.range t.length).flatMap (dueRow t lo rs)
noncomputable def dueP(t:List Nat)(rs:List Run):List (Str × Str):=[true,false].flatMap (dueSide t rs)
def RunOk(t:List Nat)(r:Run):Prop:=r.1+2*r.2.2≤r.2.1∧r.2.1≤t.length∧1≤r.2.2
theorem digit_all(led:Led):((List.range 10).map fun i:Nat=>evBi led .str [dI i])=mapR (fun i=>some (ch (48+i),led)) (List.range 10):=by kernel_rfl
theorem str_e{cx:Cx}{loc:UK.Loc}{led:Led}{e:E}{a:Nat}(h:evE cx e loc led=some (dI a,led))(ha:a≤9):evE cx (.bi .str [e]) loc led=some (ch (48+a),led):=(bi_e (es0 h)).trans (mapAt (digit_all led) a (List.mem_range.mpr (by(revert ha;exact z1 0xffc215540b4d400))))
theorem val_e{cx:Cx}{loc:UK.Loc}{led:Led}{e1 e2 e3:E}{r:Run}(h1:evE cx e1 loc led=some (dI r.1,led))(h2:evE cx e2 loc led=some (dI r.2.1,led))(h3:evE cx e3 loc led=some (dI r.2.2,led))(l1:r.1≤9)(l2:r.2.1≤9)(l3:r.2.2≤9) :
  evE cx (.bin .add (.bin .add (.bi .str [e1]) (.bi .str [e2])) (.bi .str [e3])) loc led=some (dS (tS (valS r)),led):=
 (bin_e ((bin_e (str_e h1 l1) (str_e h2 l2)).trans (addS (a:=[48+r.1]) (b:=[48+r.2.1]) (show 2≤100 by decide))) (str_e h3 l3)).trans (addS (a:=[48+r.1,48+r.2.1]) (b:=[48+r.2.2]) (show 3≤100 by decide))
theorem chLt{led:Led}{a b:Nat}:evCmp led .lt (ch a) (ch b)=some (decide (a<b)):=by
 show some (decide ([a]<[b]))=_
 rw[decide_eq_decide.mpr (show ([a]<[b])↔a<b from by rw[List.cons_lt_cons_iff];exact⟨fun h=>h.elim id fun h=>absurd h.2 (List.not_lt_nil []),.inl⟩)]
theorem cmp2_e{cx:Cx}{loc:UK.Loc}{led l1 l2:Led}{a b c:E}{op op':Cm}{x y z:V}{p q:Bool}(h1:evE cx a loc led=some (x,l1))(h2:evE cx b loc l1=some (y,l2))(h3:evCmp l2 op x y=some p)(h4:evE cx c loc l2=some (z,l2))(h5:evCmp l2 op' y z=some q) :
  evE cx (.cmp2 a op b op' c) loc led=some (.d (.bool (p&&q)),l2):=(bindF h1).trans ((bindF h2).trans ((bindF h3).trans (by
 cases p with
 | true=>exact(bindF h4).trans (mapF h5)
 | false=>rfl)))
theorem boolEq{led:Led}{a b:Bool}:evCmp led .eq (.d (.bool a)) (.d (.bool b))=some (a==b):=rfl
theorem tp_len{lo:Bool}{t:List Nat}:(tp lo t).length=t.length:=by cases lo;exact List.length_map _;rfl
theorem nmz_get{lo:Bool}{p:Nat}(h:p<9):(nmz lo)[p]?=some (nm lo p):=by
 unfold nmz
 rw[List.getElem?_map,List.getElem?_range h];rfl
section
variable{X:Tab}{k:Nat}{t:List Nat}{p:Nat}{r:Run}{lo:Bool}{rs:List Run}
noncomputable def locE(t:List Nat)(rs:List Run)(lo:Bool)(p:Nat)(r:Run):UK.Loc:=[(31,dS (tS t)),(47,.lst (rAll rs)),(48,.ref 0),(36,dS (tS (tp lo t))),(45,dS (tS (nmz lo))),(49,.d (.bool lo)),(35,dI p),(40,dI r.1),(41,dI r.2.1),(42,dI r.2.2)]
noncomputable def eC1:E:=.cmp2 (.name 40) .lt (.name 35) .le (.bin .sub (.name 41) (.name 42))
noncomputable def eL:E:=.call 23 [(.slice (.name 36) (.name 35) (.bin .add (.name 35) (.name 42)) (.lit .none))]
noncomputable def eUp:E:=.or (.cmp (.name 41) .eq (.bi .len [(.name 31)])) (.cmp (.index (.name 31) (.name 41)) .lt (.index (.name 31) (.bin .sub (.name 41) (.name 42))))
noncomputable def eApp:E:=.meth .append (.name 48) [(.tuple [(.index (.name 45) (.name 35)),(.bin .add (.bin .add (.bi .str [(.name 40)]) (.bi .str [(.name 41)])) (.bi .str [(.name 42)]))])]
noncomputable def eIf:UK.S:=.ite (.and eC1 eL) [.ite (.cmp (.name 49) .eq eUp) [.expr eApp] []] []
theorem up_e{led:Led}(hl:t.length≤9)(hr:RunOk t r):evE (cxK X (k+1)) eUp (locE t rs lo p r) led=some (.d (.bool (upE t r)),led):=by
 obtain⟨r1,r2,r3⟩:=hr
 have h1:=cmp_e (cx:=cxK X (k+1)) (loc:=locE t rs lo p r) (a:=.name 41) (op:=.eq) (x:=dI r.2.1) (l1:=led) rfl (len_e (t:=t) (x:=31) (led:=led) rfl (by(revert hl;exact z1 0x3ff084032580a4d400))) eqI
 unfold upE
 cases h:r.2.1==t.length with
 | true=>
  rw[h] at h1
  exact or_t h1 rfl
 | false=>
  rw[h] at h1
  have hlt:r.2.1<t.length:=by have:=beq_eq_false_iff_ne.mp h;(revert r2 this;exact z2 0x3ff0803f087c102c2028400)
  have g1:t[r.2.1]?=some (t[r.2.1]'hlt):=List.getElem?_eq_getElem _
  have g2:t[r.2.1-r.2.2]?=some (t[r.2.1-r.2.2]'(Nat.lt_of_le_of_lt (Nat.sub_le _ _) hlt)):=List.getElem?_eq_getElem _
  have h2:=cmp_e (cx:=cxK X (k+1)) (loc:=locE t rs lo p r) (led:=led) (index_e (a:=.name 31) (i:=.name 41) (name_e rfl) (name_e rfl) (idxS g1 (by(revert hl;exact z1 0x3ff084032580a4d400)))) (index_e (a:=.name 31) (x:=dS (tS t)) (name_e rfl) (subI_e (e1:=.name 41) (e2:=.name 42) (a:=r.2.1) (b:=r.2.2) rfl rfl (by omega)) (idxS g2 (by(revert hl;exact z1 0x3ff084032580a4d400)))) chLt
  rw[List.getD_eq_getElem?_getD,List.getD_eq_getElem?_getD,g1,g2]
  exact(or_f h1 rfl).trans h2
theorem due_turn(hl:t.length≤9)(hp:p<t.length)(hr:RunOk t r){acc:List D}(ha:acc.length+(dL (cond (dueAt t lo p r) [entP lo p r] [])).length≤1000) :
  evSs (cxK X (k+1)) [48] 1 [eIf] (locE t rs lo p r) [.list acc]=some (.nx,locE t rs lo p r,[.list (acc++dL (cond (dueAt t lo p r) [entP lo p r] []))]):=by
 have hup:=up_e (X:=X) (k:=k) (t:=t) (p:=p) (lo:=lo) (rs:=rs) (led:=[.list acc]) hl hr
 obtain⟨r1,r2,r3⟩:=hr
 have hc1:evE (cxK X (k+1)) eC1 (locE t rs lo p r) [.list acc]=some (.d (.bool (plcE p r)),[.list acc]):=cmp2_e (x:=dI r.1) (y:=dI p) (l1:=[.list acc]) (l2:=[.list acc]) rfl rfl ltI (subI_e (e1:=.name 41) (e2:=.name 42) (a:=r.2.1) (b:=r.2.2) rfl rfl (by(revert r1;exact z3 0x3ff0882050402b8a80))) leI
 have hno:∀ ys:List (Str × Str),ys=[]→some (Fl.nx,locE t rs lo p r,[O.list acc])=some (Fl.nx,locE t rs lo p r,[O.list (acc++dL ys)]):=fun ys h=>by rw[h];show _=some (_,_,[O.list (acc++[])]);rw[List.append_nil]
 unfold dueAt at ha ⊢
 have hand:=and_e (b:=eL) hc1
 cases h1:plcE p r with
 | false=>
  rw[h1] at hc1
  exact((seq1 ((ite_f' (and_f hc1 rfl) rfl).trans rfl)).trans rfl).trans (hno _ rfl)
 | true=>
  rw[h1] at hand ha
  have hand:=hand rfl
  obtain⟨q1,q2⟩:=Bool.and_eq_true_iff.mp h1
  have q1:=of_decide_eq_true q1
  have q2:=of_decide_eq_true q2
  have hle:evE (cxK X (k+1)) eL (locE t rs lo p r) [.list acc]=some (.d (.bool (isLst (sub (tp lo t) p (p+r.2.2)))),[.list acc]):=(call_R (es0 (sl_e (x:=36) (t:=tp lo t) (a:=p) (b:=p+r.2.2) rfl (name_e rfl) (addI_e (e1:=.name 35) (e2:=.name 42) rfl rfl) (by rw[tp_len];(revert hl;exact z1 0xffc21a540a4d400)) (by rw[tp_len];(revert r2 q2;exact z4 0x7fe100421105400806238440)) (by rw[tp_len];(revert r2 q1 q2;exact z5 0x3ff08001007e100001087c31068a0040119c0408860))))).trans
   (least_ok (by rw[sub_len (by rw[tp_len];(revert r2 q1 q2;exact z5 0x3ff08001007e100001087c31068a0040119c0408860))];(revert hl r2 q1 q2;exact z5 0x7fe1000200003f0840000001087d4a815f0000000021106860040119c04088604d440)) (by rw[sub_len (by rw[tp_len];(revert r2 q1 q2;exact z5 0x3ff08001007e100001087c31068a0040119c0408860))];(revert r3;exact z2 0x3ff08401002abf842008286086a0)))
  cases h2:isLst (sub (tp lo t) p (p+r.2.2)) with
  | false=>
   rw[h2] at hle
   exact((seq1 ((ite_f' (hand.trans hle) rfl).trans rfl)).trans rfl).trans (hno _ rfl)
  | true=>
   rw[h2] at hle ha
   have hq:=cmp_e (a:=.name 49) (op:=.eq) (x:=.d (.bool lo)) (l1:=[.list acc]) rfl hup boolEq
   cases h3:lo==upE t r with
   | false=>
    rw[h3] at hq
    exact((seq1 ((ite_t' (hand.trans hle) rfl).trans (seq1 ((ite_f' hq rfl).trans rfl)))).trans rfl).trans (hno _ rfl)
   | true=>
    rw[h3] at hq ha
    have ht:evE (cxK X (k+1)) (.tuple [(.index (.name 45) (.name 35)),(.bin .add (.bin .add (.bi .str [(.name 40)]) (.bi .str [(.name 41)])) (.bi .str [(.name 42)]))]) (locE t rs lo p r) [.list acc]=some (.d (pr (entP lo p r)),[.list acc]):=
     tuple_e (es1 (index_e (x:=dS (tS (nmz lo))) (y:=dI p) (name_e rfl) (name_e rfl) (idxS (nmz_get (by(revert hl r2 r3 q2;exact z4 0xffc210fc2108001087c9a85600806238c35004404d420))) (by cases lo <;> decide))) (es0 (val_e (r:=r) rfl rfl rfl (by(revert hl r2 q1 q2;exact z5 0x1ff8421004214d42a0100411c60084404d420)) (by(revert hl r2;exact z2 0xffc210a6a0504004d420)) (by(revert hl r2 q1 q2;exact z5 0x3ff08001007e1084000843e4d42a0140011c83084404d420))))) rfl
    have hap:=(meth_e (m:=.append) (o:=.name 48) (v:=.ref 0) rfl (app_at rfl) (es0 ht)).trans (app_m rfl (Nat.lt_of_lt_of_le (show acc.length<1001 by(revert ha;exact z2 0x3ff0841f4d80b07d1608280)) (by decide)))
    exact(seq1 ((ite_t' (hand.trans hle) rfl).trans (seq1 ((ite_t' hq rfl).trans ((seq1 (expr1 hap)).trans rfl))))).trans rfl
theorem dL_flat{α:Type}{g:α→List (Str × Str)}{l:List α}:(l.flatMap fun p=>dL (g p))=dL (l.flatMap g):=List.map_flatMap.symm
noncomputable def locE2(t:List Nat)(rs:List Run)(lo:Bool)(p:Nat):UK.Loc:=[(31,dS (tS t)),(47,.lst (rAll rs)),(48,.ref 0),(36,dS (tS (tp lo t))),(45,dS (tS (nmz lo))),(49,.d (.bool lo)),(35,dI p)]
noncomputable def locE1(t:List Nat)(rs:List Run)(lo:Bool):UK.Loc:=[(31,dS (tS t)),(47,.lst (rAll rs)),(48,.ref 0),(36,dS (tS (tp lo t))),(45,dS (tS (nmz lo))),(49,.d (.bool lo))]
noncomputable def locE0(t:List Nat)(rs:List Run):UK.Loc:=[(31,dS (tS t)),(47,.lst (rAll rs)),(48,.ref 0)]
noncomputable def dBod1:List UK.S:=[.for (.tup [(.name 40),(.name 41),(.name 42)]) .e [(.name 47)] [eIf]]
noncomputable def dBod0:List UK.S:=[.for (.name 35) .range [(.bi .len [(.name 31)])] dBod1]
theorem due_row(hl:t.length≤9)(hp:p<t.length)(hr:∀ r∈rs,RunOk t r)(hrs:rs.length≤100){acc:List D}(ha:acc.length+(dL (dueRow t lo rs p)).length≤1000) :
  evSs (cxK X (k+1)) [48] 1 dBod1 (locE2 t rs lo p) [.list acc]=some (.nx,locE2 t rs lo p,[.list (acc++dL (dueRow t lo rs p))]):=by
 have hF:=for_acc (tg:=.tup [(.name 40),(.name 41),(.name 42)]) (body:=fun loc led'=>evSs (cxK X (k+1)) [48] 1 [eIf] loc led') (loc:=locE2 t rs lo p) (led0:=[]) (mk:=rD) (f:=fun r=>dL (cond (dueAt t lo p r) [entP lo p r] [])) rs acc 4096 (by(revert hrs;exact z1 0xffc212001602c0325800)) (by rw[dL_flat];exact ha) (fun r h acc ha=>⟨_,_,_,rfl,due_turn (rs:=rs) hl hp (hr r h) ha,rfl⟩)
 rw[dL_flat] at hF
 exact(seq1 ((for_eq (cx:=cxK X (k+1)) (mu:=[48]) (n₀:=1) (loc:=locE2 t rs lo p) (led:=[.list acc]) (l1:=[.list acc]) (vs:=[.lst (rAll rs)]) (its:=[(.name 47)]) (k:=.e) (src:=.fz (rAll rs)) rfl rfl).trans hF)).trans rfl
theorem dueRow_len:(dueRow t lo rs p).length≤rs.length:=by
 unfold dueRow
 rw[List.length_flatMap]
 refine Nat.le_trans (sum_le (c:=1) rs fun r _=>?_) (by exact z1 0xffc200070a)
 cases dueAt t lo p r;exact Nat.zero_le _;exact Nat.le_refl _
theorem dueSide_len:(dueSide t rs lo).length≤t.length*rs.length:=by
 unfold dueSide
 rw[List.length_flatMap]
 refine Nat.le_trans (sum_le (c:=rs.length) _ fun p _=>dueRow_len) ?_
 rw[List.length_range];exact Nat.le_refl _
theorem due_side(hl:t.length≤9)(hr:∀ r∈rs,RunOk t r)(hrs:rs.length≤40){acc:List D}(ha:acc.length+(dL (dueSide t rs lo)).length≤1000) :
  evSs (cxK X (k+1)) [48] 1 dBod0 (locE1 t rs lo) [.list acc]=some (.nx,locE1 t rs lo,[.list (acc++dL (dueSide t rs lo))]):=by
 have hF:=for_acc (tg:=.name 35) (body:=fun loc led'=>evSs (cxK X (k+1)) [48] 1 dBod1 loc led') (loc:=locE1 t rs lo) (led0:=[]) (mk:=fun i:Nat=>D.int (i:Int)) (f:=fun p=>dL (dueRow t lo rs p)) (List.range t.length) acc 4096 (by rw[List.length_range];(revert hl;exact z1 0x3ff084800580b4d400)) (by rw[dL_flat];exact ha) (fun p hp acc ha=>⟨_,_,_,rfl,due_row hl (List.mem_range.mp hp) hr (by(revert hrs;exact z1 0xffc2100c960280145800)) ha,rfl⟩)
 rw[dL_flat] at hF
 exact(seq1 ((for_eq (cx:=cxK X (k+1)) (mu:=[48]) (n₀:=1) (loc:=locE1 t rs lo) (led:=[.list acc]) (l1:=[.list acc]) (vs:=[dI t.length]) (k:=.range) (es0 (len_e (t:=t) (x:=31) rfl (by(revert hl;exact z1 0x3ff084032580a4d400)))) (srcR1 (rng0 (by(revert hl;exact z1 0xffc21a540a4d400))))).trans hF)).trans rfl
noncomputable def tapeD(t:List Nat)(lo:Bool):D:=.tup [.str (tS (tp lo t)),.str (tS (nmz lo)),.bool lo]
theorem due_ok(ht:∀ c∈t,c∈FIL)(hl:t.length≤9)(hr:∀ r∈rs,RunOk t r)(hrs:rs.length≤40):R X (k+2) 24 [dS (tS t),.lst (rAll rs)] []=some (.ref 0,[.list (dL (dueP t rs))]):=by
 have hlen:∀ lo,(dL (dueSide t rs lo)).length≤9*40:=fun lo=>by
  unfold dL
  rw[List.length_map]
  exact Nat.le_trans dueSide_len (Nat.mul_le_mul hl hrs)
 have hF:=for_acc (tg:=.tup [(.name 36),(.name 45),(.name 49)]) (body:=fun loc led'=>evSs (cxK X (k+1)) [48] 1 dBod0 loc led') (loc:=locE0 t rs) (led0:=[]) (mk:=tapeD t) (f:=fun lo=>dL (dueSide t rs lo)) [true,false] [] 4096 (by decide) (by
  have h1:=hlen true;have h2:=hlen false
  rw[List.flatMap_cons,List.flatMap_cons,List.length_append,List.length_append]
  show 0+(_+(_+0))≤_
  omega) (fun lo _ acc ha=>⟨_,_,_,rfl,due_side hl hr hrs ha,rfl⟩)
 rw[dL_flat] at hF
 have e0:evS (cxK X (k+1)) [48] 0 (.assign (.name 48) (.list [])) [(31,dS (tS t)),(47,.lst (rAll rs))] []=some (.nx,locE0 t rs,[.list []]):=assign1 (l1:=[.list []]) (b:=⟨1,locE0 t rs,[.list []]⟩) rfl rfl
 have hm:=mirror_ok (X:=X) (k:=k) (led:=[O.list []]) ht (by(revert hl;exact z1 0xffc21a540a4d400))
 have t1:evE (cxK X (k+1)) (.tuple [(.name 31),(.lit (.str ⟨#[97,98,99,100,101,102,103,104,105]⟩)),(.lit (.bool true))]) (locE0 t rs) [.list []]=some (.d (tapeD t true),[.list []]):=rfl
 have t2:evE (cxK X (k+1)) (.tuple [(.call 18 [(.name 31)]),(.lit (.str ⟨#[65,66,67,68,69,70,71,72,73]⟩)),(.lit (.bool false))]) (locE0 t rs) [.list []]=some (.d (tapeD t false),[.list []]):=
  tuple_e (vs:=[dS (tS (t.map mir)),dS (tS (nmz false)),.d (.bool false)]) (l1:=[.list []]) (es1 (l1:=[.list []]) ((call_R (vs:=[dS (tS t)]) (led':=[.list []]) rfl).trans hm) rfl) rfl
 have hL:evE (cxK X (k+1)) (.list [(.tuple [(.name 31),(.lit (.str ⟨#[97,98,99,100,101,102,103,104,105]⟩)),(.lit (.bool true))]),(.tuple [(.call 18 [(.name 31)]),(.lit (.str ⟨#[65,66,67,68,69,70,71,72,73]⟩)),(.lit (.bool false))])]) (locE0 t rs) [.list []]=some (.ref 1,[.list [],.list ([true,false].map (tapeD t))]):=
  list_e (l1:=[.list []]) (vs:=[.d (tapeD t true),.d (tapeD t false)]) (es1 t1 (es0 t2)) rfl
 exact R_step (fn:=m2f24) (loc:=[(31,dS (tS t)),(47,.lst (rAll rs))]) (fl:=.ret (.ref 0)) rfl rfl ((seq1 e0).trans ((seq1 ((for_eq (cx:=cxK X (k+1)) (mu:=[48]) (n₀:=0) (loc:=locE0 t rs) (led:=[.list []]) (vs:=[.ref 1]) (k:=.e) (src:=.fz ([true,false].map (tapeD t))) (es0 hL) rfl).trans hF)).trans (seqR (ret1 (name_e rfl))))) rfl
end
end
section
theorem comp_mk{β:Type}{n:Nat}{turn:D→Led→Option (Option D × Led)}{led0:Led}{mk:β→D}(hn:led0.length=n)(f:β→Option D):∀ (xs:List β) (ys:List D) (N:Nat),xs.length<N→ys.length+xs.length<cap →
  (∀ x∈xs,∀ ys',∃ l,turn (mk x) (led0++[.list ys'])=some (f x,l)∧l.take (n+1)=led0++[.list ys'])→compLoop n turn N (.fz (xs.map mk)) (led0++[.list ys])=some (led0++[.list (ys++xs.filterMap f)])
 | xs,ys,0,h1,_,_=>absurd h1 (Nat.not_lt_zero _)
 | [],ys,N+1,_,_,_=>by rw[List.filterMap_nil,List.append_nil];rfl
 | x::xs,ys,N+1,h1,h2,h=>by
  obtain⟨l,ht,hl⟩:=h x (.head _) ys
  have ih:=comp_mk (turn:=turn) (mk:=mk) hn f xs
  have h2':ys.length+xs.length+1<cap:=h2
  refine(bindF ht).trans ?_
  cases hf:f x with
  | none=>
   rw[List.filterMap_cons_none hf]
   exact(bindF (keep_none.trans (congrArg some hl))).trans (ih ys N (Nat.lt_of_succ_lt_succ h1) (Nat.lt_of_succ_lt h2') fun y hy=>h y (.tail _ hy))
  | some y=>
   rw[List.filterMap_cons_some hf,List.append_cons ys y]
   refine(bindF (keep_some hn hl (Nat.lt_of_le_of_lt (Nat.le_add_right _ _) (Nat.lt_of_succ_lt h2')))).trans ?_
   refine ih (ys++[y]) N (Nat.lt_of_succ_lt_succ h1) ?_ fun z hz=>h z (.tail _ hz)
   rw[List.length_append,Nat.add_right_comm];exact h2'
theorem filtM{β γ:Type}{q:β→Bool}{y:β→γ}:∀ xs:List β,(xs.filterMap fun x=>cond (q x) (some (y x)) none)=(xs.filter q).map y
 | []=>rfl
 | x::xs=>by
  have ih:=filtM (q:=q) (y:=y) xs
  rw[filterC,List.filterMap_cons]
  cases q x with
  | true=>exact congrArg (y x::·) ih
  | false=>exact ih
section
variable{X:Tab}{k:Nat}{led:Led}{L:List (Str × Str)}{n:Nat}{name value:Str}
def shortN(L:List (Str × Str)):Prop:=L.length≤50∧∀ p∈L,(low p.1).length≤100
theorem get_hd(hn:led[n]?=some (.list (dL L)))(ok:okN X name)(hL:shortN L):R X (k+1) 2 [.hd n,dS name] led=some (.d ((getV L (low name)).elim .none .str),led):=by
 have hlt:=(List.getElem?_eq_some_iff.mp hn).1
 exact get_ok (self:=.hd n) (r:=.ref n) (src:=.live n 0) (decide_eq_true hlt) rfl rfl ((bindF (a:=V.ref n) rfl).trans ((if_pos hlt).trans (mapF (ledL_is hn)))) (feeds_live hn _ 0 rfl) ok hL.1 hL.2 .none _ rfl
theorem get_hdr(ok:okN X name)(hL:shortN L):R X (k+1) 2 [.hdr (dL L),dS name] led=some (.d ((getV L (low name)).elim .none .str),led):=
 get_ok rfl rfl rfl rfl (feeds_fz _) ok hL.1 hL.2 .none _ rfl
noncomputable def locH(self:V)(name value:Str)(r:D):UK.Loc:=[(0,self),(1,dS name),(8,dS value),(7,.d r)]
theorem setd_old{self:V}{x:Str}(hh:isHdr self=true)(hg:R X (k+1) 2 [self,dS name] led=some (dS x,led)):R X (k+2) 4 [self,dS name,dS value] led=some (dS x,led):=by
 have e1:evS (cxK X (k+1)) [] led.length (.assign (.name 7) (.hm 2 (.name 0) [(.name 1)])) [(0,self),(1,dS name),(8,dS value)] led=some (.nx,locH self name value (.str x),led):=assignD ((hm_R (v:=self) (vs:=[dS name]) (l1:=led) (led':=led) rfl rfl hh).trans hg) rfl
 exact R_d (fn:=m2f4) (loc:=[(0,self),(1,dS name),(8,dS value)]) (loc':=locH self name value (.str x)) (fl:=.ret (dS x)) rfl rfl ((seq1 e1).trans (seqR ((ite_f' (v:=.d (.bool false)) rfl rfl).trans (seqR (ret1 (name_e rfl)))))) rfl
theorem setd_new(hn:led[n]?=some (.list (dL L)))(ok:okN X name)(hv:X.conv false value=true)(hL:shortN L)(hg:getV L (low name)=none):R X (k+2) 4 [.hd n,dS name,dS value] led=some (dS value,led.set n (.list (dL (L++[(name,value)])))):=by
 have hlt:=(List.getElem?_eq_some_iff.mp hn).1
 have h0:=get_hd (k:=k) hn ok hL
 rw[hg] at h0
 have e1:evS (cxK X (k+1)) [] led.length (.assign (.name 7) (.hm 2 (.name 0) [(.name 1)])) [(0,.hd n),(1,dS name),(8,dS value)] led=some (.nx,locH (.hd n) name value .none,led):=assignD ((hm_R (v:=.hd n) (vs:=[dS name]) (l1:=led) (led':=led) rfl rfl rfl).trans h0) rfl
 have c1:evE (cxK X (k+1)) (.conv true (.name 0) (.name 1)) (locH (.hd n) name value .none) led=some (dS name,led):=conv_e (v:=.hd n) (l1:=led) rfl rfl rfl ok.2.2.1
 have c2:evE (cxK X (k+1)) (.conv false (.name 0) (.name 8)) (locH (.hd n) name value .none) led=some (dS value,led):=conv_e (v:=.hd n) (l1:=led) rfl rfl rfl hv
 have e2:=(meth_e (m:=.append) (o:=.attrH (.name 0)) (v:=.ref n) (l1:=led) rfl (app_at hn) (es0 (tuple_e (ds:=[.str name,.str value]) (es1 c1 (es0 c2)) rfl))).trans (app_m hn (Nat.lt_of_le_of_lt (Nat.le_trans (Nat.le_of_eq (dL_len L)) hL.1) (by decide)))
 have hS:dL L++[.tup [.str name,.str value]]=dL (L++[(name,value)]):=(List.map_append (f:=pr) (l₁:=L) (l₂:=[(name,value)])).symm
 rw[hS] at e2
 have ht:(led.set n (.list (dL (L++[(name,value)])))).take led.length=led.set n (.list (dL (L++[(name,value)]))):=List.take_of_length_le (Nat.le_of_eq List.length_set)
 have e3:=expr1 (mu:=[]) (n₀:=led.length) e2
 rw[ht] at e3
 exact R_step (fn:=m2f4) (loc:=[(0,.hd n),(1,dS name),(8,dS value)]) (fl:=.ret (dS value)) rfl rfl ((seq1 e1).trans (seqR ((ite_t' (v:=.d (.bool true)) rfl rfl).trans ((seq1 e3).trans (seqR (ret1 (name_e rfl))))))) (congrArg (fun l=>some (dS value,l)) ht)
theorem resNew{o:O}{rest:Led}:resV led.length (led++o::rest) (.ref led.length)=some (.ref led.length,led++[o]):=by
 refine(if_neg (Nat.lt_irrefl _)).trans ?_
 rw[List.getElem?_append_right (Nat.le_refl _),Nat.sub_self,List.take_left];rfl
theorem items_ok(hL:L.length≤50):R X (k+1) 3 [.hdr (dL L)] led=some (.ref led.length,led++[.list (dL L)]):=by
 have h:evSlice led (.lst (dL L)) (.d .none) (.d .none) (.d .none)=some (.ref led.length,led++[.list (dL L)]):=by
  refine(bindF (a:=D.none) rfl).trans ((bindF (a:=none) rfl).trans ((bindF (a:=none) rfl).trans ((bindF (a:=dL L) rfl).trans ((gdF (Nat.le_trans (Nat.le_of_eq (dL_len L)) (Nat.le_trans hL (by decide)))).trans ?_))))
  rw[pick_all]
 exact R_step (fn:=m2f3) (loc:=[(0,.hdr (dL L))]) (fl:=.ret (.ref led.length)) rfl rfl (seqR (ret1 ((slice_e (x:=.lst (dL L)) (l1:=led) rfl rfl rfl rfl).trans h))) resNew
theorem values_ok(hL:L.length≤50):R X (k+1) 6 [.hdr (dL L)] led=some (.ref led.length,led++[.list (strD (L.map (·.2)))]):=by
 have hc:=comp_mk (n:=led.length) (led0:=led) (turn:=turnP (cxK X k) (.name 5) (.tup [(.name 4),(.name 5)]) [] (capt [] [(0,.hdr (dL L))])) (mk:=pr) rfl (fun p=>some (D.str p.2)) L [] 4096 (by(revert hL;exact z1 0xffc212001602c0195800)) (Nat.lt_of_le_of_lt (Nat.le_trans (Nat.le_of_eq (Nat.zero_add _)) hL) (by decide)) (fun p _ ys'=>turn_pl rfl (turn_no (loc:=[(4,dS p.1),(5,dS p.2)]) rfl rfl))
 rw[List.nil_append,show L.filterMap (fun p=>some (D.str p.2))=strD (L.map (·.2)) from by rw[List.filterMap_eq_map'];unfold strD;rw[List.map_map];rfl] at hc
 exact R_step (fn:=m2f6) (loc:=[(0,.hdr (dL L))]) (fl:=.ret (.ref led.length)) rfl rfl (seqR (ret1 (comp_eq (l1:=led) (vs:=[.lst (dL L)]) (src:=.fz (dL L)) rfl rfl hc))) resNew
theorem getall_ok(ok:okN X name)(hL:shortN L):R X (k+1) 5 [.hdr (dL L),dS name] led=some (.ref led.length,led++[.list (strD ((L.filter fun p=>low p.1==low name).map (·.2)))]):=by
 have h1:evS (cxK X k) [] led.length (.assign (.name 1) (.conv true (.name 0) (.meth .lower (.name 1) []))) [(0,.hdr (dL L)),(1,dS name)] led=some (.nx,[(0,.hdr (dL L)),(1,dS (low name))],led):=assignD (conv_low rfl rfl rfl ok) rfl
 have hc:=comp_mk (n:=led.length) (led0:=led) (turn:=turnP (cxK X k) (.index (.name 3) (.lit (.int 1))) (.name 3) [(.cmp (.meth .lower (.index (.name 3) (.lit (.int 0))) []) .eq (.name 1))] (capt [1] [(0,.hdr (dL L)),(1,dS (low name))])) (mk:=pr) rfl (fun p=>cond (low p.1==low name) (some (D.str p.2)) none) L [] 4096 (by have:=hL.1;(revert this;exact z1 0xffc212001602c0195800)) (Nat.lt_of_le_of_lt (Nat.le_trans (Nat.le_of_eq (Nat.zero_add _)) hL.1) (by decide)) (fun p hp ys'=>by
  refine turn_pl rfl ?_
  have hk:=key_e (X:=X) (k:=k) (led:=led++[.list ys']) (loc:=[(1,dS (low name)),(3,.d (pr p))]) (v:=3) (op:=.eq) rfl rfl (hL.2 p hp) rfl
  cases hq:low p.1==low name with
  | true=>rw[hq] at hk;exact turn_t rfl hk rfl (index_e (name_e rfl) rfl item1)
  | false=>rw[hq] at hk;exact turn_f rfl hk rfl)
 rw[List.nil_append,filtM,show ((L.filter fun p=>low p.1==low name).map fun p=>D.str p.2)=strD ((L.filter fun p=>low p.1==low name).map (·.2)) from by unfold strD;rw[List.map_map];rfl] at hc
 exact R_step (fn:=m2f5) (loc:=[(0,.hdr (dL L)),(1,dS name)]) (fl:=.ret (.ref led.length)) rfl rfl ((seq1 h1).trans (seqR (ret1 (comp_eq (l1:=led) (vs:=[.lst (dL L)]) (src:=.fz (dL L)) rfl rfl hc)))) resNew
end
end
section
noncomputable def tape(t:List Nat)(lo:Bool):List Nat:=tp lo t++[cond lo 33 126]
noncomputable def tabR(t:List Nat)(lo:Bool)(p:Nat):Run:=(strB t (rnd (tape t lo) p) p,endS t (rnd (tape t lo) p) p,rnd (tape t lo) p)
noncomputable def tabB(p:Nat)(r:Run):Bool:=decide (r.1<p)&&decide (2*r.2.2≤r.2.1-r.1)
noncomputable def tabC(t:List Nat)(lo:Bool)(p:Nat):Bool:=decide (p+rnd (tape t lo) p≤t.length)&&tabB p (tabR t lo p)
noncomputable def tabAt(t:List Nat)(lo:Bool)(p:Nat):List (Str × Str):=cond (tabC t lo p) [entP lo p (tabR t lo p)] []
noncomputable def tabTo(t:List Nat)(lo:Bool)(q:Nat):List (Str × Str):=(List.range q).flatMap (tabAt t lo)
noncomputable def tabPre(t:List Nat)(lo:Bool):List (Str × Str):=cond lo [] (tabTo t true t.length)
noncomputable def tabSt(t:List Nat)(lo:Bool)(q:Nat):List (Str × Str):=tabPre t lo++tabTo t lo q
noncomputable def tabP(t:List Nat):List (Str × Str):=tabSt t false t.length
def Once(t:List Nat):Prop:=∀ p,p<t.length→tabC t true p=true→tabC t false p=false
structure Hv (X:Tab):Prop where
 nm:∀ lo p,p<9→okN X (tS [nm lo p])
 vl:∀ r:Run,r.1+2*r.2.2≤r.2.1→r.2.1≤9→X.conv false (tS (valS r))=true
theorem low_nm:([true,false].map fun lo=>(List.range 9).map fun p=>low (tS [nm lo p]))=mapR (fun lo=>mapR (fun p=>tS [97+p]) (List.range 9)) [true,false]:=by kernel_rfl
theorem low_at{lo:Bool}{p:Nat}(h:p<9):low (tS [nm lo p])=tS [97+p]:=by
 have h1:=mapAt low_nm lo (by cases lo <;> decide)
 exact mapAt h1 p (List.mem_range.mpr h)
theorem tape_len{t:List Nat}{lo:Bool}:(tape t lo).length=t.length+1:=by unfold tape;rw[List.length_append,tp_len];rfl
theorem rnd_pos{t:List Nat}{p:Nat}(h:0<t.length):0<rnd t p:=by
 rcases (rnd_spec (t:=t) (i:=p)).1 with h1 | ⟨_,h2⟩
 ·(revert h h1;exact z2 0x1ff84200801558402082a1)
 ·refine Nat.pos_of_ne_zero fun h0=>?_
  rw[h0] at h2
  exact List.lt_irrefl _ h2
theorem tabTo_mem{t:List Nat}{lo:Bool}{q:Nat}{x:Str × Str}(h:x∈tabTo t lo q):∃ p,p<q∧tabC t lo p=true∧x=entP lo p (tabR t lo p):=by
 obtain⟨p,h1,h2⟩:=List.mem_flatMap.mp h
 refine⟨p,List.mem_range.mp h1,?_⟩
 unfold tabAt at h2
 cases hc:tabC t lo p with
 | true=>rw[hc] at h2;exact⟨rfl,List.mem_singleton.mp h2⟩
 | false=>rw[hc] at h2;exact nomatch h2
theorem tabTo_len{t:List Nat}{lo:Bool}{q:Nat}:(tabTo t lo q).length≤q:=by
 unfold tabTo
 rw[List.length_flatMap]
 refine Nat.le_trans (sum_le (c:=1) _ fun p _=>?_) (by rw[List.length_range];exact z1 0xffc200070a)
 unfold tabAt
 cases tabC t lo p;exact Nat.zero_le _;exact Nat.le_refl _
theorem tabSt_mem{t:List Nat}{lo:Bool}{q:Nat}{x:Str × Str}(h:x∈tabSt t lo q):∃ l p,tabC t l p=true∧x=entP l p (tabR t l p)∧((l=lo∧p<q)∨(lo=false∧l=true∧p<t.length)):=by
 rcases List.mem_append.mp h with h | h
 ·cases lo with
  | true=>exact nomatch h
  | false=>
   obtain⟨p,h1,h2,h3⟩:=tabTo_mem h
   exact⟨true,p,h2,h3,.inr ⟨rfl,rfl,h1⟩⟩
 ·obtain⟨p,h1,h2,h3⟩:=tabTo_mem h
  exact⟨lo,p,h2,h3,.inl ⟨rfl,h1⟩⟩
theorem tabSt_short{t:List Nat}{lo:Bool}{q:Nat}(hl:t.length≤9)(hq:q≤t.length):shortN (tabSt t lo q):=by
 refine⟨?_,fun x h=>?_⟩
 ·unfold tabSt tabPre
  rw[List.length_append]
  have h1:=tabTo_len (t:=t) (lo:=lo) (q:=q)
  have h2:=tabTo_len (t:=t) (lo:=true) (q:=t.length)
  cases lo
  ·show (tabTo t true t.length).length+_≤_;(revert hl hq h2 h1;exact z4 0xffc41084200cac10514308040008604d440)
  ·show 0+_≤_;omega
 ·obtain⟨l,p,h1,rfl,h3⟩:=tabSt_mem h
  show (low (tS [nm l p])).length≤100
  rw[low_at (by omega)]
  exact(show 1≤100 by decide)
theorem getV_none{L:List (Str × Str)}{key:Str}(h:∀ x∈L,low x.1≠key):getV L key=none:=by
 unfold getV
 rw[List.find?_eq_none.mpr fun x hx=>by rw[beq_iff_eq];exact h x hx];rfl
theorem fresh{t:List Nat}{lo:Bool}{q:Nat}(hl:t.length≤9)(hq:q<t.length)(ho:Once t)(hc:tabC t lo q=true):getV (tabSt t lo q) (low (tS [nm lo q]))=none:=getV_none fun x hx=>by
 obtain⟨l,p,h1,rfl,h3⟩:=tabSt_mem hx
 show low (tS [nm l p])≠_
 rw[low_at (by omega),low_at (by(revert hl hq;exact z2 0xffc210a6a0584014d420))]
 intro e
 have e:=(List.cons.inj (tS_inj e)).1
 have e:p=q:=by(revert e;exact z2 0x7c200fc210818100c36a00030da82)
 subst e
 rcases h3 with ⟨_,h3⟩ | ⟨rfl,rfl,_⟩
 ·(revert h3;exact z1 0x7fe10541578001)
 ·exact absurd ((ho p hq h1).symm.trans hc) nofun
theorem tabTo_succ{t:List Nat}{lo:Bool}{q:Nat}:tabSt t lo (q+1)=tabSt t lo q++tabAt t lo q:=by
 unfold tabSt tabTo
 rw[List.range_succ,List.flatMap_append,List.flatMap_cons,List.flatMap_nil,List.append_nil,List.append_assoc]
theorem for_nat{tg:UK.T}{body:UK.Loc→Led→Option Res}{loc:UK.Loc}{mk:Nat→D}{S:Nat→Led}:∀ (d p N:Nat),d<N →
  (∀ q,p≤q→q<p+d→∃ loc1 loc2 l2,bindD tg (mk q) loc=some loc1∧body loc1 (S q)=some (.nx,loc2,l2)∧trunc loc.length (S q).length loc2 l2=some (loc,S (q+1)))→forLoop tg body N (.fz ((List.range' p d).map mk)) loc (S p)=some (.nx,loc,S (p+d))
 | d,p,0,hN,_=>absurd hN (Nat.not_lt_zero _)
 | 0,p,N+1,_,_=>rfl
 | d+1,p,N+1,hN,h=>by
  obtain⟨loc1,loc2,l2,e1,e2,e3⟩:=h p (Nat.le_refl _) (by exact z2 0x7fe10d4340500b)
  have ih:=for_nat (tg:=tg) (body:=body) (loc:=loc) (mk:=mk) (S:=S) d (p+1) N (by(revert hN;exact z2 0xffc2108161a8681a8281)) fun q h1 h2=>h q (by(revert h1;exact z2 0x1ff842102821a8280)) (by(revert h2;exact z3 0xffc210d4540d00b106a1a5001))
  rw[show p+1+d=p+(d+1) by exact z2 0x1f0fc21a8680a04350528c] at ih
  exact(for_step e1 e2 e3).trans ih
theorem for_rng{tg:UK.T}{body:UK.Loc→Led→Option Res}{loc:UK.Loc}{mk:Nat→D}{S:Nat→Led}{n:Nat}(hn:n≤100)(h:∀ q,q<n→∃ loc1 loc2 l2,bindD tg (mk q) loc=some loc1∧body loc1 (S q)=some (.nx,loc2,l2)∧trunc loc.length (S q).length loc2 l2=some (loc,S (q+1))) :
  forLoop tg body 4096 (.fz ((List.range n).map mk)) loc (S 0)=some (.nx,loc,S n):=by
 have:=for_nat (tg:=tg) (body:=body) (loc:=loc) (mk:=mk) (S:=S) n 0 4096 (by(revert hn;exact z1 0xffc212001602c0325800)) fun q _ h2=>h q (by(revert h2;exact z2 0x1ff842102c20ad001))
 rw[Nat.zero_add] at this
 rw[List.range_eq_range'];exact this
section
variable{X:Tab}{k:Nat}{t:List Nat}{p:Nat}{lo:Bool}
theorem idxL{led:Led}{xs:List D}{i:Nat}{x:D}(h:xs[i]?=some x)(hl:i≤100):evIndex led (.lst xs) (dI (i:Int))=some (.d x):=
 (bindF (a:=D.int i) rfl).trans ((gdF (by exact n100 hl)).trans (atI_nat h))
noncomputable def locT0(t:List Nat):UK.Loc:=[(31,dS (tS t)),(43,.hd 0),(44,.d (.bool true))]
noncomputable def locT2(t:List Nat)(lo:Bool):UK.Loc:=[(31,dS (tS t)),(43,.hd 0),(44,.d (.bool true)),(36,dS (tS (tape t lo))),(45,dS (tS (nmz lo))),(46,.lst (rndD (tape t lo)))]
noncomputable def locT3(t:List Nat)(lo:Bool)(p:Nat):UK.Loc:=locT2 t lo++[(35,dI p)]
noncomputable def locT4(t:List Nat)(lo:Bool)(p:Nat)(r:Run):UK.Loc:=locT2 t lo++[(35,dI p),(40,dI r.1),(41,dI r.2.1)]
noncomputable def locT5(t:List Nat)(lo:Bool)(p:Nat)(r:Run):UK.Loc:=locT2 t lo++[(35,dI p),(40,dI r.1),(41,dI r.2.1),(34,dS (tS (valS r)))]
noncomputable def tIx:E:=.index (.name 46) (.name 35)
noncomputable def tC2:E:=.and (.cmp (.name 40) .lt (.name 35)) (.cmp (.bin .sub (.name 41) (.name 40)) .ge (.bin .mul (.lit (.int 2)) tIx))
noncomputable def tB2:List UK.S:=[.assign (.name 34) (.bin .add (.bin .add (.bi .str [(.name 40)]) (.bi .str [(.name 41)])) (.bi .str [tIx])),.assign (.name 44) (.and (.name 44) (.cmp (.hm 4 (.name 43) [(.index (.name 45) (.name 35)),(.name 34)]) .eq (.name 34)))]
noncomputable def tbA:UK.S:=.assign (.tup [(.name 40),(.name 41)]) (.call 20 [(.name 31),(.name 35),tIx])
noncomputable def tBod:List UK.S:=[.ite (.cmp (.bin .add (.name 35) tIx) .le (.bi .len [(.name 31)])) [tbA,.ite tC2 tB2 []] []]
theorem tab_turn(H:Hv X)(hl:t.length≤9)(hp:p<t.length)(ho:Once t) :
  ∃ l,evSs (cxK X (k+2)) [43] 1 tBod (locT3 t lo p) [.list (dL (tabSt t lo p))]=some (.nx,locT2 t lo++l,[.list (dL (tabSt t lo (p+1)))]):=by
 rw[tabTo_succ]
 have hs0:=rnd_pos (t:=tape t lo) (p:=p) (by rw[tape_len];exact z1 0x3ff086a0a02ab)
 have hfr:=fresh (lo:=lo) hl hp ho
 have hsh:=tabSt_short (t:=t) (lo:=lo) (q:=p) hl (by(revert hp;exact z2 0x3ff0842050401))
 have hix:(rndD (tape t lo))[p]?=some (.int (rnd (tape t lo) p)):=by unfold rndD;rw[List.getElem?_map,List.getElem?_range (by rw[tape_len];(revert hp;exact z2 0x1ff8421a868058401))];rfl
 have iF:∀ loc led,UK.get loc 46=some (.lst (rndD (tape t lo)))→UK.get loc 35=some (dI p)→evE (cxK X (k+2)) tIx loc led=some (dI (rnd (tape t lo) p),led):=fun loc led h1 h2=>index_e (name_e h1) (name_e h2) (idxL hix (by(revert hl hp;exact z2 0x3ff08420192c0504014d420)))
 unfold tabAt tabC at *
 have hr:tabR t lo p=(strB t (rnd (tape t lo) p) p,endS t (rnd (tape t lo) p) p,rnd (tape t lo) p):=rfl
 revert hfr
 rw[hr]
 generalize rnd (tape t lo) p=s at iF hs0 ⊢
 generalize dL_:tabSt t lo p=L at hsh ⊢
 intro hfr
 have hno:∀ (loc:UK.Loc) (ys:List (Str × Str)),ys=[]→some (Fl.nx,loc,[O.list (dL L)])=some (Fl.nx,loc,[O.list (dL (L++ys))]):=fun _ ys h=>by rw[h,List.append_nil]
 have q1:=cmp_e (cx:=cxK X (k+2)) (loc:=locT3 t lo p) (led:=[.list (dL L)]) (op:=.le) (addI_e (e1:=.name 35) (a:=p) rfl (iF _ _ rfl rfl)) (len_e (t:=t) (x:=31) rfl (by(revert hl;exact z1 0x3ff084032580a4d400))) leI
 cases h1:decide (p+s≤t.length) with
 | false=>
  rw[h1] at q1
  exact⟨[(35,dI p)],((seq1 ((ite_f' q1 rfl).trans rfl)).trans rfl).trans (hno _ _ rfl)⟩
 | true=>
  rw[h1] at q1 hfr
  have h1:=of_decide_eq_true h1
  have he:=endS_le (t:=t) (s:=s) (p:=p) h1
  have hb:=(strB_spec t s p).1
  have e1:evS (cxK X (k+2)) [43] 1 tbA (locT3 t lo p) [.list (dL L)]=some (.nx,locT4 t lo p (strB t s p,endS t s p,s),[.list (dL L)]):=
   assign1 (l1:=[.list (dL L)]) (v:=.d (strD2 t p s)) (b:=⟨1,locT4 t lo p (strB t s p,endS t s p,s),[.list (dL L)]⟩) ((call_R (vs:=[dS (tS t),dI p,dI s]) (led':=[.list (dL L)]) (es1 (v:=dS (tS t)) rfl (es1 (v:=dI p) rfl (es0 (iF _ _ rfl rfl))))).trans (stretch_ok (by(revert hl;exact z1 0xffc21a540a4d400)) h1 hs0)) rfl
  revert he hb e1 hfr
  generalize strB t s p=b
  generalize endS t s p=e
  intro hfr he hb e1
  have q2:=and_e (cx:=cxK X (k+2)) (loc:=locT4 t lo p (b,e,s)) (led:=[.list (dL L)]) (b:=.cmp (.bin .sub (.name 41) (.name 40)) .ge (.bin .mul (.lit (.int 2)) tIx)) (cmp_e (a:=.name 40) (b:=.name 35) (op:=.lt) (x:=dI b) (y:=dI p) (l1:=[.list (dL L)]) (l2:=[.list (dL L)]) rfl rfl ltI)
  have q2f:=and_f (cx:=cxK X (k+2)) (loc:=locT4 t lo p (b,e,s)) (led:=[.list (dL L)]) (b:=.cmp (.bin .sub (.name 41) (.name 40)) .ge (.bin .mul (.lit (.int 2)) tIx)) (cmp_e (a:=.name 40) (b:=.name 35) (op:=.lt) (x:=dI b) (y:=dI p) (l1:=[.list (dL L)]) (l2:=[.list (dL L)]) rfl rfl ltI)
  have q3:=cmp_e (cx:=cxK X (k+2)) (loc:=locT4 t lo p (b,e,s)) (led:=[.list (dL L)]) (op:=.ge) (subI_e (e1:=.name 41) (e2:=.name 40) (a:=e) (b:=b) rfl rfl (by(revert he hb;exact z5 0x1ff84010840a100040802315009))) (mul2_e (iF _ _ rfl rfl)) geI
  have hin:evE (cxK X (k+2)) tC2 (locT4 t lo p (b,e,s)) [.list (dL L)]=some (.d (.bool false),[.list (dL L)])→evSs (cxK X (k+2)) [43] 1 tBod (locT3 t lo p) [.list (dL L)]=some (.nx,locT4 t lo p (b,e,s),[.list (dL L)]):=fun h=>(seq1 ((ite_t' q1 rfl).trans ((seq1 e1).trans ((seq1 ((ite_f' h rfl).trans rfl)).trans rfl)))).trans rfl
  unfold tabB at hfr ⊢
  cases h2:decide (b<p) with
  | false=>
   rw[h2] at q2f
   exact⟨[(35,dI p),(40,dI b),(41,dI e)],(hin (q2f rfl)).trans (hno _ _ rfl)⟩
  | true=>
   rw[h2] at q2 hfr
   have q2:=(q2 rfl).trans q3
   cases h3:decide (2*s≤e-b) with
   | false=>
    rw[h3] at q2
    exact⟨[(35,dI p),(40,dI b),(41,dI e)],(hin q2).trans (hno _ _ rfl)⟩
   | true=>
    rw[h3] at q2 hfr
    have e2:evS (cxK X (k+2)) [43] 1 (.assign (.name 34) (.bin .add (.bin .add (.bi .str [(.name 40)]) (.bi .str [(.name 41)])) (.bi .str [tIx]))) (locT4 t lo p (b,e,s)) [.list (dL L)]=some (.nx,locT5 t lo p (b,e,s),[.list (dL L)]):=
     assignD (val_e (r:=(b,e,s)) rfl rfl (iF _ _ rfl rfl) (by show b≤9;(revert hl he hb;exact z5 0x7fe1084214d40a1000120083150094d420)) (by show e≤9;(revert hl he;exact z4 0x7fe100429a814100003150094d420)) (by show s≤9;(revert hl he;exact z4 0x7fe108429a814118060150094d420))) rfl
    have hset:=setd_new (X:=X) (k:=k) (led:=[.list (dL L)]) (n:=0) (L:=L) rfl (H.nm lo p (by(revert hl hs0 he;exact z4 0xffc2108429a81611806205009102a14d420))) (H.vl (b,e,s) (by have:=of_decide_eq_true h3;show b+2*s≤e;(revert he hb this;exact z5 0x1ff8421188570d14010ae0f84010804618004100411d009)) (by show e≤9;(revert hl he;exact z4 0x7fe100429a814100003150094d420))) hsh (hfr rfl)
    have hk:=hm_R (X:=X) (k:=k+2) (loc:=locT5 t lo p (b,e,s)) (led:=[.list (dL L)]) (f:=4) (o:=.name 43) (as:=[(.index (.name 45) (.name 35)),(.name 34)]) (v:=.hd 0) (l1:=[.list (dL L)]) (vs:=[dS (tS [nm lo p]),dS (tS (valS (b,e,s)))]) (led':=[.list (dL L)]) rfl
     (es1 (index_e (x:=dS (tS (nmz lo))) (y:=dI p) (name_e rfl) (name_e rfl) (idxS (nmz_get (by(revert hl hs0 he;exact z4 0xffc2108429a81611806205009102a14d420))) (by cases lo <;> decide))) rfl) rfl
    have hk:=cmp_e (op:=.eq) (b:=.name 34) (y:=dS (tS (valS (b,e,s)))) (l2:=[.list (dL (L++[entP lo p (b,e,s)]))]) (hk.trans hset) rfl strEq
    rw[beq_self_eq_true] at hk
    have hk:=(and_e (a:=.name 44) (x:=.d (.bool true)) rfl rfl).trans hk
    have e3:=assign1 (mu:=[43]) (n₀:=1) (t:=.name 44) (b:=⟨1,locT5 t lo p (b,e,s),[.list (dL (L++[entP lo p (b,e,s)]))]⟩) hk rfl
    exact⟨[(35,dI p),(40,dI b),(41,dI e),(34,dS (tS (valS (b,e,s))))],(seq1 ((ite_t' q1 rfl).trans ((seq1 e1).trans (seq1 ((ite_t' q2 rfl).trans ((seq1 e2).trans (seq1 e3))))))).trans rfl⟩
end
end
section
theorem for_id{β:Type}{tg:UK.T}{body:UK.Loc→Led→Option Res}{loc:UK.Loc}{led:Led}{mk:β→D}:∀ (xs:List β) (N:Nat),xs.length<N →
  (∀ x∈xs,∃ loc1 loc2 l2,bindD tg (mk x) loc=some loc1∧body loc1 led=some (.nx,loc2,l2)∧trunc loc.length led.length loc2 l2=some (loc,led))→forLoop tg body N (.fz (xs.map mk)) loc led=some (.nx,loc,led)
 | xs,0,hN,_=>absurd hN (Nat.not_lt_zero _)
 | [],N+1,_,_=>rfl
 | x::xs,N+1,hN,h=>by
  obtain⟨loc1,loc2,l2,e1,e2,e3⟩:=h x (.head _)
  exact(for_step e1 e2 e3).trans (for_id xs N (Nat.lt_of_succ_lt_succ hN) fun y hy=>h y (.tail _ hy))
section
variable{X:Tab}{k:Nat}{t:List Nat}{lo:Bool}{L:List (Str × Str)}{led:Led}
noncomputable def locT1(t:List Nat)(lo:Bool):UK.Loc:=[(31,dS (tS t)),(43,.hd 0),(44,.d (.bool true)),(36,dS (tS (tape t lo))),(45,dS (tS (nmz lo)))]
noncomputable def tBod0:List UK.S:=[.assign (.name 46) (.call 19 [(.name 36)]),.for (.name 35) .range [(.bi .len [(.name 31)])] tBod]
theorem tab_side(H:Hv X)(hl:t.length≤9)(ho:Once t):evSs (cxK X (k+3)) [43] 1 tBod0 (locT1 t lo) [.list (dL (tabSt t lo 0))]=some (.nx,locT2 t lo,[.list (dL (tabSt t lo t.length))]):=by
 have e1:=assign1 (mu:=[43]) (n₀:=1) (t:=.name 46) (loc:=locT1 t lo) (led:=[.list (dL (tabSt t lo 0))]) (b:=⟨2,locT2 t lo,[.list (dL (tabSt t lo 0))]⟩) ((call_R (X:=X) (k:=k+3) (f:=19) (as:=[(.name 36)]) (loc:=locT1 t lo) (led:=[.list (dL (tabSt t lo 0))]) (vs:=[dS (tS (tape t lo))]) (led':=[.list (dL (tabSt t lo 0))]) rfl).trans (rounds_ok (X:=X) (k:=k) (o:=.list (dL (tabSt t lo 0))) (t:=tape t lo) (by rw[tape_len];(revert hl;exact z1 0x7fe10aaa1a828a4d400)))) rfl
 have hF:=for_rng (tg:=.name 35) (body:=fun loc led'=>evSs (cxK X (k+3)) [43] 1 tBod loc led') (loc:=locT2 t lo) (mk:=fun i:Nat=>D.int (i:Int)) (S:=fun q=>[.list (dL (tabSt t lo q))]) (n:=t.length) (by(revert hl;exact z1 0x3ff084032580a4d400)) (fun q hq=>by
  obtain⟨l,e⟩:=tab_turn (X:=X) (k:=k+1) (t:=t) (p:=q) (lo:=lo) H hl hq ho
  exact⟨_,_,_,rfl,e,rfl⟩)
 exact(seq1 e1).trans ((seq1 ((for_eq (cx:=cxK X (k+3)) (mu:=[43]) (n₀:=1) (loc:=locT2 t lo) (led:=[.list (dL (tabSt t lo 0))]) (l1:=[.list (dL (tabSt t lo 0))]) (vs:=[dI t.length]) (k:=.range) (es0 (len_e (t:=t) (x:=31) rfl (by(revert hl;exact z1 0x3ff084032580a4d400)))) (srcR1 (rng0 (by(revert hl;exact z1 0xffc21a540a4d400))))).trans hF)).trans rfl)
noncomputable def tapT(t:List Nat)(lo:Bool):D:=.tup [.str (tS (tape t lo)),.str (tS (nmz lo))]
theorem table_ok(H:Hv X)(ht:∀ c∈t,c∈FIL)(hl:t.length≤9)(ho:Once t):R X (k+4) 21 [dS (tS t)] []=some (.tup [.hdr (dL (tabP t)),.d (.bool true)],[]):=by
 have e0:evS (cxK X (k+3)) [43] 0 (.assign (.tup [(.name 43),(.name 44)]) (.tuple [.newH,(.lit (.bool true))])) [(31,dS (tS t))] []=some (.nx,locT0 t,[.list []]):=rfl
 have hm:=mirror_ok (X:=X) (k:=k+2) (led:=[O.list []]) ht (by(revert hl;exact z1 0xffc21a540a4d400))
 have t1:evE (cxK X (k+3)) (.tuple [(.bin .add (.name 31) (.lit (.str ⟨#[33]⟩))),(.lit (.str ⟨#[97,98,99,100,101,102,103,104,105]⟩))]) (locT0 t) [.list []]=some (.d (tapT t true),[.list []]):=
  tuple_e (vs:=[dS (tS (tape t true)),dS (tS (nmz true))]) (l1:=[.list []]) (es1 (l1:=[.list []]) ((bin_e (x:=dS (tS t)) (y:=dS (tS [33])) (l1:=[.list []]) (l2:=[.list []]) rfl rfl).trans (addS (show t.length+1≤100 by(revert hl;exact z1 0x1ff8420192c1a828a4d400)))) rfl) rfl
 have t2:evE (cxK X (k+3)) (.tuple [(.bin .add (.call 18 [(.name 31)]) (.lit (.str ⟨#[126]⟩))),(.lit (.str ⟨#[65,66,67,68,69,70,71,72,73]⟩))]) (locT0 t) [.list []]=some (.d (tapT t false),[.list []]):=
  tuple_e (vs:=[dS (tS (tape t false)),dS (tS (nmz false))]) (l1:=[.list []]) (es1 (l1:=[.list []]) ((bin_e (y:=dS (tS [126])) (l2:=[.list []]) ((call_R (vs:=[dS (tS t)]) (led':=[.list []]) rfl).trans hm) rfl).trans (addS (show (t.map mir).length+1≤100 by rw[List.length_map];(revert hl;exact z1 0x1ff8420192c1a828a4d400)))) rfl) rfl
 have hL:=list_e (l1:=[.list []]) (vs:=[.d (tapT t true),.d (tapT t false)]) (es1 t1 (es0 t2)) rfl
 have eS:tabSt t true t.length=tabSt t false 0:=by
  show []++tabTo t true t.length=tabTo t true t.length++[]
  rw[List.append_nil];rfl
 have s1:=tab_side (k:=k) (lo:=true) H hl ho
 have s2:=tab_side (k:=k) (lo:=false) H hl ho
 rw[eS] at s1
 have hF:forLoop (.tup [(.name 36),(.name 45)]) (fun loc led'=>evSs (cxK X (k+3)) [43] 1 tBod0 loc led') 4096 (.fz [tapT t true,tapT t false]) (locT0 t) [.list []]=some (.nx,locT0 t,[.list (dL (tabP t))]):=
  (for_step (loc3:=locT0 t) (l3:=[.list (dL (tabSt t false 0))]) rfl s1 rfl).trans ((for_step (loc3:=locT0 t) (l3:=[.list (dL (tabP t))]) rfl s2 rfl).trans for_nil)
 exact R_step (fn:=m2f21) (loc:=[(31,dS (tS t))]) (fl:=.ret (.tup [.hd 0,.d (.bool true)])) rfl rfl ((seq1 e0).trans ((seq1 ((for_eq (cx:=cxK X (k+3)) (mu:=[43]) (n₀:=0) (loc:=locT0 t) (led:=[.list []]) (vs:=[.ref 1]) (k:=.e) (src:=.fz [tapT t true,tapT t false]) (es0 hL) rfl).trans hF)).trans (seqR (ret1 rfl)))) rfl
structure TabOk (L:List (Str × Str)):Prop where
 mem:∀ x∈L,∃ lo p v,p<9∧x=(tS [nm lo p],v)
 uni:L.Pairwise fun x y=>low x.1≠low y.1
 len:L.length≤50
theorem tab_pw(hl:t.length≤9)(ho:Once t):∀ q,q≤t.length→(tabSt t lo 0).Pairwise (fun x y=>low x.1≠low y.1)→(tabSt t lo q).Pairwise fun x y=>low x.1≠low y.1
 | 0,_,h=>h
 | q+1,hq,h=>by
  rw[tabTo_succ,List.pairwise_append]
  unfold tabAt
  cases hc:tabC t lo q with
  | false=>exact⟨tab_pw hl ho q (by(revert hq;exact z2 0x1ff842102821a8280)) h,.nil,nofun⟩
  | true=>
   refine⟨tab_pw hl ho q (by(revert hq;exact z2 0x1ff842102821a8280)) h,List.pairwise_singleton _ _,fun x hx y hy=>?_⟩
   rw[List.mem_singleton.mp hy]
   have hf:=fresh hl (by(revert hq;exact z2 0x1ff842102c21a8280)) ho hc
   unfold getV at hf
   have hf:=List.find?_eq_none.mp (Option.map_eq_none_iff.mp hf) x hx
   rw[beq_iff_eq] at hf
   exact hf
theorem tab_tabOk(hl:t.length≤9)(ho:Once t):TabOk (tabP t):=by
 refine⟨fun x hx=>?_,?_,(tabSt_short hl (Nat.le_refl _)).1⟩
 ·obtain⟨l,p,h1,h2,h3⟩:=tabSt_mem hx
  exact⟨l,p,_,by omega,h2⟩
 ·refine tab_pw hl ho _ (Nat.le_refl _) ?_
  have:=tab_pw (lo:=true) hl ho t.length (Nat.le_refl _) .nil
  show (tabTo t true t.length++[]).Pairwise _
  rw[List.append_nil];exact this
theorem getV_at:∀ {L:List (Str × Str)},(L.Pairwise fun x y=>low x.1≠low y.1)→∀ x∈L,getV L (low x.1)=some x.2
 | y::L,.cons h1 h2,x,h=>by
  have ih:=getV_at h2 x
  unfold getV at ih ⊢
  rw[findC]
  rcases List.mem_cons.mp h with rfl | h
  ·rw[beq_self_eq_true];rfl
  ·rw[beq_eq_false_iff_ne.mpr (h1 x h)];exact ih h
theorem up_nm:([true,false].map fun lo=>(List.range 9).map fun p=>Txt.upper (tS [nm lo p]))=mapR (fun lo=>mapR (fun p=>tS [nm false p]) (List.range 9)) [true,false]:=by kernel_rfl
theorem up_at{p:Nat}(h:p<9):Txt.upper (tS [nm lo p])=tS [nm false p]:=mapAt (mapAt up_nm lo (by cases lo <;> decide)) p (List.mem_range.mpr h)
theorem TabOk.short(h:TabOk L):shortN L:=⟨h.len,fun x hx=>by
 obtain⟨lo,p,v,h1,rfl⟩:=h.mem x hx
 show (low (tS [nm lo p])).length≤100
 rw[low_at h1];exact(show 1≤100 by decide)⟩
noncomputable def locK(L:List (Str × Str)):UK.Loc:=[(43,.hdr (dL L)),(48,.lst (dL L))]
theorem ask_e(H:Hv X)(h:TabOk L){l:Bool}{p:Nat}{v:Str}(hx:(tS [nm lo p],v)∈L)(hp:p<9){loc:UK.Loc}{e:E}(h0:UK.get loc 43=some (.hdr (dL L)))(h1:UK.get loc 8=some (dS v))(he:evE (cxK X (k+2)) e loc led=some (dS (tS [nm l p]),led)) :
  evE (cxK X (k+2)) (.cmp (.hm 4 (.name 43) [e,(.lit (.str ⟨#[]⟩))]) .ne (.name 8)) loc led=some (.d (.bool false),led):=by
 have hg:=get_hdr (X:=X) (k:=k) (led:=led) (L:=L) (name:=tS [nm l p]) (H.nm l p hp) h.short
 have hv:=getV_at h.uni _ hx
 rw[low_at hp] at hg
 have hv:getV L (tS [97+p])=some v:=by rw[←low_at (lo:=lo) hp];exact hv
 rw[hv] at hg
 have h4:=(hm_R (f:=4) (as:=[e,(.lit (.str ⟨#[]⟩))]) (name_e h0) (es1 he (es0 rfl)) rfl).trans (setd_old (value:=⟨#[]⟩) rfl hg)
 refine cmp_e h4 (name_e h1) ?_
 show some (!(v==v))=_
 rw[beq_self_eq_true];rfl
theorem ne_self{led:Led}{a b:V}{xs:List D}(ha:ofV a=none)(h1:led.list a=some xs)(h2:led.list b=some xs)(h3:dEqs xs xs=some true):evCmp led .ne a b=some false∧evCmp led .eq a b=some true:=by
 have:eqL led a b=some true:=(bindF h1).trans ((bindF h2).trans h3)
 cases a with
 | d x=>exact nomatch ha
 | _=>exact⟨mapF (f:=(!·)) this,this⟩
theorem eq_dL:∀ L:List (Str × Str),dEqs (dL L) (dL L)=some true
 | []=>rfl
 | x::L=>by
  have h:dEq (pr x) (pr x)=some true:=by
   show some ((x.1==x.1)&&((x.2==x.2)&&true))=_
   rw[beq_self_eq_true,beq_self_eq_true];rfl
  show (dEq (pr x) (pr x)).bind (fun a=>(dEqs (dL L) (dL L)).map (a&&·))=_
  rw[h,eq_dL L];rfl
theorem eq_strD:∀ L:List Str,dEqs (strD L) (strD L)=some true
 | []=>rfl
 | x::L=>by
  show (some (x==x)).bind (fun a=>(dEqs (strD L) (strD L)).map (a&&·))=_
  rw[beq_self_eq_true,eq_strD L];rfl
noncomputable def kB1:List UK.S:=[.ite (.or (.cmp (.hm 4 (.name 43) [(.meth .upper (.name 1) []),(.lit (.str ⟨#[]⟩))]) .ne (.name 8)) (.cmp (.hm 4 (.name 43) [(.meth .lower (.name 1) []),(.lit (.str ⟨#[]⟩))]) .ne (.name 8))) [.ret (.lit (.bool false))] []]
noncomputable def kC(cs:List E)(cp:List Nat):E:=.comp (.name 8) (.tup [(.name 1),(.name 8)]) .e [(.name 48)] cs cp
noncomputable def kU:E:=.cmp (.meth .upper (.name 1) []) .eq (.name 32)
noncomputable def kB2:List UK.S:=[.ite (.cmp (.hm 5 (.name 43) [(.name 32)]) .ne (kC [kU] [32])) [.ret (.lit (.bool false))] []]
noncomputable def locK1(L:List (Str × Str)):UK.Loc:=[(43,.hdr (dL L)),(48,.lst (dL L)),(50,.ref 0)]
theorem comp_snd{cs:List E}{cp:List Nat}{q:Str × Str→Bool}{loc:UK.Loc}(hL:L.length≤50)(h0:UK.get loc 48=some (.lst (dL L)))(ht:∀ x∈L,∀ led',turnP (cxK X k) (.name 8) (.tup [(.name 1),(.name 8)]) cs (capt cp loc) (pr x) led'=some (cond (q x) (some (D.str x.2)) none,led')) :
  evE (cxK X k) (kC cs cp) loc led=some (.ref led.length,led++[.list (strD ((L.filter q).map (·.2)))]):=by
 have hc:=comp_mk (n:=led.length) (led0:=led) (turn:=turnP (cxK X k) (.name 8) (.tup [(.name 1),(.name 8)]) cs (capt cp loc)) (mk:=pr) rfl (fun x=>cond (q x) (some (D.str x.2)) none) L [] 4096 (by(revert hL;exact z1 0xffc212001602c0195800)) (Nat.lt_of_le_of_lt (Nat.le_trans (Nat.le_of_eq (Nat.zero_add _)) hL) (by decide)) (fun x hx ys'=>turn_pl rfl (ht x hx _))
 rw[List.nil_append,filtM,show ((L.filter q).map fun p=>D.str p.2)=strD ((L.filter q).map (·.2)) from by unfold strD;rw[List.map_map];rfl] at hc
 exact comp_eq (l1:=led) (vs:=[.lst (dL L)]) (src:=.fz (dL L)) (es0 (name_e h0)) rfl hc
theorem list_at{led:Led}{o:O}{xs:List D}{rest:Led}(h:o=.list xs):Led.list (led++o::rest) (.ref led.length)=some xs:=by
 subst h
 refine bindF (f:=O.list?) (a:=.list xs) ?_
 rw[List.getElem?_append_right (Nat.le_refl _),Nat.sub_self];rfl
theorem letter_ok(H:Hv X)(h:TabOk L){q:Nat}(hq:q<9):evSs (cxK X (k+2)) [50] 1 kB2 (locK1 L++[(32,dS (tS [nm false q]))]) led=some (.nx,locK1 L++[(32,dS (tS [nm false q]))],led):=by
 have g1:=(hm_R (X:=X) (k:=k+2) (f:=5) (o:=.name 43) (as:=[(.name 32)]) (loc:=locK1 L++[(32,dS (tS [nm false q]))]) (led:=led) (l1:=led) (led':=led) (v:=.hdr (dL L)) (vs:=[dS (tS [nm false q])]) rfl rfl rfl).trans (getall_ok (k:=k+1) (H.nm false q hq) h.short)
 have g2:=comp_snd (X:=X) (k:=k+2) (L:=L) (led:=led++[.list (strD ((L.filter fun p=>low p.1==low (tS [nm false q])).map (·.2)))]) (cs:=[kU]) (cp:=[32]) (loc:=locK1 L++[(32,dS (tS [nm false q]))]) (q:=fun p=>low p.1==low (tS [nm false q])) h.len rfl (fun x hx led'=>by
  obtain⟨lo,p,v,h1,rfl⟩:=h.mem x hx
  have hu:evE (cxK X (k+2)) kU [(32,dS (tS [nm false q])),(1,dS (tS [nm lo p])),(8,dS v)] led'=some (.d (.bool (low (tS [nm lo p])==low (tS [nm false q]))),led'):=by
   rw[low_at h1,low_at hq]
   refine cmp_e (y:=dS (tS [nm false q])) (l2:=led') ((meth_e (v:=dS (tS [nm lo p])) (vs:=[]) (l1:=led') rfl rfl rfl).trans (up_m (by rw[up_at h1];exact(show 1≤4096 by decide)))) rfl ?_
   rw[up_at h1,strEq]
   refine congrArg some (Bool.eq_iff_iff.mpr ?_)
   rw[beq_iff_eq,beq_iff_eq]
   constructor
   ·intro e;have e:=(List.cons.inj e).1;unfold nm at e;rw[show p=q from Nat.add_left_cancel e]
   ·intro e;have e:=(List.cons.inj (tS_inj e)).1;rw[show p=q by(revert e;exact z2 0x7c200fc210818100c36a00030da82)]
  show turnP _ _ _ _ _ _ _=some (cond (low (tS [nm lo p])==low (tS [nm false q])) (some (D.str v)) none,led')
  cases hb:low (tS [nm lo p])==low (tS [nm false q]) with
  | true=>rw[hb] at hu;exact turn_t rfl hu rfl (name_e rfl)
  | false=>rw[hb] at hu;exact turn_f rfl hu rfl)
 have he:=eq_strD ((L.filter fun p=>low p.1==low (tS [nm false q])).map (·.2))
 revert g1 g2 he
 generalize strD ((L.filter fun p=>low p.1==low (tS [nm false q])).map (·.2))=xs
 intro g1 g2 he
 have hc:=cmp_e (op:=.ne) g1 g2 (ne_self rfl (by rw[List.append_assoc];exact list_at rfl) (list_at rfl) he).1
 exact(seq1 ((ite_f hc rfl).trans (by rw[List.append_assoc,List.take_left];rfl))).trans rfl
theorem asked_ok(H:Hv X)(h:TabOk L):R X (k+3) 25 [.hdr (dL L),.lst (dL L)] []=some (.d (.bool true),[]):=by
 have f1:=for_id (tg:=.tup [(.name 1),(.name 8)]) (body:=fun loc led'=>evSs (cxK X (k+2)) [50] 0 kB1 loc led') (loc:=locK L) (led:=[]) (mk:=pr) L 4096 (by have:=h.len;(revert this;exact z1 0xffc212001602c0195800)) (fun x hx=>by
  obtain⟨lo,p,v,h1,rfl⟩:=h.mem x hx
  have u:evE (cxK X (k+2)) (.meth .upper (.name 1) []) (locK L++[(1,dS (tS [nm lo p])),(8,dS v)]) []=some (dS (tS [nm false p]),[]):=by
   refine(meth_e (v:=dS (tS [nm lo p])) (vs:=[]) (l1:=[]) rfl rfl rfl).trans ((up_m (by rw[up_at h1];exact(show 1≤4096 by decide))).trans ?_)
   rw[up_at h1]
  have d:evE (cxK X (k+2)) (.meth .lower (.name 1) []) (locK L++[(1,dS (tS [nm lo p])),(8,dS v)]) []=some (dS (tS [nm true p]),[]):=by
   refine(low_e (x:=tS [nm lo p]) rfl (by rw[low_at h1];exact(show 1≤100 by decide))).trans ?_
   rw[low_at h1];rfl
  exact⟨locK L++[(1,dS (tS [nm lo p])),(8,dS v)],_,_,rfl,(seq1 ((ite_f' ((or_f (ask_e H h hx h1 rfl rfl u) rfl).trans (ask_e H h hx h1 rfl rfl d)) rfl).trans rfl)).trans rfl,rfl⟩)
 have e1:evS (cxK X (k+2)) [50] 0 (.assign (.name 50) (.hm 3 (.name 43) [])) (locK L) []=some (.nx,locK1 L,[.list (dL L)]):=
  assign1 (b:=⟨1,locK1 L,[.list (dL L)]⟩) ((hm_R (v:=.hdr (dL L)) (vs:=[]) (l1:=[]) (led':=[]) rfl rfl rfl).trans (items_ok (k:=k+1) h.len)) rfl
 have c2:=cmp_e (cx:=cxK X (k+2)) (loc:=locK1 L) (led:=[.list (dL L)]) (l1:=[.list (dL L)]) (l2:=[.list (dL L)]) (a:=.name 50) (b:=.name 48) (op:=.ne) (x:=.ref 0) (y:=.lst (dL L)) rfl rfl (ne_self (xs:=dL L) rfl rfl rfl (eq_dL L)).1
 have e3:evE (cxK X (k+2)) (.meth .insert (.name 50) [(.lit (.int 0)),(.tuple [(.lit (.str ⟨#[97]⟩)),(.lit (.str ⟨#[]⟩))])]) (locK1 L) [.list (dL L)]=some (.d .none,[.list (pr (tS [97],tS [])::dL L)]):=
  (meth_e (v:=.ref 0) (l1:=[.list (dL L)]) (vs:=[dI 0,.d (pr (tS [97],tS []))]) (l2:=[.list (dL L)]) rfl rfl rfl).trans (Eq.trans (b:=gd ((dL L).length<cap∧(0:Int)≤0∧(0:Int)≤((dL L).length:Int)) (some (V.d .none,[O.list (pr (tS [97],tS [])::dL L)]))) rfl (gdF ⟨Nat.lt_of_le_of_lt (Nat.le_trans (Nat.le_of_eq (dL_len L)) h.len) (by decide),Int.le_refl _,Int.natCast_nonneg _⟩))
 have f2:=for_id (tg:=.name 32) (body:=fun loc led'=>evSs (cxK X (k+2)) [50] 1 kB2 loc led') (loc:=locK1 L) (led:=[.list (pr (tS [97],tS [])::dL L)]) (mk:=fun q=>D.str (tS [nm false q])) (List.range 9) 4096 (by decide) (fun q hq=>⟨locK1 L++[(32,dS (tS [nm false q]))],_,_,rfl,letter_ok H h (List.mem_range.mp hq),rfl⟩)
 have g1:=(hm_R (X:=X) (k:=k+2) (f:=6) (o:=.name 43) (as:=[]) (loc:=locK1 L) (led:=[.list (pr (tS [97],tS [])::dL L)]) (l1:=[.list (pr (tS [97],tS [])::dL L)]) (led':=[.list (pr (tS [97],tS [])::dL L)]) (v:=.hdr (dL L)) (vs:=[]) rfl rfl rfl).trans (values_ok (k:=k+1) h.len)
 have g2:=comp_snd (X:=X) (k:=k+2) (L:=L) (led:=[.list (pr (tS [97],tS [])::dL L)]++[.list (strD (L.map (·.2)))]) (cs:=[]) (cp:=[]) (loc:=locK1 L) (q:=fun p=>true) h.len rfl (fun x hx led'=>turn_no (loc:=[(1,dS x.1),(8,dS x.2)]) rfl rfl)
 rw[List.filter_eq_self.mpr (fun _ _=>rfl)] at g2
 have hc:=cmp_e (op:=.eq) g1 g2 (ne_self rfl (xs:=strD (L.map (·.2))) rfl rfl (eq_strD _)).2
 have hr:=ret1 (mu:=[50]) (n₀:=0) hc
 have hF1:=for_eq (cx:=cxK X (k+2)) (mu:=[50]) (n₀:=0) (b:=kB1) (loc:=locK L) (t:=.tup [(.name 1),(.name 8)]) (k:=.e) (its:=[(.name 48)]) (led:=[]) (l1:=[]) (vs:=[.lst (dL L)]) (src:=.fz (dL L)) rfl rfl
 have hF2:=for_eq (cx:=cxK X (k+2)) (mu:=[50]) (n₀:=0) (b:=kB2) (loc:=locK1 L) (t:=.name 32) (k:=.e) (its:=[(.lit (.str ⟨#[65,66,67,68,69,70,71,72,73]⟩))]) (led:=[.list (pr (tS [97],tS [])::dL L)]) (l1:=[.list (pr (tS [97],tS [])::dL L)]) (vs:=[dS (tS (nmz false))]) (src:=.fz ((List.range 9).map fun q=>D.str (tS [nm false q]))) rfl rfl
 exact R_step (fn:=m2f25) (loc:=locK L) (fl:=.ret (.d (.bool true))) rfl rfl ((seq1 (hF1.trans f1)).trans ((seq1 e1).trans ((seq1 ((ite_f' c2 rfl).trans rfl)).trans ((seq1 (expr1 e3)).trans ((seq1 (hF2.trans f2)).trans (seqR hr)))))) rfl
end
end
section
noncomputable def sqRow(t:List Nat)(r:Run)(w:Nat):List Str:=(List.range (r.2.1-2*w+1-r.1)).map fun i=>tS (sub t (r.1+i) (r.1+i+w))
noncomputable def sqRun(t:List Nat)(r:Run):List Str:=(List.range ((r.2.1-r.1) / 2 / r.2.2)).flatMap fun i=>sqRow t r (r.2.2*(i+1))
noncomputable def sqL(t:List Nat)(rs:List Run):List Str:=rs.flatMap (sqRun t)
theorem dig_all(led:Led):((List.range 10).map fun i:Nat=>evBi led .int [ch (48+i)])=mapR (fun i:Nat=>some (dI (i:Int),led)) (List.range 10):=by kernel_rfl
noncomputable def prQ:List (Nat × Nat):=(List.range 9).flatMap fun a=>(List.range 10).map fun b=>(a+1,b)
theorem rngS_all:(prQ.map fun p=>rng p.1 ((p.2:Int)+1) p.1)=mapR (fun p=>some ((List.range (p.2 / p.1)).map fun i=>D.int ((p.1*(i+1):Nat):Int))) prQ:=by kernel_rfl
theorem rngS{a b:Nat}(h1:1≤a)(ha:a≤9)(hb:b≤9):rng a ((b+1:Nat):Int) a=some ((List.range (b / a)).map fun i=>D.int ((a*(i+1):Nat):Int)):=
 mapAt rngS_all (a,b) (List.mem_flatMap.mpr ⟨a-1,List.mem_range.mpr (by(revert ha;exact z1 0x7fe10fc200043e4d40b0d4074d400)),List.mem_map.mpr ⟨b,List.mem_range.mpr (by(revert hb;exact z1 0xffc215540b4d400)),by rw[Nat.sub_add_cancel h1]⟩⟩)
theorem for_acc_live{β:Type}{tg:UK.T}{body:UK.Loc→Led→Option Res}{loc:UK.Loc}{mk:β→D}{f:β→List D}{zs:List D}:∀ (xs:List β) (acc:List D) (i N:Nat),zs.drop i=xs.map mk→xs.length<N→acc.length+(xs.flatMap f).length≤1000 →
  (∀ x∈xs,∀ acc,acc.length+(f x).length≤1000→∃ loc1 loc2 l2,bindD tg (mk x) loc=some loc1∧body loc1 [.list zs,.list acc]=some (.nx,loc2,l2)∧trunc loc.length 2 loc2 l2=some (loc,[.list zs,.list (acc++f x)])) →
  forLoop tg body N (.live 0 i) loc [.list zs,.list acc]=some (.nx,loc,[.list zs,.list (acc++xs.flatMap f)])
 | xs,acc,i,0,_,hN,_,_=>absurd hN (Nat.not_lt_zero _)
 | [],acc,i,N+1,hd,_,_,_=>by
  rw[List.flatMap_nil,List.append_nil]
  exact for_end (congrArg (fun o=>some (Option.map (fun x=>(x,Src.live 0 (i+1))) o)) (List.getElem?_eq_none (List.drop_eq_nil_iff.mp hd)))
 | x::xs,acc,i,N+1,hd,hN,hl,h=>by
  rw[List.flatMap_cons,List.length_append] at hl
  have hz:zs[i]?=some (mk x):=by
   have:=congrArg (fun l=>l[0]?) hd
   rwa [List.getElem?_drop] at this
  obtain⟨loc1,loc2,l2,e1,e2,e3⟩:=h x (.head _) acc (by(revert hl;exact z3 0x3ff0841f45820a281f45841a0280))
  have ih:=for_acc_live (mk:=mk) (f:=f) xs (acc++f x) (i+1) N (by rw[←List.drop_drop,hd];rfl) (Nat.lt_of_succ_lt_succ hN) (by rw[List.length_append];(revert hl;exact z3 0xffc2107d1610414a281f45841a0280)) fun y hy=>h y (.tail _ hy)
  rw[List.append_assoc] at ih
  rw[List.flatMap_cons]
  exact(for_go (led:=[.list zs,.list acc]) (src:=.live 0 i) (src':=.live 0 (i+1)) (x:=mk x) (congrArg (fun o=>some (Option.map (fun x=>(x,Src.live 0 (i+1))) o)) hz) e1 e2 e3).trans ih
theorem strD_flat{α:Type}{g:α→List Str}{l:List α}:(l.flatMap fun p=>strD (g p))=strD (l.flatMap g):=List.map_flatMap.symm
section
variable{X:Tab}{k:Nat}{t:List Nat}{r:Run}{w:Nat}{zs:List D}
noncomputable def locQ(t:List Nat):UK.Loc:=[(31,dS (tS t)),(52,.ref 0),(51,.ref 1)]
noncomputable def locQ1(t:List Nat)(r:Run):UK.Loc:=locQ t++[(8,dS (tS (valS r))),(40,dI r.1),(41,dI r.2.1),(42,dI r.2.2)]
noncomputable def qElt:E:=.slice (.name 31) (.name 4) (.bin .add (.name 4) (.name 53)) (.lit .none)
noncomputable def qComp:E:=.comp qElt (.name 4) .range [(.name 40),(.bin .add (.bin .sub (.name 41) (.bin .mul (.lit (.int 2)) (.name 53))) (.lit (.int 1)))] [] [31,53]
noncomputable def qB1:List UK.S:=[.expr (.meth .extend (.name 51) [qComp])]
noncomputable def qI(i:Int):E:=.bi .int [(.index (.name 8) (.lit (.int i)))]
noncomputable def qA:UK.S:=.assign (.tup [(.name 40),(.name 41),(.name 42)]) (.tuple [(qI 0),(qI 1),(qI 2)])
noncomputable def qB0:List UK.S:=[qA,.for (.name 53) .range [(.name 42),(.bin .add (.bin .fdiv (.bin .sub (.name 41) (.name 40)) (.lit (.int 2))) (.lit (.int 1))),(.name 42)] qB1]
theorem sq_row(hl:t.length≤9)(he:r.2.1≤t.length)(hw:r.1+2*w≤r.2.1){acc:List D}(ha:acc.length+(strD (sqRow t r w)).length≤1000) :
  evSs (cxK X k) [51] 2 qB1 (locQ1 t r++[(53,dI w)]) [.list zs,.list acc]=some (.nx,locQ1 t r++[(53,dI w)],[.list zs,.list (acc++strD (sqRow t r w))]):=by
 have hlen:(List.range (r.2.1-2*w+1-r.1)).length≤20:=by rw[List.length_range];(revert hl he;exact z4 0x7fe1080200869502861a828708ae038c004d460)
 have hc:=comp_mk (n:=2) (led0:=[.list zs,.list acc]) (turn:=turnP (cxK X k) qElt (.name 4) [] (capt [31,53] (locQ1 t r++[(53,dI w)]))) (mk:=fun i=>D.int ((r.1+i:Nat):Int)) rfl (fun i=>some (D.str (tS (sub t (r.1+i) (r.1+i+w))))) (List.range (r.2.1-2*w+1-r.1)) [] 4096 (by(revert hlen;exact z1 0x3ff084800580ba5400)) (Nat.lt_of_le_of_lt (Nat.le_trans (Nat.le_of_eq (Nat.zero_add _)) hlen) (by decide)) (fun i hi ys'=>by
  have hi:=List.mem_range.mp hi
  refine turn_pl (n:=2) (led0:=[.list zs,.list acc]) (ys:=ys') rfl (turn_no (t:=.name 4) (lc:=[(31,dS (tS t)),(53,dI w)]) (x:=D.int ((r.1+i:Nat):Int)) (loc:=[(31,dS (tS t)),(53,dI w),(4,dI ((r.1+i:Nat):Int))]) rfl ?_)
  exact sl_e (x:=31) (e1:=.name 4) (e2:=.bin .add (.name 4) (.name 53)) rfl rfl (addI_e rfl rfl) (by(revert hl;exact z1 0xffc21a540a4d400)) (by(revert he hi;exact z5 0x1ff8401f8401000210f8831514018421a828720ae338860)) (by(revert he hw hi;exact z5 0x7fe1000200842520c54a28030fc01080210d41437c01088572188215c1400c80)))
 rw[List.nil_append,show (List.range (r.2.1-2*w+1-r.1)).filterMap (fun i=>some (D.str (tS (sub t (r.1+i) (r.1+i+w)))))=strD (sqRow t r w) from by rw[List.filterMap_eq_map'];unfold strD sqRow;rw[List.map_map];rfl] at hc
 have i2:=addI_e (cx:=cxK X k) (loc:=locQ1 t r++[(53,dI w)]) (led:=[.list zs,.list acc]) (e2:=.lit (.int 1)) (b:=1) (subI_e (e1:=.name 41) (a:=r.2.1) rfl (mul2_e (e2:=.name 53) (b:=w) rfl) (by(revert hw;exact z3 0xffc210805750402b8a80))) rfl
 have hE:=comp_eq (cx:=cxK X k) (l1:=[.list zs,.list acc]) (caps:=[31,53]) (its:=[(.name 40),_]) (k:=.range) (es1 (e:=.name 40) (v:=dI r.1) (l1:=[.list zs,.list acc]) rfl (es0 i2)) (srcR2 (rng_up (a:=r.1) (b:=r.2.1-2*w+1) (by(revert hl he hw;exact z4 0xffc21086950284315c14004404d420)) (by(revert hl he;exact z3 0x3ff084010d2a1a828a08ae0388004d440)))) hc
 have hx:evMeth [.list zs,.list acc,.list (strD (sqRow t r w))] .extend (.ref 1) [.ref 2]=some (.d .none,[.list zs,.list (acc++strD (sqRow t r w)),.list (strD (sqRow t r w))]):=
  Eq.trans (b:=gd (acc.length+(strD (sqRow t r w)).length<cap) (some (V.d .none,[O.list zs,.list (acc++strD (sqRow t r w)),.list (strD (sqRow t r w))]))) rfl (gdF (Nat.lt_of_le_of_lt ha (by decide)))
 have hm:=(meth_e (m:=.extend) (o:=.name 51) (v:=.ref 1) (l1:=[.list zs,.list acc]) rfl rfl (es0 hE)).trans hx
 exact(seq1 ((expr1 hm).trans rfl)).trans rfl
theorem sqRun_le(hw:r.1+2*w≤r.2.1)(he:r.2.1≤9):(strD (sqRow t r w)).length≤10:=by
 unfold strD sqRow
 rw[List.length_map,List.length_map,List.length_range];(revert he;exact z3 0x7fe1004010aaa050c35050e115c074d400)
theorem mul_le_of{s m i:Nat}(h:i<m / s):s*(i+1)≤m:=Nat.le_trans (Nat.mul_le_mul_left s h) (Nat.mul_div_le m s)
theorem sq_run(hl:t.length≤9)(hr:RunOk t r){acc:List D}(ha:acc.length+(strD (sqRun t r)).length≤1000) :
  evSs (cxK X k) [51] 2 qB0 (locQ t++[(8,dS (tS (valS r)))]) [.list zs,.list acc]=some (.nx,locQ1 t r,[.list zs,.list (acc++strD (sqRun t r))]):=by
 obtain⟨r1,r2,r3⟩:=hr
 have hi:∀ (i c:Nat),(valS r)[i]?=some (48+c)→c≤9→i≤9→evE (cxK X k) (qI i) (locQ t++[(8,dS (tS (valS r)))]) [.list zs,.list acc]=some (dI c,[.list zs,.list acc]):=fun i c h1 h2 h3=>
  (bi_e (es0 (index_e (x:=dS (tS (valS r))) (y:=dI i) (l1:=[.list zs,.list acc]) (l2:=[.list zs,.list acc]) rfl rfl (idxS h1 (show 3≤100 by decide))))).trans (mapAt (dig_all _) c (List.mem_range.mpr (by(revert h2;exact z1 0xffc215540b4d400))))
 have e1:evS (cxK X k) [51] 2 qA (locQ t++[(8,dS (tS (valS r)))]) [.list zs,.list acc]=some (.nx,locQ1 t r,[.list zs,.list acc]):=
  assign1 (l1:=[.list zs,.list acc]) (b:=⟨2,locQ1 t r,[.list zs,.list acc]⟩) (tuple_e (vs:=[dI r.1,dI r.2.1,dI r.2.2]) (es1 (hi 0 r.1 rfl (by(revert hl r1 r2;exact z4 0xffc21085350282300c42b82804d420)) (by decide)) (es1 (hi 1 r.2.1 rfl (by(revert hl r2;exact z2 0xffc210a6a0504004d420)) (by decide)) (es0 (hi 2 r.2.2 rfl (by(revert hl r1 r2;exact z4 0xffc21089350282300c02b8a804d420)) (by decide))))) rfl) rfl
 have hF:=for_acc (tg:=.name 53) (body:=fun loc led'=>evSs (cxK X k) [51] 2 qB1 loc led') (loc:=locQ1 t r) (led0:=[.list zs]) (mk:=fun i=>D.int ((r.2.2*(i+1):Nat):Int)) (f:=fun i=>strD (sqRow t r (r.2.2*(i+1)))) (List.range ((r.2.1-r.1) / 2 / r.2.2)) acc 4096 (by rw[List.length_range];have:=Nat.div_le_self ((r.2.1-r.1) / 2) r.2.2;(revert hl r2 this;exact z4 0xffc2100401108800584b0080012062384404d420)) (by rw[strD_flat];exact ha) (fun i hi acc ha=>by
  have h1:=mul_le_of (List.mem_range.mp hi)
  exact⟨_,_,_,rfl,sq_row hl r2 (by(revert r1 h1;exact z4 0x1ff84011048315c54500600091f0840230862b8280)) ha,rfl⟩)
 rw[strD_flat] at hF
 have i2:=half_e (subI_e (cx:=cxK X k) (loc:=locQ1 t r) (led:=[.list zs,.list acc]) (e1:=.name 41) (e2:=.name 40) (a:=r.2.1) (b:=r.1) rfl rfl (by(revert r1;exact z3 0x3ff0842050442b8280)))
 have hsrc:srcOf 2 [.list zs,.list acc] .range [dI r.2.2,dI (((r.2.1-r.1) / 2+1:Nat):Int),dI r.2.2]=some (.fz ((List.range ((r.2.1-r.1) / 2 / r.2.2)).map fun i=>D.int ((r.2.2*(i+1):Nat):Int))):=
  mapF (f:=Src.fz) (rngS r3 (by(revert hl r1 r2;exact z4 0xffc21089350282300c02b8a804d420)) (by(revert hl r2;exact z3 0x3ff0840100449a814012020388004d440)))
 exact(seq1 e1).trans ((seq1 ((for_eq (led:=[.list zs,.list acc]) (b:=qB1) (t:=.name 53) (mu:=[51]) (n₀:=2) (k:=.range) (es1 (e:=.name 42) (v:=dI r.2.2) (l1:=[.list zs,.list acc]) rfl (es1 i2 (es0 (e:=.name 42) (v:=dI r.2.2) rfl))) hsrc).trans hF)).trans rfl)
theorem squares_ok(hl:t.length≤9){rs:List Run}(hr:∀ r∈rs,RunOk t r)(hrs:rs.length≤20) :
  R X (k+1) 26 [dS (tS t),.ref 0] [.list (strD (rs.map fun r=>tS (valS r)))]=some (.ref 1,[.list (strD (rs.map fun r=>tS (valS r))),.list (strD (sqL t rs))]):=by
 have hlen:(strD (sqL t rs)).length≤1000:=by
  unfold strD sqL
  rw[List.length_map,List.length_flatMap]
  refine Nat.le_trans (sum_le (c:=40) _ fun r h=>?_) (Nat.le_trans (Nat.mul_le_mul_right 40 hrs) (by decide))
  obtain⟨r1,r2,r3⟩:=hr r h
  unfold sqRun
  rw[List.length_flatMap]
  refine Nat.le_trans (sum_le (c:=10) _ fun i hi=>?_) ?_
  ·have h1:=mul_le_of (List.mem_range.mp hi)
   have:=sqRun_le (t:=t) (r:=r) (w:=r.2.2*(i+1)) (by(revert r1 h1;exact z4 0x1ff84011048315c54500600091f0840230862b8280)) (by(revert hl r2;exact z2 0xffc210a6a0504004d420))
   unfold strD at this
   rwa [List.length_map] at this
  ·rw[List.length_range]
   exact Nat.mul_le_mul_right 10 (Nat.le_trans (Nat.div_le_self _ r.2.2) (Nat.div_le_div_right (c:=2) (Nat.le_trans (Nat.sub_le _ _) (Nat.le_trans r2 hl))))
 have hz:strD (rs.map fun r=>tS (valS r))=rs.map fun r=>D.str (tS (valS r)):=by unfold strD;rw[List.map_map];rfl
 have hF:=for_acc_live (tg:=.name 8) (body:=fun loc led'=>evSs (cxK X k) [51] 2 qB0 loc led') (loc:=locQ t) (mk:=fun r=>D.str (tS (valS r))) (f:=fun r=>strD (sqRun t r)) (zs:=strD (rs.map fun r=>tS (valS r))) rs [] 0 4096 hz (by(revert hrs;exact z1 0x3ff084800580ba5400)) (by rw[strD_flat,List.length_nil];exact Nat.le_trans (Nat.le_of_eq (Nat.zero_add _)) hlen) (fun r h acc ha=>⟨_,_,_,rfl,sq_run hl (hr r h) ha,rfl⟩)
 rw[strD_flat,List.nil_append] at hF
 generalize strD (rs.map fun r=>tS (valS r))=zs at hF ⊢
 have e0:evS (cxK X k) [51] 1 (.assign (.name 51) (.list [])) [(31,dS (tS t)),(52,.ref 0)] [.list zs]=some (.nx,locQ t,[.list zs,.list []]):=rfl
 exact R_step (fn:=m2f26) (loc:=[(31,dS (tS t)),(52,.ref 0)]) (fl:=.ret (.ref 1)) rfl rfl ((seq1 e0).trans ((seq1 ((for_eq (cx:=cxK X k) (mu:=[51]) (n₀:=1) (loc:=locQ t) (led:=[.list zs,.list []]) (l1:=[.list zs,.list []]) (vs:=[.ref 0]) (k:=.e) (src:=.live 0 0) rfl rfl).trans hF)).trans (seqR (ret1 (name_e rfl))))) rfl
end
end
section
def Occ(l p:List Nat)(k:Nat):Prop:=k+p.length≤l.length∧(l.drop k).take p.length=p
theorem at_occ{l p:List Nat}{k:Nat}:StrLaws.At (tS l) (tS p) (tS l).length k↔Occ l p k:=by
 unfold StrLaws.At
 rw[StrLaws.subAt_eq,beq_iff_eq];exact Iff.rfl
theorem Occ.get{l p:List Nat}{k i:Nat}(h:Occ l p k)(hi:i<p.length):l[k+i]?=p[i]?:=by
 have:=congrArg (fun x=>x[i]?) h.2
 rwa [List.getElem?_take_of_lt hi,List.getElem?_drop] at this
noncomputable def DOT:List Nat:=[46,46,46]
def no46(A:List Nat):Prop:=∀ c∈A,c≠46
noncomputable def gl(A:List Nat):List (List Nat)→List Nat
 | []=>A
 | B::r=>A++(DOT++gl B r)
theorem tS_eta(s:Str):tS s.cps.toList=s:=by obtain⟨⟨l⟩⟩:=s;rfl
theorem strSub_is{l:List Nat}{a b:Nat}:Builtin.Str.strSub (tS l) a b=tS ((l.drop a).take (b-a)):=by
 rw[←tS_eta (Builtin.Str.strSub (tS l) a b),StrLaws.strSub_toList];rfl
theorem no_dot{pre A rest:List Nat}{k:Nat}(hA:no46 A)(h1:pre.length≤k)(h2:k<pre.length+A.length):¬Occ (pre++(A++rest)) DOT k:=fun h=>by
 have h:=h.get (i:=0) (by decide)
 rw[Nat.add_zero,List.getElem?_append_right h1,List.getElem?_append_left (by(revert h1 h2;exact z3 0xffc20084605fc20084061068008020))] at h
 exact hA 46 (List.mem_of_getElem? h) rfl
theorem dot_at{pre A rest:List Nat}:Occ (pre++(A++(DOT++rest))) DOT (pre.length+A.length):=by
 refine⟨?_,?_⟩
 ·rw[List.length_append,List.length_append,List.length_append];exact z4 0xffc2315034050410528a
 ·rw[←List.append_assoc,←List.length_append,List.drop_left];rfl
theorem split_chain{x:List Nat}:∀ (r:List (List Nat)) (A pre:List Nat),no46 A→(∀ B∈r,no46 B)→x=pre++gl A r→∀ cuts f,StrLaws.ChainG (tS x) (tS DOT) (tS x).length pre.length cuts f→(∀ k,f≤k→¬StrLaws.At (tS x) (tS DOT) (tS x).length k) →
  StrLaws.partsFrom (tS x) 3 pre.length cuts=(A::r).map tS∧cuts.length=r.length
 | [],A,pre,hA,_,hx,cuts,f,hc,hf=>by
  have hx:x=pre++A:=hx
  have hn:∀ k,pre.length≤k→¬Occ x DOT k:=fun k hk h=>by
   have h1:k+3≤x.length:=h.1
   rw[hx,List.length_append] at h1
   rw[hx,show A=A++[] from (List.append_nil A).symm] at h
   exact no_dot hA hk (by(revert h1;exact z3 0x1ff84220d00b10683a8280)) h
  match cuts with
  | []=>
   refine⟨?_,rfl⟩
   show [Builtin.Str.strSub (tS x) pre.length x.length]=[tS A]
   rw[strSub_is,hx,List.drop_left,List.take_of_length_le (by rw[List.length_append];exact z2 0x7fe10040157c2100686)]
  | c::cuts=>exact absurd (at_occ.mp hc.2.1) (hn c hc.1)
 | B::r,A,pre,hA,hr,hx,cuts,f,hc,hf=>by
  have hx:x=pre++(A++(DOT++gl B r)):=hx
  have hd:Occ x DOT (pre.length+A.length):=hx▸dot_at
  have hn:∀ k,pre.length≤k→k<pre.length+A.length→¬Occ x DOT k:=fun k h1 h2=>by rw[hx];exact no_dot hA h1 h2
  match cuts,hc with
  | [],hc=>
   have:f=pre.length:=hc
   exact absurd (at_occ.mpr hd) (hf _ (by(revert this;exact z3 0xffc211068050402)))
  | c::cuts,hc=>
   have e:c=pre.length+A.length:=by
    rcases Nat.lt_trichotomy c (pre.length+A.length) with h | h | h
    ·exact absurd (at_occ.mp hc.2.1) (hn c hc.1 h)
    ·exact h
    ·exact absurd (at_occ.mpr hd) (hc.2.2.1 _ (Nat.le_add_right _ _) h)
   subst e
   have hl:(pre++(A++DOT)).length=pre.length+A.length+3:=by rw[List.length_append,List.length_append,←Nat.add_assoc];rfl
   have ih:=split_chain (x:=x) r B (pre++(A++DOT)) (hr B (.head _)) (fun C h=>hr C (.tail _ h)) (by rw[hx,List.append_assoc,List.append_assoc]) cuts f (by rw[hl];exact hc.2.2.2) hf
   rw[hl] at ih
   refine⟨?_,congrArg (·+1) ih.2⟩
   show Builtin.Str.strSub (tS x) pre.length (pre.length+A.length)::StrLaws.partsFrom (tS x) 3 (pre.length+A.length+3) cuts=tS A::_
   rw[ih.1,strSub_is,Nat.add_sub_cancel_left,hx,List.drop_left,List.take_left]
section
variable{X:Tab}{k:Nat}{led:Led}{W G A B y:List Nat}{r:List (List Nat)}{j n s:Nat}
theorem split_e(hW:W=gl A (B::r))(hA:no46 A)(hr:∀ C∈B::r,no46 C)(hl:W.length≤100)(hrl:r.length≤10):evMeth led .split (dS (tS W)) [.d (.str ⟨#[46,46,46]⟩)]=some (.ref led.length,led++[.list (strD ((A::B::r).map tS))]):=by
 obtain⟨f,h1,h2⟩:=StrLaws.occ_tight (tS W) (tS DOT) (by decide)
 obtain⟨h3,h4⟩:=split_chain (x:=W) (B::r) A [] hA hr hW _ f h1 h2
 have hd:Occ W DOT (([]:List Nat).length+A.length):=by rw[hW];exact dot_at (pre:=[]) (A:=A) (rest:=gl B r)
 have hk:Builtin.Str.strKind (tS DOT)≤Builtin.Str.strKind (tS W):=by
  rw[show Builtin.Str.strKind (tS DOT)=1 by kernel_rfl]
  unfold Builtin.Str.strKind
  split
  ·decide
  ·split <;> decide
 have hp:Builtin.Str.partsBetween (tS W) (Builtin.Str.occurrences (tS W) (tS DOT) 0 (tS W).length ((tS W).length+1)) 3=(A::B::r).map tS:=(StrLaws.partsBetween_eq _ _ _).trans h3
 have e:evMeth led .split (dS (tS W)) [.d (.str ⟨#[46,46,46]⟩)]=gd (0<3∧3≤W.length∧Builtin.Str.strKind (tS DOT)≤Builtin.Str.strKind (tS W)∧W.length≤cap) (gd ((Builtin.Str.occurrences (tS W) (tS DOT) 0 (tS W).length ((tS W).length+1)).isEmpty=false) (gd ((Builtin.Str.partsBetween (tS W) (Builtin.Str.occurrences (tS W) (tS DOT) 0 (tS W).length ((tS W).length+1)) 3).length≤cap) (some (.ref led.length,led++[.list ((Builtin.Str.partsBetween (tS W) (Builtin.Str.occurrences (tS W) (tS DOT) 0 (tS W).length ((tS W).length+1)) 3).map .str)])))):=rfl
 rw[e,hp,gdF ⟨by decide,Nat.le_trans (Nat.le_add_left _ _) hd.1,hk,Nat.le_trans hl (by decide)⟩]
 generalize Builtin.Str.occurrences (tS W) (tS DOT) 0 (tS W).length ((tS W).length+1)=l at h4
 cases l with
 | nil=>exact nomatch h4
 | cons _ _=>exact(gdF rfl).trans (gdF (by rw[List.length_map];show r.length+1+1≤4096;(revert hrl;exact z1 0xffc21200160d4350528a55400)))
theorem dots_in(h:Occ W DOT n):evCmp led .notin (.d (.str ⟨#[46,46,46]⟩)) (dS (tS W))=some false:=by
 show some (!(Txt.contains (tS W) (tS DOT)))=_
 unfold Txt.contains
 rcases StrLaws.occ_head (tS W) (tS DOT) 1 (Nat.le_refl _) with ⟨_,h1⟩ | ⟨i,r,h1,_⟩
 ·exact absurd (at_occ.mpr h) (h1 n)
 ·rw[h1];rfl
theorem dots_out(h:no46 W):evCmp led .notin (.d (.str ⟨#[46,46,46]⟩)) (dS (tS W))=some true:=by
 show some (!(Txt.contains (tS W) (tS DOT)))=_
 unfold Txt.contains
 rcases StrLaws.occ_head (tS W) (tS DOT) 1 (Nat.le_refl _) with ⟨h1,_⟩ | ⟨i,r,_,h1,_⟩
 ·rw[h1];rfl
 ·have h2:=at_occ.mp h1
  rw[show W=[]++(W++[]) by rw[List.append_nil];rfl] at h2
  have:=h2.1
  exact absurd h2 (no_dot h (Nat.zero_le _) (by rw[List.nil_append,List.append_nil] at this;exact Nat.lt_of_lt_of_le (show i<i+3 by exact z1 0x1ff84750500b) (Nat.le_trans this (Nat.le_of_eq (Nat.zero_add _).symm))))
theorem plain_ok(h:no46 W):R X (k+1) 7 [dS (tS W),dS (tS G)] led=some (.d (.bool (W==G)),led):=by
 have c:=cmp_e (cx:=cxK X k) (loc:=[(9,dS (tS W)),(10,dS (tS G))]) (led:=led) (a:=.dots) (b:=.name 9) (l1:=led) (l2:=led) rfl rfl (dots_out (led:=led) h)
 have e:=cmp_e (cx:=cxK X k) (loc:=[(9,dS (tS W)),(10,dS (tS G))]) (led:=led) (a:=.name 9) (b:=.name 10) (op:=.eq) (l1:=led) (l2:=led) rfl rfl (strEq (led:=led) (a:=W) (b:=G))
 exact R_d (fn:=m2f7) (loc:=[(9,dS (tS W)),(10,dS (tS G))]) (fl:=.ret (.d (.bool (W==G)))) rfl rfl (seqR ((ite_t' c rfl).trans (seqR (ret1 e)))) rfl
end
end
section
theorem first_occ(G y:List Nat)(s:Nat):(Builtin.Str.occurrences (tS G) (tS y) s G.length 1=[]∧∀ k,s≤k→¬Occ G y k)∨∃ i r,Builtin.Str.occurrences (tS G) (tS y) s G.length 1=i::r∧s≤i∧Occ G y i∧∀ k,s≤k→k<i→¬Occ G y k:=by
 rcases StrLaws.occ_head_from (tS G) (tS y) s 1 (Nat.le_refl _) with ⟨h1,h2⟩ | ⟨i,r,h1,h2,h3,h4⟩
 ·exact .inl ⟨h1,fun k h q=>h2 k h (at_occ.mpr q)⟩
 ·exact .inr ⟨i,r,h1,h2,at_occ.mp h3,fun k h q z=>h4 k h q (at_occ.mpr z)⟩
section
variable{X:Tab}{k:Nat}{led:Led}{W G A B y w:List Nat}{r:List (List Nat)}{j n s e c N:Nat}{ws:List D}
theorem gtI{led:Led}{a b:Nat}:evCmp led .gt (dI a) (dI b)=some (decide (b<a)):=by
 show some (decide ((b:Int)<a))=_
 rw[decide_eq_decide.mpr Int.ofNat_lt]
noncomputable def locY(W G:List Nat)(j s e:Nat)(w:List Nat):UK.Loc:=[(9,dS (tS W)),(10,dS (tS G)),(11,.ref j),(12,dI s),(13,dI e),(14,dS (tS w))]
noncomputable def fFind:E:=.meth .find (.name 10) [(.name 14),(.name 12),(.name 13)]
noncomputable def fBod:List UK.S:=[.assign (.name 12) fFind,.ite (.cmp (.name 12) .lt (.lit (.int 0))) [.ret (.lit (.bool false))] [],.aug 12 .add (.bi .len [(.name 14)])]
noncomputable def fA1:UK.S:=.assign (.name 11) (.meth .split (.name 9) [.dots])
noncomputable def fI1:UK.S:=.ite (.name 14) [.ite (.meth .startswith (.name 10) [(.name 14)]) [.assign (.name 12) (.bi .len [(.name 14)]),.delx 11 (.lit (.int 0))] [.ret (.lit (.bool false))]] []
noncomputable def fI2:UK.S:=.ite (.name 14) [.ite (.meth .endswith (.name 10) [(.name 14)]) [.aug 13 .sub (.bi .len [(.name 14)]),.delx 11 (.neg (.lit (.int 1)))] [.ret (.lit (.bool false))]] []
noncomputable def fI3:UK.S:=.ite (.cmp (.name 12) .gt (.name 13)) [.ret (.lit (.bool false))] []
noncomputable def fA4:UK.S:=.assign (.name 14) (.index (.name 11) (.neg (.lit (.int 1))))
noncomputable def fEnd:List UK.S:=[.for (.name 14) .e [(.name 11)] fBod,.ret (.lit (.bool true))]
noncomputable def fMid:List UK.S:=fI1::fA4::fI2::fI3::fEnd
theorem idxR{led:Led}{v:V}{xs:List D}{i:Int}{x:D}(hl:led.list (.ref j)=some xs)(h:atI xs i=some (.d x))(hi:-100≤i∧i≤100):evIndex led (.ref j) (dI i)=some (.d x):=
 (bindF (a:=D.int i) rfl).trans ((gdF (by exact Z.s62 hi)).trans ((bindF hl).trans h))
theorem m_begin(hW:W=gl A (B::r))(hA:no46 A)(hr:∀ C∈B::r,no46 C)(hl:W.length≤100)(hG:G.length≤100)(hrl:r.length≤10) :
  evSs (cxK X k) [11] led.length m2f7.body [(9,dS (tS W)),(10,dS (tS G))] led=evSs (cxK X k) [11] led.length fMid (locY W G led.length 0 G.length A) (led++[.list (strD ((A::B::r).map tS))]):=by
 have hd:Occ W DOT (([]:List Nat).length+A.length):=by rw[hW];exact dot_at (pre:=[]) (A:=A) (rest:=gl B r)
 have c:=cmp_e (cx:=cxK X k) (loc:=[(9,dS (tS W)),(10,dS (tS G))]) (led:=led) (a:=.dots) (b:=.name 9) (l1:=led) (l2:=led) rfl rfl (dots_in (led:=led) hd)
 have hs:=(meth_e (cx:=cxK X k) (loc:=[(9,dS (tS W)),(10,dS (tS G))]) (led:=led) (m:=.split) (o:=.name 9) (as:=[.dots]) (v:=dS (tS W)) (l1:=led) (vs:=[.d (.str ⟨#[46,46,46]⟩)]) (l2:=led) rfl rfl rfl).trans (split_e (led:=led) hW hA hr hl hrl)
 have hx:strD ((A::B::r).map tS)=.str (tS A)::strD ((B::r).map tS):=rfl
 have hlen:(strD ((A::B::r).map tS)).length=r.length+2:=by unfold strD;rw[List.length_map,List.length_map];rfl
 generalize strD ((A::B::r).map tS)=ws at hs hx hlen ⊢
 have hL:Led.list (led++[O.list ws]) (.ref led.length)=some ws:=list_at rfl
 have e1:evS (cxK X k) [11] led.length fA1 [(9,dS (tS W)),(10,dS (tS G))] led=some (.nx,[(9,dS (tS W)),(10,dS (tS G)),(11,.ref led.length)],led++[O.list ws]):=by
  refine assign1 (b:=⟨led.length+1,[(9,dS (tS W)),(10,dS (tS G)),(11,.ref led.length)],led++[O.list ws]⟩) hs ?_
  show place (led++[O.list ws]) led.length 11 led.length .ref ⟨led.length,[(9,dS (tS W)),(10,dS (tS G))],(led++[O.list ws]).take led.length⟩=_
  rw[List.take_left]
  refine(gdF (Nat.le_refl _)).trans ((bindF (a:=O.list ws) ?_).trans rfl)
  rw[List.getElem?_append_right (Nat.le_refl _),Nat.sub_self];rfl
 generalize led++[O.list ws]=L at hL e1 ⊢
 have eq2:evS (cxK X k) [11] led.length (.assert (.cmp (.bi .len [(.name 11)]) .ge (.lit (.int 2)))) [(9,dS (tS W)),(10,dS (tS G)),(11,.ref led.length)] L=some (.nx,[(9,dS (tS W)),(10,dS (tS G)),(11,.ref led.length)],L):=by
  have h:=cmp_e (cx:=cxK X k) (loc:=[(9,dS (tS W)),(10,dS (tS G)),(11,.ref led.length)]) (op:=.ge) (b:=.lit (.int 2)) (y:=dI (2:Nat)) (l2:=L) ((bi_e (b:=.len) (es0 (e:=.name 11) (v:=.ref led.length) (l1:=L) rfl)).trans (len_list ⟨rfl,hL⟩ (by rw[hlen];show r.length+2≤4096;(revert hrl;exact z1 0x1ff8424002c2a828a55400)))) rfl geI
  rw[decide_eq_true (by(revert hlen;exact z2 0x7fe100402aa8550d002))] at h
  exact(bindF h).trans ((bindF (a:=true) rfl).trans (by rw[List.take_length];rfl))
 have e3:evS (cxK X k) [11] led.length (.assign (.tup [(.name 12),(.name 13)]) (.tuple [(.lit (.int 0)),(.bi .len [(.name 10)])])) [(9,dS (tS W)),(10,dS (tS G)),(11,.ref led.length)] L=some (.nx,[(9,dS (tS W)),(10,dS (tS G)),(11,.ref led.length),(12,dI 0),(13,dI G.length)],L):=
  (assign1 (b:=⟨L.length,[(9,dS (tS W)),(10,dS (tS G)),(11,.ref led.length),(12,dI 0),(13,dI G.length)],L.take L.length⟩) (tuple_e (vs:=[dI 0,dI G.length]) (l1:=L) (es1 (l1:=L) rfl (es0 (len_e (t:=G) (x:=10) rfl hG))) rfl) rfl).trans (by rw[List.take_length])
 have e4:evS (cxK X k) [11] led.length (.assign (.name 14) (.index (.name 11) (.lit (.int 0)))) [(9,dS (tS W)),(10,dS (tS G)),(11,.ref led.length),(12,dI 0),(13,dI G.length)] L=some (.nx,locY W G led.length 0 G.length A,L):=
  assignD (index_e (x:=.ref led.length) (y:=dI 0) (l1:=L) (l2:=L) rfl rfl (idxR (v:=dI 0) (x:=.str (tS A)) hL (by rw[hx];exact atI_nat (i:=0) rfl) (by decide))) rfl
 exact(seq1 ((ite_f' c rfl).trans rfl)).trans ((seq1 e1).trans ((seq1 eq2).trans ((seq1 e3).trans (seq1 e4))))
theorem find_m{L:Led}(hs:s≤G.length)(hG:G.length≤100):evMeth L .find (dS (tS G)) [dS (tS y),dI s,dI G.length]=some (dI (match Builtin.Str.occurrences (tS G) (tS y) s G.length 1 with | i::_=>(i:Int) | []=>-1),L):=
 Eq.trans (b:=gd ((0:Int)≤s∧(0:Int)≤G.length∧(G.length:Int)≤G.length∧G.length≤cap) (some (dI (match Builtin.Str.occurrences (tS G) (tS y) s G.length 1 with | i::_=>(i:Int) | []=>-1),L))) rfl (gdF ⟨Int.natCast_nonneg _,Int.natCast_nonneg _,Int.le_refl _,Nat.le_trans hG (by decide)⟩)
noncomputable def fLoop(X:Tab)(k:Nat)(L:Led):Nat→Src→UK.Loc→Led→Option Res:=forLoop (.name 14) fun loc led'=>evSs (cxK X k) [11] L.length fBod loc led'
theorem fnd_e{L:Led}(hs:s≤G.length)(hG:G.length≤100){i:Int}(hi:(match Builtin.Str.occurrences (tS G) (tS y) s G.length 1 with | i::_=>(i:Int) | []=>-1)=i):evS (cxK X k) [11] n (.assign (.name 12) fFind) (locY W G j s G.length y) L=some (.nx,[(9,dS (tS W)),(10,dS (tS G)),(11,.ref j),(12,dI i),(13,dI G.length),(14,dS (tS y))],L):=by
 have h:=find_m (y:=y) (L:=L) hs hG
 rw[hi] at h
 exact assignD ((meth_e (m:=.find) (o:=.name 10) (v:=dS (tS G)) (l1:=L) (vs:=[dS (tS y),dI s,dI G.length]) (l2:=L) rfl rfl rfl).trans h) rfl
theorem loop_found{L:Led}(hj:L[j]?=some (.list ws))(hw:ws[c]?=some (.str (tS y))){i:Nat}{q:List Nat}(ho:Builtin.Str.occurrences (tS G) (tS y) s G.length 1=i::q)(hi:Occ G y i)(hs:s≤i)(hG:G.length≤100) :
  fLoop X k L (N+1) (.live j c) (locY W G j s G.length w) L=fLoop X k L N (.live j (c+1)) (locY W G j (i+y.length) G.length y) L:=by
 have h1:=hi.1
 have e1:=fnd_e (X:=X) (k:=k) (W:=W) (G:=G) (s:=s) (j:=j) (n:=L.length) (L:=L) (y:=y) (i:=(i:Int)) (by(revert hs h1;exact z4 0xffc210840a08c5400800)) hG (by rw[ho])
 have c2:evE (cxK X k) (.cmp (.name 12) .lt (.lit (.int 0))) (locY W G j i G.length y) L=some (.d (.bool false),L):=cmp_e (x:=dI i) (y:=dI (0:Nat)) (l1:=L) (l2:=L) rfl rfl (ltI.trans (by rw[decide_eq_false (Nat.not_lt_zero _)]))
 have e3:evS (cxK X k) [11] L.length (.aug 12 .add (.bi .len [(.name 14)])) (locY W G j i G.length y) L=some (.nx,locY W G j (i+y.length) G.length y,L):=(aug_a (a:=(i:Int)) (b:=(y.length:Int)) rfl (len_e (t:=y) (x:=14) rfl (by(revert hG h1;exact z3 0x3ff08420192c050402a000325820)))).trans rfl
 have hlt:=(List.getElem?_eq_some_iff.mp hj).1
 refine for_go (src':=.live j (c+1)) (x:=.str (tS y)) (loc1:=locY W G j s G.length y) (mapF (a:=ws) (f:=fun xs=>(xs[c]?).map fun x=>(x,Src.live j (c+1))) (bindF (f:=O.list?) hj) |>.trans (by rw[hw];rfl)) rfl ((seq1 e1).trans ((seq1 ((ite_f' c2 rfl).trans rfl)).trans ((seq1 e3).trans rfl))) ((gdF ?_).trans (by rw[List.take_length];rfl))
 show (true&&(true&&(decide (j<L.length)&&_)))=true
 rw[decide_eq_true hlt];rfl
theorem loop_none{L:Led}(hj:L[j]?=some (.list ws))(hw:ws[c]?=some (.str (tS y)))(ho:Builtin.Str.occurrences (tS G) (tS y) s G.length 1=[])(hs:s≤G.length)(hG:G.length≤100) :
  ∃ l,fLoop X k L (N+1) (.live j c) (locY W G j s G.length w) L=some (.ret (.d (.bool false)),l,L):=by
 have e1:=fnd_e (X:=X) (k:=k) (W:=W) (G:=G) (s:=s) (j:=j) (n:=L.length) (L:=L) (y:=y) (i:=-1) hs hG (by rw[ho])
 refine⟨_,for_stop (src':=.live j (c+1)) (x:=.str (tS y)) (loc1:=locY W G j s G.length y) (mapF (a:=ws) (f:=fun xs=>(xs[c]?).map fun x=>(x,Src.live j (c+1))) (bindF (f:=O.list?) hj) |>.trans (by rw[hw];rfl)) rfl ((seq1 e1).trans (seqR ((ite_t' (v:=.d (.bool true)) rfl rfl).trans (seqR rfl))))⟩
theorem loop_over{L:Led}{loc:UK.Loc}(hj:L[j]?=some (.list ws))(hw:ws[c]?=none):fLoop X k L (N+1) (.live j c) loc L=some (.nx,loc,L):=
 for_end (mapF (a:=ws) (f:=fun xs=>(xs[c]?).map fun x=>(x,Src.live j (c+1))) (bindF (f:=O.list?) hj) |>.trans (by rw[hw];rfl))
theorem end_e{L:Led}{loc:UK.Loc}{loc':UK.Loc}(h11:UK.get loc 11=some (.ref j))(hj:L[j]?=some (.list ws)){fl:Fl}(h:fLoop X k L 4096 (.live j 0) loc L=some (fl,loc',L)){b:Bool}(hb:fl=cond b .nx (.ret (.d (.bool false)))):∃ l,evSs (cxK X k) [11] n fEnd loc L=some (.ret (.d (.bool b)),l,L):=by
 have hlt:=(List.getElem?_eq_some_iff.mp hj).1
 have hsrc:srcE L.length L [.ref j]=some (.live j 0):=(bindF (a:=V.ref j) rfl).trans ((if_pos hlt).trans (mapF (ledL_is hj)))
 have hF:=for_eq (cx:=cxK X k) (mu:=[11]) (n₀:=n) (t:=.name 14) (k:=.e) (b:=fBod) (its:=[(.name 11)]) (loc:=loc) (led:=L) (l1:=L) (vs:=[.ref j]) (src:=.live j 0) (es0 (name_e h11)) hsrc
 rw[List.take_length] at hF
 have hF:=hF.trans h
 subst hb
 cases b with
 | true=>exact⟨_,(seq1 hF).trans (seqR rfl)⟩
 | false=>exact⟨_,seqR hF⟩
theorem m_void(hG:G.length≤100)(hj:(led++[O.list ws])[led.length]?=some (.list ws))(ha:atI ws (-1)=some (.d (.str (tS [])))){fl:Fl}{loc':UK.Loc}(h:fLoop X k (led++[O.list ws]) 4096 (.live led.length 0) (locY W G led.length 0 G.length []) (led++[O.list ws])=some (fl,loc',led++[O.list ws])){b:Bool}(hb:fl=cond b .nx (.ret (.d (.bool false)))) :
  ∃ l,evSs (cxK X k) [11] led.length fMid (locY W G led.length 0 G.length []) (led++[O.list ws])=some (.ret (.d (.bool b)),l,led++[O.list ws]):=by
 have hL:Led.list (led++[O.list ws]) (.ref led.length)=some ws:=list_at rfl
 generalize led++[O.list ws]=L at *
 have i0:∀ (a b:List UK.S),evS (cxK X k) [11] led.length (.ite (.name 14) a []) (locY W G led.length 0 G.length []) L=some (.nx,locY W G led.length 0 G.length [],L):=fun a b=>(ite_f' (v:=dS (tS [])) rfl rfl).trans rfl
 have e4:evS (cxK X k) [11] led.length fA4 (locY W G led.length 0 G.length []) L=some (.nx,locY W G led.length 0 G.length [],L):=
  assignD (index_e (x:=.ref led.length) (y:=dI (-1)) (l1:=L) (l2:=L) rfl rfl (idxR (v:=dI 0) hL ha (by decide))) rfl
 have c3:=cmp_e (cx:=cxK X k) (loc:=locY W G led.length 0 G.length []) (led:=L) (a:=.name 12) (b:=.name 13) (op:=.gt) (x:=dI (0:Nat)) (y:=dI G.length) (l1:=L) (l2:=L) rfl rfl gtI
 rw[decide_eq_false (Nat.not_lt_zero _)] at c3
 obtain⟨l,hE⟩:=end_e (n:=led.length) (loc:=locY W G led.length 0 G.length []) rfl hj h hb
 exact⟨l,(seq1 (i0 _ [])).trans ((seq1 e4).trans ((seq1 (i0 _ [])).trans ((seq1 ((ite_f' c3 rfl).trans rfl)).trans hE)))⟩
theorem occ_nil(h:s≤G.length):Occ G [] s:=⟨h,rfl⟩
theorem loop_nil{L:Led}(hj:L[j]?=some (.list ws))(hw:ws[c]?=some (.str (tS [])))(hs:s≤G.length)(hG:G.length≤100) :
  fLoop X k L (N+1) (.live j c) (locY W G j s G.length w) L=fLoop X k L N (.live j (c+1)) (locY W G j s G.length []) L:=by
 rcases first_occ G [] s with ⟨_,h⟩ | ⟨i,q,h1,h2,h3,h4⟩
 ·exact absurd (occ_nil hs) (h s (Nat.le_refl _))
 ·have e:i=s:=Nat.le_antisymm (Nat.le_of_not_lt fun h=>h4 s (Nat.le_refl _) h (occ_nil hs)) h2
  subst e
  exact loop_found hj hw h1 h3 h2 hG
theorem R_m{b:Bool}{L:Led}{loc':UK.Loc}(h:evSs (cxK X k) [11] led.length m2f7.body [(9,dS (tS W)),(10,dS (tS G))] led=some (.ret (.d (.bool b)),loc',L))(ht:L.take led.length=led):R X (k+1) 7 [dS (tS W),dS (tS G)] led=some (.d (.bool b),led):=
 R_step (fn:=m2f7) (loc:=[(9,dS (tS W)),(10,dS (tS G))]) (fl:=.ret (.d (.bool b))) rfl rfl h (by show some (_,L.take led.length)=_;rw[ht];rfl)
theorem at_end{o:O}:(led++[o])[led.length]?=some o:=List.getElem?_concat_length
theorem one_ok(hW:W=gl [] [y,[]])(hy:no46 y)(hl:W.length≤100)(hG:G.length≤100){b:Bool}(hb:b=true↔∃ i,Occ G y i):R X (k+1) 7 [dS (tS W),dS (tS G)] led=some (.d (.bool b),led):=by
 have h0:=m_begin (X:=X) (k:=k) (led:=led) (G:=G) hW nofun (fun C h=>(List.mem_cons.mp h).elim (fun q=>q▸hy) fun h=>List.mem_singleton.mp h▸nofun) hl hG (show 1≤10 by decide)
 have hj:(led++[.list (strD ([[],y,[]].map tS))])[led.length]?=some (.list (strD ([[],y,[]].map tS))):=at_end
 have l1:=loop_nil (X:=X) (k:=k) (G:=G) (W:=W) (N:=4095) (s:=0) (w:=[]) (c:=0) hj rfl (Nat.zero_le _) hG
 have ht:(led++[O.list (strD ([[],y,[]].map tS))]).take led.length=led:=List.take_left
 rcases first_occ G y 0 with ⟨h1,h2⟩ | ⟨i,q,h1,h2,h3,h4⟩
 ·have hb:b=false:=Bool.eq_false_iff.mpr fun h=>(hb.mp h).elim fun i h=>h2 i (Nat.zero_le _) h
  obtain⟨l,l2⟩:=loop_none (X:=X) (k:=k) (W:=W) (N:=4094) (w:=[]) (c:=1) hj rfl h1 (Nat.zero_le _) hG
  obtain⟨l',h⟩:=m_void hG hj rfl (l1.trans l2) (b:=b) (by rw[hb];rfl)
  exact R_m (h0.trans h) ht
 ·have hb:b=true:=hb.mpr ⟨i,h3⟩
  have l2:=loop_found (X:=X) (k:=k) (W:=W) (N:=4094) (w:=[]) (c:=1) hj rfl h1 h3 h2 hG
  have l3:=loop_nil (X:=X) (k:=k) (G:=G) (W:=W) (N:=4093) (s:=i+y.length) (w:=y) (c:=2) hj rfl h3.1 hG
  obtain⟨l',h⟩:=m_void hG hj rfl (l1.trans (l2.trans (l3.trans (loop_over (c:=3) hj rfl)))) (b:=b) (by rw[hb];rfl)
  exact R_m (h0.trans h) ht
theorem two_ok(hW:W=gl [] [y,y,[]])(hy:no46 y)(hl:W.length≤100)(hG:G.length≤100){b:Bool}(hb:b=true↔∃ i m,Occ G y i∧i+y.length≤m∧Occ G y m):R X (k+1) 7 [dS (tS W),dS (tS G)] led=some (.d (.bool b),led):=by
 have h0:=m_begin (X:=X) (k:=k) (led:=led) (G:=G) hW nofun (fun C h=>(List.mem_cons.mp h).elim (fun q=>q▸hy) fun h=>(List.mem_cons.mp h).elim (fun q=>q▸hy) fun h=>List.mem_singleton.mp h▸nofun) hl hG (show 2≤10 by decide)
 have hj:(led++[.list (strD ([[],y,y,[]].map tS))])[led.length]?=some (.list (strD ([[],y,y,[]].map tS))):=at_end
 have l1:=loop_nil (X:=X) (k:=k) (G:=G) (W:=W) (N:=4095) (s:=0) (w:=[]) (c:=0) hj rfl (Nat.zero_le _) hG
 have ht:(led++[O.list (strD ([[],y,y,[]].map tS))]).take led.length=led:=List.take_left
 rcases first_occ G y 0 with ⟨h1,h2⟩ | ⟨i,q,h1,h2,h3,h4⟩
 ·have hb:b=false:=Bool.eq_false_iff.mpr fun h=>(hb.mp h).elim fun i h=>h.elim fun _ h=>h2 i (Nat.zero_le _) h.1
  obtain⟨l,l2⟩:=loop_none (X:=X) (k:=k) (W:=W) (N:=4094) (w:=[]) (c:=1) hj rfl h1 (Nat.zero_le _) hG
  obtain⟨l',h⟩:=m_void hG hj rfl (l1.trans l2) (b:=b) (by rw[hb];rfl)
  exact R_m (h0.trans h) ht
 ·have l2:=loop_found (X:=X) (k:=k) (W:=W) (N:=4094) (w:=[]) (c:=1) hj rfl h1 h3 h2 hG
  rcases first_occ G y (i+y.length) with ⟨g1,g2⟩ | ⟨m,q',g1,g2,g3,g4⟩
  ·have hb:b=false:=Bool.eq_false_iff.mpr fun h=>by
    obtain⟨a,m,a1,a2,a3⟩:=hb.mp h
    have:i≤a:=Nat.le_of_not_lt fun h=>h4 a (Nat.zero_le _) h a1
    exact g2 m (by(revert a2 this;exact z4 0x3ff084220828a1800208e80)) a3
   obtain⟨l,l3⟩:=loop_none (X:=X) (k:=k) (W:=W) (N:=4093) (w:=y) (c:=2) hj rfl g1 h3.1 hG
   obtain⟨l',h⟩:=m_void hG hj rfl (l1.trans (l2.trans l3)) (b:=b) (by rw[hb];rfl)
   exact R_m (h0.trans h) ht
  ·have hb:b=true:=hb.mpr ⟨i,m,h3,g2,g3⟩
   have l3:=loop_found (X:=X) (k:=k) (W:=W) (N:=4093) (w:=y) (c:=2) hj rfl g1 g3 g2 hG
   have l4:=loop_nil (X:=X) (k:=k) (G:=G) (W:=W) (N:=4092) (s:=m+y.length) (w:=y) (c:=3) hj rfl g3.1 hG
   obtain⟨l',h⟩:=m_void hG hj rfl (l1.trans (l2.trans (l3.trans (l4.trans (loop_over (c:=4) hj rfl))))) (b:=b) (by rw[hb];rfl)
   exact R_m (h0.trans h) ht
theorem count_ok(hy:1≤y.length):∃ c:Nat,evMeth led .count (dS (tS G)) [dS (tS y)]=some (dI c,led)∧(2≤c↔∃ i m,Occ G y i∧i+y.length≤m∧Occ G y m):=by
 refine⟨_,rfl,?_⟩
 obtain⟨f,h1,h2⟩:=StrLaws.occ_tight (tS G) (tS y) hy
 generalize Builtin.Str.occurrences (tS G) (tS y) 0 (tS G).length ((tS G).length+1)=l at h1 ⊢
 match l,h1 with
 | [],h1=>exact⟨nofun,fun ⟨i,m,h,_,_⟩=>absurd (at_occ.mpr h) (h2 i (Nat.le_trans (Nat.le_of_eq h1) (Nat.zero_le _)))⟩
 | [c],h1=>
  refine⟨fun h=>absurd h (show ¬2≤1 by decide),fun ⟨i,m,g1,g2,g3⟩=>?_⟩
  have hc:c≤i:=Nat.le_of_not_lt fun h=>h1.2.2.1 i (Nat.zero_le _) h (at_occ.mpr g1)
  have hf:f=c+y.length:=h1.2.2.2
  exact absurd (at_occ.mpr g3) (h2 m (by(revert g2 hc hf;exact z5 0x7fe10802108143250021100118a80)))
 | c::d::l,h1=>exact⟨fun _=>⟨c,d,at_occ.mp h1.2.1,h1.2.2.2.1,at_occ.mp h1.2.2.2.2.1⟩,fun _=>Nat.succ_le_succ (Nat.succ_le_succ (Nat.zero_le _))⟩
end
end
section
section
variable{X:Tab}{k:Nat}{led:Led}{W G y:List Nat}{n s e j:Nat}{xs:List D}
theorem delx_e{cx:Cx}{mu:List Nat}{loc:UK.Loc}{i:E}{z:Int}{q:Nat}(h1:UK.get loc 11=some (.ref led.length))(h2:evE cx i loc (led++[O.list xs])=some (dI z,led++[O.list xs]))(h3:endAt z xs.length=some q) :
  evS cx mu n (.delx 11 i) loc (led++[O.list xs])=some (.nx,loc,led++[.list (xs.eraseIdx q)]):=by
 refine(bindF h1).trans ((bindF (a:=led.length) rfl).trans ((bindF h2).trans ((bindF (a:=z) rfl).trans ((bindF (a:=xs) (bindF (f:=O.list?) at_end)).trans ((mapF h3).trans ?_)))))
 rw[List.set_append_right _ _ (Nat.le_refl _),Nat.sub_self,List.take_of_length_le (by rw[List.length_append,List.length_append];exact Nat.le_refl _)];rfl
theorem sw_iff:Txt.startswith (tS G) (tS y)=true↔Occ G y 0:=by
 unfold Txt.startswith
 rw[Bool.and_eq_true_iff,decide_eq_true_iff]
 exact at_occ (k:=0)
theorem ew_iff:Txt.endswith (tS G) (tS y)=true↔y.length≤G.length∧Occ G y (G.length-y.length):=by
 unfold Txt.endswith
 rw[Bool.and_eq_true_iff,decide_eq_true_iff]
 constructor
 ·rintro ⟨h1,h2⟩
  have h1:0+y.length≤G.length:=h1
  exact⟨by(revert h1;exact z2 0x1ff84210282005680),at_occ.mp ⟨by show G.length-y.length+y.length≤G.length;(revert h1;exact z2 0x1ff84211028af84210180105680),h2⟩⟩
 ·rintro ⟨h1,h2⟩
  exact⟨by show 0+y.length≤G.length;(revert h1;exact z2 0x1ff8421002b450400),(at_occ.mpr h2).2⟩
theorem ends_ok(hW:W=gl y [y])(hy:no46 y)(h0:1≤y.length)(hl:W.length≤100)(hG:G.length≤100){b:Bool}(hb:b=true↔Occ G y 0∧Occ G y (G.length-y.length)∧2*y.length≤G.length):R X (k+1) 7 [dS (tS W),dS (tS G)] led=some (.d (.bool b),led):=by
 have hy100:y.length≤100:=by
  refine Nat.le_trans ?_ hl
  rw[hW]
  show y.length≤(y++(DOT++y)).length
  rw[List.length_append];exact z2 0xffc210500a
 have hB:=m_begin (X:=X) (k:=k) (led:=led) (G:=G) hW hy (fun C h=>List.mem_singleton.mp h▸hy) hl hG (show 0≤10 by decide)
 have htr:∀ L:Led,tru L (dS (tS y))=some true:=fun L=>(gdF (p:=(tS y).length≤cap) (Nat.le_trans hy100 (by decide))).trans (by
  show some (y.length != 0)=_
  rw[show (y.length != 0)=true from bne_iff_ne.mpr (by(revert h0;exact z1 0x3ff08020a82af05402006a0))])
 have c1:=(meth_e (cx:=cxK X k) (loc:=locY W G led.length 0 G.length y) (led:=led++[O.list [.str (tS y),.str (tS y)]]) (m:=.startswith) (o:=.name 10) (as:=[.name 14]) (v:=dS (tS G)) (l1:=led++[O.list [.str (tS y),.str (tS y)]]) (vs:=[dS (tS y)]) (l2:=led++[O.list [.str (tS y),.str (tS y)]]) rfl rfl rfl).trans (b:=some (V.d (.bool (Txt.startswith (tS G) (tS y))),led++[O.list [.str (tS y),.str (tS y)]])) rfl
 have fin:∀ {l:UK.Loc} {xs:List D},evSs (cxK X k) [11] led.length fMid (locY W G led.length 0 G.length y) (led++[O.list (strD ([y,y].map tS))])=some (.ret (.d (.bool b)),l,led++[O.list xs])→R X (k+1) 7 [dS (tS W),dS (tS G)] led=some (.d (.bool b),led):=fun h=>R_m (hB.trans h) List.take_left
 cases h1:Txt.startswith (tS G) (tS y) with
 | false=>
  rw[h1] at c1
  have hb:b=false:=Bool.eq_false_iff.mpr fun h=>by rw[sw_iff.mpr (hb.mp h).1] at h1;exact nomatch h1
  subst hb
  exact fin (l:=locY W G led.length 0 G.length y) (xs:=[.str (tS y),.str (tS y)]) (seqR ((ite_t' (name_e rfl) (htr _)).trans (seqR ((ite_f' c1 rfl).trans (seqR (ret1 rfl))))))
 | true=>
  rw[h1] at c1
  have o1:=sw_iff.mp h1
  have hm:y.length≤G.length:=by have:=o1.1;(revert this;exact z2 0x1ff84210282005680)
  have a1:evS (cxK X k) [11] led.length (.assign (.name 12) (.bi .len [(.name 14)])) (locY W G led.length 0 G.length y) (led++[O.list [.str (tS y),.str (tS y)]])=some (.nx,locY W G led.length y.length G.length y,led++[O.list [.str (tS y),.str (tS y)]]):=assignD (len_e (t:=y) (x:=14) rfl hy100) rfl
  have d1:=delx_e (cx:=cxK X k) (mu:=[11]) (n:=led.length) (led:=led) (loc:=locY W G led.length y.length G.length y) (xs:=[.str (tS y),.str (tS y)]) (i:=.lit (.int 0)) (z:=0) (q:=0) rfl rfl rfl
  have s1:=(ite_t' (mu:=[11]) (n₀:=led.length) (a:=[.ite (.meth .startswith (.name 10) [(.name 14)]) [.assign (.name 12) (.bi .len [(.name 14)]),.delx 11 (.lit (.int 0))] [.ret (.lit (.bool false))]]) (b:=[]) (name_e (cx:=cxK X k) (loc:=locY W G led.length 0 G.length y) (x:=14) rfl) (htr _)).trans ((seq1 ((ite_t' c1 rfl).trans ((seq1 a1).trans ((seq1 d1).trans rfl)))).trans rfl)
  have e4:evS (cxK X k) [11] led.length fA4 (locY W G led.length y.length G.length y) (led++[O.list [.str (tS y)]])=some (.nx,locY W G led.length y.length G.length y,led++[O.list [.str (tS y)]]):=
   assignD (index_e (x:=.ref led.length) (y:=dI (-1)) (l1:=led++[O.list [.str (tS y)]]) (l2:=led++[O.list [.str (tS y)]]) rfl rfl (idxR (v:=dI 0) (list_at rfl) rfl (by decide))) rfl
  have c2:=(meth_e (cx:=cxK X k) (loc:=locY W G led.length y.length G.length y) (led:=led++[O.list [.str (tS y)]]) (m:=.endswith) (o:=.name 10) (as:=[.name 14]) (v:=dS (tS G)) (l1:=led++[O.list [.str (tS y)]]) (vs:=[dS (tS y)]) (l2:=led++[O.list [.str (tS y)]]) rfl rfl rfl).trans (b:=some (V.d (.bool (Txt.endswith (tS G) (tS y))),led++[O.list [.str (tS y)]])) rfl
  cases h2:Txt.endswith (tS G) (tS y) with
  | false=>
   rw[h2] at c2
   have hb:b=false:=Bool.eq_false_iff.mpr fun h=>by rw[ew_iff.mpr ⟨hm,(hb.mp h).2.1⟩] at h2;exact nomatch h2
   subst hb
   exact fin (l:=locY W G led.length y.length G.length y) (xs:=[.str (tS y)]) ((seq1 s1).trans ((seq1 e4).trans (seqR ((ite_t' (name_e rfl) (htr _)).trans (seqR ((ite_f' c2 rfl).trans (seqR (ret1 rfl))))))))
  | true=>
   rw[h2] at c2
   have o2:=(ew_iff.mp h2).2
   have a2:evS (cxK X k) [11] led.length (.aug 13 .sub (.bi .len [(.name 14)])) (locY W G led.length y.length G.length y) (led++[O.list [.str (tS y)]])=some (.nx,locY W G led.length y.length (G.length-y.length) y,led++[O.list [.str (tS y)]]):=
    (aug_s (a:=(G.length:Int)) (b:=(y.length:Int)) rfl (len_e (t:=y) (x:=14) rfl hy100)).trans (by rw[←Int.ofNat_sub hm];rfl)
   have d2:=delx_e (cx:=cxK X k) (mu:=[11]) (n:=led.length) (led:=led) (loc:=locY W G led.length y.length (G.length-y.length) y) (xs:=[.str (tS y)]) (i:=.neg (.lit (.int 1))) (z:=-1) (q:=0) rfl rfl rfl
   have s2:=(ite_t' (mu:=[11]) (n₀:=led.length) (a:=[.ite (.meth .endswith (.name 10) [(.name 14)]) [.aug 13 .sub (.bi .len [(.name 14)]),.delx 11 (.neg (.lit (.int 1)))] [.ret (.lit (.bool false))]]) (b:=[]) (name_e (cx:=cxK X k) (loc:=locY W G led.length y.length G.length y) (x:=14) rfl) (htr _)).trans ((seq1 ((ite_t' c2 rfl).trans ((seq1 a2).trans ((seq1 d2).trans rfl)))).trans rfl)
   have c3:=cmp_e (cx:=cxK X k) (loc:=locY W G led.length y.length (G.length-y.length) y) (led:=led++[O.list []]) (a:=.name 12) (b:=.name 13) (op:=.gt) (x:=dI y.length) (y:=dI (G.length-y.length:Nat)) (l1:=led++[O.list []]) (l2:=led++[O.list []]) rfl rfl gtI
   cases h3:decide (G.length-y.length<y.length) with
   | true=>
    rw[h3] at c3
    have h3:=of_decide_eq_true h3
    have hb:b=false:=Bool.eq_false_iff.mpr fun h=>by have:=(hb.mp h).2.2;(revert h3 this;exact z2 0x3ff080210541578442b804008407)
    subst hb
    exact fin (l:=locY W G led.length y.length (G.length-y.length) y) (xs:=[]) ((seq1 s1).trans ((seq1 e4).trans ((seq1 s2).trans (seqR ((ite_t' c3 rfl).trans (seqR (ret1 rfl)))))))
   | false=>
    rw[h3] at c3
    have h3:=of_decide_eq_false h3
    have hb:b=true:=hb.mpr ⟨o1,o2,by(revert h3;exact z2 0x3ff08821f8421f0822ba82018027)⟩
    obtain⟨l,hE⟩:=end_e (X:=X) (k:=k) (n:=led.length) (loc:=locY W G led.length y.length (G.length-y.length) y) (j:=led.length) (L:=led++[O.list []]) (b:=true) rfl at_end (loop_over (c:=0) at_end rfl) rfl
    subst hb
    exact fin (l:=l) (xs:=[]) ((seq1 s1).trans ((seq1 e4).trans ((seq1 s2).trans ((seq1 ((ite_f' c3 rfl).trans rfl)).trans hE))))
end
end
section
noncomputable def wh(n w s:Nat):Bool:=decide (2*w≤n)&&((n-w) % s==0)
structure DotsOk (t:List Nat) (rs:List Run) (sq:List Str):Prop where
 sq:∀ w q,1≤w→2*w≤t.length→q+w≤t.length→(sq.any (·==tS (sub t q (q+w)))=true↔∃ i,Occ t (sub t q (q+w)++sub t q (q+w)) i)
 fw:∀ r∈rs,∀ w,r.2.2≤w→w≤r.2.1-r.1→∀ p,p=sub (sub t r.1 r.2.1) 0 w∨p=sub (sub t r.1 r.2.1) (r.2.1-r.1-w) (r.2.1-r.1) →
  (wh (r.2.1-r.1) w r.2.2=true↔Occ (sub t r.1 r.2.1) p 0∧Occ (sub t r.1 r.2.1) p (r.2.1-r.1-w)∧2*w≤r.2.1-r.1)
theorem dMem_str{x:Str}:∀ l:List Str,dMem (.str x) (strD l)=some (l.any (·==x))
 | []=>rfl
 | y::l=>(bindF (a:=y==x) (f:=fun a=>(dMem (.str x) (strD l)).map (a || ·)) rfl).trans (mapF (dMem_str l))
theorem not_same{led:Led}{b:Bool}:evCmp led .isnot (.d (.bool b)) (.d (.bool b))=some false:=by cases b <;> rfl
theorem sub_mem{t:List Nat}{a b c:Nat}(h:c∈sub t a b):c∈t:=List.mem_of_mem_drop (List.mem_of_mem_take h)
theorem no46_of{t p:List Nat}(ht:∀ c∈t,c∈FIL)(hp:∀ c∈p,c∈t):no46 p:=fun c h e=>by
 have:=ht c (hp c h)
 rw[e] at this
 exact absurd this (by decide)
section
variable{X:Tab}{k:Nat}{t p:List Nat}{rs:List Run}{sq:List Str}{o:O}{r:Run}{w q:Nat}
noncomputable def ldS(o:O)(sq:List Str):Led:=[o,.list (strD sq)]
noncomputable def locD(t:List Nat)(rs:List Run):UK.Loc:=[(31,dS (tS t)),(47,.lst (rAll rs)),(51,.ref 1)]
noncomputable def locD2(t:List Nat)(rs:List Run)(w q:Nat)(p:List Nat):UK.Loc:=[(31,dS (tS t)),(47,.lst (rAll rs)),(51,.ref 1),(53,dI w),(4,dI q),(54,dS (tS p))]
noncomputable def dE1:E:=.call 7 [(.bin .add (.bin .add (.bin .add (.lit (.str ⟨#[46,46,46]⟩)) (.name 54)) (.name 54)) (.lit (.str ⟨#[46,46,46]⟩))),(.name 31)]
noncomputable def dE2:E:=.call 7 [(.bin .add (.bin .add (.bin .add (.bin .add (.lit (.str ⟨#[46,46,46]⟩)) (.name 54)) (.lit (.str ⟨#[46,46,46]⟩))) (.name 54)) (.lit (.str ⟨#[46,46,46]⟩))),(.name 31)]
noncomputable def dIf(e f:E):UK.S:=.ite (.cmp e .isnot f) [.ret (.lit (.bool false))] []
noncomputable def dB2:List UK.S:=[.assign (.name 54) (.slice (.name 31) (.name 4) (.bin .add (.name 4) (.name 53)) (.lit .none)),dIf dE1 (.cmp (.name 54) .inn (.name 51)),dIf dE2 (.cmp (.meth .count (.name 31) [(.name 54)]) .ge (.lit (.int 2)))]
noncomputable def dB1:List UK.S:=[.for (.name 4) .range [(.bin .add (.bin .sub (.bi .len [(.name 31)]) (.name 53)) (.lit (.int 1)))] dB2]
theorem dif_e{cx:Cx}{mu:List Nat}{n₀:Nat}{loc:UK.Loc}{led:Led}{e f:E}{b:Bool}(h1:evE cx e loc led=some (.d (.bool b),led))(h2:evE cx f loc led=some (.d (.bool b),led)):evS cx mu n₀ (dIf e f) loc led=some (.nx,loc,led):=
 (ite_f' (cmp_e h1 h2 not_same) rfl).trans rfl
theorem add_e{cx:Cx}{loc:UK.Loc}{led:Led}{e f:E}{a b:List Nat}(h1:evE cx e loc led=some (dS (tS a),led))(h2:evE cx f loc led=some (dS (tS b),led))(hl:a.length+b.length≤100):evE cx (.bin .add e f) loc led=some (dS (tS (a++b)),led):=(bin_e h1 h2).trans (addS hl)
theorem part_turn(ht:∀ c∈t,c∈FIL)(hl:t.length≤9)(hd:DotsOk t rs sq)(h1:1≤w)(h2:2*w≤t.length)(hq:q+w≤t.length) :
  evSs (cxK X (k+1)) [] 2 dB2 (locD t rs++[(53,dI w),(4,dI q)]) (ldS o sq)=some (.nx,locD2 t rs w q (sub t q (q+w)),ldS o sq):=by
 have hp:(sub t q (q+w)).length=w:=by rw[sub_len hq];exact z2 0x1f0803f0844067c2008286
 have e1:evS (cxK X (k+1)) [] 2 (.assign (.name 54) (.slice (.name 31) (.name 4) (.bin .add (.name 4) (.name 53)) (.lit .none))) (locD t rs++[(53,dI w),(4,dI q)]) (ldS o sq)=some (.nx,locD2 t rs w q (sub t q (q+w)),ldS o sq):=
  assignD (sl_e (x:=31) (e1:=.name 4) (e2:=.bin .add (.name 4) (.name 53)) rfl rfl (addI_e (a:=q) (b:=w) rfl rfl) (by(revert hl;exact z1 0xffc21a540a4d400)) (by(revert hq;exact z3 0xffc210814110280)) hq) rfl
 have hs:=hd.sq w q h1 h2 hq
 have h46:=no46_of ht (p:=sub t q (q+w)) fun c=>sub_mem
 generalize sub t q (q+w)=p at hp hs e1 h46 ⊢
 have n54:evE (cxK X (k+1)) (.name 54) (locD2 t rs w q p) (ldS o sq)=some (dS (tS p),ldS o sq):=rfl
 have nD:evE (cxK X (k+1)) (.lit (.str ⟨#[46,46,46]⟩)) (locD2 t rs w q p) (ldS o sq)=some (dS (tS DOT),ldS o sq):=rfl
 have hD:DOT.length=3:=rfl
 have b1:=add_e nD n54 (by(revert hl hq hp hD;exact z5 0x1ff84200802100c960828a1d4022044220e804d440))
 have l1:(DOT++p).length=w+3:=by rw[List.length_append];(revert hp hD;exact z3 0x3e100401f840108ea2a041460ea010822)
 have b2:=add_e b1 n54 (by(revert hl hq hp l1;exact z5 0x7fe2100200840325820a2875250022044220e804d440))
 have l2:((DOT++p)++p).length=2*w+3:=by rw[List.length_append];(revert hp l1;exact z3 0x3e100401f840108ea215e8105183a8a8010822)
 have b3:=add_e b2 nD (by(revert hl hq hD l2;exact z5 0x3ff1080100420192c105143a9057a0043a844220e804d440))
 have c2:=add_e b1 nD (by(revert hl hq hD l1;exact z5 0xffc210040108064b041450ea4a0043a844220e804d440))
 have l3:((DOT++p)++DOT).length=w+6:=by rw[List.length_append];(revert hD l1;exact z3 0x1f080200fc20084d515020a3075150021d422)
 have c3:=add_e c2 n54 (by(revert hl hq hp l3;exact z5 0x7fe2100200840325820a28d5250022044220e804d440))
 have l4:(((DOT++p)++DOT)++p).length=2*w+6:=by rw[List.length_append];(revert hp l3;exact z3 0x3e100401f840109aa215e8105186a8a8010822)
 have c4:=add_e c3 nD (by(revert hl hq hD l4;exact z5 0x3ff1080100420192c105146a9057a0043a844220e804d440))
 have g1:evE (cxK X (k+1)) dE1 (locD2 t rs w q p) (ldS o sq)=some (.d (.bool (sq.any (·==tS p))),ldS o sq):=
  (call_R (f:=7) (es1 b3 (es0 (e:=.name 31) (v:=dS (tS t)) rfl))).trans (one_ok (y:=p++p) (by show _=[]++(DOT++((p++p)++(DOT++[])));simp only[List.append_assoc,List.nil_append,List.append_nil]) (fun c h=>(List.mem_append.mp h).elim (h46 c) (h46 c)) (by rw[List.length_append];(revert hl hq hD l2;exact z5 0x3ff1080100420192c105143a9057a0043a844220e804d440)) (by(revert hl;exact z1 0x3ff084032580a4d400)) hs)
 have g2:evE (cxK X (k+1)) (.cmp (.name 54) .inn (.name 51)) (locD2 t rs w q p) (ldS o sq)=some (.d (.bool (sq.any (·==tS p))),ldS o sq):=
  cmp_e (x:=dS (tS p)) (y:=.ref 1) (l1:=ldS o sq) (l2:=ldS o sq) rfl rfl (dMem_str sq)
 obtain⟨c,q1,q2⟩:=count_ok (G:=t) (y:=p) (led:=ldS o sq) (by(revert h1 hp;exact z2 0x1ff84200803550402086a0))
 have g3:evE (cxK X (k+1)) dE2 (locD2 t rs w q p) (ldS o sq)=some (.d (.bool (decide (2≤c))),ldS o sq):=
  (call_R (f:=7) (es1 c4 (es0 (e:=.name 31) (v:=dS (tS t)) rfl))).trans (two_ok (y:=p) (by show _=[]++(DOT++(p++(DOT++(p++(DOT++[])))));simp only[List.append_assoc,List.nil_append,List.append_nil]) h46 (by rw[List.length_append];(revert hl hq hD l4;exact z5 0x3ff1080100420192c105146a9057a0043a844220e804d440)) (by(revert hl;exact z1 0x3ff084032580a4d400)) (decide_eq_true_iff.trans q2))
 have g4:evE (cxK X (k+1)) (.cmp (.meth .count (.name 31) [(.name 54)]) .ge (.lit (.int 2))) (locD2 t rs w q p) (ldS o sq)=some (.d (.bool (decide (2≤c))),ldS o sq):=
  cmp_e (y:=dI (2:Nat)) (l2:=ldS o sq) ((meth_e (v:=dS (tS t)) (vs:=[dS (tS p)]) (l1:=ldS o sq) rfl rfl rfl).trans q1) rfl geI
 exact(seq1 e1).trans ((seq1 (dif_e g1 g2)).trans ((seq1 (dif_e g3 g4)).trans rfl))
theorem parts_ok(ht:∀ c∈t,c∈FIL)(hl:t.length≤9)(hd:DotsOk t rs sq) :
  evS (cxK X (k+1)) [] 2 (.for (.name 53) .range [(.lit (.int 1)),(.bin .add (.bin .fdiv (.bi .len [(.name 31)]) (.lit (.int 2))) (.lit (.int 1)))] dB1) (locD t rs) (ldS o sq)=some (.nx,locD t rs,ldS o sq):=by
 have hr:=rng_up (a:=1) (b:=t.length / 2+1) (by decide) (by(revert hl;exact z1 0xffc2008a950d414500484d400))
 have hF:=for_id (tg:=.name 53) (body:=fun loc led'=>evSs (cxK X (k+1)) [] 2 dB1 loc led') (loc:=locD t rs) (led:=ldS o sq) (mk:=fun i=>D.int ((1+i:Nat):Int)) (List.range (t.length / 2+1-1)) 4096 (by rw[List.length_range];(revert hl;exact z1 0x1ff840100844002c05fc00004350d414300484d400)) (fun i hi=>by
  have hi:=List.mem_range.mp hi
  have hG:=for_id (tg:=.name 4) (body:=fun loc led'=>evSs (cxK X (k+1)) [] 2 dB2 loc led') (loc:=locD t rs++[(53,dI ((1+i:Nat):Int))]) (led:=ldS o sq) (mk:=fun i:Nat=>D.int (i:Int)) (List.range (t.length-(1+i)+1)) 4096 (by rw[List.length_range];(revert hl;exact z2 0x1ff840109000b06a0a2c21ad0074d400)) (fun q hq=>by
   have hq:=List.mem_range.mp hq
   exact⟨_,_,_,rfl,part_turn (X:=X) (k:=k) (o:=o) (w:=1+i) (q:=q) ht hl hd (by exact z1 0x3ff08035a06aa) (by(revert hi;exact z2 0xffc2010823106b415d40107e0004350d41430448)) (by(revert hi hq;exact z3 0x1ff842129035a0e8a0d414187e00804208c35a10c0187e0004350d41430848)),rfl⟩)
  have i1:=addI_e (cx:=cxK X (k+1)) (loc:=locD t rs++[(53,dI ((1+i:Nat):Int))]) (led:=ldS o sq) (e2:=.lit (.int 1)) (b:=1) (subI_e (e2:=.name 53) (b:=1+i) (len_e (t:=t) (x:=31) rfl (by(revert hl;exact z1 0x3ff084032580a4d400))) rfl (by(revert hi;exact z2 0x3ff0804208c41ad140107e0004350d41430448))) rfl
  exact⟨_,_,_,rfl,(seq1 ((for_eq (es0 i1) (srcR1 (rng0 (by(revert hl;exact z2 0x7fe100434a86a0a2821ad0074d400))))).trans hG)).trans rfl,rfl⟩)
 have i2:=half_e (len_e (cx:=cxK X (k+1)) (loc:=locD t rs) (led:=ldS o sq) (t:=t) (x:=31) rfl (by(revert hl;exact z1 0x3ff084032580a4d400)))
 exact(for_eq (es1 (e:=.lit (.int 1)) (v:=dI (1:Nat)) rfl (es0 i2)) (srcR2 hr)).trans hF
noncomputable def locU(t:List Nat)(rs:List Run)(r:Run):UK.Loc:=[(31,dS (tS t)),(47,.lst (rAll rs)),(51,.ref 1),(40,dI r.1),(41,dI r.2.1),(42,dI r.2.2)]
noncomputable def locU1(t:List Nat)(rs:List Run)(r:Run):UK.Loc:=[(31,dS (tS t)),(47,.lst (rAll rs)),(51,.ref 1),(40,dI r.1),(41,dI r.2.1),(42,dI r.2.2),(55,dS (tS (sub t r.1 r.2.1)))]
noncomputable def locU2(t:List Nat)(rs:List Run)(r:Run)(w:Nat):UK.Loc:=locU1 t rs r++[(53,dI w)]
noncomputable def locU3(t:List Nat)(rs:List Run)(r:Run)(w:Nat)(b:Bool):UK.Loc:=locU1 t rs r++[(53,dI w),(56,.d (.bool b))]
noncomputable def uW:E:=.and (.cmp (.bin .mul (.lit (.int 2)) (.name 53)) .le (.bi .len [(.name 55)])) (.cmp (.bin .mod (.bin .sub (.bi .len [(.name 55)]) (.name 53)) (.name 42)) .eq (.lit (.int 0)))
noncomputable def uL:E:=.list [(.slice (.name 55) (.lit .none) (.name 53) (.lit .none)),(.slice (.name 55) (.neg (.name 53)) (.lit .none) (.lit .none))]
noncomputable def uE:E:=.call 7 [(.bin .add (.bin .add (.name 54) (.lit (.str ⟨#[46,46,46]⟩))) (.name 54)),(.name 55)]
noncomputable def uB1:List UK.S:=[.assign (.name 56) uW,.for (.name 54) .e [uL] [dIf uE (.name 56)]]
noncomputable def uB0:List UK.S:=[.assign (.name 55) (.slice (.name 31) (.name 40) (.name 41) (.lit .none)),dIf (.call 7 [(.name 55),(.name 31)]) (.cmp (.name 55) .eq (.name 31)),.for (.name 53) .range [(.name 42),(.bin .add (.bi .len [(.name 55)]) (.lit (.int 1)))] uB1]
theorem mod_e{cx:Cx}{loc:UK.Loc}{led:Led}{e f:E}{a b:Nat}(h1:evE cx e loc led=some (dI a,led))(h2:evE cx f loc led=some (dI b,led))(hb:0<b):evE cx (.bin .mod e f) loc led=some (dI ((a % b:Nat):Int),led):=by
 refine(bin_e h1 h2).trans ?_
 show (gd ((0:Int)<b) (some (D.int ((a:Int).fmod b)))).map (fun z=>(V.d z,led))=_
 rw[gdF (show (0:Int)<b from Int.ofNat_lt.mpr hb),Int.fmod_eq_emod_of_nonneg _ (Int.natCast_nonneg b)];rfl
theorem whole_e(hl:t.length≤9)(hr:RunOk t r)(hw:w≤r.2.1-r.1){led:Led}:evE (cxK X k) uW (locU2 t rs r w) led=some (.d (.bool (wh (r.2.1-r.1) w r.2.2)),led):=by
 obtain⟨r1,r2,r3⟩:=hr
 have hn:(sub t r.1 r.2.1).length=r.2.1-r.1:=sub_len r2
 have hlen:=len_e (cx:=cxK X k) (loc:=locU2 t rs r w) (led:=led) (t:=sub t r.1 r.2.1) (x:=55) rfl (by(revert hl r2 hn;exact z4 0xffc210040108064b054008862384404d420))
 rw[hn] at hlen
 have c1:=cmp_e (op:=.le) (mul2_e (e2:=.name 53) (b:=w) rfl) hlen leI
 have c2:=cmp_e (op:=.eq) (b:=.lit (.int 0)) (y:=dI (0:Nat)) (l2:=led) (mod_e (subI_e (e2:=.name 53) (b:=w) hlen rfl hw) (f:=.name 42) (b:=r.2.2) rfl (by(revert r3;exact z1 0xffc21002ab006a0))) rfl eqI
 unfold wh
 cases h:decide (2*w≤r.2.1-r.1) with
 | true=>rw[h] at c1;exact(and_e c1 rfl).trans c2
 | false=>rw[h] at c1;exact and_f c1 rfl
theorem whole_turn(ht:∀ c∈t,c∈FIL)(hl:t.length≤9)(hd:DotsOk t rs sq)(hr:RunOk t r)(hm:r∈rs)(h1:r.2.2≤w)(hw:w≤r.2.1-r.1) :
  evSs (cxK X (k+1)) [] 2 uB1 (locU2 t rs r w) (ldS o sq)=some (.nx,locU3 t rs r w (wh (r.2.1-r.1) w r.2.2),ldS o sq):=by
 have e1:evS (cxK X (k+1)) [] 2 (.assign (.name 56) uW) (locU2 t rs r w) (ldS o sq)=some (.nx,locU3 t rs r w (wh (r.2.1-r.1) w r.2.2),ldS o sq):=assignD (whole_e hl hr hw) rfl
 obtain⟨r1,r2,r3⟩:=hr
 have hn:(sub t r.1 r.2.1).length=r.2.1-r.1:=sub_len r2
 have hfw:=hd.fw r hm w h1 hw
 have hrun:∀ c∈sub t r.1 r.2.1,c∈t:=fun c=>sub_mem
 revert e1 hfw
 generalize hb:wh (r.2.1-r.1) w r.2.2=b
 unfold locU3 locU1
 generalize hG:sub t r.1 r.2.1=G at *
 intro e1 hfw
 have s1:=(slice_e (cx:=cxK X (k+1)) (loc:=locU3 t rs r w b) (led:=ldS o sq) (a:=.name 55) (lo:=.lit .none) (hi:=.name 53) (st:=.lit .none) (x:=dS (tS G)) (y:=.d .none) (z:=dI w) (u:=.d .none) (l1:=ldS o sq) (l2:=ldS o sq) (l3:=ldS o sq) (l4:=ldS o sq) (by rw[←hG];rfl) rfl rfl rfl).trans (slice_m (lo:=none) (hi:=some (w:Int)) (a:=0) (b:=w) nofun (fun i h=>by cases h;exact Z.r100 (by(revert hl hw r2;exact z4 0x7fe10042108064b05421800100c474d420))) rfl (clipB_some (by(revert hw hn;exact z4 0x3ff08401105401080100c47))) (Nat.zero_le _) (by(revert hw hn;exact z4 0x3ff08401105401080100c47)) (by(revert hl r2 hn;exact z4 0xffc210040108064b054008862384404d420)))
 have s2:=(slice_e (cx:=cxK X (k+1)) (loc:=locU3 t rs r w b) (led:=ldS o sq) (a:=.name 55) (lo:=.neg (.name 53)) (hi:=.lit .none) (st:=.lit .none) (x:=dS (tS G)) (y:=dI (-(w:Int))) (z:=.d .none) (u:=.d .none) (l1:=ldS o sq) (l2:=ldS o sq) (l3:=ldS o sq) (l4:=ldS o sq) (by rw[←hG];rfl) rfl rfl rfl).trans (slice_m (lo:=some (-(w:Int))) (hi:=none) (a:=G.length-w) (b:=G.length) (fun i h=>by cases h;exact Z.m100 (by(revert hl hw r2;exact z4 0x7fe10042108064b05421800100c474d420))) nofun (clipA_neg (by(revert hw hn;exact z4 0x3ff08401105401080100c47)) (by(revert h1 r3;exact z2 0xffc21080155843500020))) rfl (by exact z2 0x3ff0842050407) (Nat.le_refl _) (by(revert hl r2 hn;exact z4 0xffc210040108064b054008862384404d420)))
 have hL:=list_e (es1 s1 (es0 s2)) rfl
 have hF:=for_id (tg:=.name 54) (body:=fun loc led'=>evSs (cxK X (k+1)) [] 2 [dIf uE (.name 56)] loc led') (loc:=locU3 t rs r w b) (led:=ldS o sq) (mk:=fun p=>D.str (tS p)) [sub G 0 w,sub G (G.length-w) G.length] 4096 (show 2<4096 by decide) (fun p hp=>by
  have hp2:p=sub G 0 w∨p=sub G (G.length-w) G.length:=(List.mem_cons.mp hp).elim .inl fun h=>.inr (List.mem_singleton.mp h)
  have hpl:p.length=w:=hp2.elim (fun h=>by rw[h,sub_len (hn.symm▸hw)];rfl) fun h=>by rw[h,sub_len (Nat.le_refl _),Nat.sub_sub_self (hn.symm▸hw)]
  have h46:no46 p:=no46_of ht fun c hc=>hrun c (by rcases hp2 with h | h <;> rw[h] at hc <;> exact sub_mem hc)
  have n54:evE (cxK X (k+1)) (.name 54) (locU3 t rs r w b++[(54,dS (tS p))]) (ldS o sq)=some (dS (tS p),ldS o sq):=rfl
  have b1:=add_e (f:=.lit (.str ⟨#[46,46,46]⟩)) (b:=DOT) n54 rfl (by rw[hpl];show w+3≤100;(revert hl hw r2;exact z4 0x3ff0802108403258750d1421800100c474d420))
  have l1:(p++DOT).length=w+3:=by rw[List.length_append,hpl];rfl
  have b2:=add_e b1 n54 (by(revert hl hw r2 hpl l1;exact z6 0x3ff10042100200840325841a2875250222084328004014874d440))
  have n55:evE (cxK X (k+1)) (.name 55) (locU3 t rs r w b++[(54,dS (tS p))]) (ldS o sq)=some (dS (tS G),ldS o sq):=by rw[←hG];rfl
  have g1:evE (cxK X (k+1)) uE (locU3 t rs r w b++[(54,dS (tS p))]) (ldS o sq)=some (.d (.bool b),ldS o sq):=
   (call_R (f:=7) (es1 b2 (es0 n55))).trans (ends_ok (y:=p) (by show _=p++(DOT++p);rw[List.append_assoc]) h46 (by(revert h1 r3 hpl;exact z3 0x1ff842100401aa8401043500820)) (by rw[List.length_append];(revert hl hw r2 hpl l1;exact z6 0x3ff10042100200840325841a2875250222084328004014874d440)) (by(revert hl r2 hn;exact z4 0xffc210040108064b054008862384404d420)) (by
    rw[hpl,hn]
    exact hfw p (by rw[←hn];exact hp2)))
  exact⟨_,_,_,rfl,(seq1 (dif_e g1 rfl)).trans rfl,rfl⟩)
 have hsrc:srcOf 2 (ldS o sq++[.list [.str (tS (sub G 0 w)),.str (tS (sub G (G.length-w) G.length))]]) .e [.ref 2]=some (.fz ([sub G 0 w,sub G (G.length-w) G.length].map fun p=>D.str (tS p))):=rfl
 have hF0:=for_eq (cx:=cxK X (k+1)) (mu:=[]) (n₀:=2) (t:=.name 54) (b:=[dIf uE (.name 56)]) (k:=.e) (loc:=locU3 t rs r w b) (led:=ldS o sq) (es0 hL) hsrc
 subst hG
 exact(seq1 e1).trans ((seq1 (hF0.trans hF)).trans rfl)
theorem run_dots(ht:∀ c∈t,c∈FIL)(hl:t.length≤9)(hd:DotsOk t rs sq)(hr:RunOk t r)(hm:r∈rs):evSs (cxK X (k+1)) [] 2 uB0 (locU t rs r) (ldS o sq)=some (.nx,locU1 t rs r,ldS o sq):=by
 have e1:evS (cxK X (k+1)) [] 2 (.assign (.name 55) (.slice (.name 31) (.name 40) (.name 41) (.lit .none))) (locU t rs r) (ldS o sq)=some (.nx,locU1 t rs r,ldS o sq):=
  assignD (sl_e (x:=31) (e1:=.name 40) (e2:=.name 41) (a:=r.1) (b:=r.2.1) rfl rfl rfl (by(revert hl;exact z1 0xffc21a540a4d400)) (Nat.le_trans (Nat.le_trans (Nat.le_add_right _ _) hr.1) hr.2.1) hr.2.1) rfl
 have g1:evE (cxK X (k+1)) (.call 7 [(.name 55),(.name 31)]) (locU1 t rs r) (ldS o sq)=some (.d (.bool (sub t r.1 r.2.1==t)),ldS o sq):=
  (call_R (vs:=[dS (tS (sub t r.1 r.2.1)),dS (tS t)]) (led':=ldS o sq) rfl).trans (plain_ok (no46_of ht fun c=>sub_mem))
 have g2:evE (cxK X (k+1)) (.cmp (.name 55) .eq (.name 31)) (locU1 t rs r) (ldS o sq)=some (.d (.bool (sub t r.1 r.2.1==t)),ldS o sq):=cmp_e (x:=dS (tS (sub t r.1 r.2.1))) (y:=dS (tS t)) (l1:=ldS o sq) (l2:=ldS o sq) rfl rfl strEq
 have hlen:=len_e (cx:=cxK X (k+1)) (loc:=locU1 t rs r) (led:=ldS o sq) (t:=sub t r.1 r.2.1) (x:=55) rfl (by have:=hr.2.1;rw[sub_len hr.2.1];(revert hl this;exact z3 0x7fe10802100c9602820388004d440))
 rw[sub_len hr.2.1] at hlen
 have hF:=for_id (tg:=.name 53) (body:=fun loc led'=>evSs (cxK X (k+1)) [] 2 uB1 loc led') (loc:=locU1 t rs r) (led:=ldS o sq) (mk:=fun i=>D.int ((r.2.2+i:Nat):Int)) (List.range (r.2.1-r.1+1-r.2.2)) 4096 (by rw[List.length_range];have:=hr.2.1;(revert hl this;exact z4 0x7fe108020084800580b186a0a1c2038c004d460)) (fun i hi=>by
  have hi:=List.mem_range.mp hi
  exact⟨_,_,_,rfl,whole_turn (X:=X) (k:=k) (o:=o) (w:=r.2.2+i) ht hl hd hr hm (by exact z2 0xffc210500a) (by(revert hi;exact z4 0x7fe1007e1087c118a8a00c210d41438c47)),rfl⟩)
 have h2:=for_eq (cx:=cxK X (k+1)) (mu:=[]) (n₀:=2) (t:=.name 53) (b:=uB1) (k:=.range) (loc:=locU1 t rs r) (led:=ldS o sq) (es1 (e:=.name 42) (v:=dI r.2.2) (l1:=ldS o sq) rfl (es0 (addI_e hlen (e2:=.lit (.int 1)) (b:=1) rfl))) (srcR2 (rng_up (a:=r.2.2) (b:=r.2.1-r.1+1) (by have h7:=hr.1;have h8:=hr.2.1;(revert hl h7 h8;exact z4 0xffc2108a950282300c02b8a804d420)) (by have:=hr.2.1;(revert hl this;exact z3 0xffc2100434a86a0a2820388004d440))))
 exact(seq1 e1).trans ((seq1 (dif_e g1 g2)).trans ((seq1 (h2.trans hF)).trans rfl))
theorem dots_ok(ht:∀ c∈t,c∈FIL)(hl:t.length≤9)(hr:∀ r∈rs,RunOk t r)(hrs:rs.length≤40)(hd:DotsOk t rs sq):R X (k+2) 27 [dS (tS t),.lst (rAll rs),.ref 1] (ldS o sq)=some (.d (.bool true),ldS o sq):=by
 have hF:=for_id (tg:=.tup [(.name 40),(.name 41),(.name 42)]) (body:=fun loc led'=>evSs (cxK X (k+1)) [] 2 uB0 loc led') (loc:=locD t rs) (led:=ldS o sq) (mk:=rD) rs 4096 (by(revert hrs;exact z1 0xffc212001602c0145800)) (fun r h=>⟨locU t rs r,_,_,rfl,run_dots ht hl hd (hr r h) h,rfl⟩)
 have h2:=for_eq (cx:=cxK X (k+1)) (mu:=[]) (n₀:=2) (t:=.tup [(.name 40),(.name 41),(.name 42)]) (b:=uB0) (k:=.e) (loc:=locD t rs) (led:=ldS o sq) (l1:=ldS o sq) (its:=[.name 47]) (vs:=[.lst (rAll rs)]) (src:=.fz (rAll rs)) rfl rfl
 exact R_d (fn:=m2f27) (loc:=locD t rs) (fl:=.ret (.d (.bool true))) rfl rfl ((seq1 (parts_ok ht hl hd)).trans ((seq1 (h2.trans hF)).trans (seqR rfl))) rfl
end
end
section
noncomputable def tabRs(t:List Nat):List Run:=[true,false].flatMap fun lo=>(List.range t.length).flatMap fun p=>cond (tabC t lo p) [tabR t lo p] []
theorem tabTo_vals{t:List Nat}{lo:Bool}{q:Nat}:(tabTo t lo q).map (·.2)=((List.range q).flatMap fun p=>cond (tabC t lo p) [tabR t lo p] []).map fun r=>tS (valS r):=by
 unfold tabTo
 rw[List.map_flatMap,List.map_flatMap]
 congr 1
 funext p
 unfold tabAt
 cases tabC t lo p <;> rfl
theorem tabP_vals(t:List Nat):(tabP t).map (·.2)=(tabRs t).map fun r=>tS (valS r):=by
 show (tabTo t true t.length++tabTo t false t.length).map _=(_++(_++[])).map _
 rw[List.map_append,tabTo_vals,tabTo_vals,List.append_nil,List.map_append]
structure Maths (t:List Nat):Prop where
 once:Once t
 due:dueP t (runL t)=tabP t
 runs:∀ r∈runL t,RunOk t r
 tabs:∀ r∈tabRs t,RunOk t r
 dots:DotsOk t (runL t) (sqL t (tabRs t))
theorem tabRs_len{t:List Nat}(hl:t.length≤9):(tabRs t).length≤20:=by
 have h1:=congrArg List.length (tabP_vals t)
 rw[List.length_map,List.length_map] at h1
 have h2:(tabP t).length=(tabTo t true t.length).length+(tabTo t false t.length).length:=List.length_append
 have h3:=tabTo_len (t:=t) (lo:=true) (q:=t.length)
 have h4:=tabTo_len (t:=t) (lo:=false) (q:=t.length)
 (revert hl h1 h2 h3 h4;exact z5 0xffc410002108695028240046020e82100424d420)
theorem ne_is{led:Led}{a b:Str}:evCmp led .ne (dS a) (dS b)=some (!(a==b)):=by kernel_rfl
theorem mod_lt(x:Int){n:Nat}(h:0<n):∃ j:Nat,j<n∧x.fmod n=(j:Int):=by
 have hn:(0:Int)<(n:Int):=Int.ofNat_lt.mpr h
 have h1:=Int.fmod_nonneg_of_pos x hn
 have h2:=Int.fmod_lt_of_pos x hn
 exact⟨(x.fmod n).toNat,(Int.toNat_lt h1).mpr h2,(Int.toNat_of_nonneg h1).symm⟩
theorem intsOf_map:∀ is:List Int,intsOf (is.map .int)=some is
 | []=>rfl
 | x::l=>(bindF (a:=x) rfl).trans (mapF (intsOf_map l))
noncomputable def PCS:List (List Nat):=[[102,105],[102,102],[102,102,105],[102],[105],[102,105],[108],[102,108]]
noncomputable def CST:List Int:=[42,1674,216,971,244,73]
section
variable{X:Tab}{k:Nat}{is zs:List Int}{w:List Nat}{T:Str}
theorem pick6(is:List Int):∃ xs:List Int,xs.length≤6∧pickD (is.map .int) none (some 6) none=xs.map .int:=by
 refine⟨(sliceRange (sliceBounds none (some 6) none is.length).1 (sliceBounds none (some 6) none is.length).2.1 (sliceBounds none (some 6) none is.length).2.2).filterMap (is[·]?),?_,?_⟩
 ·refine Nat.le_trans (List.length_filterMap_le _ _) ?_
  unfold sliceRange sliceBounds
  simp
  split <;> omega
 ·unfold pickD
  rw[List.length_map,List.map_filterMap]
  congr 1
  funext i
  rw[List.getElem?_map]
theorem cst_all:((List.range 7).map fun n:Nat=>pickD (CST.map .int) (some (n:Int)) none none)=mapR (fun n=>(CST.drop n).map .int) (List.range 7):=by kernel_rfl
noncomputable def sSl:E:=.slice (.name 58) (.lit .none) (.lit (.int 6)) (.lit .none)
noncomputable def sCs:E:=.list [(.lit (.int 42)),(.lit (.int 1674)),(.lit (.int 216)),(.lit (.int 971)),(.lit (.int 244)),(.lit (.int 73))]
noncomputable def sSrc:E:=.bin .add sSl (.slice sCs (.bi .len [sSl]) (.lit .none) (.lit .none))
noncomputable def locZ(is:List Int)(w:List Nat)(T:Str):UK.Loc:=[(58,.lst (is.map .int)),(57,dS (tS w)),(25,dS T)]
theorem src_ok(his:is.length≤63):∃ (zs:List Int) (l:Led) (j:Nat),zs.length≤12∧evE (cxK X k) sSrc (locZ is w T) []=some (.ref j,l)∧srcE 0 l [.ref j]=some (.fz (zs.map .int)):=by
 obtain⟨xs,hxs,hp⟩:=pick6 is
 have s1:∀ led:Led,evE (cxK X k) sSl (locZ is w T) led=some (.ref led.length,led++[.list (xs.map .int)]):=fun led=>
  (slice_e (x:=.lst (is.map .int)) (y:=.d .none) (z:=dI 6) (u:=.d .none) (l1:=led) (l2:=led) (l3:=led) (l4:=led) rfl rfl rfl rfl).trans (by
   show gd ((is.map D.int).length≤cap) (some (V.ref led.length,led++[O.list (pickD (is.map .int) none (some 6) none)]))=_
   rw[gdF (by rw[List.length_map];exact Nat.le_trans his (by decide)),hp])
 have hn:xs.length≤100:=by(revert hxs;exact z1 0x3ff084032580a35400)
 have s3:evE (cxK X k) (.bi .len [sSl]) (locZ is w T) [.list (xs.map .int),.list (CST.map .int)]=some (dI xs.length,[.list (xs.map .int),.list (CST.map .int),.list (xs.map .int)]):=by
  refine(bi_e (es0 (s1 _))).trans ((len_list (xs:=xs.map .int) ⟨rfl,rfl⟩ (by rw[List.length_map];exact Nat.le_trans hn (by decide))).trans ?_)
  rw[List.length_map];rfl
 have s4:evE (cxK X k) (.slice sCs (.bi .len [sSl]) (.lit .none) (.lit .none)) (locZ is w T) [.list (xs.map .int)]=some (.ref 3,[.list (xs.map .int),.list (CST.map .int),.list (xs.map .int),.list ((CST.drop xs.length).map .int)]):=by
  refine(slice_e (x:=.ref 1) (y:=dI xs.length) (z:=.d .none) (u:=.d .none) (l1:=[.list (xs.map .int),.list (CST.map .int)]) rfl s3 rfl rfl).trans ?_
  refine(bindF (a:=D.none) rfl).trans ((bindF (a:=some (xs.length:Int)) ?_).trans ((bindF (a:=none) rfl).trans ?_))
  ·exact(bindF (a:=D.int (xs.length:Int)) rfl).trans (gdF (by constructor <;> omega))
  ·have hc:=mapAt cst_all xs.length (List.mem_range.mpr (by(revert hxs;exact z1 0xffc213d40b35400)))
   show gd ((CST.map D.int).length≤cap) (some (V.ref 3,[O.list (xs.map .int),.list (CST.map .int),.list (xs.map .int),.list (pickD (CST.map .int) (some (xs.length:Int)) none none)]))=_
   rw[gdF (by decide),hc]
 have hlen:(xs++CST.drop xs.length).length≤12:=by rw[List.length_append,List.length_drop];show _+(6-_)≤12;(revert hxs;exact z1 0x1ff842ca803457c2101aa635400)
 refine⟨xs++CST.drop xs.length,[.list (xs.map .int),.list (CST.map .int),.list (xs.map .int),.list ((CST.drop xs.length).map .int),.list ((xs++CST.drop xs.length).map .int)],4,hlen,?_,rfl⟩
 have hc:=cat_l (led:=[.list (xs.map .int),.list (CST.map .int),.list (xs.map .int),.list ((CST.drop xs.length).map .int)]) (n:=0) (m:=3) rfl rfl (by rw[←List.length_append,←List.map_append,List.length_map];exact Nat.le_trans hlen (by decide))
 rw[←List.map_append] at hc
 exact(bin_e (s1 []) s4).trans hc
def InvT(X:Tab)(w:List Nat)(T:Str)(i:Nat):Prop:=(∀ c∈T.cps.toList,okC X c)∧T.cps.toList.flatMap (pcS X)=w∧T.length≤4*i∧(∀ c∈w,c∈FIL)∧w.length≤9
noncomputable def sPc:E:=.index (.list [(.lit (.str ⟨#[102,105]⟩)),(.lit (.str ⟨#[102,102]⟩)),(.lit (.str ⟨#[102,102,105]⟩)),(.lit (.str ⟨#[102]⟩)),(.lit (.str ⟨#[105]⟩)),(.lit (.str ⟨#[102,105]⟩)),(.lit (.str ⟨#[108]⟩)),(.lit (.str ⟨#[102,108]⟩))]) (.bin .mod (.name 18) (.lit (.int 8)))
noncomputable def sTp:E:=.call 16 [(.name 59),(.bin .fdiv (.bi .abs [(.name 18)]) (.lit (.int 8)))]
noncomputable def sB:List UK.S:=[.assign (.name 59) sPc,.ite (.cmp (.bi .len [(.bin .add (.name 57) (.name 59))]) .le (.lit (.int 9))) [.assign (.tup [(.name 57),(.name 25)]) (.tuple [(.bin .add (.name 57) (.name 59)),(.bin .add (.name 25) sTp)])] []]
theorem pcs_all:((List.range 8).map fun j:Nat=>evIndex [O.list (PCS.map fun w=>.str (tS w))] (.ref 0) (dI j))=mapR (fun j=>some (dS (tS (PCS.getD j [])))) (List.range 8):=by kernel_rfl
theorem pcs_word:∀ j∈List.range 8,PCS.getD j []∈words∧(PCS.getD j []).length≤3∧(∀ c∈PCS.getD j [],c∈FIL):=by decide
theorem piece_turn(K:Kn X){x:Int}{i:Nat}(I:InvT X w T i)(hi:i≤12):∃ w' T' l,InvT X w' T' (i+1)∧evSs (cxK X (k+2)) [] 0 sB (locZ is w T++[(18,dI x)]) []=some (.nx,locZ is w' T'++l,[]):=by
 obtain⟨i1,i2,i3,i4,i5⟩:=I
 obtain⟨j,hj,ej⟩:=mod_lt x (n:=8) (by decide)
 obtain⟨p1,p2,p3⟩:=pcs_word j (List.mem_range.mpr hj)
 have hm:evE (cxK X (k+2)) (.bin .mod (.name 18) (.lit (.int 8))) (locZ is w T++[(18,dI x)]) [.list (PCS.map fun w=>.str (tS w))]=some (dI (j:Int),[.list (PCS.map fun w=>.str (tS w))]):=by
  rw[←ej]
  exact(bin_e (x:=dI x) (y:=dI 8) (l1:=[.list (PCS.map fun w=>.str (tS w))]) (l2:=[.list (PCS.map fun w=>.str (tS w))]) rfl rfl).trans rfl
 have e1:=assign1 (mu:=[]) (n₀:=0) (t:=.name 59) (b:=⟨0,locZ is w T++[(18,dI x),(59,dS (tS (PCS.getD j [])))],[]⟩) (index_e (a:=.list [(.lit (.str ⟨#[102,105]⟩)),(.lit (.str ⟨#[102,102]⟩)),(.lit (.str ⟨#[102,102,105]⟩)),(.lit (.str ⟨#[102]⟩)),(.lit (.str ⟨#[105]⟩)),(.lit (.str ⟨#[102,105]⟩)),(.lit (.str ⟨#[108]⟩)),(.lit (.str ⟨#[102,108]⟩))]) (x:=.ref 0) (led:=[]) (l1:=[.list (PCS.map fun w=>.str (tS w))]) rfl hm (mapAt pcs_all j (List.mem_range.mpr hj))) rfl
 generalize PCS.getD j []=q at *
 have ha:evE (cxK X (k+2)) (.bin .add (.name 57) (.name 59)) (locZ is w T++[(18,dI x),(59,dS (tS q))]) []=some (dS (tS (w++q)),[]):=(bin_e (x:=dS (tS w)) (y:=dS (tS q)) (l1:=[]) (l2:=[]) rfl rfl).trans (addS (by(revert i5 p2;exact z2 0x1ff842100c960828a1d4204d400)))
 have c2:=cmp_e (op:=.le) (b:=.lit (.int 9)) (y:=dI (9:Nat)) (l2:=[]) ((bi_e (es0 ha)).trans (lenS (t:=w++q) (by rw[List.length_append];(revert i5 p2;exact z2 0x1ff842100c960828a1d4204d400)))) rfl leI
 cases h:decide ((w++q).length≤9) with
 | false=>
  rw[h] at c2
  exact⟨w,T,_,⟨i1,i2,by(revert i3;exact z2 0x1ff8421a8684b814125c00),i4,i5⟩,(seq1 e1).trans ((seq1 ((ite_f' c2 rfl).trans rfl)).trans rfl)⟩
 | true=>
  rw[h] at c2
  have h:=of_decide_eq_true h
  obtain⟨S,t1,t2,t3,t4⟩:=typed_ok (X:=X) (k:=k) K (x.natAbs / 8) (.list []) p1
  have hd:evE (cxK X (k+2)) (.bin .fdiv (.bi .abs [(.name 18)]) (.lit (.int 8))) (locZ is w T++[(18,dI x),(59,dS (tS q))]) []=some (dI ((x.natAbs / 8:Nat):Int),[]):=by
   refine(bin_e (x:=dI (x.natAbs:Int)) (y:=dI 8) (l1:=[]) (l2:=[]) rfl rfl).trans ?_
   show some (dI ((x.natAbs:Int).fdiv 8),[])=_
   rw[Int.fdiv_eq_ediv_of_nonneg _ (by decide)];rfl
  have ht:evE (cxK X (k+2)) (.bin .add (.name 25) sTp) (locZ is w T++[(18,dI x),(59,dS (tS q))]) []=some (dS (T++S),[]):=
   (bin_e (x:=dS T) (l1:=[]) rfl ((call_R (es1 (e:=.name 59) (v:=dS (tS q)) rfl (es0 hd))).trans t1)).trans (add_str (by show _≤4096;(revert hi i3 t4;exact z3 0x7fe408424002c105144a840225c0065440)))
  have e2:=pair_e (mu:=[]) (n₀:=0) (t:=57) (u:=25) ha ht rfl rfl rfl
  have happ:(T++S).cps.toList=T.cps.toList++S.cps.toList:=Array.toList_append
  have hlen:(T++S).length=T.length+S.length:=by show (T.cps++S.cps).size=_;rw[Array.size_append];rfl
  refine⟨w++q,T++S,[(18,dI x),(59,dS (tS q))],⟨fun c hc=>?_,?_,by(revert i3 t4 hlen;exact z4 0x1ff8420084350d09702862a0044a8c0125c40),fun c hc=>(List.mem_append.mp hc).elim (i4 c) (p3 c),h⟩,(seq1 e1).trans ((seq1 ((ite_t' c2 rfl).trans ((seq1 e2).trans rfl))).trans rfl)⟩
  ·rw[happ] at hc
   exact(List.mem_append.mp hc).elim (i1 c) (t2 c)
  ·rw[happ,List.flatMap_append,i2,t3]
theorem piece_loop(K:Kn X):∀ (zs:List Int) (w:List Nat) (T:Str) (i N:Nat),InvT X w T i→i+zs.length≤12→zs.length<N →
  ∃ w' T',InvT X w' T' 12∧forLoop (.name 18) (fun loc led'=>evSs (cxK X (k+2)) [] 0 sB loc led') N (.fz (zs.map .int)) (locZ is w T) []=some (.nx,locZ is w' T',[])
 | zs,w,T,i,0,_,_,hN=>absurd hN (Nat.not_lt_zero _)
 | [],w,T,i,N+1,I,h,_=>⟨w,T,⟨I.1,I.2.1,Nat.le_trans I.2.2.1 (Nat.mul_le_mul_left 4 h),I.2.2.2⟩,rfl⟩
 | x::zs,w,T,i,N+1,I,h,hN=>by
  have h:i+(zs.length+1)≤12:=h
  obtain⟨w1,T1,l,I1,e1⟩:=piece_turn (k:=k) (is:=is) K (x:=x) I (by(revert h;exact z2 0x1ff842ca814ca86a1a0280))
  obtain⟨w2,T2,I2,e2⟩:=piece_loop K zs w1 T1 (i+1) N I1 (by(revert h;exact z2 0x3ff08595086a0a514ca86a1a0280)) (Nat.lt_of_succ_lt_succ hN)
  exact⟨w2,T2,I2,(for_step (loc3:=locZ is w1 T1) (l3:=[]) rfl e1 rfl).trans e2⟩
end
end
section
section
variable{X:Tab}{k:Nat}{is:List Int}{w:List Nat}{T:Str}
noncomputable def locZ2(is:List Int)(w:List Nat)(T:Str)(c:Nat):UK.Loc:=[(58,.lst (is.map .int)),(57,dS (tS w)),(25,dS T),(60,ch c)]
noncomputable def locZ3(is:List Int)(w:List Nat)(T:Str)(c:Nat)(rs:List Run):UK.Loc:=locZ2 is w T c++[(31,dS (tS w)),(47,.lst (rAll rs))]
noncomputable def locZ4(is:List Int)(w:List Nat)(T:Str)(c:Nat)(rs:List Run)(L:List (Str × Str)):UK.Loc:=locZ2 is w T c++[(31,dS (tS w)),(47,.lst (rAll rs)),(48,.lst (dL L)),(43,.hdr (dL L)),(44,.d (.bool true))]
theorem runL_len'{t:List Nat}(hl:t.length≤9):(runL t).length≤40:=by
 have:=runL_len hl
 unfold rAll at this
 rwa [List.length_map] at this
theorem last_e(H:Hv X)(M:Maths w)(hw:∀ c∈w,c∈FIL)(hl:w.length≤9){loc:UK.Loc}(h31:UK.get loc 31=some (dS (tS w)))(h47:UK.get loc 47=some (.lst (rAll (runL w))))(h43:UK.get loc 43=some (.hdr (dL (tabP w)))) :
  evE (cxK X (k+2)) (.call 27 [(.name 31),(.name 47),(.call 26 [(.name 31),(.hm 6 (.name 43) [])])]) loc []=some (.d (.bool true),ldS (.list (strD ((tabRs w).map fun r=>tS (valS r)))) (sqL w (tabRs w))):=by
 have hv:=(hm_R (X:=X) (k:=k+2) (f:=6) (as:=[]) (vs:=[]) (led:=[]) (l1:=[]) (led':=[]) (name_e h43) rfl rfl).trans (values_ok (k:=k+1) (tab_tabOk hl M.once).len)
 rw[tabP_vals] at hv
 have h26:=(call_R (f:=26) (es1 (name_e h31) (es0 hv))).trans (squares_ok (X:=X) (k:=k+1) hl M.tabs (tabRs_len hl))
 exact(call_R (f:=27) (es1 (name_e h31) (es1 (name_e h47) (es0 h26)))).trans (dots_ok (X:=X) (k:=k) hw hl M.runs (runL_len' hl) M.dots)
theorem law_ok(K:Kn X)(H:Hv X)(M:∀ t,(∀ c∈t,c∈FIL)→t.length≤9→Maths t)(is:List Int)(his:is.length≤63):R X (k+6) 28 [.lst (is.map .int)] []=some (.d (.bool true),[]):=by
 obtain⟨zs,l,j,hz,e1,e2⟩:=src_ok (X:=X) (k:=k+5) (w:=[]) (T:=⟨#[]⟩) his
 obtain⟨w,T,⟨i1,i2,i3,i4,i5⟩,e3⟩:=piece_loop (X:=X) (k:=k+3) (is:=is) K zs [] ⟨#[]⟩ 0 4096 ⟨nofun,rfl,Nat.le_refl _,nofun,Nat.zero_le _⟩ (by(revert hz;exact z1 0x7fe10b2a00568a65400)) (by(revert hz;exact z1 0x3ff084800580b65400))
 have M:=M w i4 i5
 have e0:evS (cxK X (k+5)) [] 0 (.assign (.tup [(.name 57),(.name 25)]) (.tuple [(.lit (.str ⟨#[]⟩)),(.lit (.str ⟨#[]⟩))])) [(58,.lst (is.map .int))] []=some (.nx,locZ is [] ⟨#[]⟩,[]):=pair_e (led:=[]) (x:=.str ⟨#[]⟩) (y:=.str ⟨#[]⟩) rfl rfl rfl rfl rfl
 have hF:=(for_eq (cx:=cxK X (k+5)) (mu:=[]) (n₀:=0) (t:=.name 18) (b:=sB) (k:=.e) (loc:=locZ is [] ⟨#[]⟩) (led:=[]) (es0 e1) e2).trans e3
 obtain⟨m,hm,em⟩:=mod_lt is.sum (n:=16) (by decide)
 have hbe:=K.be m hm
 have hb:=mapAt (beside_all (X:=X) (k:=k+4) (.list [])) m (List.mem_range.mpr hm)
 have hs:evE (cxK X (k+5)) (.bin .mod (.bi .sum [(.name 58)]) (.lit (.int 16))) (locZ is w T) []=some (dI (m:Int),[]):=by
  rw[←em]
  exact(bin_e (x:=dI is.sum) (y:=dI 16) (l1:=[]) (l2:=[]) ((bi_e (es0 (e:=.name 58) (v:=.lst (is.map .int)) (l1:=[]) rfl)).trans (show evBi [] .sum [.lst (is.map .int)]=some (dI is.sum,[]) from mapF (intsOf_map is))) rfl).trans rfl
 have a4:evS (cxK X (k+5)) [] 0 (.assign (.name 60) (.call 14 [(.bin .mod (.bi .sum [(.name 58)]) (.lit (.int 16)))])) (locZ is w T) []=some (.nx,locZ2 is w T (beS.getD m 0),[]):=assignD ((call_R (es0 hs)).trans hb) rfl
 generalize beS.getD m 0=c at a4 hbe
 have hT:T.cps.size≤48:=i3
 have hcap:T.length+(⟨#[c]⟩:Str).length≤cap:=Nat.le_trans (Nat.succ_le_succ hT) (by decide)
 have happ:(T++(⟨#[c]⟩:Str)).cps.toList=T.cps.toList++[c]:=Array.toList_append
 have hp:=prepared_ok (X:=X) (k:=k+3) (T:=T++(⟨#[c]⟩:Str)) (led:=[]) (fun d hd=>by
  rw[happ] at hd
  exact(List.mem_append.mp hd).elim (i1 d) fun q=>(List.mem_singleton.mp q)▸hbe.1) (by show (T.cps++#[c]).size≤100;rw[Array.size_append];exact Nat.le_trans (Nat.succ_le_succ hT) (by decide))
 rw[happ,List.flatMap_append,i2,List.flatMap_cons,List.flatMap_nil,List.append_nil,hbe.2] at hp
 have hp2:=prepared_ok (X:=X) (k:=k+3) (T:=T) (led:=[]) i1 (by(revert hT;exact z1 0xffc2100c960280185800))
 rw[i2] at hp2
 have g1:=(call_R (X:=X) (k:=k+5) (f:=17) (loc:=locZ2 is w T c) (led:=[]) (as:=[.bin .add (.name 25) (.name 60)]) (es0 ((bin_e (x:=dS T) (y:=ch c) (l1:=[]) (l2:=[]) rfl rfl).trans (add_str hcap)))).trans hp
 have g2:=(bin_e (cx:=cxK X (k+5)) (loc:=locZ2 is w T c) (led:=[]) (op:=.add) (a:=.name 57) (b:=.name 60) (x:=dS (tS w)) (y:=dS (tS [c])) (l1:=[]) (l2:=[]) rfl rfl).trans (addS (show w.length+1≤100 by(revert i5;exact z1 0x1ff8420192c1a828a4d400)))
 have g3:=cmp_e (op:=.ne) (r:=false) g1 g2 (ne_is.trans (by show some (!(tS (w++[c])==tS (w++[c])))=_;rw[beq_self_eq_true];rfl))
 have a5:evS (cxK X (k+5)) [] 0 (.assign (.name 31) (.call 17 [(.name 25)])) (locZ2 is w T c) []=some (.nx,locZ2 is w T c++[(31,dS (tS w))],[]):=assignD ((call_R (vs:=[dS T]) (led':=[]) rfl).trans hp2) rfl
 have a6:evS (cxK X (k+5)) [] 0 (.assign (.name 47) (.call 22 [(.name 31)])) (locZ2 is w T c++[(31,dS (tS w))]) []=some (.nx,locZ3 is w T c (runL w),[]):=
  assign1 (b:=⟨1,locZ3 is w T c (runL w),[]⟩) ((call_R (vs:=[dS (tS w)]) (led':=[]) rfl).trans (runs_ok (X:=X) (k:=k+3) i5)) rfl
 have hdue:=due_ok (X:=X) (k:=k+3) i4 i5 M.runs (runL_len' i5)
 rw[M.due] at hdue
 have a7:evS (cxK X (k+5)) [] 0 (.assign (.name 48) (.call 24 [(.name 31),(.name 47)])) (locZ3 is w T c (runL w)) []=some (.nx,locZ3 is w T c (runL w)++[(48,.lst (dL (tabP w)))],[]):=
  assign1 (b:=⟨1,locZ3 is w T c (runL w)++[(48,.lst (dL (tabP w)))],[]⟩) ((call_R (vs:=[dS (tS w),.lst (rAll (runL w))]) (led':=[]) rfl).trans hdue) rfl
 have a8:evS (cxK X (k+5)) [] 0 (.assign (.tup [(.name 43),(.name 44)]) (.call 21 [(.name 31)])) (locZ3 is w T c (runL w)++[(48,.lst (dL (tabP w)))]) []=some (.nx,locZ4 is w T c (runL w) (tabP w),[]):=
  assign1 (b:=⟨0,locZ4 is w T c (runL w) (tabP w),[]⟩) ((call_R (vs:=[dS (tS w)]) (led':=[]) rfl).trans (table_ok (X:=X) (k:=k+1) H i4 i5 M.once)) rfl
 have q1:evE (cxK X (k+5)) (.not (.name 44)) (locZ4 is w T c (runL w) (tabP w)) []=some (.d (.bool false),[]):=rfl
 have q2:=not_e ((call_R (X:=X) (k:=k+5) (f:=25) (loc:=locZ4 is w T c (runL w) (tabP w)) (led:=[]) (as:=[(.name 43),(.name 48)]) (vs:=[.hdr (dL (tabP w)),.lst (dL (tabP w))]) (led':=[]) rfl).trans (asked_ok (X:=X) (k:=k+2) H (tab_tabOk i5 M.once))) (r:=true) rfl
 have hr:=ret1 (mu:=[]) (n₀:=0) (last_e (X:=X) (k:=k+3) (loc:=locZ4 is w T c (runL w) (tabP w)) H M i4 i5 rfl rfl rfl)
 exact R_step (fn:=m2f28) (loc:=[(58,.lst (is.map .int))]) (fl:=.ret (.d (.bool true))) rfl rfl ((seq1 e0).trans ((seq1 hF).trans ((seq1 a4).trans ((seq1 ((ite_f' g3 rfl).trans rfl)).trans ((seq1 a5).trans ((seq1 a6).trans ((seq1 a7).trans ((seq1 a8).trans ((seq1 ((ite_f' ((or_f q1 rfl).trans q2) rfl).trans rfl)).trans (seqR hr)))))))))) rfl
end
end
end uk0030_02
end
section
namespace uk0030_02
section
def L(lo:Bool)(a b:Nat):Prop:=cond lo a b<cond lo b a
theorem L_asymm{lo:Bool}{a b:Nat}(h:L lo a b)(g:L lo b a):False:=by cases lo <;> exact Nat.lt_asymm h g
theorem L_trans{lo:Bool}{a b c:Nat}(h:L lo a b)(g:L lo b c):L lo a c:=by
 cases lo
 ·exact Nat.lt_trans (m:=b) g h
 ·exact Nat.lt_trans (m:=b) h g
theorem L_irr{lo:Bool}{a:Nat}(h:L lo a a):False:=L_asymm h h
theorem L_tot{lo:Bool}{a b:Nat}(h:a≠b):L lo a b∨L lo b a:=by
 cases lo
 ·exact(Nat.lt_or_gt_of_ne h).symm
 ·exact Nat.lt_or_gt_of_ne h
theorem first_ne{f g:Nat→Nat}(K:Nat):f K≠g K→∃ k,k≤K∧(∀ j,j<k→f j=g j)∧f k≠g k:=by
 induction K using Nat.strongRecOn with
 | ind K ih=>
  intro h
  refine Classical.byCases (fun hall:∀ j,j<K→f j=g j=>⟨K,Nat.le_refl _,hall,h⟩) fun hall=>?_
  obtain⟨j,hj⟩:=Classical.not_forall.mp hall
  obtain⟨hj,hne⟩:=Classical.not_imp.mp hj
  obtain⟨k,h1,h2⟩:=ih j hj hne
  exact⟨k,Nat.le_trans h1 (Nat.le_of_lt hj),h2⟩
def Lx(lo:Bool)(f g:Nat→Nat)(K:Nat):Prop:=∃ k,k<K∧(∀ j,j<k→f j=g j)∧L lo (f k) (g k)
theorem Lx_asymm{lo:Bool}{f g:Nat→Nat}{K M:Nat}:Lx lo f g K→Lx lo g f M→False:=fun ⟨k,_,h1,h2⟩ ⟨m,_,g1,g2⟩=>by
 rcases Nat.lt_trichotomy k m with h | h | h
 ·rw[g1 k h] at h2;exact L_irr h2
 ·subst h;exact L_asymm h2 g2
 ·rw[h1 m h] at g2;exact L_irr g2
theorem Lx_irr{lo:Bool}{f:Nat→Nat}{K:Nat}(h:Lx lo f f K):False:=Lx_asymm h h
theorem Lx_trans{lo:Bool}{f g h:Nat→Nat}{K:Nat}:Lx lo f g K→Lx lo g h K→Lx lo f h K:=fun ⟨k,h0,h1,h2⟩ ⟨m,g0,g1,g2⟩=>by
 rcases Nat.lt_trichotomy k m with q | q | q
 ·exact⟨k,h0,fun j hj=>(h1 j hj).trans (g1 j (Nat.lt_trans hj q)),g1 k q▸h2⟩
 ·subst q;exact⟨k,h0,fun j hj=>(h1 j hj).trans (g1 j hj),L_trans h2 g2⟩
 ·exact⟨m,g0,fun j hj=>(h1 j (Nat.lt_trans hj q)).trans (g1 j hj),(h1 m q).symm▸g2⟩
theorem Lx_tot{lo:Bool}{f g:Nat→Nat}{K j:Nat}(hj:j<K)(h:f j≠g j):Lx lo f g K∨Lx lo g f K:=by
 obtain⟨k,h1,h2,h3⟩:=first_ne j h
 exact(L_tot h3).imp (fun q=>⟨k,Nat.lt_of_le_of_lt h1 hj,h2,q⟩) fun q=>⟨k,Nat.lt_of_le_of_lt h1 hj,fun j hj=>(h2 j hj).symm,q⟩
theorem Lx_not{lo:Bool}{f g:Nat→Nat}{K:Nat}:Lx (!lo) f g K→Lx lo g f K:=fun ⟨k,h0,h1,h2⟩=>⟨k,h0,fun j hj=>(h1 j hj).symm,by cases lo <;> exact h2⟩
section
variable{w:Nat→Nat}{n:Nat}{lo:Bool}{p q s b e:Nat}
noncomputable def sh(w:Nat→Nat)(p:Nat):Nat→Nat:=fun j=>w (p+j)
def SL(w:Nat→Nat)(n:Nat)(lo:Bool)(q p:Nat):Prop:=Lx lo (sh w q) (sh w p) (n+1)
theorem SL_tot(hn:∀ i,i<n→w i≠w n)(h:p<q)(hq:q≤n):SL w n lo q p∨SL w n lo p q:=by
 refine Lx_tot (j:=n-q) (by exact z2 0x1ff8421a868058407) fun e=>hn (p+(n-q)) (by(revert h hq;exact z3 0x1ff8400084400d17f004220982200801)) (e.symm.trans ?_)
 show w (q+(n-q))=_
 rw[Nat.add_sub_cancel' hq]
def Nx(w:Nat→Nat)(n:Nat)(lo:Bool)(p s:Nat):Prop:=1≤s∧p+s≤n∧SL w n lo (p+s) p∧∀ r,0<r→r<s→¬SL w n lo (p+r) p
structure St (w:Nat→Nat) (n s p b e:Nat):Prop where
 bp:b≤p
 pe:p+s≤e
 en:e≤n
 per:∀ j,b≤j→j+s<e→w j=w (j+s)
 bd:b=0∨∃ c,b=c+1∧w c≠w (c+s)
 ed:w e≠w (e-s)
noncomputable def rho(s k j:Nat):Nat:=if j+k<s then j+k else j+k-s
def Lst(w:Nat→Nat)(lo:Bool)(p s:Nat):Prop:=∀ k,0<k→k<s→Lx lo (sh w p) (fun j=>w (p+rho s k j)) s
theorem rho_lt{k j:Nat}(h:j+k<s):rho s k j=j+k:=if_pos h
theorem rho_ge{k j:Nat}(h:¬j+k<s):rho s k j=j+k-s:=if_neg h
theorem lst_get(h:Lst w lo p s){k:Nat}(h0:0<k)(h1:k<s):∃ i,i<s∧(∀ j,j<i→w (p+j)=w (p+rho s k j))∧L lo (w (p+i)) (w (p+rho s k i)):=h k h0 h1
theorem lst_not(h:Lst w lo p s){k i:Nat}(h0:0<k)(h1:k<s)(hi:i<s)(h2:∀ j,j<i→w (p+rho s k j)=w (p+j))(h3:L lo (w (p+rho s k i)) (w (p+i))):False:=Lx_asymm (h k h0 h1) ⟨i,hi,h2,h3⟩
theorem no_border(h:Lst w lo p s){d:Nat}(h0:0<d)(hd:d<s)(hb:∀ j,j<d→w (p+j)=w (p+(j+(s-d)))):False:=by
 obtain⟨i,i1,i2,i3⟩:=lst_get h (k:=s-d) (by(revert hd;exact z2 0x7fe1080200557f0842030021)) (by(revert h0 hd;exact z2 0xffc200042102fe00842030021082a1))
 have hi:d≤i:=Nat.le_of_not_lt fun hi=>by
  rw[rho_lt (by(revert i1 hi;exact z3 0x1ff84000043f080010f8400d16209c4008401)),←hb i hi] at i3
  exact L_irr i3
 refine lst_not h h0 hd (i:=i-d) (by(revert i1;exact z3 0x7fe10042302c2038801)) (fun j hj=>?_) ?_
 ·have:=i2 (j+d) (by(revert hj;exact z3 0x1ff8401f8421f0c41a2c0108447))
  rw[rho_ge (by exact z3 0x7fe1004601069468447),show j+d+(s-d)-s=j by(revert i1 hj;exact z4 0x7c200803f0800000001f84000800008421f7c210f86067c0000020090031528610ce00842338861)] at this
  rw[rho_lt (by(revert i1 hj;exact z4 0x7fe1007e1000210f8620d1600842338861))];exact this
 ·rw[rho_lt (by(revert i1 hi;exact z3 0x1ff8400084620517f004210180100801)),show i-d+d=i by(revert hi;exact z2 0x1f0803f084220519f0842030020)]
  rw[rho_ge (by(revert hi;exact z3 0x1ff842008801a344138040)),show i+(s-d)-s=i-d by(revert i1;exact z3 0x1f087e1004000043ef843f0800000001087e100421f7ba00b08238801a1c4138401)] at i3
  exact i3
theorem due_nx(h:Lst w lo p s)(hs:1≤s)(S:St w n s p b e)(he:L lo (w e) (w (e-s))):Nx w n lo p s:=by
 obtain⟨b1,b2,b3,b4,b5,b6⟩:=S
 refine⟨hs,by(revert b2 b3;exact z4 0x3ff084220828a10c0308280),⟨e-s-p,by(revert b3;exact z4 0x7fe100401086a5a016301c2038c00),fun j hj=>?_,?_⟩,fun r r0 r1 hr=>?_⟩
 ·show w (p+s+j)=w (p+j)
  rw[b4 (p+j) (by(revert b1;exact z3 0xffc211068050400)) (by(revert hj;exact z4 0x3ff0803f084000fc21087de29062a51601842038867)),show p+s+j=p+j+s by exact z3 0x7c3f08440a50410528c]
 ·show L lo (w (p+s+(e-s-p))) (w (p+(e-s-p)))
  rw[show p+s+(e-s-p)=e by(revert b2;exact z3 0x1f080200fc200848018a9467c210042037c21088c208280),show p+(e-s-p)=e-s by(revert b2;exact z3 0x7c200fc210805467c210042037c21104c110280)]
  exact he
 ·obtain⟨i,i1,i2,i3⟩:=lst_get h r0 r1
  by_cases hi:i+r<s
  ·refine Lx_asymm hr (M:=s) ⟨i,i1,fun j hj=>?_,?_⟩
   ·have:=i2 j hj
    rw[rho_lt (by(revert hi hj;exact z4 0x3ff084220828b1802208e81))] at this
    exact this.trans (congrArg w (by exact z3 0x7c3f08440a5041a028c))
   ·rw[rho_lt hi] at i3
    rw[show sh w (p+r) i=w (p+(i+r)) from congrArg w (by exact z3 0x7c3f08454050410528c)]
    exact i3
  ·refine no_border h (d:=s-r) (by(revert r1;exact z2 0x7fe1080200557f0842030021)) (by(revert i1 hi;exact z3 0x3ff08000087e1080010f820584070045418041)) fun j hj=>?_
   have:=i2 j (by(revert hi hj;exact z4 0x7fe1007e1000210f8415802110ce310683))
   rw[rho_lt (by(revert hj;exact z3 0x1ff8401f8421f0c41a2c0108447))] at this
   exact this.trans (congrArg w (by(revert hj;exact z4 0xf84000043f080000fc20087c01d05420e82a33e0080202180208867)))
theorem SL_shift{d:Nat}(h:SL w n lo q p)(hd:∀ j,j<d→w (q+j)=w (p+j)):SL w n lo (q+d) (p+d):=by
 obtain⟨k,k1,k2,k3⟩:=h
 have hk:d≤k:=Nat.le_of_not_lt fun hk=>by
  have k3:L lo (w (q+k)) (w (p+k)):=k3
  rw[hd k hk] at k3;exact L_irr k3
 refine⟨k-d,by(revert k1;exact z3 0x1ff8401086a3a016101c3515001),fun j hj=>?_,?_⟩
 ·show w (q+d+j)=w (p+d+j)
  rw[Nat.add_assoc,Nat.add_assoc];exact k2 (d+j) (by(revert hj;exact z3 0x1ff8401f8421f0c41a2c0208047))
 ·show L lo (w (q+d+(k-d))) (w (p+d+(k-d)))
  rw[Nat.add_assoc,Nat.add_assoc,Nat.add_sub_cancel' hk];exact k3
theorem nx_border(hn:∀ i,i<n→w i≠w n)(h:Nx w n lo p s){d:Nat}(h0:0<d)(hd:d<s)(hb:∀ j,j<d→w (p+j)=w (p+(j+(s-d)))):False:=by
 obtain⟨h1,h2,h3,h4⟩:=h
 have g:=(SL_tot (lo:=lo) hn (show p<p+(s-d) by(revert hd;exact z3 0xffc2100401a057f0844130441)) (by(revert h2;exact z4 0x7fe1004240068a104e308280))).resolve_left (h4 (s-d) (by(revert hd;exact z2 0x7fe1080200557f0842030021)) (by(revert h0 h1;exact z2 0x1ff8400087e1000010f82058407006a0082a1)))
 have g:=SL_shift (d:=d) g fun j hj=>(hb j hj).trans (congrArg w (by exact z4 0x3e1f84400d2801503460c47))
 rw[show p+(s-d)+d=p+s by(revert hd;exact z3 0x1f0803f08441a0c01a519f0844130441)] at g
 exact h4 d h0 hd (Lx_trans g h3)
theorem nx_lst(hn:∀ i,i<n→w i≠w n)(h:Nx w n lo p s):Lst w lo p s:=fun k k0 k1=>by
 obtain⟨i,i1,i2,i3⟩:=(SL_tot (lo:=lo) hn (show p<p+k by(revert k0;exact z2 0x1ff84210500b082a1)) (by have:=h.2.1;(revert k1 this;exact z4 0x3ff084220828a10c1400c21))).resolve_left (h.2.2.2 k k0 k1)
 by_cases hi:i+k<s
 ·refine⟨i,by(revert hi;exact z3 0xffc210816110281),fun j hj=>?_,?_⟩
  ·show w (p+j)=w (p+rho s k j)
   rw[rho_lt (by(revert hi hj;exact z4 0x3ff084220828b1802208e81)),Nat.add_comm j k,←Nat.add_assoc];exact i2 j hj
  ·show L lo _ (w (p+rho s k i))
   rw[rho_lt hi,Nat.add_comm i k,←Nat.add_assoc];exact i3
 ·refine(nx_border hn h (d:=s-k) (by(revert k1;exact z2 0x7fe1080200557f0842030021)) (by(revert k0 k1;exact z2 0xffc200042102fe00842030021082a1)) fun j hj=>?_).elim
  exact(i2 j (by(revert hi hj;exact z4 0x7fe1007e1000210f8415802110ce310683))).trans (congrArg w (by(revert hj;exact z4 0xf84000043f080000fc20087c02505420c54a33e0080202180308467)))
theorem nx_end(h:Nx w n lo p s)(S:St w n s p b e):L lo (w e) (w (e-s)):=by
 obtain⟨b1,b2,b3,b4,b5,b6⟩:=S
 refine(L_tot b6).elim id fun g=>(Lx_asymm h.2.2.1 (M:=n+1) ⟨e-s-p,by(revert b3;exact z4 0x7fe100401086a5a016301c2038c00),fun j hj=>?_,?_⟩).elim
 ·show w (p+j)=w (p+s+j)
  rw[b4 (p+j) (by(revert b1;exact z3 0xffc211068050400)) (by(revert hj;exact z4 0x3ff0803f084000fc21087de29062a51601842038867)),show p+s+j=p+j+s by exact z3 0x7c3f08440a50410528c]
 ·show L lo (w (p+(e-s-p))) (w (p+s+(e-s-p)))
  rw[show p+s+(e-s-p)=e by(revert b2;exact z3 0x1f080200fc200848018a9467c210042037c21088c208280),show p+(e-s-p)=e-s by(revert b2;exact z3 0x7c200fc210805467c210042037c21104c110280)]
  exact g
def NoPer(w:Nat→Nat)(b e s:Nat):Prop:=∀ k,0<k→k<s→¬∀ j,b≤j→j+k<e→w j=w (j+k)
theorem nx_noper(hn:∀ i,i<n→w i≠w n)(h:Nx w n lo p s)(S:St w n s p b e):NoPer w b e s:=fun k k0 k1 hk=>by
 have:=S.bp;have:=S.pe
 refine nx_border hn h (d:=s-k) (by(revert k1;exact z2 0x7fe1080200557f0842030021)) (by(revert k0 k1;exact z2 0xffc200042102fe00842030021082a1)) fun j hj=>?_
 exact(hk (p+j) (by omega) (by(revert this hj;exact z5 0x7fe1007e1000210f8831069458041110e320280))).trans (congrArg w (by(revert hj;exact z4 0xf84000043f080000fc20087c01d05420c54a33e0080202180208867)))
theorem once_lo(hn:∀ i,i<n→w i≠w n){s' b' e':Nat}(h:Nx w n lo p s)(S:St w n s p b e)(hb:b<p)(g:Nx w n (!lo) p s')(S':St w n s' p b' e')(hb':b'<p)(h1:SL w n lo (p+1) p):False:=by
 have s1:s=1:=by
  have:=h.1
  exact Nat.le_antisymm (Nat.le_of_not_lt fun h2=>h.2.2.2 1 (by decide) h2 h1) this
 subst s1
 have hp:=S.pe;have hp':=S'.pe
 have a1:w (p-1)=w p:=(S.per (p-1) (by(revert hb;exact z2 0x7fe1080200abe1086a130401)) (by(revert hb' hp;exact z3 0x1ff8401088350517f08021a80c10d41400041))).trans (congrArg w (by(revert hb';exact z2 0x7c200fc21086a0a33e1086a030021)))
 have a2:w (p-1)=w (p+(s' - 1)):=(S'.per (p-1) (by(revert hb';exact z2 0x7fe1080200abe1086a130401)) (by have:=g.1;(revert hb' hp';exact z4 0x7fe1004231028bf84010d4061041400061))).trans (congrArg w (by have:=g.1;(revert hb' this;exact z3 0x7c200043f0840100a830d19f00400086a237c20086a03043500041)))
 have s2:2≤s':=by
  have:=g.1
  refine Nat.lt_of_le_of_ne this fun q=>?_
  subst q
  exact Lx_asymm h1 (Lx_not g.2.2.1)
 have c1:=(SL_tot (lo:=lo) hn (show p<p+(s' - 1) by(revert s2;exact z2 0x3ff08401006815fc210d42608aa0)) (by have:=g.2.1;(revert this;exact z3 0xffc20084600d141a84e208280))).resolve_right fun q=>g.2.2.2 (s' - 1) (by(revert s2;exact z1 0x1ff8420080155fc210d40600aa0)) (by(revert s2;exact z1 0x3ff084205fc210d40600aa0)) (Lx_not (lo:=!lo) (by rw[Bool.not_not];exact q))
 have c2:=SL_shift (d:=1) c1 fun j hj=>by
  obtain rfl:j=0:=by(revert hj;exact z1 0x1f0fc210540c0d401)
  exact a2.symm.trans a1
 rw[show p+(s' - 1)+1=p+s' by(revert s2;exact z2 0xf8401f84220d0350069467c210d42608aa0)] at c2
 exact Lx_asymm (Lx_trans c2 h1) (Lx_not g.2.2.1)
theorem once_any(hn:∀ i,i<n→w i≠w n){s' b' e':Nat}(h:Nx w n true p s)(S:St w n s p b e)(hb:b<p)(g:Nx w n false p s')(S':St w n s' p b' e')(hb':b'<p):False:=by
 have h1:=h.1;have h2:=h.2.1
 rcases SL_tot (lo:=true) hn (show p<p+1 by exact z1 0x1ff84350500b) (by(revert h1 h2;exact z3 0xffc21084350514110280106a0)) with q | q
 ·exact once_lo (lo:=true) hn h S hb g S' hb' q
 ·exact once_lo (lo:=false) hn g S' hb' h S hb (Lx_not (lo:=false) q)
theorem St.uniq{p' b' e':Nat}(S:St w n s p b e)(T:St w n s p' b' e')(h1:b≤b')(h2:b'+s≤e)(hs:1≤s):b=b'∧e=e':=by
 have e1:=S.pe;have e2:=T.pe;have e3:=S.bp;have e4:=T.bp
 have hb:b=b':=by
  rcases T.bd with h | ⟨c,h,hc⟩
  ·(revert h1 h;exact z2 0x3e10fc2000420602a110400)
  ·refine Nat.le_antisymm h1 (Nat.le_of_not_lt fun hlt=>hc (S.per c (by(revert h hlt;exact z3 0x1ff842108142004350d042)) (by(revert h2 h;exact z4 0x3ff0840110414586a0a0c4208e80))))
 subst hb
 refine⟨rfl,?_⟩
 rcases Nat.lt_trichotomy e e' with h | h | h
 ·exact absurd ((T.per (e-s) (by(revert h2;exact z3 0xffc210040157c21104c110280)) (by(revert h2 h;exact z4 0x3ff08021188145fc20084061002008e80))).trans (congrArg w (by(revert h2;exact z3 0x7c200fc210881467c21080c008a80)))).symm S.ed
 ·exact h
 ·exact absurd ((S.per (e' - s) (by(revert e2 e4;exact z4 0x1ff84210040157c20088261800110e80)) (by(revert e2 h;exact z4 0x3ff08021188145fc20084061002008e80))).trans (congrArg w (by(revert e2;exact z3 0x7c200fc210881467c21080c008a80)))).symm T.ed
end
end
section
section
variable{w:Nat→Nat}{n:Nat}{lo:Bool}{p q s b e x v i:Nat}
def Per(w:Nat→Nat)(b e k:Nat):Prop:=∀ j,b≤j→j+k<e→w j=w (j+k)
theorem per_sub(h1:Per w b e x)(h2:Per w b e s)(hs:s≤x)(hl:b+s+x≤e):Per w b e (x-s):=fun j hj he=>by
 by_cases h:j+x<e
 ·exact(h1 j hj h).trans ((h2 (j+(x-s)) (by(revert hj;exact z4 0x1ff8400080540a86238400)) (by(revert hs h;exact z4 0xffc2008483006945fc20088261841408440))).trans (congrArg w (by(revert hs;exact z3 0x1f0803f08441a0c01a519f0844130440)))).symm
 ·exact((h2 (j-s) (by(revert hl h;exact z5 0x1ff84210040157c210882620c341906205280)) (by(revert hl he h;exact z5 0x3ff0800109060a2fe100001088261943418c01a0424388811d280))).trans (congrArg w (by(revert hl h;exact z5 0x7c200fc210881467c210840620c141906115280)))).symm.trans ((h1 (j-s) (by(revert hl h;exact z5 0x1ff84210040157c210882620c341906205280)) (by(revert hl he;exact z5 0x3ff0840100441f840100021f1480a2c4139001a042238c4125280))).trans (congrArg w (by(revert hs hl h;exact z5 0x7c200043f0840100a840d19f080000044337c010842031040a0c8208e9400820))))
theorem per_dvd(hN:NoPer w b e s)(h2:Per w b e s)(hs:1≤s)(x:Nat):Per w b e x→b+s+x≤e→s ∣ x:=by
 induction x using Nat.strongRecOn with
 | ind x ih=>
  intro h1 hl
  by_cases hx:x<s
  ·by_cases h0:x=0
   ·subst h0;exact Nat.dvd_zero s
   ·exact absurd h1 (hN x (by(revert h0;exact z1 0x7fe10fc3e002ab05405)) hx)
  ·have:=ih (x-s) (by(revert hs hx;exact z2 0xffc200042102fe00842030403086a0)) (per_sub h1 h2 (by(revert hx;exact z2 0x3ff0842050023)) hl) (by(revert hl;exact z4 0x7fe10042400834a282238c4105280))
   have h:=Nat.dvd_add this (Nat.dvd_refl s)
   rwa [Nat.sub_add_cancel (by(revert hx;exact z2 0x3ff0842050023))] at h
theorem per_mul(h2:Per w b e s):∀ m,Per w b e (s*m)
 | 0=>fun j _ _=>by rw[Nat.mul_zero,Nat.add_zero]
 | m+1=>fun j hj he=>by
  rw[Nat.mul_succ] at he ⊢
  exact(per_mul h2 m j hj (by(revert he;exact z4 0xffc211041458861a0281))).trans ((h2 (j+s*m) (by(revert hj;exact z3 0xffc211068050400)) (by(revert he;exact z4 0x3ff084620829458c41a0281))).trans (congrArg w (by exact z3 0x7c3f08834050410528c)))
theorem per_least(v:Nat):1≤v→Per w b e v→∃ s,1≤s∧s≤v∧Per w b e s∧NoPer w b e s:=by
 induction v using Nat.strongRecOn with
 | ind v ih=>
  intro h1 h2
  refine Classical.byCases (fun h:NoPer w b e v=>⟨v,h1,Nat.le_refl _,h2,h⟩) fun h=>?_
  obtain⟨k,h⟩:=Classical.not_forall.mp h
  obtain⟨k0,h⟩:=Classical.not_imp.mp h
  obtain⟨k1,h⟩:=Classical.not_imp.mp h
  obtain⟨s,s1,s2,s3⟩:=ih k k1 k0 (Classical.not_not.mp h)
  exact⟨s,s1,by(revert k1 s2;exact z3 0x3ff084210284000441),s3⟩
theorem sq_str(S:St w n s i b e)(h:Per w i (i+2*v) s)(hsv:s≤v)(hN:NoPer w i (i+2*v) s)(hi:i+2*v≤n):i+2*v≤e∧NoPer w b e s:=by
 have h1:=S.pe;have h2:=S.bp
 have he:i+2*v≤e:=Nat.le_of_not_lt fun hlt=>S.ed ((h (e-s) (by(revert h1;exact z3 0xffc210040157c21104c110280)) (by(revert h1 hlt;exact z4 0x3ff0802120ae3a08145fc200840618ae2a002008a80))).trans (congrArg w (by(revert h1;exact z3 0x7c200fc210881467c21080c008a80)))).symm
 exact⟨he,fun k k0 k1 hk=>hN k k0 k1 fun j hj hl=>hk j (by(revert h2 hj;exact z3 0x3ff084210282200800)) (by(revert he hl;exact z5 0x3ff084220828b20ae3a041408882b8e80))⟩
theorem min_win(w:Nat→Nat)(lo:Bool)(s b:Nat):∀ m,∃ p,b<p∧p≤b+m+1∧∀ q,b<q→q≤b+m+1→¬Lx lo (sh w q) (sh w p) s
 | 0=>⟨b+1,by exact z1 0x1ff84350500b,by exact z1 0x7fe10d41505281a828a,fun q h1 h2 hq=>by
  obtain rfl:q=b+1:=by(revert h1 h2;exact z2 0x1f0803f084350d00c0d4150d28000021)
  exact Lx_irr hq⟩
 | m+1=>by
  obtain⟨p,h1,h2,h3⟩:=min_win w lo s b m
  refine Classical.byCases (fun h:Lx lo (sh w (b+m+2)) (sh w p) s=>⟨b+m+2,by exact z2 0x7fe115420a500b,by exact z2 0x7fe10d4350d014a0aa10528a,fun q q1 q2 hq=>?_⟩) fun h=>⟨p,h1,by(revert h2;exact z3 0x7fe1086a1a8a81a500a0d441a5000),fun q q1 q2 hq=>?_⟩
  ·by_cases e:q=b+m+2
   ·subst e;exact Lx_irr hq
   ·exact h3 q q1 (by(revert q2 e;exact z3 0xffc200fc21f06a20d28050aa20d280286a1a8a81a5000)) (Lx_trans hq h)
  ·by_cases e:q=b+m+2
   ·subst e;exact h hq
   ·exact h3 q q1 (by(revert q2 e;exact z3 0xffc200fc21f06a20d28050aa20d280286a1a8a81a5000)) hq
theorem turn_per(h2:Per w b e s)(hl:b+2*s≤e)(hb:b<p)(hp:p≤b+s){k:Nat}(k0:0<k)(k1:k<s)(h:∀ j,j<s→w (p+j)=w (p+rho s k j)):Per w b e k:=fun j=>by
 induction j using Nat.strongRecOn with
 | ind j ih=>
  intro hj he
  by_cases c1:j<p
  ·have g:=h (j+s-p) (by(revert k1 c1;exact z4 0x1ff84000043f080010f84058820a1c4008461))
   rw[show p+(j+s-p)=j+s by(revert hp hj;exact z4 0x7c200fc2118a800d19f084201068608c021d000)] at g
   refine(h2 j hj (by(revert hl hp c1;exact z5 0x3ff08421104145900108e8400822b8e80))).trans (g.trans ?_)
   by_cases c2:j+s-p+k<s
   ·rw[rho_lt c2]
    exact((h2 (j+k) (by(revert hj;exact z3 0xffc211068050400)) (by(revert hl hp c2;exact z6 0x1ff84210042418834a2c6205025102871128500c42b9280))).trans (congrArg w (by(revert hp hj;exact z5 0x7c21f840110284a0c41a519f08423102860100225060)))).symm
   ·rw[rho_ge c2];exact congrArg w (by(revert k1 c2;exact z4 0xf84000803f0800100001f8421f147400a8cf800008464050c3202830083438861))
  ·by_cases c3:j<p+s
   ·have g:=h (j-p) (by(revert c1 c3;exact z3 0xffc20084605fc20084061068008403))
    rw[show p+(j-p)=j by(revert c1;exact z2 0x1f0803f084400d19f0840130023)] at g
    refine g.trans ?_
    by_cases c2:j-p+k<s
    ·rw[rho_lt c2];exact congrArg w (by(revert c1;exact z3 0x1f0803f08462a0c140d19f0840130023))
    ·rw[rho_ge c2]
     exact(h2 (p+(j-p+k-s)) (by(revert hb;exact z5 0xffc200000100e8251480a1c2238401)) (by(revert he c1 c2;exact z5 0x1ff840008001098a01528bf8000004241828620c141fc01080260046410681))).trans (congrArg w (by(revert c1 c2;exact z4 0x7c2000401f840008483a1402a519f0000109060a18830507f0840130023)))
   ·have g:=ih (j-s) (by(revert k1 c3;exact z4 0x1ff8400084205fc010840608e8018441)) (by(revert hb c3;exact z4 0x1ff84210040157c210882610e8118c01)) (by(revert he;exact z4 0x7fe1004241828b080e310281))
    exact((h2 (j-s) (by(revert hb c3;exact z4 0x1ff84210040157c210882610e8118c01)) (by(revert he c3;exact z5 0x1ff8400084620517f0042101824a006218281))).trans (congrArg w (by(revert c3;exact z3 0x7c200fc210881467c21080c115003)))).symm.trans (g.trans ((h2 (j-s+k) (by(revert hb c3;exact z5 0x7fe1084012028157c21088261128119001)) (by(revert he c3;exact z5 0x7fe10002120860a517f0042101824a006310281))).trans (congrArg w (by(revert c3;exact z4 0x7c200fc21186821829467c21080c11d003)))))
theorem run_place(h2:Per w b e s)(hs:1≤s)(hl:b+2*s≤e)(hN:NoPer w b e s):∃ p,b<p∧p≤b+s∧Lst w lo p s:=by
 obtain⟨p,p1,p2,p3⟩:=min_win w lo s b (s-1)
 have p2:p≤b+s:=by(revert hs p2;exact z3 0x1ff842118a81506a01528107c210d446106a0)
 refine⟨p,p1,p2,fun k k0 k1=>?_⟩
 have hq:∃ q,b<q∧q≤b+s∧∀ j,j<s→w (q+j)=w (p+rho s k j):=by
  by_cases c:p+k≤b+s
  ·refine⟨p+k,by(revert p1;exact z3 0xffc211068058401),c,fun j hj=>?_⟩
   by_cases c2:j+k<s
   ·rw[rho_lt c2];exact congrArg w (by exact z3 0x7c3f08454050410528c)
   ·rw[rho_ge c2]
    exact((h2 (p+(j+k-s)) (by(revert p1;exact z5 0x7fe1000201502a20c5438401)) (by(revert hl c hj c2;exact z6 0x1ff84210002129001a517f0000108c41a18620d06308465a081401062b9680))).trans (congrArg w (by(revert c2;exact z4 0x7c200fc2110c34a1001a519f084620d0c310683)))).symm
  ·refine⟨p+k-s,by(revert c;exact z4 0xffc21004015fc211883430c1410684),by(revert p2 k1;exact z4 0x1ff8400087e1080010f864a014208287104221d000),fun j hj=>?_⟩
   by_cases c2:j+k<s
   ·rw[rho_lt c2]
    exact(h2 (p+k-s+j) (by(revert c;exact z5 0x3ff084012828157c211883430c1410684)) (by(revert hl p2 c2;exact z6 0x7fe100400087e108400087c519014a2c41050e208e811168001042b9680))).trans (congrArg w (by(revert c;exact z5 0x1f0803f08444a06832029467c21104143089408284)))
   ·rw[rho_ge c2];exact congrArg w (by(revert c c2;exact z5 0x3e100021f8420080542868cf802000462250df0802208286104741889408284))
 obtain⟨q,q1,q2,q3⟩:=hq
 refine Classical.byCases (fun hall:∀ j,j<s→w (p+j)=w (p+rho s k j)=>absurd (turn_per h2 hl p1 p2 k0 k1 hall) (hN k k0 k1)) fun hall=>?_
 obtain⟨j,hj⟩:=Classical.not_forall.mp hall
 obtain⟨hj,hne⟩:=Classical.not_imp.mp hj
 refine(Lx_tot (lo:=lo) (f:=sh w p) (g:=fun j=>w (p+rho s k j)) hj hne).elim id fun ⟨m,m0,m1,m2⟩=>?_
 refine absurd ⟨m,m0,fun j hj=>?_,?_⟩ (p3 q q1 (by(revert q2;exact z3 0x7fe108021a8054a0541a88e20d000)))
 ·exact(q3 j (by(revert m0 hj;exact z3 0x3ff0842102c4008441))).trans (m1 j hj)
 ·show L lo (w (q+m)) (w (p+m))
  rw[q3 m m0];exact m2
end
end
end uk0030_02
end
section
namespace uk0030_02
open PySem PySem.W UK
section
noncomputable def W(t:List Nat)(i:Nat):Nat:=t.getD i 0
theorem lt_Lx{a b:List Nat}{f g φ:Nat→Nat}{lo:Bool}{K:Nat}(ha:∀ i,i<K→a[i]?=some (φ (f i)))(hb:∀ i,i<K→b[i]?=some (φ (g i)))(h1:∀ i,i<K→(φ (f i)<φ (g i)↔L lo (f i) (g i)))(h2:∀ i,i<K→φ (f i)=φ (g i)→f i=g i)
  (hd:(∃ i,i<K∧f i≠g i)∨(a.length≤K∧b.length≤K)):a<b↔Lx lo f g K:=by
 have hal:K≤a.length:=Nat.le_of_not_lt fun h=>by have:=ha _ h;rw[List.getElem?_eq_none (Nat.le_refl _)] at this;exact nomatch this
 have hbl:K≤b.length:=Nat.le_of_not_lt fun h=>by have:=hb _ h;rw[List.getElem?_eq_none (Nat.le_refl _)] at this;exact nomatch this
 have eqs:(∀ i,i<K→a[i]?=b[i]?)→a.length≤K∧b.length≤K:=fun h=>hd.resolve_left fun ⟨i,hi,hne⟩=>hne (h2 i hi (Option.some.inj ((ha i hi).symm.trans ((h i hi).trans (hb i hi)))))
 rw[List.lt_iff_exists]
 have lj:∀ {j i n:Nat},i<n→K≤i→j<K→j<n:=fun ia hi hj=>Nat.lt_trans (Nat.lt_of_lt_of_le hj hi) ia
 constructor
 ·rintro (⟨e,hl⟩ | ⟨i,ia,ib,e,hl⟩)
  ·have:=eqs fun i hi=>by rw[e,List.getElem?_take_of_lt (by(revert hal hi;exact z3 0x3ff0842102c4008440))]
   exact absurd hl (Nat.not_lt.mpr (Nat.le_trans this.2 hal))
  ·have hi:i<K:=Nat.lt_of_not_le fun hi=>by
    have:=eqs fun j hj=>by rw[List.getElem?_eq_getElem (lj ia hi hj),List.getElem?_eq_getElem (lj ib hi hj),e j (Nat.lt_of_lt_of_le hj hi)]
    exact absurd ia (Nat.not_lt.mpr (Nat.le_trans this.1 hi))
   refine⟨i,hi,fun j hj=>h2 j (by(revert hi hj;exact z3 0x3ff0842102c4008441)) (Option.some.inj ?_),(h1 i hi).mp ?_⟩
   ·rw[←ha j (by(revert hi hj;exact z3 0x3ff0842102c4008441)),←hb j (by(revert hi hj;exact z3 0x3ff0842102c4008441)),List.getElem?_eq_getElem (Nat.lt_trans hj ia),List.getElem?_eq_getElem (Nat.lt_trans hj ib),e j hj]
   ·have e1:=ha i hi
    have e2:=hb i hi
    rw[List.getElem?_eq_getElem ia] at e1
    rw[List.getElem?_eq_getElem ib] at e2
    rw[←Option.some.inj e1,←Option.some.inj e2];exact hl
 ·rintro ⟨k,kK,e,hl⟩
  refine .inr ⟨k,Nat.lt_of_lt_of_le kK hal,Nat.lt_of_lt_of_le kK hbl,fun j hj=>?_,?_⟩
  ·refine Option.some.inj ?_
   rw[←List.getElem?_eq_getElem,←List.getElem?_eq_getElem,ha j (by(revert kK hj;exact z3 0x3ff0842102c4008441)),hb j (by(revert kK hj;exact z3 0x3ff0842102c4008441)),e j hj]
  ·have e1:=ha k kK
   have e2:=hb k kK
   rw[List.getElem?_eq_getElem (Nat.lt_of_lt_of_le kK hal)] at e1
   rw[List.getElem?_eq_getElem (Nat.lt_of_lt_of_le kK hbl)] at e2
   rw[Option.some.inj e1,Option.some.inj e2]
   exact(h1 k kK).mpr hl
section
variable{t:List Nat}{lo:Bool}{p q s b e:Nat}
theorem W_at(h:p<t.length):t[p]?=some (W t p):=by
 unfold W
 rw[List.getD_eq_getElem?_getD,List.getElem?_eq_getElem h];rfl
theorem W_end:W t t.length=0:=by
 unfold W
 rw[List.getD_eq_getElem?_getD,List.getElem?_eq_none (Nat.le_refl _)];rfl
theorem W_fil(ht:∀ c∈t,c∈FIL)(h:p<t.length):W t p∈FIL:=ht _ (List.mem_of_getElem? (W_at h))
theorem W_mem(ht:∀ c∈t,c∈FIL)(h:p≤t.length):W t p∈0::FIL:=by
 rcases Nat.lt_or_eq_of_le h with h | h
 ·exact .tail _ (W_fil ht h)
 ·rw[h,W_end];exact .head _
theorem W_ne(ht:∀ c∈t,c∈FIL):∀ i,i<t.length→W t i≠W t t.length:=fun i hi e=>by
 have:=W_fil ht hi
 rw[e,W_end] at this
 exact absurd this (by decide)
theorem W_eq(hp:p<t.length)(hq:q<t.length):t[p]?=t[q]?↔W t p=W t q:=by
 rw[W_at hp,W_at hq]
 exact⟨Option.some.inj,congrArg some⟩
theorem st_of(ht:∀ c∈t,c∈FIL)(hs:1≤s)(hp:p+s≤t.length):St (W t) t.length s p (strB t s p) (endS t s p):=by
 obtain⟨b1,b2,b3⟩:=strB_spec t s p
 have he:=endS_le (t:=t) (s:=s) (p:=p) hp
 obtain⟨e1,e2,e3,e4⟩:=strE_spec t s (t.length-(p+s)) (p+s)
 have eE:strE t s (t.length-(p+s)) (p+s)=endS t s p:=rfl
 rw[eE] at e1 e2 e3 e4
 generalize strB t s p=b at *
 generalize endS t s p=e at *
 refine⟨b1,e1,he.2,fun j hj hl=>?_,b3.imp id fun ⟨c,hc,hne⟩=>⟨c,hc,fun h=>hne ((W_eq (by(revert b1 he hc;exact z6 0x1ff84210802102c35050420940520e8048c40)) (by(revert b1 he hc;exact z6 0x7fe10842008820a2c3505062114050928049060))).mpr h)⟩,?_⟩
 ·by_cases h:j<p
  ·exact(W_eq (by(revert he h;exact z5 0x1ff84210840b100212008315009)) (by(revert he h;exact z5 0x7fe1084220828b18022200811d009))).mp (b2 j hj h)
  ·have:=e3 (j+s) (by(revert h;exact z3 0x3ff08422a041450043)) hl
   rw[Nat.add_sub_cancel] at this
   exact((W_eq (by(revert e2 hl h;exact z5 0x7fe108401f8420087c31068b2846410681008b4a100125047)) (by(revert e2 hl h;exact z5 0x1ff8421007e108021f082b204632868101494a0c041d027))).mp this).symm
 ·by_cases h:e=t.length
  ·subst h
   exact fun q=>W_ne ht (t.length-s) (by(revert hs e1;exact z3 0x3ff080010840bf8021080c008a80086a0)) q.symm
  ·exact fun q=>(e4.resolve_left (by(revert he h;exact z4 0xffc2000001f8401007c0a82af00c54a045f084220d066180a3000020d009))) ((W_eq (by(revert he h;exact z4 0xffc200fc21f040b080a10000315009)) (by(revert he h;exact z4 0x3ff080000fc210f8605fc2008406100a2000011d009))).mpr q)
noncomputable def phT(lo:Bool)(c:Nat):Nat:=cond (c==0) (cond lo 33 126) (cond lo c (210-c))
noncomputable def phW(lo:Bool)(c:Nat):Nat:=cond lo c (210-c)
theorem L_dec(lo:Bool)(a b:Nat):L lo a b↔(cond lo (decide (a<b)) (decide (b<a)))=true:=by
 cases lo
 ·exact(decide_eq_true_iff (p:=b<a)).symm
 ·exact(decide_eq_true_iff (p:=a<b)).symm
theorem ph_all:[true,false].all (fun lo=>(0::FIL).all fun c=>(0::FIL).all fun d=>(decide (phT lo c<phT lo d)==cond lo (decide (c<d)) (decide (d<c)))&&(!(phT lo c==phT lo d) || c==d)&&((c==0 || d==0) || (decide (phW lo c<phW lo d)==cond lo (decide (c<d)) (decide (d<c)))&&(!(phW lo c==phW lo d) || c==d)))=true:=by decide
theorem ph_at{c d:Nat}(hc:c∈0::FIL)(hd:d∈0::FIL):(decide (phT lo c<phT lo d)==cond lo (decide (c<d)) (decide (d<c)))&&(!(phT lo c==phT lo d) || c==d)&&((c==0 || d==0) || (decide (phW lo c<phW lo d)==cond lo (decide (c<d)) (decide (d<c)))&&(!(phW lo c==phW lo d) || c==d)):=
 List.all_eq_true.mp (List.all_eq_true.mp (List.all_eq_true.mp ph_all lo (by cases lo <;> decide)) c hc) d hd
theorem phT_lt{c d:Nat}(hc:c∈0::FIL)(hd:d∈0::FIL):(phT lo c<phT lo d↔L lo c d)∧(phT lo c=phT lo d→c=d):=by
 obtain⟨h,_⟩:=Bool.and_eq_true_iff.mp (ph_at (lo:=lo) hc hd)
 obtain⟨h1,h2⟩:=Bool.and_eq_true_iff.mp h
 have h1:=eq_of_beq h1
 refine⟨by rw[L_dec,←h1,decide_eq_true_iff],fun e=>?_⟩
 rw[e,beq_self_eq_true] at h2
 exact eq_of_beq h2
theorem phW_lt{c d:Nat}(hc:c∈FIL)(hd:d∈FIL):(phW lo c<phW lo d↔L lo c d)∧(phW lo c=phW lo d→c=d):=by
 have hz:∀ c∈FIL,(c==0)=false:=by decide
 obtain⟨_,h⟩:=Bool.and_eq_true_iff.mp (ph_at (lo:=lo) (.tail _ hc) (.tail _ hd))
 rw[hz c hc,hz d hd] at h
 obtain⟨h1,h2⟩:=Bool.and_eq_true_iff.mp h
 have h1:=eq_of_beq h1
 refine⟨by rw[L_dec,←h1,decide_eq_true_iff],fun e=>?_⟩
 rw[e,beq_self_eq_true] at h2
 exact eq_of_beq h2
theorem tp_at(h:p<t.length):(tp lo t)[p]?=some (phW lo (W t p)):=by
 cases lo
 ·show (t.map mir)[p]?=_
  rw[List.getElem?_map,W_at h];rfl
 ·exact W_at h
theorem tape_at(ht:∀ c∈t,c∈FIL)(h:p≤t.length):(tape t lo)[p]?=some (phT lo (W t p)):=by
 unfold tape
 by_cases hp:p<t.length
 ·have hz:∀ c∈FIL,(c==0)=false:=by decide
  rw[List.getElem?_append_left (by rw[tp_len];exact hp),tp_at hp]
  unfold phT
  rw[hz _ (W_fil ht hp)];rfl
 ·obtain rfl:p=t.length:=by(revert h hp;exact z2 0xf843f080210302018400)
  rw[List.getElem?_append_right (by rw[tp_len];exact z1 0x3ff0800a),tp_len,Nat.sub_self,W_end];rfl
theorem tape_lt(ht:∀ c∈t,c∈FIL)(h:p<q)(hq:q≤t.length):(tape t lo).drop q<(tape t lo).drop p↔SL (W t) t.length lo q p:=by
 have hne:W t (q+(t.length-q))≠W t (p+(t.length-q)):=fun e=>W_ne ht (p+(t.length-q)) (by(revert h hq;exact z3 0x1ff8400084400d17f004220982200801)) (e.symm.trans (congrArg (W t) (by(revert hq;exact z2 0x1f0803f084400d19f0840130400))))
 have key:(tape t lo).drop q<(tape t lo).drop p↔Lx lo (sh (W t) q) (sh (W t) p) (t.length-q+1):=lt_Lx (φ:=phT lo) (fun i hi=>by rw[List.getElem?_drop];exact tape_at ht (by(revert hq hi;exact z3 0x1ff842118834506a0a083f0840230800))) (fun i hi=>by rw[List.getElem?_drop];exact tape_at ht (by(revert h hq hi;exact z4 0xffc200042118834506a0a083f004231184300c01)))
  (fun i hi=>(phT_lt (W_mem ht (by(revert hq hi;exact z3 0x1ff842118834506a0a083f0840230800))) (W_mem ht (by(revert h hq hi;exact z4 0xffc200042118834506a0a083f004231184300c01)))).1) (fun i hi=>(phT_lt (W_mem ht (by(revert hq hi;exact z3 0x1ff842118834506a0a083f0840230800))) (W_mem ht (by(revert h hq hi;exact z4 0xffc200042118834506a0a083f004231184300c01)))).2) (.inl ⟨t.length-q,by exact z2 0xffc21a828058407,hne⟩)
 refine key.trans ⟨fun ⟨k,k0,k1⟩=>⟨k,by(revert k0;exact z3 0xffc21086a2a0561a828108827),k1⟩,fun ⟨k,k0,k1,k2⟩=>⟨k,Nat.lt_of_not_le fun hk=>hne (k1 (t.length-q) (by(revert hk;exact z3 0xffc21181630d41400407))),k1,k2⟩⟩
theorem rnd_nx(ht:∀ c∈t,c∈FIL)(h:p+rnd (tape t lo) p≤t.length):Nx (W t) t.length lo p (rnd (tape t lo) p):=by
 obtain⟨r1,r2,r3⟩:=rnd_spec (t:=tape t lo) (i:=p)
 rw[tape_len] at r1 r2 r3
 have h0:=rnd_pos (t:=tape t lo) (p:=p) (by rw[tape_len];exact z1 0x3ff086a0a02ab)
 have r1:=r1.resolve_left (by(revert h;exact z3 0x1ff842005415786a1a004100a80))
 refine⟨h0,h,(tape_lt ht (by(revert h0;exact z2 0x1ff84210500b082a1)) h).mp r1.2,fun r hr hl hs=>?_⟩
 have:=r3 r (by(revert h hl;exact z4 0x1ff84210d4540828b1842218280)) ((tape_lt ht (by(revert hr;exact z2 0x1ff84210500b082a1)) (by(revert h hl;exact z4 0x3ff084220828a1842218280))).mpr hs)
 (revert hl this;exact z2 0x7fe1082a0abc0100401)
theorem nx_rnd(ht:∀ c∈t,c∈FIL)(h:Nx (W t) t.length lo p s):rnd (tape t lo) p=s:=by
 obtain⟨h1,h2,h3,h4⟩:=h
 obtain⟨r1,r2,r3⟩:=rnd_spec (t:=tape t lo) (i:=p)
 rw[tape_len] at r1 r2 r3
 have hle:=r3 s (by(revert h2;exact z3 0x1ff8421a8a810516208280)) ((tape_lt ht (by(revert h1;exact z2 0x1ff84210500b086a0)) h2).mpr h3)
 refine Nat.le_antisymm hle (Nat.le_of_not_lt fun hlt=>?_)
 have h0:=rnd_pos (t:=tape t lo) (p:=p) (by rw[tape_len];exact z1 0x3ff086a0a02ab)
 have r1:=r1.resolve_left (by(revert h2 hlt;exact z4 0x1ff8421002a0abc350d0021802118a80))
 exact h4 _ h0 hlt ((tape_lt ht (by(revert h0;exact z2 0x1ff84210500b082a1)) (by(revert h2 hlt;exact z4 0x3ff084220828a1842218280))).mp r1.2)
theorem rot_at{k:Nat}(hk:k<s){u:List Nat}(hu:u.length=s){f:Nat→Nat}(h:∀ i,i<s→u[i]?=some (f i)){i:Nat}(hi:i<s):(rot u k)[i]?=some (f (rho s k i)):=by
 unfold rot
 by_cases c:i+k<s
 ·rw[rho_lt c,List.getElem?_append_left (by rw[List.length_drop];(revert hu c;exact z4 0x7fe1004200802bf8401088261881408c22)),List.getElem?_drop,h _ (by(revert c;exact z3 0x3ff084410516200681)),Nat.add_comm]
 ·rw[rho_ge c,List.getElem?_append_right (by rw[List.length_drop];(revert hu c;exact z4 0x3ff087e1080010f860504071845418c02)),List.length_drop,hu,List.getElem?_take_of_lt (by(revert hi c;exact z3 0x1ff8420000010fc2008000087c402c01388270881418401)),h _ (by(revert hi;exact z3 0xffc20000211816009c4138401)),show i-(s-k)=i+k-s by(revert hk;exact z3 0x3e10fc21000010fbe10fc2000020087dd0058320a87004ff0844130441)]
theorem rho_bd{k i:Nat}(hk:k<s)(hi:i<s):rho s k i<s:=by
 by_cases c:i+k<s
 ·rw[rho_lt c];exact c
 ·rw[rho_ge c];(revert hk hi;exact z3 0x3ff08401107e1080010f86058820a1c4008821)
theorem lst_iff(ht:∀ c∈t,c∈FIL)(hp:p+s≤t.length):isLst (sub (tp lo t) p (p+s))=true↔Lst (W t) lo p s:=by
 have hu:(sub (tp lo t) p (p+s)).length=s:=by rw[sub_len (by rw[tp_len];(revert hp;exact z3 0x3ff084410514208280))];exact z2 0x1f0803f0844067c2008286
 have ha:∀ i,i<s→(sub (tp lo t) p (p+s))[i]?=some (phW lo (W t (p+i))):=fun i hi=>by rw[sub_get (by(revert hi;exact z3 0x3ff08440a041458821)),tp_at (by(revert hp hi;exact z4 0x3ff084220828b1842218280))]
 generalize sub (tp lo t) p (p+s)=u at *
 have hk:∀ k,0<k→k<s→(u<rot u k↔Lx lo (sh (W t) p) (fun j=>W t (p+rho s k j)) s):=fun k k0 k1=>
  lt_Lx (φ:=phW lo) ha (fun i hi=>rot_at k1 hu (f:=fun i=>phW lo (W t (p+i))) ha hi) (fun i hi=>(phW_lt (W_fil ht (by(revert hp hi;exact z4 0x3ff084220828b1842218280))) (W_fil ht (by have:=rho_bd k1 hi;(revert hp this;exact z4 0x3ff084220828b1842218280)))).1) (fun i hi=>(phW_lt (W_fil ht (by(revert hp hi;exact z4 0x3ff084220828b1842218280))) (W_fil ht (by have:=rho_bd k1 hi;(revert hp this;exact z4 0x3ff084220828b1842218280)))).2)
   (.inr ⟨Nat.le_of_eq hu,by unfold rot;rw[List.length_append,List.length_drop,List.length_take];(revert hu;exact z3 0x1ff840008021f840000421f74800d1411402038802)⟩)
 unfold isLst badR
 rw[List.isEmpty_iff,List.filter_eq_nil_iff,hu]
 constructor
 ·intro h k k0 k1
  refine(hk k k0 k1).mp ?_
  have:=h (k-1) (List.mem_range.mpr (by(revert k0 k1;exact z2 0xffc20084010057f08400086a237c20086a030401002a1)))
  rw[show 1+(k-1)=k by(revert k0;exact z1 0xf8401f8421006b467c210d406002a1)] at this
  exact Classical.byContradiction fun q=>this (by rw[decide_eq_false q];rfl)
 ·intro h i hi
  have hi:=List.mem_range.mp hi
  rw[decide_eq_true ((hk (1+i) (by exact z1 0x3ff08035a02ab) (by(revert hi;exact z2 0x7fe1007e1087c2086b4580210d427))).mpr (h (1+i) (by exact z1 0x3ff08035a02ab) (by(revert hi;exact z2 0x7fe1007e1087c2086b4580210d427))))]
  exact nofun
end
end
section
theorem flat_none{α β:Type}{f:α→Bool}{g:α→List β}:∀ {l:List α},(∀ r∈l,f r=false)→(l.flatMap fun r=>cond (f r) (g r) [])=[]
 | [],_=>rfl
 | a::l,h=>by
  rw[List.flatMap_cons,h a (.head _),flat_none fun r hr=>h r (.tail _ hr)];rfl
theorem flat_one{α β:Type}{f:α→Bool}{g:α→List β}{r0:α}{c:Bool}:∀ {l:List α},l.Pairwise (·≠·)→(∀ r∈l,f r=true↔r=r0∧c=true)→(c=true→r0∈l)→(l.flatMap fun r=>cond (f r) (g r) [])=cond c (g r0) []
 | [],_,_,h2=>by
  cases c
  ·rfl
  ·exact nomatch h2 rfl
 | a::l,.cons p1 p2,h1,h2=>by
  rw[List.flatMap_cons]
  cases hf:f a with
  | true=>
   obtain⟨rfl,rfl⟩:=(h1 a (.head _)).mp hf
   rw[flat_none fun r hr=>Bool.eq_false_iff.mpr fun q=>p1 r hr ((h1 r (.tail _ hr)).mp q).1.symm]
   exact List.append_nil _
  | false=>exact flat_one p2 (fun r hr=>h1 r (.tail _ hr)) fun hc=>(List.mem_cons.mp (h2 hc)).resolve_left fun e=>absurd (hf.symm.trans ((h1 a (.head _)).mpr ⟨e.symm,hc⟩)) nofun
section
variable{t:List Nat}{lo:Bool}{p q s b e:Nat}{r:Run}
theorem sub_eq_iff{a c m:Nat}(ha:a+m≤t.length)(hc:c+m≤t.length):sub t a (a+m)=sub t c (c+m)↔∀ j,j<m→W t (a+j)=W t (c+j):=by
 constructor
 ·intro h j hj
  have:=congrArg (fun l=>l[j]?) h
  rw[sub_get (by(revert hj;exact z3 0x3ff08440a041458821)),sub_get (by(revert hj;exact z3 0x3ff08440a041458821))] at this
  exact(W_eq (by(revert ha hj;exact z4 0x3ff084220828b1842218280)) (by(revert hc hj;exact z4 0x3ff084220828b1842218280))).mp this
 ·intro h
  refine List.ext_getElem? fun j=>?_
  by_cases hj:j<m
  ·rw[sub_get (by(revert hj;exact z3 0x3ff08440a041458821)),sub_get (by(revert hj;exact z3 0x3ff08440a041458821))]
   exact(W_eq (by(revert ha hj;exact z4 0x3ff084220828b1842218280)) (by(revert hc hj;exact z4 0x3ff084220828b1842218280))).mpr (h j hj)
  ·rw[List.getElem?_eq_none (by rw[sub_len ha];(revert hj;exact z3 0xffc200846057c010041430443)),List.getElem?_eq_none (by rw[sub_len hc];(revert hj;exact z3 0xffc200846057c010041430443))]
theorem per_iff{k:Nat}(he:e≤t.length)(hk:b+k≤e):sub t b (e-k)=sub t (b+k) e↔Per (W t) b e k:=by
 have h:=sub_eq_iff (t:=t) (a:=b) (c:=b+k) (m:=e-k-b) (by(revert he hk;exact z4 0x3ff080010042500a8af80210042037c01088260881400c20)) (by(revert he hk;exact z4 0xffc2000401094031528af80210042037c01084461041400c40))
 rw[show b+(e-k-b)=e-k by(revert hk;exact z3 0x7c200fc210805467c210042037c21104c110280),show b+k+(e-k-b)=e by(revert hk;exact z3 0x1f080200fc200848018a9467c210042037c21088c208280)] at h
 rw[h]
 constructor
 ·intro g j hj hl
  have:=g (j-b) (by(revert hj hl;exact z4 0xffc2008401004025fc210002008c06f80200048337c200840610c1408020))
  rw[show b+(j-b)=j by(revert hj;exact z2 0x1f0803f084400d19f0840130400),show b+k+(j-b)=j+k by(revert hj;exact z3 0x1f0803f08443a0041a519f0840230800)] at this
  exact this
 ·intro g j hj
  exact(g (b+j) (by exact z2 0xffc210500a) (by(revert hj;exact z4 0x3ff0803f084000fc21087de29062a51601842038867))).trans (congrArg (W t) (by exact z3 0x7c3f08440a50410528c))
theorem noper_iff(he:e≤t.length)(hs:b+s≤e):noper t b e s=true↔NoPer (W t) b e s:=by
 unfold noper
 rw[List.isEmpty_iff,List.filter_eq_nil_iff]
 constructor
 ·intro h k k0 k1 hk
  have:=h (k-1) (List.mem_range.mpr (by(revert k0 k1;exact z2 0xffc20084010057f08400086a237c20086a030401002a1)))
  rw[show 1+(k-1)=k by(revert k0;exact z1 0xf8401f8421006b467c210d406002a1)] at this
  exact this (beq_iff_eq.mpr ((per_iff he (by(revert hs k1;exact z4 0x3ff084220828a1842218280))).mpr hk))
 ·intro h i hi hk
  have hi:=List.mem_range.mp hi
  exact h (1+i) (by exact z1 0x3ff08035a02ab) (by(revert hi;exact z2 0x7fe1007e1087c2086b4580210d427)) ((per_iff he (by(revert hs hi;exact z4 0x7fe10042118835a068a00821a8ce218280))).mp (eq_of_beq hk))
structure RunW (t:List Nat) (r:Run):Prop where
 s1:1≤r.2.2
 st:St (W t) t.length r.2.2 r.1 r.1 r.2.1
 two:r.1+2*r.2.2≤r.2.1
 np:NoPer (W t) r.1 r.2.1 r.2.2
theorem RunW.ok(h:RunW t r):RunOk t r:=⟨h.two,h.st.en,h.s1⟩
theorem st_is(ht:∀ c∈t,c∈FIL)(hs:1≤s)(hp:p+s≤t.length)(S:St (W t) t.length s q b e)(h1:b≤p)(h2:p+s≤e):strB t s p=b∧endS t s p=e:=by
 have T:=st_of ht hs hp
 by_cases h:b≤strB t s p
 ·have:=S.uniq T h (by have:=T.bp;(revert h2 this;exact z4 0x3ff084220828a1800208e80)) hs
  exact⟨this.1.symm,this.2.symm⟩
 ·exact T.uniq S (by(revert h;exact z2 0x3ff0842050024)) (by have:=T.pe;(revert h1 this;exact z4 0x3ff084220828a1047400c00)) hs
theorem runAt_mem(h:r∈runAt t s p):strB t s p=p∧r=(p,endS t s p,s)∧p+2*s≤endS t s p∨False:=by
 unfold runAt at h
 cases hq:isRun t s p with
 | false=>rw[hq] at h;exact nomatch h
 | true=>
  rw[hq] at h
  obtain⟨h1,h2⟩:=Bool.and_eq_true_iff.mp hq
  obtain⟨h2,h3⟩:=Bool.and_eq_true_iff.mp h2
  have h1:=eq_of_beq h1
  rw[h1] at h2
  have h:=List.mem_singleton.mp h
  rw[h1] at h
  refine .inl ⟨h1,h,?_⟩
  by_cases h0:s=0
  ·subst h0
   have:=(strE_spec t 0 (t.length-(p+0)) (p+0)).1
   exact this
  ·have:=of_decide_eq_true h2
   (revert h0 this;exact z3 0x1ff840117c3ef8421f0c42b868a008570004705425)
theorem runL_mem(ht:∀ c∈t,c∈FIL)(h:r∈runL t):RunW t r:=by
 obtain⟨i,hi,h⟩:=List.mem_flatMap.mp h
 obtain⟨p,hp,h⟩:=List.mem_flatMap.mp h
 have hi:=List.mem_range.mp hi
 have hp:=List.mem_range.mp hp
 obtain⟨h1,rfl,h2⟩:=(runAt_mem h).resolve_right id
 have hS:=st_of ht (s:=1+i) (p:=p) (by exact z1 0x3ff08035a06aa) (by(revert hi hp;exact z3 0x3ff08424186b415141a82820fc0110441ad0571980208848))
 rw[h1] at hS
 refine⟨by show 1≤1+i;exact z1 0x3ff08035a06aa,hS,h2,?_⟩
 unfold runAt at h
 cases hq:isRun t (1+i) p with
 | false=>rw[hq] at h;exact nomatch h
 | true=>
  obtain⟨_,h2⟩:=Bool.and_eq_true_iff.mp hq
  obtain⟨_,h3⟩:=Bool.and_eq_true_iff.mp h2
  rw[h1] at h3
  exact(noper_iff hS.en hS.pe).mp h3
theorem mem_runL(ht:∀ c∈t,c∈FIL)(h:RunW t r):r∈runL t:=by
 obtain⟨b,e,s⟩:=r
 obtain⟨s1,S,two,np⟩:=h
 have s1:1≤s:=s1
 have S:St (W t) t.length s b b e:=S
 have np:NoPer (W t) b e s:=np
 have two:b+2*s≤e:=two
 have en:e≤t.length:=S.en
 obtain⟨h1,h2⟩:=st_is ht s1 (p:=b) (by(revert two en;exact z4 0xffc2108820a284300c22b8280)) S (Nat.le_refl _) S.pe
 refine List.mem_flatMap.mpr ⟨s-1,List.mem_range.mpr (by(revert s1 two en;exact z4 0x3ff08402080400ac4247c20004350182300c02b8a80006a0)),List.mem_flatMap.mpr ⟨b,List.mem_range.mpr (by(revert s1 two en;exact z4 0x1ff8420104010d41412fe00840208035a0ae237c20004351182300c42b8280106a0)),?_⟩⟩
 rw[show 1+(s-1)=s by(revert s1;exact z1 0xf8401f8421006b467c210d406006a0)]
 unfold runAt isRun
 rw[h1,h2,beq_self_eq_true,decide_eq_true (by(revert two;exact z3 0xffc210040115d5f0844130402b8a80)),(noper_iff en (by(revert two;exact z3 0xffc211041450822b8280))).mpr np]
 exact .head _
theorem runL_nodup:(runL t).Pairwise (·≠·):=by
 have hs:∀ {i:Nat} {x:Run},x∈runRow t i→x.2.2=i:=fun h=>by
  obtain⟨p,_,h⟩:=List.mem_flatMap.mp h
  obtain⟨_,rfl,_⟩:=(runAt_mem h).resolve_right id
  rfl
 refine List.pairwise_flatMap.mpr ⟨fun i _=>List.pairwise_flatMap.mpr ⟨fun p _=>?_,List.pairwise_lt_range.imp fun {a b} hab x hx y hy e=>?_⟩,List.pairwise_lt_range.imp fun {a b} hab x hx y hy e=>?_⟩
 ·unfold runAt
  cases isRun t (1+i) p
  ·exact .nil
  ·exact List.pairwise_singleton _ _
 ·obtain⟨_,rfl,_⟩:=(runAt_mem hx).resolve_right id
  obtain⟨_,rfl,_⟩:=(runAt_mem hy).resolve_right id
  have:=(Prod.mk.inj e).1
  (revert hab this;exact z2 0xffc21002a0abc2010401)
 ·have h1:=hs hx
  have h2:=hs hy
  rw[e] at h1
  (revert hab h1 h2;exact z3 0x7fe1004200541578435a08400d68210401)
theorem tab_spec(ht:∀ c∈t,c∈FIL)(h:tabC t lo p=true):Nx (W t) t.length lo p (tabR t lo p).2.2∧St (W t) t.length (tabR t lo p).2.2 p (tabR t lo p).1 (tabR t lo p).2.1∧(tabR t lo p).1<p∧(tabR t lo p).1+2*(tabR t lo p).2.2≤(tabR t lo p).2.1:=by
 obtain⟨h1,h2⟩:=Bool.and_eq_true_iff.mp h
 obtain⟨h2,h3⟩:=Bool.and_eq_true_iff.mp h2
 have h1:=of_decide_eq_true h1
 have h2:=of_decide_eq_true h2
 have h3:=of_decide_eq_true h3
 have N:=rnd_nx ht h1
 have S:=st_of ht N.1 h1
 have:=N.1
 have:=S.bp;have:=S.pe
 refine⟨N,S,h2,?_⟩
 show (tabR t lo p).1+2*(tabR t lo p).2.2≤_
 have:1≤(tabR t lo p).2.2:=N.1
 (revert h3 this;exact z3 0x7fe11003f08021f0c42b868a106a00085700047)
theorem tab_runW(ht:∀ c∈t,c∈FIL)(h:tabC t lo p=true):RunW t (tabR t lo p):=by
 obtain⟨N,S,h1,h2⟩:=tab_spec ht h
 refine⟨N.1,⟨Nat.le_refl _,by have:=N.1;(revert h2;exact z3 0xffc211041450822b8280),S.en,S.per,S.bd,S.ed⟩,h2,nx_noper (W_ne ht) N S⟩
theorem once_ok(ht:∀ c∈t,c∈FIL):Once t:=fun p _ h=>Bool.eq_false_iff.mpr fun g=>by
 obtain⟨N,S,h1,_⟩:=tab_spec ht h
 obtain⟨N',S',h1',_⟩:=tab_spec ht g
 exact once_any (W_ne ht) N S h1 N' S' h1'
theorem up_iff(ht:∀ c∈t,c∈FIL)(h:RunW t r):(lo==upE t r)=true↔L lo (W t r.2.1) (W t (r.2.1-r.2.2)):=by
 have h2:=h.st.en
 have h3:=h.st.ed
 have h4:=h.s1
 have h5:=h.two
 have hup:upE t r=true↔W t r.2.1<W t (r.2.1-r.2.2):=by
  unfold upE
  rw[Bool.or_eq_true,beq_iff_eq,decide_eq_true_iff]
  refine⟨fun q=>q.elim (fun q=>?_) id,.inr⟩
  rw[q,W_end]
  refine Nat.pos_of_ne_zero fun q0=>?_
  have:=W_fil ht (p:=t.length-r.2.2) (by(revert h4 h5 q;exact z4 0x7fe100000084205fc21004210180310c22b8a80086a0))
  rw[q0] at this
  exact absurd this (by decide)
 cases lo with
 | true=>exact((beq_iff_eq).trans eq_comm).trans hup
 | false=>
  rw[beq_iff_eq,eq_comm,←Bool.not_eq_true,hup]
  show ¬W t r.2.1<W t (r.2.1-r.2.2)↔W t (r.2.1-r.2.2)<W t r.2.1
  omega
theorem due_iff(ht:∀ c∈t,c∈FIL)(h:RunW t r):dueAt t lo p r=true↔r=tabR t lo p∧tabC t lo p=true:=by
 have hR:=h.two;have hE:=h.st.en;have h1s:=h.s1
 unfold dueAt plcE
 rw[Bool.and_eq_true_iff,Bool.and_eq_true_iff,Bool.and_eq_true_iff,decide_eq_true_iff,decide_eq_true_iff,up_iff ht h]
 constructor
 ·rintro ⟨⟨h1,h2⟩,h3,h4⟩
  have hps:p+r.2.2≤r.2.1:=by(revert h1 h2;exact z4 0x7fe1000200fc210f8620d1400802238061)
  have N:=due_nx ((lst_iff ht (by(revert hE hps;exact z4 0x3ff084220828a1841400860))).mp h3) h1s ⟨Nat.le_of_lt h1,hps,hE,h.st.per,h.st.bd,h.st.ed⟩ h4
  have e1:=nx_rnd ht N
  obtain⟨e2,e3⟩:=st_is ht h1s (p:=p) (by(revert hE hps;exact z4 0x3ff084220828a1841400860)) h.st (Nat.le_of_lt h1) hps
  have er:r=tabR t lo p:=by
   show r=(strB t (rnd (tape t lo) p) p,endS t (rnd (tape t lo) p) p,rnd (tape t lo) p)
   rw[e1,e2,e3]
  refine⟨er,?_⟩
  unfold tabC tabB
  rw[←er,e1,decide_eq_true (by(revert hE hps;exact z4 0x3ff084220828a1841400860)),decide_eq_true h1,decide_eq_true (by(revert hR;exact z3 0xffc210040115d5f0844130402b8a80))];rfl
 ·rintro ⟨er,hc⟩
  obtain⟨N,S,g1,g2⟩:=tab_spec ht hc
  rw[←er] at N S g1 g2
  have:=S.pe
  exact⟨⟨g1,by(revert this;exact z3 0xffc210040157c21104c110280)⟩,(lst_iff ht (by(revert hE this;exact z4 0x3ff084220828a1841400860))).mpr (nx_lst (W_ne ht) N),nx_end N S⟩
theorem due_tab(ht:∀ c∈t,c∈FIL):dueP t (runL t)=tabP t:=by
 have hrow:∀ lo,dueSide t (runL t) lo=tabTo t lo t.length:=fun lo=>by
  unfold dueSide tabTo
  congr 1
  funext p
  exact flat_one (r0:=tabR t lo p) (c:=tabC t lo p) runL_nodup (fun r hr=>due_iff ht (runL_mem ht hr)) fun hc=>mem_runL ht (tab_runW ht hc)
 show dueSide t (runL t) true++(dueSide t (runL t) false++[])=tabTo t true t.length++tabTo t false t.length
 rw[hrow,hrow,List.append_nil]
theorem tabRs_mem(h:r∈tabRs t):∃ lo p,p<t.length∧tabC t lo p=true∧r=tabR t lo p:=by
 obtain⟨lo,_,h⟩:=List.mem_flatMap.mp h
 obtain⟨p,hp,h⟩:=List.mem_flatMap.mp h
 refine⟨lo,p,List.mem_range.mp hp,?_⟩
 cases hc:tabC t lo p with
 | false=>rw[hc] at h;exact nomatch h
 | true=>rw[hc] at h;exact⟨rfl,List.mem_singleton.mp h⟩
theorem run_in_tab(ht:∀ c∈t,c∈FIL)(h:RunW t r):r∈tabRs t:=by
 have hE:=h.st.en;have h2:=h.two;have h1:=h.s1
 have hlo:∃ lo,L lo (W t r.2.1) (W t (r.2.1-r.2.2)):=(L_tot (lo:=true) h.st.ed).elim (fun q=>⟨true,q⟩) fun q=>⟨false,q⟩
 obtain⟨lo,hl⟩:=hlo
 obtain⟨p,p1,p2,p3⟩:=run_place (lo:=lo) h.st.per h1 h2 h.np
 have hd:dueAt t lo p r=true:=by
  unfold dueAt plcE
  rw[Bool.and_eq_true_iff,Bool.and_eq_true_iff,Bool.and_eq_true_iff,decide_eq_true_iff,decide_eq_true_iff,up_iff ht h]
  exact⟨⟨p1,by(revert h2 p2;exact z4 0x1ff84210040157c201082610e8000442b8e80)⟩,(lst_iff ht (by(revert hE h2 p2;exact z5 0x3ff0842110414504940006115c9400860))).mpr p3,hl⟩
 obtain⟨er,hc⟩:=(due_iff ht h).mp hd
 refine List.mem_flatMap.mpr ⟨lo,by cases lo <;> decide,List.mem_flatMap.mpr ⟨p,List.mem_range.mpr (by(revert hE h2 p1 p2;exact z5 0xffc210882102c83a00001844415c7400440)),?_⟩⟩
 rw[hc,er];exact .head _
end
end
section
section
variable{t:List Nat}{lo:Bool}{p q s b e w x:Nat}{r:Run}
theorem sub_add{a c d:Nat}(h1:a≤c)(h2:c≤d):sub t a d=sub t a c++sub t c d:=by
 unfold sub
 rw[show d-a=(c-a)+(d-c) by(revert h1 h2;exact z3 0x1f080010043f0840100401a099f004000002411be10000110cdf084210180200820),List.take_add,List.drop_drop,Nat.add_sub_cancel' h1]
theorem occ_sub{u:List Nat}(hu:u.length=w):Occ t u x↔x+w≤t.length∧sub t x (x+w)=u:=by
 unfold Occ sub
 rw[hu,Nat.add_sub_cancel_left]
theorem occ_sq(hq:q+w≤t.length):Occ t (sub t q (q+w)++sub t q (q+w)) x↔x+2*w≤t.length∧sub t x (x+w)=sub t q (q+w)∧sub t (x+w) (x+w+w)=sub t q (q+w):=by
 have hl:(sub t q (q+w)).length=w:=by rw[sub_len hq];exact z2 0x1f0803f0844067c2008286
 rw[occ_sub (w:=2*w) (by rw[List.length_append,hl];exact z1 0x7c3f080570028c)]
 refine and_congr_right fun h=>?_
 rw[sub_add (c:=x+w) (by exact z2 0xffc210500a) (by exact z2 0xffc2115c140828a),show x+2*w=x+w+w by exact z2 0x7c3f08420a5022b828c]
 constructor
 ·intro e
  exact List.append_inj e (by rw[sub_len (by(revert h;exact z3 0xffc211041450822b8280)),hl];exact z2 0x1f0803f0844067c2008286)
 ·rintro ⟨e1,e2⟩
  rw[e1,e2]
theorem sq_occ(ht:∀ c∈t,c∈FIL)(h1:1≤w)(hq:q+w≤t.length):(sqL t (tabRs t)).any (·==tS (sub t q (q+w)))=true↔∃ i,Occ t (sub t q (q+w)++sub t q (q+w)) i:=by
 have hl:(sub t q (q+w)).length=w:=by rw[sub_len hq];exact z2 0x1f0803f0844067c2008286
 rw[List.any_eq_true]
 constructor
 ·rintro ⟨_,hx,he⟩
  obtain⟨r,hr,hx⟩:=List.mem_flatMap.mp hx
  obtain⟨m,hm,hx⟩:=List.mem_flatMap.mp hx
  obtain⟨i,hi,rfl⟩:=List.mem_map.mp hx
  obtain⟨lo,p,_,hc,rfl⟩:=tabRs_mem hr
  have R:=tab_runW ht hc
  generalize tabR t lo p=r at *
  have hm:=mul_le_of (List.mem_range.mp hm)
  have hi:=List.mem_range.mp hi
  have e1:=tS_inj (eq_of_beq he)
  have two:=R.two;have en:=R.st.en;have s1:=R.s1
  have hper:=per_mul R.st.per (m+1)
  generalize r.2.2*(m+1)=v at hm hi e1 hper
  have hv:v=w:=by
   have:=congrArg List.length e1
   rw[sub_len (by(revert en hm hi;exact z5 0x1ff8401f84000000008001087c731494a280508c35050ff000200882415cc6010001200438c80)),hl] at this
   (revert this;exact z4 0xf84200fc20004220b04017c231500315286)
  subst hv
  refine⟨r.1+i,(occ_sq hq).mpr ⟨by(revert en hm hi;exact z5 0x7fe1007e1000000002000421f1cc2b9494a280508c35050ff000200882415cc6010001200438c80),e1,e1▸(sub_eq_iff (by(revert en hm hi;exact z5 0x7fe1007e1000000002000421f1cc629294a280508c35050ff000200882415cc6010001200438c80)) (by(revert en hi hq;exact z6 0x3ff08001f8421087e200400100420fbc520c54a28a43d00018421a828710ae438c80))).mpr fun j hj=>?_⟩⟩
  exact((hper (r.1+i+j) (by exact z3 0x3ff08820a500a) (by(revert hm hi hj;exact z5 0x1ff84000fc20004210f90731494a51673040508c35050ff00401104a2b98c02800240087))).trans (congrArg (W t) (by exact z4 0x7c3f088610529418820a528c))).symm
 ·rintro ⟨x,hx⟩
  obtain⟨hx,e1,e2⟩:=(occ_sq hq).mp hx
  have hP:Per (W t) x (x+2*w) w:=fun j hj hl=>by
   have:=(sub_eq_iff (t:=t) (by(revert hx;exact z3 0xffc211041450822b8280)) (by(revert hx;exact z3 0x3ff084410829450822b8280))).mp (e1.trans e2.symm) (j-x) (by(revert hj hl;exact z3 0xffc20084605fc200840610ae1a081408020))
   rw[show x+(j-x)=j by(revert hj;exact z2 0x1f0803f084400d19f0840130400),show x+w+(j-x)=j+w by(revert hj;exact z3 0x1f0803f08443a0041a519f0840230800)] at this
   exact this
  obtain⟨s,s1,s2,s3,s4⟩:=per_least w h1 hP
  have S:=st_of ht s1 (p:=x) (by(revert hx s2;exact z4 0xffc2108820a286100862b8280))
  generalize strB t s x=b at S
  generalize endS t s x=e at S
  obtain⟨f1,f2⟩:=sq_str S s3 s2 s4 hx
  have hb:=S.bp;have hen:=S.en
  have R:RunW t (b,e,s):=⟨s1,⟨Nat.le_refl _,by show b+s≤e;(revert s2 f1 hb;exact z5 0xffc2108441051440004315c9400c20),S.en,S.per,S.bd,S.ed⟩,by show b+2*s≤e;(revert s2 f1 hb;exact z5 0x3ff1042110457051440004315c9400c20),f2⟩
  obtain⟨m,hm⟩:=per_dvd s4 s3 s1 w hP (by(revert s2;exact z3 0x3ff08442b82820829450820))
  have m1:1≤m:=Nat.pos_of_ne_zero fun h=>by rw[h,Nat.mul_zero] at hm;(revert s1 s2 hm;exact z2 0x3ff0840105415782a110400006a0)
  have hm':s*(m-1+1)=w:=by rw[Nat.sub_add_cancel m1];exact hm.symm
  refine⟨tS (sub t (b+(x-b)) (b+(x-b)+s*(m-1+1))),List.mem_flatMap.mpr ⟨_,run_in_tab ht R,List.mem_flatMap.mpr ⟨m-1,List.mem_range.mpr ?_,List.mem_map.mpr ⟨x-b,List.mem_range.mpr ?_,rfl⟩⟩⟩,?_⟩
  ·have:m≤(e-b) / 2 / s:=(Nat.le_div_iff_mul_le s1).mpr (by rw[Nat.mul_comm,←hm];(revert f1 hb;exact z4 0xffc21080201004a0091f084220986200402b8e80))
   show m-1<(e-b) / 2 / s
   (revert m1 this;exact z2 0xffc20084405fc20086a030400006a0)
  ·show x-b<e-2*(s*(m-1+1))+1-b
   rw[hm'];(revert f1 hb;exact z4 0xffc20004200802012fe10800100461a8286f840000482b8cdf004210180100862b8280)
  ·rw[hm',Nat.add_sub_cancel' hb,e1]
   exact beq_self_eq_true _
theorem sub_sub{a c:Nat}(hc:c≤e-b):sub (sub t b e) a c=sub t (b+a) (b+c):=by
 unfold sub
 rw[List.drop_take,List.take_take,List.drop_drop,Nat.add_sub_add_left,Nat.min_eq_left (by(revert hc;exact z4 0x1ff843f080010043ee802a184e209c0100c47))]
theorem whole_iff(ht:∀ c∈t,c∈FIL)(R:RunW t r)(h1:r.2.2≤w)(h2:w≤r.2.1-r.1){u:List Nat}(hu:u=sub (sub t r.1 r.2.1) 0 w∨u=sub (sub t r.1 r.2.1) (r.2.1-r.1-w) (r.2.1-r.1)) :
  wh (r.2.1-r.1) w r.2.2=true↔Occ (sub t r.1 r.2.1) u 0∧Occ (sub t r.1 r.2.1) u (r.2.1-r.1-w)∧2*w≤r.2.1-r.1:=by
 have two:=R.two;have en:=R.st.en;have s1:=R.s1
 have hn:(sub t r.1 r.2.1).length=r.2.1-r.1:=sub_len en
 have key:Per (W t) r.1 r.2.1 (r.2.1-r.1-w)↔sub t r.1 (r.1+w)=sub t (r.1+(r.2.1-r.1-w)) (r.1+(r.2.1-r.1-w)+w):=by
  have:=per_iff (t:=t) (b:=r.1) (e:=r.2.1) (k:=r.2.1-r.1-w) en (by(revert two;exact z4 0x7fe10042300a8a180ff0840130462b8280))
  rw[←this,show r.2.1-(r.2.1-r.1-w)=r.1+w by(revert h2 two;exact z4 0x7c20084010fc210043ef840000400084a4a019f004000042011be000401180c120ae2a000300407),show r.1+(r.2.1-r.1-w)+w=r.2.1 by(revert h2 two;exact z4 0xf840000401f8401087e1087c320054a33e000401180c220ae1a000300027)]
 have a0:sub (sub t r.1 r.2.1) 0 w=sub t r.1 (r.1+w):=sub_sub (a:=0) h2
 have a1:sub (sub t r.1 r.2.1) (r.2.1-r.1-w) (r.2.1-r.1)=sub t (r.1+(r.2.1-r.1-w)) (r.1+(r.2.1-r.1-w)+w):=by
  rw[sub_sub (Nat.le_refl _)]
  exact congrArg (sub t _) (by(revert h2;exact z3 0x3e10fc2009002a5022a33e0004230180300027))
 have hul:u.length=w:=by
  exact hu.elim (fun h=>by rw[h,sub_len (hn.symm▸h2)];rfl) fun h=>by rw[h,sub_len (Nat.le_of_eq hn.symm),Nat.sub_sub_self h2]
 rw[occ_sub hul,occ_sub hul,hn,sub_sub (by(revert h2;exact z3 0xffc2100415a280100827)),sub_sub (by(revert h2;exact z3 0x7fe108480a2be0004230180300407))]
 have o:(sub t (r.1+0) (r.1+(0+w))=u∧sub t (r.1+(r.2.1-r.1-w)) (r.1+(r.2.1-r.1-w+w))=u)↔Per (W t) r.1 r.2.1 (r.2.1-r.1-w):=by
  rw[key,Nat.add_zero,Nat.zero_add,←Nat.add_assoc]
  rcases hu with h | h
  ·rw[h,a0];exact⟨fun h=>h.2.symm,fun h=>⟨rfl,h.symm⟩⟩
  ·rw[h,a1];exact⟨fun h=>h.1,fun h=>⟨h,rfl⟩⟩
 unfold wh
 rw[Bool.and_eq_true_iff,decide_eq_true_iff,beq_iff_eq]
 constructor
 ·rintro ⟨g1,g2⟩
  have hp:Per (W t) r.1 r.2.1 (r.2.1-r.1-w):=by
   obtain⟨m,hm⟩:=Nat.dvd_of_mod_eq_zero g2
   rw[hm];exact per_mul R.st.per m
  have:=o.mpr hp
  exact⟨⟨by(revert g1;exact z3 0x3ff088010568a0045700827),this.1⟩,⟨by(revert g1;exact z3 0x1ff84212028af800110c0600c5700407),this.2⟩,g1⟩
 ·rintro ⟨⟨_,g1⟩,⟨_,g2⟩,g3⟩
  exact⟨g3,Nat.mod_eq_zero_of_dvd (per_dvd R.np R.st.per s1 _ (o.mp ⟨g1,g2⟩) (by omega))⟩
theorem maths(ht:∀ c∈t,c∈FIL):Maths t where
 once:=once_ok ht
 due:=due_tab ht
 runs:=fun r h=>(runL_mem ht h).ok
 tabs:=fun r h=>by
  obtain⟨lo,p,_,hc,rfl⟩:=tabRs_mem h
  exact(tab_runW ht hc).ok
 dots:=⟨fun w q h1 _ hq=>sq_occ ht h1 hq,fun r h w h1 h2 p hp=>whole_iff ht (runL_mem ht h) h1 h2 hp⟩
end
end
end uk0030_02
end
section
namespace uk0030_02
open PySem PySem.W UK HL
noncomputable def X0:Tab:=⟨cx0.conv,cx0.b3,cx0.b1⟩
noncomputable def chkC(c:Nat)(ex:List Nat):Bool:=decide (pcS X0 c=ex)&&(decide (ex.length≤8)&&decide ((Txt.lower ⟨#[c]⟩).length≤cap))
theorem chkC_ok{c:Nat}{ex:List Nat}(h:chkC c ex=true):okC X0 c∧pcS X0 c=ex:=by
 obtain⟨h1,h⟩:=andB h
 have h1:=of_decide_eq_true h1
 exact⟨⟨by rw[h1];exact of_decide_eq_true (andB h).1,of_decide_eq_true (andB h).2⟩,h1⟩
noncomputable def chkL:List (Nat × List Nat):=(unS.map fun c=>(c,[]))++(beS.map fun c=>(c,[c]))++(FIL.flatMap fun c=>(List.range 12).map fun i=>(leS2 c i,[c]))++[(64256,[102,102]),(64257,[102,105]),(64258,[102,108]),(64259,[102,102,105])]
noncomputable def X1:Tab:=⟨cx0.conv,fun c=>(((prs.take 646).find? fun p=>Int.beq' p.1 c).map fun p=>some p.2).getD ((((prs.drop 646).find? fun p=>Int.beq' p.1 c).map fun p=>some p.2).getD none),cx0.b1⟩
noncomputable def b3X(o:Option Value):Option Str:=match o with
 | some (.str x _)=>some x
 | _=>none
theorem find_ents{c:Int}{L:List DictEntry}(f:List Pair→Nat→List DictEntry)(n:Nat)(h0:∀ k,f [] k=[])(h1:∀ q r k,f (q::r) k=⟨hashInt q.1,.int q.1 k,.str q.2 (k+1)⟩::f r (k+n)):∀ ps k,b3X (((f ps k++L).find? fun e=>Value.isInt c e.key).map (·.val))=((ps.find? fun p=>Int.beq' p.1 c).map fun p=>some p.2).getD (b3X ((L.find? fun e=>Value.isInt c e.key).map (·.val)))
 | [],k=>by rw[h0];rfl
 | q::r,k=>by
  rw[h1,List.cons_append,List.find?_cons,List.find?_cons]
  show b3X ((match Value.isInt c (.int q.1 k) with | true=>_ | false=>_:Option DictEntry).map _)=_
  rw[show Value.isInt c (.int q.1 k)=Int.beq' q.1 c from (Int.beq'_eq_beq q.1 c).symm]
  cases Int.beq' q.1 c with
  | true=>rfl
  | false=>exact find_ents f n h0 h1 r _
theorem X01:X0=X1:=congrArg (fun x=>Tab.mk cx0.conv x cx0.b1) (funext fun c=>by
 show b3X (findBy Value.isInt b3L.toArray c)=_
 unfold findBy b3L
 rw[List.find?_toArray,find_ents ents 3 (fun _=>rfl) (fun _ _ _=>rfl),←List.append_nil (entsS _ _),find_ents entsS 2 (fun _=>rfl) (fun _ _ _=>rfl)]
 rfl)
theorem ch_all:chkL.all (fun p=>chkC p.1 p.2)=true:=by
 unfold chkC
 rw[X01]
 kernel_rfl
theorem ch_in{p:Nat × List Nat}(h:p∈chkL):okC X0 p.1∧pcS X0 p.1=p.2:=chkC_ok (List.all_eq_true.mp ch_all p h)
theorem getD_mem{l:List Nat}{i:Nat}(h:i<l.length):l.getD i 0∈l:=by
 rw[List.getD_eq_getElem?_getD,List.getElem?_eq_getElem h];exact List.getElem_mem h
theorem kn:Kn X0 where
 un:=fun i hi=>ch_in (List.mem_append_left _ (List.mem_append_left _ (List.mem_append_left _ (List.mem_map.mpr ⟨_,getD_mem (l:=unS) hi,rfl⟩))))
 be:=fun i hi=>ch_in (List.mem_append_left _ (List.mem_append_left _ (List.mem_append_right _ (List.mem_map.mpr ⟨_,getD_mem (l:=beS) hi,rfl⟩))))
 le:=fun c hc i hi=>ch_in (List.mem_append_left _ (List.mem_append_right _ (List.mem_flatMap.mpr ⟨c,hc,List.mem_map.mpr ⟨i,List.mem_range.mpr hi,rfl⟩⟩)))
 lig:=fun p hp=>ch_in (List.mem_append_right _ hp)
theorem ch_nm:([true,false].all fun lo=>(List.range 9).all fun p=>decide ((low (tS [nm lo p])).length≤100)&&(cx0.conv true (tS [nm lo p])&&cx0.conv true (low (tS [nm lo p]))))=true:=by kernel_rfl
theorem ch_vl:((List.range 10).all fun e=>(List.range (e / 2+1)).all fun s=>(List.range (e-2*s+1)).all fun b=>cx0.conv false (tS (valS (b,e,s))))=true:=by kernel_rfl
theorem hv:Hv X0 where
 nm:=fun lo p hp=>by
  have h:=List.all_eq_true.mp (List.all_eq_true.mp ch_nm lo (by cases lo <;> decide)) p (List.mem_range.mpr hp)
  obtain⟨h1,h2⟩:=Bool.and_eq_true_iff.mp h
  exact⟨show 1≤100 by decide,of_decide_eq_true h1,Bool.and_eq_true_iff.mp h2⟩
 vl:=fun r h1 h2=>List.all_eq_true.mp (List.all_eq_true.mp (List.all_eq_true.mp ch_vl r.2.1 (List.mem_range.mpr (by(revert h2;exact z1 0xffc215540b4d400)))) r.2.2 (List.mem_range.mpr (by(revert h1;exact z3 0x3ff084020d4140ac2240402b8a80)))) r.1 (List.mem_range.mpr (by(revert h1;exact z3 0x7fe108021a82815fc2110ae130442b8280)))
theorem plain2(is:List Int)(h:is.length≤63):runF m2fns cx0 20 28 [.lst (is.map .int)] []=some (.d (.bool true),[]):=law_ok (k:=14) kn hv (fun t ht _=>maths ht) is h
end uk0030_02
end
section
open PySem PySem.W PySem.Spec PySem.Calls PyProof.Rows
open HL uk0030_02 UK
theorem laid_list{R:WRecords}{cl:Str→Option Addr}{P:Params}{ord:List DictEntry→List DictEntry}{xs:List WData}{s₀ s₁:Shared}{a:Addr}{items:Array Value}
  (e:layAllW R cl P ord [.list xs] s₀=some ([.ref a],s₁)) (hl:s₁.heap.IsList a items):s₁.heap.get? a=some { cls:=.type "list",data:=.seq items }:=by
 simp only[layAllW,layW] at e
 cases e1:layAllW R cl P ord xs s₀ with
 | none=>rw[e1] at e;cases e
 | some r=>
  rw[e1] at e
  simp only[Option.some.injEq,Prod.mk.injEq,List.cons.injEq,and_true] at e
  obtain⟨ea,es⟩:=e
  cases ea
  subst es
  have hg:(r.2.heap.push { cls:=.type "list",data:=.seq r.1.toArray }).get? r.2.heap.objs.size=some { cls:=.type "list",data:=.seq r.1.toArray }:=Heap.get?_push_size _ rfl
  obtain⟨o,ho,_,n,hd⟩:=hl
  have ho':=hg.symm.trans ho
  cases ho'
  cases hd
  exact hg
theorem allIn_mem{h:Heap}:∀ {K:Frag},X.AllIn h K→∀ p∈K,h.get? p.1=some p.2
 | [],_,p,m=>nomatch m
 | q::K,x,p,m=>by
  rcases List.mem_cons.mp m with rfl | m
  ·exact x.1
  ·exact allIn_mem x.2 p m
theorem ws:PySem.W.OpenLaw.wellSaid PySem.Challenge.rw_uk0030_02=true:=by kernel_rfl
set_option maxRecDepth 100000 in
set_option maxHeartbeats 0 in
theorem PySem.Challenge.cw_uk0030_02_holds : PySem.Challenge.rw_uk0030_02.Holds := by
 w_on
 refine holds_law ws fun said=>?_
 refine holds_stood (q:=vw) (loose:=looseL) stood rfl (by rfl) (by rfl) (by rfl) (by assumption) (by decide +kernel) ⟨rfl,rfl,rfl,rfl,rfl,by decide +kernel⟩ ?hw ?call
 case hw=>w_witness2
 case call=>
  intro w s₀ s₁ mg mb G y fa o pm cd doc dV kV ho hd hcd hD hmg hg args vals as L hpre hlay hrd hwl hlo
  clear hd
  wrow_args hpre hlay hrd hwl hlo
  have ZZ:=X.z_facts asF_is y
  rename_i is _ _ hL0 _ _ _ _ a vs _ hL ra _ _ hI _ hc1 _
  have X:Pre w s₁.heap mg mb:=⟨fun p hp=>L.keeps _ _ (allIn_mem ZZ.1 p hp),G.T.g,G.T.b,G.T.nolimit,G.T.builtins⟩
  have hfa:fa=367:=by
   have h1:mg (Str.ofString "law")=some (.ref fa):=hmg
   rw[mg_is X] at h1
   have h2:nsFind (es3 w.params) (Str.ofString "law")=some (.ref 367):=by kernel_rfl
   rw[h2] at h1
   cases h1;rfl
  subst hfa
  obtain⟨ord,_,hlaid⟩:=L.laid
  have ha:=laid_list (xs:=ofPys (List.map PyData.int is)) hlaid hL
  refine wpAny_mono (law_walk X (s:=s₁) rfl rfl rfl ha hI (plain2 is (by omega))) (fun v s' hp=>?_) fun _ _ x=>x.elim
  obtain⟨rfl,kp,hos,hgens⟩:=hp
  refine⟨.inl ⟨_,_,[],rfl,fun _=>rfl,ReadsW.bool true,?_,fun _=>⟨List.nodup_nil,fun _ hm=>(nomatch hm)⟩⟩,.of_keep kp,hos,.of_eq (hgens.trans hg)⟩
  first | rfl | wrow_post
end
