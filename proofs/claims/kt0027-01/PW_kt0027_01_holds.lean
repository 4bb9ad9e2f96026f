import PyProof.Rows.All
import Wide.All
import OpenK.AllK
import Wide.FinOn
import PySem.Challenge.RW_kt0027_01
set_option Elab.async false
set_option linter.all false
set_option maxRecDepth 100000
set_option genInjectivity false
set_option genSizeOf false
open PySem PySem.W PySem.Calls PyProof.Rows
set_option genCtorIdx false
set_option compiler.extract_closed false
set_option bootstrap.genMatcherCode false
def Mine.aQ0:Lean.Syntax:=(Lean.Unhygienic.run `(by decide)).raw[1]
def Mine.aQ1:Lean.Syntax:=(Lean.Unhygienic.run `(by exact Eq.refl true)).raw[1]
def Mine.aQ2:Lean.Syntax:=(Lean.Unhygienic.run `(by intro _; rfl)).raw[1]
def Mine.aQ3:Lean.Syntax:=(Lean.Unhygienic.run `(by intro _ _; exact ⟨_,rfl⟩)).raw[1]
def Mine.aQ4:Lean.Syntax:=(Lean.Unhygienic.run `(by exact Eq.refl (pure false))).raw[1]
def Mine.aQ5:Lean.Syntax:=(Lean.Unhygienic.run `(by exact Eq.refl false)).raw[1]
def Mine.aQ6:Lean.Syntax:=(Lean.Unhygienic.run `(by rfl)).raw[1]
def Mine.aQ7:Lean.Syntax:=(Lean.Unhygienic.run `(by exact Eq.refl ScopeKind.function)).raw[1]
def Mine.aQ8:Lean.Syntax:=(Lean.Unhygienic.run `(by exact Eq.refl (some NameKind.local))).raw[1]
def Mine.aQ9:Lean.Syntax:=(Lean.Unhygienic.run `(by exact fun w=>Eq.refl w)).raw[1]
def Mine.aQ10:Lean.Syntax:=(Lean.Unhygienic.run `(by exact Eq.refl (some NameKind.globalImplicit))).raw[1]
section
section
namespace Mine
@[elab_as_elim] theorem sb {α:Sort u} {a b:α} {P:α→Prop} (h:a=b) (x:P b):P a:=h▸x
@[elab_as_elim] theorem sy {α:Sort u} {a b:α} {P:α→Prop} (h:a=b) (x:P a):P b:=h▸x
theorem gz {α:Sort u}{P:Prop}(a:α)(h:∀x,x=a→P):P:=h a rfl
theorem I0_3 {U W Z:Prop}(o:U)(t:W)(J:Z):U∧W∧Z:=⟨o,t,J⟩
theorem I0_4 {U W Z P3:Prop}(o:U)(t:W)(J:Z)(h3:P3):U∧W∧Z∧P3:=⟨o,t,J,h3⟩
theorem I0_5 {U W Z P3 P4:Prop}(o:U)(t:W)(J:Z)(h3:P3)(h4:P4):U∧W∧Z∧P3∧P4:=⟨o,t,J,h3,h4⟩
theorem I0_6 {U W Z P3 P4 P5:Prop}(o:U)(t:W)(J:Z)(h3:P3)(h4:P4)(h5:P5):U∧W∧Z∧P3∧P4∧P5:=⟨o,t,J,h3,h4,h5⟩
theorem I1_2 {A:Sort u0}{U W:A→Prop}(a:A)(o:U a)(t:W a):∃a,U a∧W a:=⟨a,o,t⟩
theorem I1_3 {A:Sort u0}{U W Z:A→Prop}(a:A)(o:U a)(t:W a)(J:Z a):∃a,U a∧W a∧Z a:=⟨a,o,t,J⟩
theorem I1_4 {A:Sort u0}{U W Z P3:A→Prop}(a:A)(o:U a)(t:W a)(J:Z a)(h3:P3 a):∃a,U a∧W a∧Z a∧P3 a:=⟨a,o,t,J,h3⟩
theorem I1_6 {A:Sort u0}{U W Z P3 P4 P5:A→Prop}(a:A)(o:U a)(t:W a)(J:Z a)(h3:P3 a)(h4:P4 a)(h5:P5 a):∃a,U a∧W a∧Z a∧P3 a∧P4 a∧P5 a:=⟨a,o,t,J,h3,h4,h5⟩
theorem I2_1 {A:Sort u0}{B:Sort u1}{U:A→B→Prop}(a:A)(b:B)(o:U a b):∃a b,U a b:=⟨a,b,o⟩
theorem I2_2 {A:Sort u0}{B:Sort u1}{U W:A→B→Prop}(a:A)(b:B)(o:U a b)(t:W a b):∃a b,U a b∧W a b:=⟨a,b,o,t⟩
theorem I2_3 {A:Sort u0}{B:Sort u1}{U W Z:A→B→Prop}(a:A)(b:B)(o:U a b)(t:W a b)(J:Z a b):∃a b,U a b∧W a b∧Z a b:=⟨a,b,o,t,J⟩
theorem I2_4 {A:Sort u0}{B:Sort u1}{U W Z P3:A→B→Prop}(a:A)(b:B)(o:U a b)(t:W a b)(J:Z a b)(h3:P3 a b):∃a b,U a b∧W a b∧Z a b∧P3 a b:=⟨a,b,o,t,J,h3⟩
theorem I2_5 {A:Sort u0}{B:Sort u1}{U W Z P3 P4:A→B→Prop}(a:A)(b:B)(o:U a b)(t:W a b)(J:Z a b)(h3:P3 a b)(h4:P4 a b):∃a b,U a b∧W a b∧Z a b∧P3 a b∧P4 a b:=⟨a,b,o,t,J,h3,h4⟩
theorem I2_6 {A:Sort u0}{B:Sort u1}{U W Z P3 P4 P5:A→B→Prop}(a:A)(b:B)(o:U a b)(t:W a b)(J:Z a b)(h3:P3 a b)(h4:P4 a b)(h5:P5 a b):∃a b,U a b∧W a b∧Z a b∧P3 a b∧P4 a b∧P5 a b:=⟨a,b,o,t,J,h3,h4,h5⟩
theorem I3_1 {A:Sort u0}{B:Sort u1}{C:Sort u2}{U:A→B→C→Prop}(a:A)(b:B)(c:C)(o:U a b c):∃a b c,U a b c:=⟨a,b,c,o⟩
theorem I3_2 {A:Sort u0}{B:Sort u1}{C:Sort u2}{U W:A→B→C→Prop}(a:A)(b:B)(c:C)(o:U a b c)(t:W a b c):∃a b c,U a b c∧W a b c:=⟨a,b,c,o,t⟩
theorem I3_3 {A:Sort u0}{B:Sort u1}{C:Sort u2}{U W Z:A→B→C→Prop}(a:A)(b:B)(c:C)(o:U a b c)(t:W a b c)(J:Z a b c):∃a b c,U a b c∧W a b c∧Z a b c:=⟨a,b,c,o,t,J⟩
theorem I3_6 {A:Sort u0}{B:Sort u1}{C:Sort u2}{U W Z P3 P4 P5:A→B→C→Prop}(a:A)(b:B)(c:C)(o:U a b c)(t:W a b c)(J:Z a b c)(h3:P3 a b c)(h4:P4 a b c)(h5:P5 a b c):∃a b c,U a b c∧W a b c∧Z a b c∧P3 a b c∧P4 a b c∧P5 a b c:=⟨a,b,c,o,t,J,h3,h4,h5⟩
theorem I4_1 {A:Sort u0}{B:Sort u1}{C:Sort u2}{D:Sort u3}{U:A→B→C→D→Prop}(a:A)(b:B)(c:C)(d:D)(o:U a b c d):∃a b c d,U a b c d:=⟨a,b,c,d,o⟩
theorem I4_2 {A:Sort u0}{B:Sort u1}{C:Sort u2}{D:Sort u3}{U W:A→B→C→D→Prop}(a:A)(b:B)(c:C)(d:D)(o:U a b c d)(t:W a b c d):∃a b c d,U a b c d∧W a b c d:=⟨a,b,c,d,o,t⟩
theorem I4_3 {A:Sort u0}{B:Sort u1}{C:Sort u2}{D:Sort u3}{U W Z:A→B→C→D→Prop}(a:A)(b:B)(c:C)(d:D)(o:U a b c d)(t:W a b c d)(J:Z a b c d):∃a b c d,U a b c d∧W a b c d∧Z a b c d:=⟨a,b,c,d,o,t,J⟩
theorem I4_4 {A:Sort u0}{B:Sort u1}{C:Sort u2}{D:Sort u3}{U W Z P3:A→B→C→D→Prop}(a:A)(b:B)(c:C)(d:D)(o:U a b c d)(t:W a b c d)(J:Z a b c d)(h3:P3 a b c d):∃a b c d,U a b c d∧W a b c d∧Z a b c d∧P3 a b c d:=⟨a,b,c,d,o,t,J,h3⟩
theorem I4_6 {A:Sort u0}{B:Sort u1}{C:Sort u2}{D:Sort u3}{U W Z P3 P4 P5:A→B→C→D→Prop}(a:A)(b:B)(c:C)(d:D)(o:U a b c d)(t:W a b c d)(J:Z a b c d)(h3:P3 a b c d)(h4:P4 a b c d)(h5:P5 a b c d):∃a b c d,U a b c d∧W a b c d∧Z a b c d∧P3 a b c d∧P4 a b c d∧P5 a b c d:=⟨a,b,c,d,o,t,J,h3,h4,h5⟩
theorem I5_1 {A:Sort u0}{B:Sort u1}{C:Sort u2}{D:Sort u3}{E:Sort u4}{U:A→B→C→D→E→Prop}(a:A)(b:B)(c:C)(d:D)(e:E)(o:U a b c d e):∃a b c d e,U a b c d e:=⟨a,b,c,d,e,o⟩
theorem I6_1 {A:Sort u0}{B:Sort u1}{C:Sort u2}{D:Sort u3}{E:Sort u4}{F:Sort u5}{U:A→B→C→D→E→F→Prop}(a:A)(b:B)(c:C)(d:D)(e:E)(f:F)(o:U a b c d e f):∃a b c d e f,U a b c d e f:=⟨a,b,c,d,e,f,o⟩
theorem I6_2 {A:Sort u0}{B:Sort u1}{C:Sort u2}{D:Sort u3}{E:Sort u4}{F:Sort u5}{U W:A→B→C→D→E→F→Prop}(a:A)(b:B)(c:C)(d:D)(e:E)(f:F)(o:U a b c d e f)(t:W a b c d e f):∃a b c d e f,U a b c d e f∧W a b c d e f:=⟨a,b,c,d,e,f,o,t⟩
inductive ET | w (i:Nat) | n (k:Int) | a (x y:ET) | s (x y:ET) | g (x:ET) | m (k:Int)(x:ET) | r (x:ET)(k:Int)
noncomputable def ET.d (τ:List Int)(x:ET):Int:=ET.rec (motive:=fun _=>Int) (fun i=>τ.getD i 0) (fun k=>k) (fun _ _ x y=>x+y) (fun _ _ x y=>x - y) (fun _ x=> -x) (fun k _ x=>k*x) (fun _ k x=>x*k) x
inductive LF | L (x y:ET) | T (x y:ET) | E (x y:ET)
noncomputable def LF.d (τ:List Int)(f:LF):Prop:=LF.rec (motive:=fun _=>Prop) (fun x y=>x.d τ≤y.d τ) (fun x y=>x.d τ < y.d τ) (fun x y=>x.d τ=y.d τ) f
noncomputable def adj (l:List Int):Nat→Int→List Int:=List.rec (motive:=fun _=>Nat→Int→List Int) (fun i k=>List.replicate i 0++ [k]) (fun x l f i k=>Nat.rec (motive:=fun _=>List Int) ((x+k)::l) (fun j _=>x::f j k) i) l
noncomputable def dot (l:List Int):List Int→Int:=List.rec (motive:=fun _=>List Int→Int) (fun _=>0) (fun x _ f r=>List.rec (motive:=fun _=>Int) 0 (fun y r _=>x*y+f r) r) l
theorem nV_ (r:List Int):dot [] r=0:=rfl
theorem hJ_ (x y:Int)(l r:List Int):dot (x::l) (y::r)=x*y+dot l r:=rfl
theorem nt_ (l:List Int):dot l []=0:=by cases l <;>rfl
theorem mv_ (i:Nat)(k:Int):∀r:List Int,dot (List.replicate i 0++ [k]) r=k*r.getD i 0:=by
 induction i with
 | zero => intro r; cases r with
  | nil => exact (Int.mul_zero k).symm
  | cons y r => show k*y+0=k*y; exact Int.add_zero _
 | succ i ih => intro r; cases r with
  | nil => exact (Int.mul_zero k).symm
  | cons y r => show 0*y+dot (List.replicate i 0++ [k]) r=_; refine sb (ih ..) (sb (Int.zero_mul ..) (sb (Int.zero_add ..) ?_)); rfl
theorem g4_ (l:List Int)(k:Int):∀(i:Nat) (r:List Int),dot (adj l i k) r=dot l r+k*r.getD i 0:=by
 induction l with
 | nil => intro i r; refine (?_:dot (List.replicate i 0++ [k]) r=0+_); exact sb (mv_ ..) (sb (Int.zero_add ..) rfl)
 | cons x l ih=>
  intro i r
  cases r with
  | nil => refine sb (nt_ ..) (sb (nt_ ..) ?_); refine (?_:(0:Int)=0+k*0); refine sb (Int.mul_zero ..) ?_; rfl
  | cons y r=>
   cases i with
   | zero => show (x+k)*y+dot l r=x*y+dot l r+k*y; exact sb (Int.add_mul ..) (sb (Int.add_right_comm ..) rfl)
   | succ i => show x*y+dot (adj l i k) r=x*y+dot l r+k*r.getD i 0; exact sb (ih ..) (sb (Int.add_assoc ..) rfl)
noncomputable def ET.acc (x:ET):Int→List Int→List Int:=ET.rec (motive:=fun _=>Int→List Int→List Int) (fun i q p=>adj p (i+1) q) (fun k q p=>adj p 0 (q*k)) (fun _ _ f g q p=>g q (f q p)) (fun _ _ f g q p=>g (-q) (f q p)) (fun _ f q p=>f (-q) p) (fun k _ f q p=>f (q*k) p) (fun _ k f q p=>f (q*k) p) x
theorem ET.acc_val {τ:List Int}(x:ET):∀(q:Int) (p:List Int),dot (x.acc q p) (1::τ)=dot p (1::τ)+q*x.d τ:=by
 induction x with
 | w i => intro q p; exact g4_ p q (i+1) (1::τ)
 | n k => intro q p; refine (?_:dot (adj p 0 (q*k)) _=dot p _+q*k); exact sb (g4_ ..) (congrArg _ (Int.mul_one _))
 | a x y hx hy => intro q p; refine (?_:dot (y.acc q (x.acc q p)) _=dot p _+q*(x.d τ+y.d τ)); exact sb (hy ..) (sb (hx ..) (sb (Int.mul_add ..) (sb (Int.add_assoc ..) rfl)))
 | s x y hx hy => intro q p; refine (?_:dot (y.acc (-q) (x.acc q p)) _=dot p _+q*(x.d τ - y.d τ)); exact sb (hy ..) (sb (hx ..) (sb (Int.mul_sub ..) (sb (Int.neg_mul ..) (sb (Int.add_assoc ..) (sb (Int.sub_eq_add_neg ..) rfl)))))
 | g x hx => intro q p; refine (?_:dot (x.acc (-q) p) _=dot p _+q*(-x.d τ)); exact sb (hx ..) (sb (Int.neg_mul ..) (sb (Int.mul_neg ..) rfl))
 | m k x hx => intro q p; refine (?_:dot (x.acc (q*k) p) _=dot p _+q*(k*x.d τ)); exact sb (hx ..) (sb (Int.mul_assoc ..) rfl)
 | r x k hx => intro q p; refine (?_:dot (x.acc (q*k) p) _=dot p _+q*(x.d τ*k)); exact sb (hx ..) (sb (Int.mul_assoc ..) (sb (Int.mul_comm k ..) rfl))
noncomputable def LF.acc (f:LF):Int→List Int→List Int:=LF.rec (motive:=fun _=>Int→List Int→List Int) (fun x y q p=>y.acc q (x.acc (-q) p)) (fun x y q p=>y.acc q (x.acc (-q) (adj p 0 (-q)))) (fun x y q p=>y.acc q (x.acc (-q) p)) f
noncomputable def LF.ok (f:LF)(q:Int):Bool:=LF.rec (motive:=fun _=>Bool) (fun _ _=>decide (0≤q)) (fun _ _=>decide (0≤q)) (fun _ _=>true) f
theorem LF.acc_val {τ:List Int}{q:Int}{p:List Int}{f:LF}(h:f.ok q=true)(d:f.d τ):dot p (1::τ)≤dot (f.acc q p) (1::τ):=by
 have aq:∀{x y:Int},0≤q→x≤y→∀z:Int,z≤z+ -q*x+q*y:=fun {x y} h d z=>by
  refine sb (Int.neg_mul ..) (sb (Int.add_assoc ..) ?_)
  have m:=Int.sub_nonneg_of_le (Int.mul_le_mul_of_nonneg_left d h)
  rw [Int.sub_eq_add_neg,Int.add_comm] at m
  have:=Int.add_le_add_left m z
  rwa [Int.add_zero] at this
 cases f with
 | L x y => show _≤dot (y.acc q (x.acc (-q) p)) _; exact sb (y.acc_val ..) (sb (x.acc_val ..) (aq (of_decide_eq_true h) d _))
 | T x y=>
  refine (?_:_≤dot (y.acc q (x.acc (-q) (adj p 0 (-q)))) _)
  refine sb (y.acc_val ..) (sb (x.acc_val ..) (sb (g4_ ..) (sb (Int.add_assoc _ (-q*_) (-q*_) ..) (sy (Int.mul_add ..) (sb (Int.add_comm _ (x.d τ) ..) ?_)))))
  exact aq (of_decide_eq_true h) (show x.d τ+1≤y.d τ from d) _
 | E x y=>
  refine (?_:_≤dot (y.acc q (x.acc (-q) p)) _)
  simp only [y.acc_val,x.acc_val,show x.d τ=y.d τ from d,Int.neg_mul,Int.add_assoc,Int.add_left_neg,Int.add_zero]
  exact Int.le_refl _
noncomputable def chk (c:List (Int×LF)):List Int→Bool:=List.rec (motive:=fun _=>List Int→Bool) (fun p=>List.rec (motive:=fun _=>Bool) false (fun k l _=>decide (k < 0) && l.all (fun x=>decide (x=0))) p) (fun f _ go p=>f.2.ok f.1 && go (f.2.acc f.1 p)) c
noncomputable def imp (τ:List Int)(c:List (Int×LF)):Prop:=List.rec (motive:=fun _=>Prop) False (fun f _ P=>f.2.d τ→P) c
theorem kS_ (l:List Int)(h:l.all (fun x=>decide (x=0))=true):∀r,dot l r=0:=by
 induction l with
 | nil => intro r; rfl
 | cons x l ih=>
  intro r
  rw [List.all_cons,Bool.and_eq_true] at h
  cases r with
  | nil => rfl
  | cons y r => refine sb (hJ_ ..) (sb (ih h.2 ..) (sb (of_decide_eq_true h.1 ..) (sb (Int.zero_mul ..) ?_))); rfl
theorem ne_ {τ:List Int}(c:List (Int×LF)):∀p:List Int,chk c p=true→0≤dot p (1::τ)→imp τ c:=by
 induction c with
 | nil=>
  intro p h hp
  cases p with
  | nil => cases h
  | cons k l=>
   have h':=Bool.and_eq_true_iff.mp (show (decide (k < 0) && l.all (fun x=>decide (x=0)))=true from h)
   rw [hJ_,kS_ l h'.2,Int.mul_one,Int.add_zero] at hp
   exact absurd (of_decide_eq_true h'.1) (Int.not_lt.mpr hp)
 | cons f c ih=>
  intro p h hp
  have h':=Bool.and_eq_true_iff.mp (show (f.2.ok f.1 && chk c (f.2.acc f.1 p))=true from h)
  exact fun d=>ih _ h'.2 (Int.le_trans hp (LF.acc_val h'.1 d))
theorem lin (τ:List Int)(c:List (Int×LF))(h:chk c []=true):imp τ c:=ne_ c [] h (Int.le_refl 0)
theorem d456 {b:Nat}(h:(b=4)∨((b=5)∨(b=6))):4≤b∧b≤6:=by rcases h with rfl | rfl | rfl <;>decide
theorem nl {a b:Nat}(h:a≤b):(a:Int)≤(b:Int):=Int.ofNat_le.mpr h
theorem nt {a b:Nat}(h:a < b):(a:Int) < (b:Int):=Int.ofNat_lt.mpr h
theorem nq {a b:Nat}(h:a=b):(a:Int)=(b:Int):=congrArg _ h
theorem X0_2 {R V:Prop}{G:Prop}(h:R∧V)(f:R→V→G):G:=f h.1 h.2
theorem X1_1 {K:Sort u0}{R:K→Prop}{G:Prop}(h:∃v,R v)(f:∀(v:K),R v→G):G:=h.elim fun v o=>f v o
theorem X0_3 {R V Y:Prop}{G:Prop}(h:R∧V∧Y)(f:R→V→Y→G):G:=f h.1 h.2.1 h.2.2
theorem X1_2 {K:Sort u0}{R V:K→Prop}{G:Prop}(h:∃v,R v∧V v)(f:∀(v:K),R v→V v→G):G:=h.elim fun v o=>f v o.1 o.2
theorem X2_1 {K:Sort u0}{N:Sort u1}{R:K→N→Prop}{G:Prop}(h:∃v H,R v H)(f:∀(v:K) (H:N),R v H→G):G:=h.elim fun v o=>o.elim fun H t=>f v H t
theorem X0_4 {R V Y A3:Prop}{G:Prop}(h:R∧V∧Y∧A3)(f:R→V→Y→A3→G):G:=f h.1 h.2.1 h.2.2.1 h.2.2.2
theorem X1_3 {K:Sort u0}{R V Y:K→Prop}{G:Prop}(h:∃v,R v∧V v∧Y v)(f:∀(v:K),R v→V v→Y v→G):G:=h.elim fun v o=>f v o.1 o.2.1 o.2.2
theorem X2_2 {K:Sort u0}{N:Sort u1}{R V:K→N→Prop}{G:Prop}(h:∃v H,R v H∧V v H)(f:∀(v:K) (H:N),R v H→V v H→G):G:=h.elim fun v o=>o.elim fun H t=>f v H t.1 t.2
theorem X3_1 {K:Sort u0}{N:Sort u1}{S:Sort u2}{R:K→N→S→Prop}{G:Prop}(h:∃v H M,R v H M)(f:∀(v:K) (H:N) (M:S),R v H M→G):G:=h.elim fun v o=>o.elim fun H t=>t.elim fun M J=>f v H M J
theorem X0_5 {R V Y A3 A4:Prop}{G:Prop}(h:R∧V∧Y∧A3∧A4)(f:R→V→Y→A3→A4→G):G:=f h.1 h.2.1 h.2.2.1 h.2.2.2.1 h.2.2.2.2
theorem X1_4 {K:Sort u0}{R V Y A3:K→Prop}{G:Prop}(h:∃v,R v∧V v∧Y v∧A3 v)(f:∀(v:K),R v→V v→Y v→A3 v→G):G:=h.elim fun v o=>f v o.1 o.2.1 o.2.2.1 o.2.2.2
theorem X2_3 {K:Sort u0}{N:Sort u1}{R V Y:K→N→Prop}{G:Prop}(h:∃v H,R v H∧V v H∧Y v H)(f:∀(v:K) (H:N),R v H→V v H→Y v H→G):G:=h.elim fun v o=>o.elim fun H t=>f v H t.1 t.2.1 t.2.2
theorem X3_2 {K:Sort u0}{N:Sort u1}{S:Sort u2}{R V:K→N→S→Prop}{G:Prop}(h:∃v H M,R v H M∧V v H M)(f:∀(v:K) (H:N) (M:S),R v H M→V v H M→G):G:=h.elim fun v o=>o.elim fun H t=>t.elim fun M J=>f v H M J.1 J.2
theorem X4_1 {K:Sort u0}{N:Sort u1}{S:Sort u2}{X:Sort u3}{R:K→N→S→X→Prop}{G:Prop}(h:∃v H M Q,R v H M Q)(f:∀(v:K) (H:N) (M:S) (Q:X),R v H M Q→G):G:=h.elim fun v o=>o.elim fun H t=>t.elim fun M J=>J.elim fun Q h3=>f v H M Q h3
theorem X2_4 {K:Sort u0}{N:Sort u1}{R V Y A3:K→N→Prop}{G:Prop}(h:∃v H,R v H∧V v H∧Y v H∧A3 v H)(f:∀(v:K) (H:N),R v H→V v H→Y v H→A3 v H→G):G:=h.elim fun v o=>o.elim fun H t=>f v H t.1 t.2.1 t.2.2.1 t.2.2.2
theorem X3_3 {K:Sort u0}{N:Sort u1}{S:Sort u2}{R V Y:K→N→S→Prop}{G:Prop}(h:∃v H M,R v H M∧V v H M∧Y v H M)(f:∀(v:K) (H:N) (M:S),R v H M→V v H M→Y v H M→G):G:=h.elim fun v o=>o.elim fun H t=>t.elim fun M J=>f v H M J.1 J.2.1 J.2.2
theorem X5_1 {K:Sort u0}{N:Sort u1}{S:Sort u2}{X:Sort u3}{ag:Sort u4}{R:K→N→S→X→ag→Prop}{G:Prop}(h:∃v H M Q x4,R v H M Q x4)(f:∀(v:K) (H:N) (M:S) (Q:X) (x4:ag),R v H M Q x4→G):G:=h.elim fun v o=>o.elim fun H t=>t.elim fun M J=>J.elim fun Q h3=>h3.elim fun x4 h4=>f v H M Q x4 h4
theorem X2_5 {K:Sort u0}{N:Sort u1}{R V Y A3 A4:K→N→Prop}{G:Prop}(h:∃v H,R v H∧V v H∧Y v H∧A3 v H∧A4 v H)(f:∀(v:K) (H:N),R v H→V v H→Y v H→A3 v H→A4 v H→G):G:=h.elim fun v o=>o.elim fun H t=>f v H t.1 t.2.1 t.2.2.1 t.2.2.2.1 t.2.2.2.2
theorem X3_4 {K:Sort u0}{N:Sort u1}{S:Sort u2}{R V Y A3:K→N→S→Prop}{G:Prop}(h:∃v H M,R v H M∧V v H M∧Y v H M∧A3 v H M)(f:∀(v:K) (H:N) (M:S),R v H M→V v H M→Y v H M→A3 v H M→G):G:=h.elim fun v o=>o.elim fun H t=>t.elim fun M J=>f v H M J.1 J.2.1 J.2.2.1 J.2.2.2
theorem X4_3 {K:Sort u0}{N:Sort u1}{S:Sort u2}{X:Sort u3}{R V Y:K→N→S→X→Prop}{G:Prop}(h:∃v H M Q,R v H M Q∧V v H M Q∧Y v H M Q)(f:∀(v:K) (H:N) (M:S) (Q:X),R v H M Q→V v H M Q→Y v H M Q→G):G:=h.elim fun v o=>o.elim fun H t=>t.elim fun M J=>J.elim fun Q h3=>f v H M Q h3.1 h3.2.1 h3.2.2
theorem X6_1 {K:Sort u0}{N:Sort u1}{S:Sort u2}{X:Sort u3}{ag:Sort u4}{ah:Sort u5}{R:K→N→S→X→ag→ah→Prop}{G:Prop}(h:∃v H M Q x4 x5,R v H M Q x4 x5)(f:∀(v:K) (H:N) (M:S) (Q:X) (x4:ag) (x5:ah),R v H M Q x4 x5→G):G:=h.elim fun v o=>o.elim fun H t=>t.elim fun M J=>J.elim fun Q h3=>h3.elim fun x4 h4=>h4.elim fun x5 h5=>f v H M Q x4 x5 h5
theorem X0_8 {R V Y A3 A4 A5 A6 A7:Prop}{G:Prop}(h:R∧V∧Y∧A3∧A4∧A5∧A6∧A7)(f:R→V→Y→A3→A4→A5→A6→A7→G):G:=f h.1 h.2.1 h.2.2.1 h.2.2.2.1 h.2.2.2.2.1 h.2.2.2.2.2.1 h.2.2.2.2.2.2.1 h.2.2.2.2.2.2.2
theorem X2_6 {K:Sort u0}{N:Sort u1}{R V Y A3 A4 A5:K→N→Prop}{G:Prop}(h:∃v H,R v H∧V v H∧Y v H∧A3 v H∧A4 v H∧A5 v H)(f:∀(v:K) (H:N),R v H→V v H→Y v H→A3 v H→A4 v H→A5 v H→G):G:=h.elim fun v o=>o.elim fun H t=>f v H t.1 t.2.1 t.2.2.1 t.2.2.2.1 t.2.2.2.2.1 t.2.2.2.2.2
theorem X4_4 {K:Sort u0}{N:Sort u1}{S:Sort u2}{X:Sort u3}{R V Y A3:K→N→S→X→Prop}{G:Prop}(h:∃v H M Q,R v H M Q∧V v H M Q∧Y v H M Q∧A3 v H M Q)(f:∀(v:K) (H:N) (M:S) (Q:X),R v H M Q→V v H M Q→Y v H M Q→A3 v H M Q→G):G:=h.elim fun v o=>o.elim fun H t=>t.elim fun M J=>J.elim fun Q h3=>f v H M Q h3.1 h3.2.1 h3.2.2.1 h3.2.2.2
theorem X6_2 {K:Sort u0}{N:Sort u1}{S:Sort u2}{X:Sort u3}{ag:Sort u4}{ah:Sort u5}{R V:K→N→S→X→ag→ah→Prop}{G:Prop}(h:∃v H M Q x4 x5,R v H M Q x4 x5∧V v H M Q x4 x5)(f:∀(v:K) (H:N) (M:S) (Q:X) (x4:ag) (x5:ah),R v H M Q x4 x5→V v H M Q x4 x5→G):G:=h.elim fun v o=>o.elim fun H t=>t.elim fun M J=>J.elim fun Q h3=>h3.elim fun x4 h4=>h4.elim fun x5 h5=>f v H M Q x4 x5 h5.1 h5.2
theorem X4_5 {K:Sort u0}{N:Sort u1}{S:Sort u2}{X:Sort u3}{R V Y A3 A4:K→N→S→X→Prop}{G:Prop}(h:∃v H M Q,R v H M Q∧V v H M Q∧Y v H M Q∧A3 v H M Q∧A4 v H M Q)(f:∀(v:K) (H:N) (M:S) (Q:X),R v H M Q→V v H M Q→Y v H M Q→A3 v H M Q→A4 v H M Q→G):G:=h.elim fun v o=>o.elim fun H t=>t.elim fun M J=>J.elim fun Q h3=>f v H M Q h3.1 h3.2.1 h3.2.2.1 h3.2.2.2.1 h3.2.2.2.2
theorem X6_3 {K:Sort u0}{N:Sort u1}{S:Sort u2}{X:Sort u3}{ag:Sort u4}{ah:Sort u5}{R V Y:K→N→S→X→ag→ah→Prop}{G:Prop}(h:∃v H M Q x4 x5,R v H M Q x4 x5∧V v H M Q x4 x5∧Y v H M Q x4 x5)(f:∀(v:K) (H:N) (M:S) (Q:X) (x4:ag) (x5:ah),R v H M Q x4 x5→V v H M Q x4 x5→Y v H M Q x4 x5→G):G:=h.elim fun v o=>o.elim fun H t=>t.elim fun M J=>J.elim fun Q h3=>h3.elim fun x4 h4=>h4.elim fun x5 h5=>f v H M Q x4 x5 h5.1 h5.2.1 h5.2.2
theorem X2_8 {K:Sort u0}{N:Sort u1}{R V Y A3 A4 A5 A6 A7:K→N→Prop}{G:Prop}(h:∃v H,R v H∧V v H∧Y v H∧A3 v H∧A4 v H∧A5 v H∧A6 v H∧A7 v H)(f:∀(v:K) (H:N),R v H→V v H→Y v H→A3 v H→A4 v H→A5 v H→A6 v H→A7 v H→G):G:=h.elim fun v o=>o.elim fun H t=>f v H t.1 t.2.1 t.2.2.1 t.2.2.2.1 t.2.2.2.2.1 t.2.2.2.2.2.1 t.2.2.2.2.2.2.1 t.2.2.2.2.2.2.2
theorem X4_6 {K:Sort u0}{N:Sort u1}{S:Sort u2}{X:Sort u3}{R V Y A3 A4 A5:K→N→S→X→Prop}{G:Prop}(h:∃v H M Q,R v H M Q∧V v H M Q∧Y v H M Q∧A3 v H M Q∧A4 v H M Q∧A5 v H M Q)(f:∀(v:K) (H:N) (M:S) (Q:X),R v H M Q→V v H M Q→Y v H M Q→A3 v H M Q→A4 v H M Q→A5 v H M Q→G):G:=h.elim fun v o=>o.elim fun H t=>t.elim fun M J=>J.elim fun Q h3=>f v H M Q h3.1 h3.2.1 h3.2.2.1 h3.2.2.2.1 h3.2.2.2.2.1 h3.2.2.2.2.2
theorem X6_4 {K:Sort u0}{N:Sort u1}{S:Sort u2}{X:Sort u3}{ag:Sort u4}{ah:Sort u5}{R V Y A3:K→N→S→X→ag→ah→Prop}{G:Prop}(h:∃v H M Q x4 x5,R v H M Q x4 x5∧V v H M Q x4 x5∧Y v H M Q x4 x5∧A3 v H M Q x4 x5)(f:∀(v:K) (H:N) (M:S) (Q:X) (x4:ag) (x5:ah),R v H M Q x4 x5→V v H M Q x4 x5→Y v H M Q x4 x5→A3 v H M Q x4 x5→G):G:=h.elim fun v o=>o.elim fun H t=>t.elim fun M J=>J.elim fun Q h3=>h3.elim fun x4 h4=>h4.elim fun x5 h5=>f v H M Q x4 x5 h5.1 h5.2.1 h5.2.2.1 h5.2.2.2
theorem gn {G:Prop}(h:∀P:Prop,(G→P)→P):G:=h G id
theorem v1 {α:Type}{P:List α→Prop}(h:∀a,P [a])(l:List α)(e:l.length=1):P l:=by
 cases l with
 | nil => cases e
 | cons a l => cases l with
  | nil => exact h a
  | cons b l => cases e
theorem v2 {α:Type}{P:List α→Prop}(h:∀a b,P [a,b])(l:List α)(e:l.length=2):P l:=by
 cases l with
 | nil => cases e
 | cons a l => exact v1 (P:=fun l=>P (a::l)) (h a) l (Nat.succ.inj e)
theorem v3 {α:Type}{P:List α→Prop}(h:∀a b c,P [a,b,c])(l:List α)(e:l.length=3):P l:=by
 cases l with
 | nil => cases e
 | cons a l => exact v2 (P:=fun l=>P (a::l)) (h a) l (Nat.succ.inj e)
theorem O0 {a b:Nat}(o:a+(b+1) < 1000):(a+1)+b < 1000:=Nat.lt_of_not_le fun g=>lin [a,b] [(1, .T (.a (.w 0) (.a (.w 1) (.n 1))) (.n 1000)),(1, .L (.n 1000) (.a (.a (.w 0) (.n 1)) (.w 1)))] rfl (nt o) (nl g)
theorem O1 {a b:Nat}(o:a+(10*(b+1)) < 9900):(a+3)+(10*b) < 9900:=Nat.lt_of_not_le fun g=>lin [a,b] [(1, .T (.a (.w 0) (.m 10 (.a (.w 1) (.n 1)))) (.n 9900)),(1, .L (.n 9900) (.a (.a (.w 0) (.n 3)) (.m 10 (.w 1))))] rfl (nt o) (nl g)
theorem O4 {a b c:Nat}(o:a+c < 1000)(t:b≤c):a+b < 1000:=Nat.lt_of_not_le fun g=>lin [a,c,b] [(1, .T (.a (.w 0) (.w 1)) (.n 1000)),(1, .L (.w 2) (.w 1)),(1, .L (.n 1000) (.a (.w 0) (.w 2)))] rfl (nt o) (nl t) (nl g)
theorem O5 {a b c:Nat}(o:a+(10*c) < 9900)(t:b≤c):a+(10*b) < 9900:=Nat.lt_of_not_le fun g=>lin [a,c,b] [(1, .T (.a (.w 0) (.m 10 (.w 1))) (.n 9900)),(10, .L (.w 2) (.w 1)),(1, .L (.n 9900) (.a (.w 0) (.m 10 (.w 2))))] rfl (nt o) (nl t) (nl g)
theorem O6 {a b:Nat}(o:a < b)(t:b≤a):False:=Nat.lt_irrefl b (Nat.lt_of_le_of_lt t o)
theorem O7 {a b:Nat}(o:b < a):a≠b:=Ne.symm (Nat.ne_of_lt o)
theorem O9 {a b c:Nat}(o:b < c)(t:c≤a):a≠b:=Nat.ne_of_gt (Nat.lt_of_lt_of_le o t)
theorem O10 {a b:Nat}(o:a=b)(t:b≤2 ^ 24):a≤2 ^ 24:=Nat.le_of_not_lt fun g=>lin [a,b] [(1, .E (.w 0) (.w 1)),(1, .L (.w 1) (.n 16777216)),(1, .T (.n 16777216) (.w 0))] rfl (nq o) (nl t) (nt g)
theorem O11 {a b c d:Nat}(o:c=a)(t:d=b)(J:c=d):a=b:=o▸t▸Nat.add_right_cancel (congrFun (congrArg HAdd.hAdd J) c)
theorem O13 {a:Nat}(o:(a:Int) < 2 ^ 63):¬((a:Int)≥2 ^ 63):=(fun {a b}=>Int.not_le.mpr) o
theorem O14 {a b:Nat}(o:(b:Int) < 2 ^ 63)(t:a=b):(a:Int) < 2 ^ 63:=Int.not_le.mp fun g=>lin [b,a] [(1, .T (.w 0) (.n (2^63))),(1, .E (.w 1) (.w 0)),(1, .L (.n (2^63)) (.w 1))] rfl o (nq t) g
theorem O15 {a b c:Nat}(o:a≤b)(t:c+2≤2 ^ 24)(J:b≤c+1):a≤2 ^ 24:=Nat.le_of_not_lt fun g=>lin [a,b,c] [(1, .L (.w 0) (.w 1)),(1, .L (.a (.w 2) (.n 2)) (.n 16777216)),(1, .L (.w 1) (.a (.w 2) (.n 1))),(1, .T (.n 16777216) (.w 0))] rfl (nl o) (nl t) (nl J) (nt g)
theorem O18 {a:Nat}:a+1≠0:=Ne.symm (Nat.zero_ne_add_one a)
theorem O19 {a:Nat}:a≠a+1:=Nat.ne_add_one a
theorem O20 {a:Nat}(o:(a:Int) < 2 ^ 63):(a:Int) < 9223372036854775808:=Int.not_le.mp fun g=>lin [a] [(1, .T (.w 0) (.n (2^63))),(1, .L (.n 9223372036854775808) (.w 0))] rfl o g
theorem O22 {a b c:Nat}(o:a+(b+c)≤2 ^ 24):a+b≤2 ^ 24:=Nat.le_of_not_lt fun g=>lin [a,b,c] [(1, .L (.a (.w 0) (.a (.w 1) (.w 2))) (.n 16777216)),(1, .T (.n 16777216) (.a (.w 0) (.w 1))),(1, .L (.n 0) (.w 2))] rfl (nl o) (nt g) (Int.natCast_nonneg _)
theorem O23 {a b c:Nat}(o:a+(b+c)≤2 ^ 24):(a+b)+c≤2 ^ 24:=Nat.le_of_not_lt fun g=>lin [a,b,c] [(1, .L (.a (.w 0) (.a (.w 1) (.w 2))) (.n 16777216)),(1, .T (.n 16777216) (.a (.a (.w 0) (.w 1)) (.w 2)))] rfl (nl o) (nt g)
theorem O24 {a:Nat}(o:a≤2 ^ 24):0+a≤2 ^ 24:=Nat.le_of_not_lt fun g=>lin [a] [(1, .L (.w 0) (.n 16777216)),(1, .T (.n 16777216) (.a (.n 0) (.w 0)))] rfl (nl o) (nt g)
theorem O25 {a:Nat}(o:a≤64):¬(a>64):=(fun {a b}=>Nat.not_lt.mpr) o
theorem O26 {b:Nat}{a:Int}(o:(((-(b:Int)):Int)≤a)∧(a < (b:Int)))(t:a < 0):((0:Int)≤(a+(b:Int)))∧((a+(b:Int)) < (b:Int)):=⟨Int.not_lt.mp fun g=>lin [b,a] [(1, .L (.g (.w 0)) (.w 1)),(1, .T (.a (.w 1) (.w 0)) (.n 0))] rfl o.1 g,Int.not_le.mp fun g=>lin [a,b] [(1, .T (.w 0) (.n 0)),(1, .L (.w 1) (.a (.w 0) (.w 1)))] rfl t g⟩
theorem O27 {b:Nat}{a:Int}(o:(((-(b:Int)):Int)≤a)∧(a < (b:Int)))(t:¬(a < 0)):((0:Int)≤a)∧(a < (b:Int)):=⟨Int.not_lt.mp fun g=>lin [a] [(1, .L (.n 0) (.w 0)),(1, .T (.w 0) (.n 0))] rfl (Int.not_lt.mp t) g,Int.not_le.mp fun g=>lin [a,b] [(1, .T (.w 0) (.w 1)),(1, .L (.w 1) (.w 0))] rfl o.2 g⟩
theorem O28 {b c:Nat}{a:Int}(o:(((-(b:Int)):Int)≤a)∧(a < (b:Int)))(t:a < 0)(J:b=c):(Int.toNat (a+(b:Int))) < c:=Nat.lt_of_not_le fun g=>(Int.le_total 0 (a+((b:Nat):Int))).elim (fun O=>lin [a,b,c,(((Int.toNat (a+((b:Nat):Int))):Nat):Int)] [(1, .T (.w 0) (.n 0)),(1, .E (.w 1) (.w 2)),(1, .L (.w 2) (.w 3)),(1, .E (.w 3) (.a (.w 0) (.w 1)))] rfl t (nq J) (nl g) (Int.toNat_of_nonneg O)) (fun O=>lin [b,a,c,(((Int.toNat (a+((b:Nat):Int))):Nat):Int)] [(1, .L (.g (.w 0)) (.w 1)),(1, .T (.w 1) (.n 0)),(1, .E (.w 0) (.w 2)),(1, .L (.w 2) (.w 3)),(1, .E (.w 3) (.n 0))] rfl o.1 t (nq J) (nl g) (nq (Int.toNat_of_nonpos O)))
theorem O29 {b c:Nat}{a:Int}(o:(((-(c:Int)):Int)≤a)∧(a < (c:Int)))(t:c=b):Int.toNat a < b:=Nat.lt_of_not_le fun g=>(Int.le_total 0 a).elim (fun O=>lin [a,c,b,(((Int.toNat a):Nat):Int)] [(1, .T (.w 0) (.w 1)),(1, .E (.w 1) (.w 2)),(1, .L (.w 2) (.w 3)),(1, .E (.w 3) (.w 0))] rfl o.2 (nq t) (nl g) (Int.toNat_of_nonneg O)) (fun O=>lin [c,a,b,(((Int.toNat a):Nat):Int)] [(1, .L (.g (.w 0)) (.w 1)),(1, .T (.w 1) (.w 0)),(2, .E (.w 0) (.w 2)),(2, .L (.w 2) (.w 3)),(2, .E (.w 3) (.n 0))] rfl o.1 o.2 (nq t) (nl g) (nq (Int.toNat_of_nonpos O)))
theorem O30 {b:Nat}{a:Int}(o:(((-(b:Int)):Int)≤a)∧(a < (b:Int)))(t:b < 2 ^ 63):(((-(2 ^ 63)):Int)≤a)∧(a < 2 ^ 63):=⟨Int.not_lt.mp fun g=>lin [b,a] [(1, .L (.g (.w 0)) (.w 1)),(1, .T (.w 0) (.n 9223372036854775808)),(1, .T (.w 1) (.g (.n (2^63))))] rfl o.1 (nt t) g,Int.not_le.mp fun g=>lin [a,b] [(1, .T (.w 0) (.w 1)),(1, .T (.w 1) (.n 9223372036854775808)),(1, .L (.n (2^63)) (.w 0))] rfl o.2 (nt t) g⟩
theorem O31 {b:Nat}{a:Int}(o:(((-(b:Int)):Int)≤a)∧(a < (b:Int)))(t:a < 0):(Int.toNat (a+(b:Int))) < b:=Nat.lt_of_not_le fun g=>(Int.le_total 0 (a+((b:Nat):Int))).elim (fun O=>lin [a,b,(((Int.toNat (a+((b:Nat):Int))):Nat):Int)] [(1, .T (.w 0) (.n 0)),(1, .L (.w 1) (.w 2)),(1, .E (.w 2) (.a (.w 0) (.w 1)))] rfl t (nl g) (Int.toNat_of_nonneg O)) (fun O=>lin [b,a,(((Int.toNat (a+((b:Nat):Int))):Nat):Int)] [(1, .L (.g (.w 0)) (.w 1)),(1, .T (.w 1) (.n 0)),(1, .L (.w 0) (.w 2)),(1, .E (.w 2) (.n 0))] rfl o.1 t (nl g) (nq (Int.toNat_of_nonpos O)))
theorem O32 {b:Nat}{a:Int}(o:(((-(b:Int)):Int)≤a)∧(a < (b:Int))):Int.toNat a < b:=Nat.lt_of_not_le fun g=>(Int.le_total 0 a).elim (fun O=>lin [a,b,(((Int.toNat a):Nat):Int)] [(1, .T (.w 0) (.w 1)),(1, .L (.w 1) (.w 2)),(1, .E (.w 2) (.w 0))] rfl o.2 (nl g) (Int.toNat_of_nonneg O)) (fun O=>lin [b,a,(((Int.toNat a):Nat):Int)] [(1, .L (.g (.w 0)) (.w 1)),(1, .T (.w 1) (.w 0)),(2, .L (.w 0) (.w 2)),(2, .E (.w 2) (.n 0))] rfl o.1 o.2 (nl g) (nq (Int.toNat_of_nonpos O)))
theorem O33 {a b c d:Nat}(o:a≤d)(t:b≤c*d):a+b≤(c*d)+d:=Nat.le_of_not_lt fun g=>lin [a,d,b,(((c*d):Nat):Int)] [(1, .L (.w 0) (.w 1)),(1, .L (.w 2) (.w 3)),(1, .T (.a (.w 3) (.w 1)) (.a (.w 0) (.w 2)))] rfl (nl o) (nl t) (nt g)
theorem O34 {a b c d e:Nat}(o:(d*e)+(d*c)≤16777216)(t:a≤b*e)(J:b*c≤d*c)(h3:b*e≤d*e):a+(b*c)≤16777216:=Nat.le_of_not_lt fun g=>lin [(((d*e):Nat):Int),(((d*c):Nat):Int),a,(((b*e):Nat):Int),(((b*c):Nat):Int)] [(1, .L (.a (.w 0) (.w 1)) (.n 16777216)),(1, .L (.w 2) (.w 3)),(1, .L (.w 4) (.w 1)),(1, .L (.w 3) (.w 0)),(1, .T (.n 16777216) (.a (.w 2) (.w 4)))] rfl (nl o) (nl t) (nl J) (nl h3) (nt g)
theorem O35 {a:Nat}:((a:Int) - 0)=(a:Int):=Int.sub_zero ↑a
theorem O36 {a:Nat}(o:¬((0:Int) < (a:Int))):(0:Int)=(a:Int):=Int.le_antisymm (Int.not_lt.mp fun g=>lin [a] [(1, .T (.w 0) (.n 0)),(1, .L (.n 0) (.w 0))] rfl g (Int.natCast_nonneg _)) (Int.not_lt.mp fun g=>lin [a] [(1, .L (.w 0) (.n 0)),(1, .T (.n 0) (.w 0))] rfl (Int.not_lt.mp o) g)
theorem O37 {a:Nat}:((-(2 ^ 62)):Int)≤(a:Int):=Int.NonNeg.mk (a+Nat.succ 4611686018427387903)
theorem O41 {a b c:Nat}(o:a=b)(t:b+c≤16777216):a≤2 ^ 24:=Eq.ndrec (motive:=fun {b}=>b+c≤16777216→a≤2 ^ 24) (fun t=>Nat.le_of_add_right_le t) o t
theorem O42 {a b c d:Nat}(o:a=c)(t:b=d)(J:c+d≤16777216):a+b≤(2 ^ 24)+1:=Nat.le_of_not_lt fun g=>lin [a,c,b,d] [(1, .E (.w 0) (.w 1)),(1, .E (.w 2) (.w 3)),(1, .L (.a (.w 1) (.w 3)) (.n 16777216)),(1, .T (.a (.n 16777216) (.n 1)) (.a (.w 0) (.w 2)))] rfl (nq o) (nq t) (nl J) (nt g)
theorem O43 {a b c d:Nat}(o:a+b>2 ^ 24)(t:c+d≤16777216)(J:a=c)(h3:b=d):False:=lin [a,b,c,d] [(1, .T (.n 16777216) (.a (.w 0) (.w 1))),(1, .L (.a (.w 2) (.w 3)) (.n 16777216)),(1, .E (.w 0) (.w 2)),(1, .E (.w 1) (.w 3))] rfl (nt o) (nl t) (nq J) (nq h3)
theorem O44 {a b c d e:Nat}(o:a=d+((e - 1)*0))(t:e*c≤b*c)(J:d≤e*c):a≤b*c:=Eq.ndrec (motive:=fun {d}=>d≤e*c→a≤b*c) (fun J=>Nat.le_trans J t) o J
theorem O47 {a b:Nat}(o:b < a):a - (b+1) < a - b:=Nat.sub_succ_lt_self a b o
theorem O48 {a b:Nat}(o:a≤b)(t:¬(a < b)):a=b:=Nat.le_antisymm (Nat.le_of_not_lt fun g=>lin [a,b] [(1, .L (.w 0) (.w 1)),(1, .T (.w 1) (.w 0))] rfl (nl o) (nt g)) (Nat.le_of_not_lt fun g=>lin [b,a] [(1, .L (.w 0) (.w 1)),(1, .T (.w 1) (.w 0))] rfl (nl (Nat.le_of_not_lt t)) (nt g))
theorem O49 {b:Nat}{a:Int}(o:((0:Int)≤(a+(b:Int)))∧((a+(b:Int)) < (b:Int))):((Int.toNat (a+(b:Int))) < b)∧((((-(b:Int)):Int)≤a)∧(a < (b:Int))):=⟨Nat.lt_of_not_le fun g=>(Int.le_total 0 (a+((b:Nat):Int))).elim (fun O=>lin [a,b,(((Int.toNat (a+((b:Nat):Int))):Nat):Int)] [(1, .T (.a (.w 0) (.w 1)) (.w 1)),(1, .L (.w 1) (.w 2)),(1, .E (.w 2) (.a (.w 0) (.w 1)))] rfl o.2 (nl g) (Int.toNat_of_nonneg O)) (fun O=>lin [a,b,(((Int.toNat (a+((b:Nat):Int))):Nat):Int)] [(1, .L (.n 0) (.a (.w 0) (.w 1))),(1, .T (.a (.w 0) (.w 1)) (.w 1)),(1, .L (.w 1) (.w 2)),(1, .E (.w 2) (.n 0))] rfl o.1 o.2 (nl g) (nq (Int.toNat_of_nonpos O))),⟨Int.not_lt.mp fun g=>lin [a,b] [(1, .L (.n 0) (.a (.w 0) (.w 1))),(1, .T (.w 0) (.g (.w 1)))] rfl o.1 g,Int.not_le.mp fun g=>lin [a,b] [(1, .L (.n 0) (.a (.w 0) (.w 1))),(2, .T (.a (.w 0) (.w 1)) (.w 1)),(1, .L (.w 1) (.w 0))] rfl o.1 o.2 g⟩⟩
theorem O50 {b:Nat}{a:Int}(o:((0:Int)≤a)∧(a < (b:Int))):(Int.toNat a < b)∧((((-(b:Int)):Int)≤a)∧(a < (b:Int))):=⟨(Int.toNat_lt o.1).mpr o.2,Int.le_trans (Int.neg_nonpos_of_nonneg (Int.natCast_nonneg b)) o.1,o.2⟩
theorem O51 {a:Int}(o:(((-(2 ^ 63)):Int)≤a)∧(a < 2 ^ 63)):(¬(a < -(2 ^ 63)))∧(¬(a≥2 ^ 63)):=⟨fun g=>lin [a] [(1, .L (.g (.n (2^63))) (.w 0)),(1, .T (.w 0) (.g (.n (2^63))))] rfl o.1 g,fun g=>lin [a] [(1, .T (.w 0) (.n (2^63))),(1, .L (.n (2^63)) (.w 0))] rfl o.2 g⟩
theorem O53 {a:Int}(o:¬(a < 0)):(0:Int)≤a:=(fun {a b}=>Int.not_lt.mp) o
theorem O55 {a b:Nat}(o:b=a+1):a≠b:=Eq.symm o▸Nat.ne_add_one a
theorem O56 {a b c:Nat}(o:a < c)(t:b=c+1):a≠b:=fun g=>lin [a,c,b] [(1, .T (.w 0) (.w 1)),(-1, .E (.w 2) (.a (.w 1) (.n 1))),(-1, .E (.w 0) (.w 2))] rfl (nt o) (nq t) (nq g)
theorem O57 {a b:Nat}(o:a < b):a≠b:=Nat.ne_of_lt o
theorem O58 {a b c:Nat}(o:a=c+1)(t:b < c):a≠b:=Eq.symm o▸Nat.ne_of_gt (Nat.lt_succ_of_lt t)
theorem O59 {a b c:Nat}(o:a < b)(t:a=c)(J:c=b+1):False:=lin [a,b,c] [(1, .T (.w 0) (.w 1)),(-1, .E (.w 0) (.w 2)),(-1, .E (.w 2) (.a (.w 1) (.n 1)))] rfl (nt o) (nq t) (nq J)
theorem O60 {a b:Nat}(o:a < b)(t:a=b):False:=Eq.ndrec (motive:=fun {b}=>a < b→False)   (fun o=>Nat.lt_irrefl a (Nat.lt_of_le_of_lt (Nat.le_of_succ_le o) (Nat.lt_trans o o))) t o
theorem O61 {a:Nat}(o:a < a):False:=False.elim (Eq.mp (Nat.lt_irrefl._simp_1 a) o)
theorem O62 {a b:Nat}(o:b=a+1):a≤b:=Nat.le.intro (id (Eq.symm o))
theorem O63 {a b:Nat}(o:a≤b):a≤b+1:=Nat.le_add_right_of_le o
theorem O64 {a b c:Nat}(o:a≤b)(t:b < c)(J:c≤2 ^ 24):a≤2 ^ 24:=Nat.le_trans o (Nat.le_trans (Nat.le_of_lt t) (Nat.le_trans J (of_decide_eq_true (id (Eq.refl true)))))
theorem O65 {a b:Nat}(o:a=b)(t:b=a+1):False:=lin [a,b] [(-1, .E (.w 0) (.w 1)),(-1, .E (.w 1) (.a (.w 0) (.n 1)))] rfl (nq o) (nq t)
theorem O66 {a b:Nat}(o:a≤b):a+1≤b+1:=Nat.add_le_add_right o 1
theorem O67 {a:Nat}:(min 5 a)+(5 - a)=5:=(Nat.le_total 5 a).elim (fun h=>by exact sb (Nat.min_eq_left h) (sb (Nat.sub_eq_zero_of_le h) rfl)) fun h=>by exact sb (Nat.min_eq_right h) (sb (Nat.add_sub_cancel' h) rfl)
theorem O68 {a:Nat}(o:¬((63:Int) < (a:Int))):a≤63:=Nat.le_of_not_lt fun g=>lin [a] [(1, .L (.w 0) (.n 63)),(1, .T (.n 63) (.w 0))] rfl (Int.not_lt.mp o) (nt g)
theorem O69 {a:Nat}:¬((a:Int) < 0):=Int.not_ofNat_neg a
theorem O70 {a:Nat}:(0:Int)≤(a:Int):=Int.natCast_nonneg a
theorem O71 {a b c:Nat}(o:a≤c)(t:b=c):(a:Int)≤(b:Int):=Nat.ToInt.of_le rfl (congrArg NatCast.natCast (id (Eq.symm t))) o
theorem O72 {a:Nat}:(Int.toNat (a:Int))=a:=Int.toNat_natCast a
theorem O73 {a b:Nat}:a - b≤(Int.toNat ((a:Int) - (b:Int))):=Nat.le_of_eq (Int.toNat_sub a b).symm
theorem O74 {a:Nat}(o:(1:Nat)≤a):((-(a:Int)):Int)≤-1:=Int.not_lt.mp fun g=>lin [a] [(1, .L (.n 1) (.w 0)),(1, .T (.g (.n 1)) (.g (.w 0)))] rfl (nl o) g
theorem O75 {a:Nat}:(Int.toNat (((-1)+(a:Int)) - 0))=a - 1:=by exact sb (Int.sub_zero ..) (sb (Int.add_comm ..) (Int.toNat_sub a 1))
theorem O76 {a:Nat}(o:a < 0):False:=Nat.not_succ_le_zero a o
theorem O77 {a b:Nat}(o:a+1 < b+1):a < b:=Nat.lt_of_not_le fun g=>lin [a,b] [(1, .T (.a (.w 0) (.n 1)) (.a (.w 1) (.n 1))),(1, .L (.w 1) (.w 0))] rfl (nt o) (nl g)
theorem O78 {a:Nat}(o:a+1≤0):False:=Nat.not_succ_le_zero a o
theorem O83 {a b c:Nat}(o:(a≤b)∧(b < a+((c+1) - a))):a≤b:=Nat.le_of_not_lt fun g=>lin [a,b] [(1, .L (.w 0) (.w 1)),(1, .T (.w 1) (.w 0))] rfl (nl o.1) (nt g)
theorem O84 {a b c d:Nat}(o:a≤b)(t:b+d≤c):(a≤b)∧(b < a+((c+1) - a)):=⟨Nat.le_of_not_lt fun g=>lin [a,b] [(1, .L (.w 0) (.w 1)),(1, .T (.w 1) (.w 0))] rfl (nl o) (nt g),Nat.lt_of_not_le fun g=>(Nat.le_total a (c+1)).elim (fun O=>lin [b,d,c,a,((((c+1) - a):Nat):Int)] [(1, .L (.a (.w 0) (.w 1)) (.w 2)),(1, .L (.a (.w 3) (.w 4)) (.w 0)),(-1, .E (.a (.w 4) (.w 3)) (.a (.w 2) (.n 1))),(1, .L (.n 0) (.w 1))] rfl (nl t) (nl g) (nq (Nat.sub_add_cancel O)) (Int.natCast_nonneg _)) (fun O=>lin [a,b,d,c] [(1, .L (.w 0) (.w 1)),(1, .L (.a (.w 1) (.w 2)) (.w 3)),(1, .L (.a (.w 3) (.n 1)) (.w 0)),(1, .L (.n 0) (.w 2))] rfl (nl o) (nl t) (nl O) (Int.natCast_nonneg _))⟩
theorem O85 {a b:Nat}:¬(((a+b:Nat):Int) < 0):=Int.not_ofNat_neg (a+b)
theorem O86 {a b:Nat}:(Int.toNat (max 0 ((a+b:Nat):Int)))=a+b:=by refine sb (Int.max_eq_right (Int.natCast_nonneg _)) ?_; rfl
theorem O87 {a b c:Nat}(o:b < c):a+b < a+c:=Nat.add_lt_add_left o a
theorem O88 {a b c:Nat}(o:b≤c):a+b≤a+c:=Nat.le_of_not_lt fun g=>lin [b,c,a] [(1, .L (.w 0) (.w 1)),(1, .T (.a (.w 2) (.w 1)) (.a (.w 2) (.w 0)))] rfl (nl o) (nt g)
theorem O89 {a b c:Nat}(o:b+c≤a):a=b+(a - b):=(Nat.add_sub_cancel' (Nat.le_trans (Nat.le_add_right b c) o)).symm
theorem O91 {a b c:Nat}(o:c+a≤c+b):a≤b:=Nat.le_of_not_lt fun g=>lin [c,a,b] [(1, .L (.a (.w 0) (.w 1)) (.a (.w 0) (.w 2))),(1, .T (.w 2) (.w 1))] rfl (nl o) (nt g)
theorem O92 {a b c:Nat}(o:a < b)(t:b≤0+c)(J:c≤a):False:=lin [a,b,c] [(1, .T (.w 0) (.w 1)),(1, .L (.w 1) (.a (.n 0) (.w 2))),(1, .L (.w 2) (.w 0))] rfl (nt o) (nl t) (nl J)
theorem O93 {a b c:Nat}(o:a < b)(t:c≤a)(J:c≥b):False:=lin [a,b,c] [(1, .T (.w 0) (.w 1)),(1, .L (.w 2) (.w 0)),(1, .L (.w 1) (.w 2))] rfl (nt o) (nl t) (nl J)
theorem O94 {a b c:Nat}(o:a≤(b+1)+c):a≤b+(c+1):=Nat.le_of_not_lt fun g=>lin [a,b,c] [(1, .L (.w 0) (.a (.a (.w 1) (.n 1)) (.w 2))),(1, .T (.a (.w 1) (.a (.w 2) (.n 1))) (.w 0))] rfl (nl o) (nt g)
theorem O95 {a b:Nat}:a≤a+b:=Nat.le_add_right a b
theorem O96 {a b c d:Nat}(o:b < min (c - a) (d - a)):a+b < c:=Nat.add_lt_of_lt_sub' (Nat.lt_of_lt_of_le o (Nat.min_le_left _ _))
theorem O97 {a b c d:Nat}(o:b < min (d - a) (c - a)):a+b < c:=Nat.add_lt_of_lt_sub' (Nat.lt_of_lt_of_le o (Nat.min_le_right _ _))
theorem O99 {a b:Nat}(o:a+1≤0+b)(t:b≤a):False:=lin [a,b] [(1, .L (.a (.w 0) (.n 1)) (.a (.n 0) (.w 1))),(1, .L (.w 1) (.w 0))] rfl (nl o) (nl t)
theorem O100 {a b:Nat}:a≤((a+1) - b)+b:=Nat.le_of_not_lt fun g=>(Nat.le_total b (a+1)).elim (fun O=>lin [((((a+1) - b):Nat):Int),b,a] [(1, .T (.a (.w 0) (.w 1)) (.w 2)),(-1, .E (.a (.w 0) (.w 1)) (.a (.w 2) (.n 1)))] rfl (nt g) (nq (Nat.sub_add_cancel O))) (fun O=>lin [((((a+1) - b):Nat):Int),b,a] [(1, .T (.a (.w 0) (.w 1)) (.w 2)),(-1, .E (.w 0) (.n 0)),(1, .L (.a (.w 2) (.n 1)) (.w 1))] rfl (nt g) (nq (Nat.sub_eq_zero_of_le O)) (nl O))
theorem O104 {a b c d:Nat}(o:a+1≤(b+1)+d)(t:d≤c):a+1≤b+(c+1):=Nat.le_of_not_lt fun g=>lin [a,b,d,c] [(1, .L (.a (.w 0) (.n 1)) (.a (.a (.w 1) (.n 1)) (.w 2))),(1, .L (.w 2) (.w 3)),(1, .T (.a (.w 1) (.a (.w 3) (.n 1))) (.a (.w 0) (.n 1)))] rfl (nl o) (nl t) (nt g)
theorem O105 {a:Nat}:(a+1) - a=1:=Nat.add_sub_self_left a 1
theorem O108 {a b c:Nat}:((a+1)+b)+1≤a+((b+(c+1))+1):=Nat.le_of_not_lt fun g=>lin [a,b,c] [(1, .T (.a (.w 0) (.a (.a (.w 1) (.a (.w 2) (.n 1))) (.n 1))) (.a (.a (.a (.w 0) (.n 1)) (.w 1)) (.n 1))),(1, .L (.n 0) (.w 2))] rfl (nt g) (Int.natCast_nonneg _)
theorem O109 {a b:Nat}:a≤(a+1)+b:=Nat.le_of_not_lt fun g=>lin [a,b] [(1, .T (.a (.a (.w 0) (.n 1)) (.w 1)) (.w 0)),(1, .L (.n 0) (.w 1))] rfl (nt g) (Int.natCast_nonneg _)
theorem O110 {a b:Nat}:((a+1)+b) - a=b+1:=by exact sb (Nat.add_assoc ..) (sb (Nat.add_sub_cancel_left ..) (sb (Nat.add_comm ..) rfl))
theorem O113 {a b c d:Nat}(o:((a+1)+d)+1≤c)(t:b≤d):(a+1)+b≤c:=Nat.le_of_not_lt fun g=>lin [a,d,c,b] [(1, .L (.a (.a (.a (.w 0) (.n 1)) (.w 1)) (.n 1)) (.w 2)),(1, .L (.w 3) (.w 1)),(1, .T (.w 2) (.a (.a (.w 0) (.n 1)) (.w 3)))] rfl (nl o) (nl t) (nt g)
theorem O114 {a b c:Nat}:((a+1)+b) - ((a+1)+c)=b - c:=Nat.add_sub_add_left (a+1) b c
theorem O115 {a b c:Nat}:((a+1)+b)+c=(a+1)+(b+c):=Nat.add_assoc (a+1) b c
theorem O116 {a b c d:Nat}(o:b < d - a)(t:d≤c):a+b≤c:=Nat.le_of_not_lt fun g=>(Nat.le_total a d).elim (fun O=>lin [b,(((d - a):Nat):Int),d,c,a] [(1, .T (.w 0) (.w 1)),(1, .L (.w 2) (.w 3)),(1, .T (.w 3) (.a (.w 4) (.w 0))),(1, .E (.a (.w 1) (.w 4)) (.w 2))] rfl (nt o) (nl t) (nt g) (nq (Nat.sub_add_cancel O))) (fun O=>lin [b,(((d - a):Nat):Int)] [(1, .T (.w 0) (.w 1)),(1, .E (.w 1) (.n 0)),(1, .L (.n 0) (.w 0))] rfl (nt o) (nq (Nat.sub_eq_zero_of_le O)) (Int.natCast_nonneg _))
theorem O117 {a b c d:Nat}(o:b < d - a)(t:d≤c):a+b < c:=Nat.lt_of_not_le fun g=>(Nat.le_total a d).elim (fun O=>lin [b,(((d - a):Nat):Int),d,c,a] [(1, .T (.w 0) (.w 1)),(1, .L (.w 2) (.w 3)),(1, .L (.w 3) (.a (.w 4) (.w 0))),(1, .E (.a (.w 1) (.w 4)) (.w 2))] rfl (nt o) (nl t) (nl g) (nq (Nat.sub_add_cancel O))) (fun O=>lin [b,(((d - a):Nat):Int)] [(1, .T (.w 0) (.w 1)),(1, .E (.w 1) (.n 0)),(1, .L (.n 0) (.w 0))] rfl (nt o) (nq (Nat.sub_eq_zero_of_le O)) (Int.natCast_nonneg _))
theorem O120 {a:Int}(o:((0:Int) < a)∧(a < 2 ^ 20)):(((-9223372036854775808):Int)≤a)∧(a < 9223372036854775808):=⟨Int.not_lt.mp fun g=>lin [a] [(1, .T (.n 0) (.w 0)),(1, .T (.w 0) (.g (.n 9223372036854775808)))] rfl o.1 g,Int.not_le.mp fun g=>lin [a] [(1, .T (.w 0) (.n (2^20))),(1, .L (.n 9223372036854775808) (.w 0))] rfl o.2 g⟩
theorem O121 {a:Int}(o:((0:Int) < a)∧(a < 2 ^ 20)):¬(a < 0):=fun g=>lin [a] [(1, .T (.n 0) (.w 0)),(1, .T (.w 0) (.n 0))] rfl o.1 g
theorem O122 {a:Int}(o:((0:Int) < a)∧(a < 2 ^ 20)):¬(a=9223372036854775807):=fun g=>lin [a] [(1, .T (.w 0) (.n (2^20))),(-1, .E (.w 0) (.n 9223372036854775807))] rfl o.2 g
theorem O123 {a:Int}(o:((0:Int) < a)∧(a < 2 ^ 20)):a>0:=Int.not_le.mp fun g=>lin [a] [(1, .T (.n 0) (.w 0)),(1, .L (.w 0) (.n 0))] rfl o.1 g
theorem O124 {a b:Nat}(o:a < b+1)(t:¬(b=a)):a < b:=Nat.lt_of_not_le fun g=>(Nat.lt_or_gt_of_ne t).elim (fun O=>lin [a,b] [(1, .T (.w 0) (.a (.w 1) (.n 1))),(1, .T (.w 1) (.w 0))] rfl (nt o) (nt O)) (fun O=>lin [b,a] [(1, .L (.w 0) (.w 1)),(1, .T (.w 1) (.w 0))] rfl (nl g) (nt O))
theorem O127 {a b:Nat}:(a+1)+b=a+(b+1):=Nat.succ_add_eq_add_succ a b
theorem O128 {a b:Nat}(o:b≤100):min a b≤100:=Nat.le_of_not_lt fun g=>(Nat.le_total a b).elim (fun O=>lin [b,(((min a b):Nat):Int),a] [(1, .L (.w 0) (.n 100)),(1, .T (.n 100) (.w 1)),(1, .E (.w 1) (.w 2)),(1, .L (.w 2) (.w 0))] rfl (nl o) (nt g) (nq (Nat.min_eq_left O)) (nl O)) (fun O=>lin [b,(((min a b):Nat):Int)] [(1, .L (.w 0) (.n 100)),(1, .T (.n 100) (.w 1)),(1, .E (.w 1) (.w 0))] rfl (nl o) (nt g) (nq (Nat.min_eq_right O)))
theorem O129 {a:Nat}(o:a≤100):a≤2 ^ 24:=Nat.le_trans o (Nat.le_of_ble_eq_true rfl)
theorem O131 {a b c:Nat}(o:(b=4)∨((b=5)∨(b=6)))(t:a=c)(J:c=2*b):a≤1099511627776:=Nat.le_of_not_lt fun g=>lin [b,a,c] [(2, .L (.w 0) (.n 6)),(1, .E (.w 1) (.w 2)),(1, .E (.w 2) (.m 2 (.w 0))),(1, .T (.n 1099511627776) (.w 1))] rfl (nl (d456 o).2) (nq t) (nq J) (nt g)
theorem O132 {a b c:Nat}(o:(b=4)∨((b=5)∨(b=6)))(t:a=c)(J:c=2*b):(0:Int) < (a:Int):=Int.not_le.mp fun g=>lin [b,a,c] [(2, .L (.n 4) (.w 0)),(-1, .E (.w 1) (.w 2)),(-1, .E (.w 2) (.m 2 (.w 0))),(1, .L (.w 1) (.n 0))] rfl (nl (d456 o).1) (nq t) (nq J) g
theorem O133 {a b c:Nat}(o:(b=4)∨((b=5)∨(b=6)))(t:a=c)(J:c=2*b):(a:Int) < 2 ^ 20:=Int.not_le.mp fun g=>lin [b,a,c] [(2, .L (.w 0) (.n 6)),(1, .E (.w 1) (.w 2)),(1, .E (.w 2) (.m 2 (.w 0))),(1, .L (.n (2^20)) (.w 1))] rfl (nl (d456 o).2) (nq t) (nq J) g
theorem O134 {a b:Nat}(o:(b=4)∨((b=5)∨(b=6)))(t:a=2*b):a≤16777216:=Nat.le_of_not_lt fun g=>lin [b,a] [(2, .L (.w 0) (.n 6)),(1, .E (.w 1) (.m 2 (.w 0))),(1, .T (.n 16777216) (.w 1))] rfl (nl (d456 o).2) (nq t) (nt g)
theorem O135 {a:Nat}(o:(a=4)∨((a=5)∨(a=6))):(a:Int)≠0:=fun g=>lin [a] [(1, .L (.n 4) (.w 0)),(1, .E (.w 0) (.n 0))] rfl (nl (d456 o).1) g
theorem O136 {a:Nat}(o:(a=4)∨((a=5)∨(a=6))):a < 2 ^ 62:=Nat.lt_of_not_le fun g=>lin [a] [(1, .L (.w 0) (.n 6)),(1, .L (.n 4611686018427387904) (.w 0))] rfl (nl (d456 o).2) (nl g)
theorem O137 {a b:Nat}(o:(a*b)+(1*b)≤2*b):(a*b)+b≤2*b:=Nat.le_of_not_lt fun g=>lin [(((a*b):Nat):Int),b] [(1, .L (.a (.w 0) (.m 1 (.w 1))) (.m 2 (.w 1))),(1, .T (.m 2 (.w 1)) (.a (.w 0) (.w 1)))] rfl (nl o) (nt g)
theorem O138 {a:Nat}:(0+((a:Int)*1))=(a:Int):=Int.le_antisymm (Int.not_lt.mp fun g=>lin [a] [(1, .T (.w 0) (.a (.n 0) (.r (.w 0) 1)))] rfl g) (Int.not_lt.mp fun g=>lin [a] [(1, .T (.a (.n 0) (.r (.w 0) 1)) (.w 0))] rfl g)
theorem O139 {a b:Nat}(o:(b=4)∨((b=5)∨(b=6)))(t:a=2*b):a≤1099511627776:=Nat.le_of_not_lt fun g=>lin [b,a] [(2, .L (.w 0) (.n 6)),(1, .E (.w 1) (.m 2 (.w 0))),(1, .T (.n 1099511627776) (.w 1))] rfl (nl (d456 o).2) (nq t) (nt g)
theorem O140 {a b c:Nat}:(0:Int)≤(((a*b:Nat):Int)+(c:Int)):=Int.zero_le_ofNat (a*b+c)
theorem O141 {a b c d:Nat}(o:(a*b)+b≤2*b)(t:c < b)(J:d=2*b):(((a*b:Nat):Int)+(c:Int)) < (d:Int):=Int.not_le.mp fun g=>lin [(((a*b):Nat):Int),b,c,d] [(1, .L (.a (.w 0) (.w 1)) (.m 2 (.w 1))),(1, .T (.w 2) (.w 1)),(-1, .E (.w 3) (.m 2 (.w 1))),(1, .L (.w 3) (.a (.w 0) (.w 2)))] rfl (nl o) (nt t) (nq J) g
theorem O142 {a b c:Nat}(o:(a*b)+b≤2*b)(t:(b=4)∨((b=5)∨(b=6)))(J:c < b):(((-(2 ^ 63)):Int)≤(((((a*b:Nat):Int)+(b:Int)) - 1) - (c:Int)))∧((((((a*b:Nat):Int)+(b:Int)) - 1) - (c:Int)) < 2 ^ 63):=⟨Int.not_lt.mp fun g=>lin [c,b,(((a*b):Nat):Int)] [(1, .T (.w 0) (.w 1)),(1, .T (.s (.s (.a (.w 2) (.w 1)) (.n 1)) (.w 0)) (.g (.n (2^63)))),(1, .L (.n 0) (.w 2))] rfl (nt J) g (Int.natCast_nonneg _),Int.not_le.mp fun g=>lin [(((a*b):Nat):Int),b,c] [(1, .L (.a (.w 0) (.w 1)) (.m 2 (.w 1))),(2, .L (.w 1) (.n 6)),(1, .L (.n (2^63)) (.s (.s (.a (.w 0) (.w 1)) (.n 1)) (.w 2))),(1, .L (.n 0) (.w 2))] rfl (nl o) (nl (d456 t).2) g (Int.natCast_nonneg _)⟩
theorem O143 {a b c:Nat}(o:c < b):(((((a*b:Nat):Int)+(b:Int)) - 1) - (c:Int))=(((((a*b)+b) - 1) - c:Nat):Int):=Int.le_antisymm (Int.not_lt.mp fun g=>(Nat.le_total c (((a*b)+b) - 1)).elim (fun O=>(Nat.le_total 1 ((a*b)+b)).elim (fun q2=>lin [((((((a*b)+b) - 1) - c):Nat):Int),(((a*b):Nat):Int),b,c,(((((a*b)+b) - 1):Nat):Int)] [(1, .T (.w 0) (.s (.s (.a (.w 1) (.w 2)) (.n 1)) (.w 3))),(-1, .E (.a (.w 0) (.w 3)) (.w 4)),(-1, .E (.a (.w 4) (.n 1)) (.a (.w 1) (.w 2)))] rfl g (nq (Nat.sub_add_cancel O)) (nq (Nat.sub_add_cancel q2))) (fun q2=>lin [((((((a*b)+b) - 1) - c):Nat):Int),(((a*b):Nat):Int),b,c] [(1, .T (.w 0) (.s (.s (.a (.w 1) (.w 2)) (.n 1)) (.w 3))),(1, .L (.a (.w 1) (.w 2)) (.n 1)),(1, .L (.n 0) (.w 3)),(1, .L (.n 0) (.w 0))] rfl g (nl q2) (Int.natCast_nonneg _) (Int.natCast_nonneg _))) (fun O=>(Nat.le_total 1 ((a*b)+b)).elim (fun q3=>lin [((((((a*b)+b) - 1) - c):Nat):Int),(((a*b):Nat):Int),b,c,(((((a*b)+b) - 1):Nat):Int)] [(1, .T (.w 0) (.s (.s (.a (.w 1) (.w 2)) (.n 1)) (.w 3))),(-1, .E (.w 0) (.n 0)),(1, .L (.w 4) (.w 3)),(-1, .E (.a (.w 4) (.n 1)) (.a (.w 1) (.w 2)))] rfl g (nq (Nat.sub_eq_zero_of_le O)) (nl O) (nq (Nat.sub_add_cancel q3))) (fun q3=>lin [((((((a*b)+b) - 1) - c):Nat):Int),(((a*b):Nat):Int),b,c] [(1, .T (.w 0) (.s (.s (.a (.w 1) (.w 2)) (.n 1)) (.w 3))),(-1, .E (.w 0) (.n 0)),(1, .L (.a (.w 1) (.w 2)) (.n 1)),(1, .L (.n 0) (.w 3))] rfl g (nq (Nat.sub_eq_zero_of_le O)) (nl q3) (Int.natCast_nonneg _)))) (Int.not_lt.mp fun g=>(Nat.le_total c (((a*b)+b) - 1)).elim (fun q4=>(Nat.le_total 1 ((a*b)+b)).elim (fun q5=>lin [(((a*b):Nat):Int),b,c,((((((a*b)+b) - 1) - c):Nat):Int),(((((a*b)+b) - 1):Nat):Int)] [(1, .T (.s (.s (.a (.w 0) (.w 1)) (.n 1)) (.w 2)) (.w 3)),(1, .E (.a (.w 3) (.w 2)) (.w 4)),(1, .E (.a (.w 4) (.n 1)) (.a (.w 0) (.w 1)))] rfl g (nq (Nat.sub_add_cancel q4)) (nq (Nat.sub_add_cancel q5))) (fun q5=>lin [c,b,(((a*b):Nat):Int),((((((a*b)+b) - 1) - c):Nat):Int),(((((a*b)+b) - 1):Nat):Int)] [(1, .T (.w 0) (.w 1)),(1, .T (.s (.s (.a (.w 2) (.w 1)) (.n 1)) (.w 0)) (.w 3)),(1, .E (.a (.w 3) (.w 0)) (.w 4)),(1, .E (.w 4) (.n 0)),(1, .L (.n 0) (.w 0)),(1, .L (.n 0) (.w 2))] rfl (nt o) g (nq (Nat.sub_add_cancel q4)) (nq (Nat.sub_eq_zero_of_le q5)) (Int.natCast_nonneg _) (Int.natCast_nonneg _))) (fun q4=>lin [c,b,(((a*b):Nat):Int),((((((a*b)+b) - 1) - c):Nat):Int)] [(1, .T (.w 0) (.w 1)),(1, .T (.s (.s (.a (.w 2) (.w 1)) (.n 1)) (.w 0)) (.w 3)),(1, .E (.w 3) (.n 0)),(1, .L (.n 0) (.w 2))] rfl (nt o) g (nq (Nat.sub_eq_zero_of_le q4)) (Int.natCast_nonneg _)))
theorem O144 {a b c d:Nat}(o:(((((a*b:Nat):Int)+(b:Int)) - 1) - (c:Int))=(((((a*b)+b) - 1) - c:Nat):Int))(t:(a*b)+b≤2*b)(J:d=2*b):(((a*b)+b) - 1) - c < d:=Nat.lt_of_not_le fun g=>lin [(((a*b):Nat):Int),b,c,((((((a*b)+b) - 1) - c):Nat):Int),d] [(-1, .E (.s (.s (.a (.w 0) (.w 1)) (.n 1)) (.w 2)) (.w 3)),(1, .L (.a (.w 0) (.w 1)) (.m 2 (.w 1))),(-1, .E (.w 4) (.m 2 (.w 1))),(1, .L (.w 4) (.w 3)),(1, .L (.n 0) (.w 2))] rfl o (nl t) (nq J) (nl g) (Int.natCast_nonneg _)
theorem O145 {a b:Nat}(o:a < b):(a:Int) < (b:Int):=Int.not_le.mp fun g=>lin [a,b] [(1, .T (.w 0) (.w 1)),(1, .L (.w 1) (.w 0))] rfl (nt o) g
theorem O146 {a:Nat}(o:a < 2 ^ 8):((0:Int)≤(a:Int))∧((a:Int) < 256):=⟨Int.natCast_nonneg a,(fun {m} {n}=>Int.lt_toNat.mp) o⟩
theorem O147 {a b:Nat}(o:(b=4)∨((b=5)∨(b=6)))(t:a=2*b):a≤2 ^ 24:=Nat.le_of_not_lt fun g=>lin [b,a] [(2, .L (.w 0) (.n 6)),(1, .E (.w 1) (.m 2 (.w 0))),(1, .T (.n 16777216) (.w 1))] rfl (nl (d456 o).2) (nq t) (nt g)
theorem O153 {a:Int}(o:((0:Int)≤a)∧(a < 16)):(((-(16:Int)):Int)≤a)∧(a < (16:Int)):=⟨Int.not_lt.mp fun g=>lin [a] [(1, .L (.n 0) (.w 0)),(1, .T (.w 0) (.g (.n 16)))] rfl o.1 g,Int.not_le.mp fun g=>lin [a] [(1, .T (.w 0) (.n 16)),(1, .L (.n 16) (.w 0))] rfl o.2 g⟩
theorem O154 {a:Int}(o:(a=2)∨((a=1)∨(a=0))):((0:Int)≤a)∧(a≤2):=by rcases o with rfl | rfl | rfl <;>decide
theorem O155 {a:Int}(o:((0:Int)≤a)∧(a≤2)):(0:Int)≤9+a:=Int.not_lt.mp fun g=>lin [a] [(1, .L (.n 0) (.w 0)),(1, .T (.a (.n 9) (.w 0)) (.n 0))] rfl o.1 g
theorem O156 {a:Int}(o:((0:Int)≤a)∧(a < 8)):((0:Int)≤a / 4)∧(a / 4 < 2):=by lia
theorem O157 {a:Int}(o:((0:Int)≤a)∧(a < 2)):((-(2:Int)):Int)≤a:=Int.not_lt.mp fun g=>lin [a] [(1, .L (.n 0) (.w 0)),(1, .T (.w 0) (.g (.n 2)))] rfl o.1 g
theorem O158 {a:Int}(o:((0:Int)≤a)∧(a < 2)):a < (2:Int):=Int.not_le.mp fun g=>lin [a] [(1, .T (.w 0) (.n 2)),(1, .L (.n 2) (.w 0))] rfl o.2 g
theorem O159 {a b:Int}(o:((0:Int)≤a)∧(a < 2))(t:((0:Int)≤b)∧(b < 2)):(((-(4:Int)):Int)≤a+(2*b))∧(a+(2*b) < (4:Int)):=⟨Int.not_lt.mp fun g=>lin [a,b] [(1, .L (.n 0) (.w 0)),(2, .L (.n 0) (.w 1)),(1, .T (.a (.w 0) (.m 2 (.w 1))) (.g (.n 4)))] rfl o.1 t.1 g,Int.not_le.mp fun g=>lin [a,b] [(1, .T (.w 0) (.n 2)),(2, .T (.w 1) (.n 2)),(1, .L (.n 4) (.a (.w 0) (.m 2 (.w 1))))] rfl o.2 t.2 g⟩
theorem O160 {a:Nat}(o:a≤10):a+((1+1)+1)≤2 ^ 24:=Nat.le_of_not_lt fun g=>lin [a] [(1, .L (.w 0) (.n 10)),(1, .T (.n 16777216) (.a (.w 0) (.a (.a (.n 1) (.n 1)) (.n 1))))] rfl (nl o) (nt g)
theorem O161 {a:Nat}(o:a≤100):a+2≤2 ^ 24:=Nat.le_of_not_lt fun g=>lin [a] [(1, .L (.w 0) (.n 100)),(1, .T (.n 16777216) (.a (.w 0) (.n 2)))] rfl (nl o) (nt g)
theorem O162 {a b c:Nat}(o:b+a≤c+1)(t:c≤100):a≤101:=Nat.le_of_not_lt fun g=>lin [b,a,c] [(1, .L (.a (.w 0) (.w 1)) (.a (.w 2) (.n 1))),(1, .L (.w 2) (.n 100)),(1, .T (.n 101) (.w 1)),(1, .L (.n 0) (.w 0))] rfl (nl o) (nl t) (nt g) (Int.natCast_nonneg _)
theorem O164 {a:Nat}(o:(1:Nat)≤a):(((-(a:Int)):Int)≤0)∧((0:Int) < (a:Int)):=⟨Int.not_lt.mp fun g=>lin [a] [(1, .L (.n 1) (.w 0)),(1, .T (.n 0) (.g (.w 0)))] rfl (nl o) g,Int.not_le.mp fun g=>lin [a] [(1, .L (.n 1) (.w 0)),(1, .L (.w 0) (.n 0))] rfl (nl o) g⟩
theorem O165 {a b:Nat}(o:a≤b)(t:b≤100):a < 2 ^ 63:=Nat.lt_of_le_of_lt o (Nat.lt_of_le_of_lt t (of_decide_eq_true (id (Eq.refl true))))
theorem O166 {a:Nat}(o:(1:Nat)≤a):(((-(a:Int)):Int)≤-1)∧(((-1):Int) < (a:Int)):=⟨Int.not_lt.mp fun g=>lin [a] [(1, .L (.n 1) (.w 0)),(1, .T (.g (.n 1)) (.g (.w 0)))] rfl (nl o) g,Int.not_le.mp fun g=>lin [a] [(1, .L (.n 1) (.w 0)),(1, .L (.w 0) (.g (.n 1)))] rfl (nl o) g⟩
theorem O167 {a:Int}(o:((0:Int)≤a)∧(a < 5)):((-(5:Int)):Int)≤a:=Int.not_lt.mp fun g=>lin [a] [(1, .L (.n 0) (.w 0)),(1, .T (.w 0) (.g (.n 5)))] rfl o.1 g
theorem O168 {a:Int}(o:((0:Int)≤a)∧(a < 5)):a < (5:Int):=Int.not_le.mp fun g=>lin [a] [(1, .T (.w 0) (.n 5)),(1, .L (.n 5) (.w 0))] rfl o.2 g
theorem O169 {a:Int}(o:((0:Int)≤a)∧(a < 3)):((-(3:Int)):Int)≤a:=Int.not_lt.mp fun g=>lin [a] [(1, .L (.n 0) (.w 0)),(1, .T (.w 0) (.g (.n 3)))] rfl o.1 g
theorem O170 {a:Int}(o:((0:Int)≤a)∧(a < 3)):a < (3:Int):=Int.not_le.mp fun g=>lin [a] [(1, .T (.w 0) (.n 3)),(1, .L (.n 3) (.w 0))] rfl o.2 g
theorem O171 {a:Nat}(o:a≤8):(a:Int) < 2 ^ 63:=Int.ofNat_lt.mpr (Nat.lt_of_le_of_lt o (of_decide_eq_true (id (Eq.refl true))))
theorem O172 {a:Nat}{b:Int}(o:(b=0)∧((a:Int)=1)):a=1:=Nat.le_antisymm (Nat.le_of_not_lt fun g=>lin [a] [(1, .E (.w 0) (.n 1)),(1, .T (.n 1) (.w 0))] rfl o.2 (nt g)) (Nat.le_of_not_lt fun g=>lin [a] [(-1, .E (.w 0) (.n 1)),(1, .T (.w 0) (.n 1))] rfl o.2 (nt g))
theorem O173 {a:Nat}(o:a=1):(((-(a:Int)):Int)≤0)∧((0:Int) < (a:Int)):=⟨Int.not_lt.mp fun g=>lin [a] [(-1, .E (.w 0) (.n 1)),(1, .T (.n 0) (.g (.w 0)))] rfl (nq o) g,Int.not_le.mp fun g=>lin [a] [(-1, .E (.w 0) (.n 1)),(1, .L (.w 0) (.n 0))] rfl (nq o) g⟩
theorem O177 {a:Int}(o:((0:Int)≤a)∧(a < 10)):(((-(10:Int)):Int)≤a)∧(a < (10:Int)):=⟨Int.not_lt.mp fun g=>lin [a] [(1, .L (.n 0) (.w 0)),(1, .T (.w 0) (.g (.n 10)))] rfl o.1 g,Int.not_le.mp fun g=>lin [a] [(1, .T (.w 0) (.n 10)),(1, .L (.n 10) (.w 0))] rfl o.2 g⟩
theorem O185 {a b:Nat}(o:a=1)(t:b≤1000):a+b≤2 ^ 24:=Eq.symm o▸Nat.le_trans (Nat.add_le_add_left t 1) (of_decide_eq_true (id (Eq.refl true)))
theorem O186 {a b:Nat}(o:a≤100)(t:b=3):a+b≤2 ^ 24:=Eq.symm t▸Nat.le_trans (Nat.add_le_add_right o 3) (of_decide_eq_true (id (Eq.refl true)))
theorem O187 {a b:Nat}(o:a=4)(t:b≤1000):a+b≤2 ^ 24:=Eq.symm o▸Nat.le_trans (Nat.add_le_add_left t 4) (of_decide_eq_true (id (Eq.refl true)))
theorem O188 {a b:Nat}(o:a=2)(t:b≤1000):a+b≤2 ^ 24:=Eq.symm o▸Nat.le_trans (Nat.add_le_add_left t 2) (of_decide_eq_true (id (Eq.refl true)))
theorem O189 {a b:Nat}(o:a=7)(t:b≤1000):a+b≤2 ^ 24:=Eq.symm o▸Nat.le_trans (Nat.add_le_add_left t 7) (of_decide_eq_true (id (Eq.refl true)))
theorem O190 {a b:Nat}(o:a=1)(t:b≤1010):a+b≤2 ^ 24:=Eq.symm o▸Nat.le_trans (Nat.add_le_add_left t 1) (of_decide_eq_true (id (Eq.refl true)))
theorem O191 {a b c:Nat}(o:a=1)(t:b≤1010)(J:c=1):(a+b)+c≤2 ^ 24:=Nat.le_of_not_lt fun g=>lin [a,b,c] [(1, .E (.w 0) (.n 1)),(1, .L (.w 1) (.n 1010)),(1, .E (.w 2) (.n 1)),(1, .T (.n 16777216) (.a (.a (.w 0) (.w 1)) (.w 2)))] rfl (nq o) (nl t) (nq J) (nt g)
theorem O192 {a:Nat}(o:a≤1000):a≤2 ^ 24:=Nat.le_trans o (Nat.le_of_ble_eq_true rfl)
theorem O193 {a:Nat}(o:a≤1000):(a:Int) < 2 ^ 63:=Int.ofNat_lt.mpr (Nat.lt_of_le_of_lt o (of_decide_eq_true (id (Eq.refl true))))
theorem O194 {a:Nat}(o:¬(a=0)):(((-(a:Int)):Int)≤-1)∧(((-1):Int) < (a:Int)):=⟨Int.not_lt.mp fun g=>(Nat.lt_or_gt_of_ne o).elim (fun O=>lin [a] [(1, .T (.w 0) (.n 0)),(1, .L (.n 0) (.w 0))] rfl (nt O) (Int.natCast_nonneg _)) (fun O=>lin [a] [(1, .T (.g (.n 1)) (.g (.w 0))),(1, .T (.n 0) (.w 0))] rfl g (nt O)),Int.not_le.mp fun g=>lin [a] [(1, .L (.w 0) (.g (.n 1))),(1, .L (.n 0) (.w 0))] rfl g (Int.natCast_nonneg _)⟩
theorem O195 {a:Nat}(o:a≤1000):a < 2 ^ 63:=Nat.lt_of_le_of_lt o (of_decide_eq_true (id (Eq.refl true)))
theorem O196 {a:Nat}(o:¬(a < 2)):(((-(a:Int)):Int)≤1)∧((1:Int) < (a:Int)):=⟨Int.not_lt.mp fun g=>lin [a] [(1, .L (.n 2) (.w 0)),(1, .T (.n 1) (.g (.w 0)))] rfl (nl (Nat.le_of_not_lt o)) g,Int.not_le.mp fun g=>lin [a] [(1, .L (.n 2) (.w 0)),(1, .L (.w 0) (.n 1))] rfl (nl (Nat.le_of_not_lt o)) g⟩
theorem O197 {a:Nat}(o:¬(a < 2)):(((-(a:Int)):Int)≤-1)∧(((-1):Int) < (a:Int)):=⟨Int.not_lt.mp fun g=>lin [a] [(1, .L (.n 2) (.w 0)),(1, .T (.g (.n 1)) (.g (.w 0)))] rfl (nl (Nat.le_of_not_lt o)) g,Int.not_le.mp fun g=>lin [a] [(1, .L (.n 2) (.w 0)),(1, .L (.w 0) (.g (.n 1)))] rfl (nl (Nat.le_of_not_lt o)) g⟩
theorem O198 {a b:Nat}(o:a≤b)(t:b≤1000):a≤2 ^ 24:=Nat.le_trans o (Nat.le_trans t (of_decide_eq_true (id (Eq.refl true))))
theorem O199 {a b:Nat}(o:a≤b)(t:b≤1000):(a:Int) < 2 ^ 63:=Int.ofNat_lt.mpr (Nat.lt_of_le_of_lt o (Nat.lt_of_le_of_lt t (of_decide_eq_true (id (Eq.refl true)))))
theorem O200 {a b:Nat}(o:(a:Int) < (b:Int)):a < b:=Nat.lt_of_not_le fun g=>lin [a,b] [(1, .T (.w 0) (.w 1)),(1, .L (.w 1) (.w 0))] rfl o (nl g)
theorem O201 {a:Nat}:a≤a+1:=Nat.le.step Nat.le.refl
theorem O203 {a b:Nat}(o:b < a):(((-(a:Int)):Int)≤(b:Int))∧((b:Int) < (a:Int)):=⟨Int.not_lt.mp fun g=>lin [b,a] [(1, .T (.w 0) (.w 1)),(1, .T (.w 0) (.g (.w 1))),(2, .L (.n 0) (.w 0))] rfl (nt o) g (Int.natCast_nonneg _),Int.not_le.mp fun g=>lin [b,a] [(1, .T (.w 0) (.w 1)),(1, .L (.w 1) (.w 0))] rfl (nt o) g⟩
theorem O204 {a b:Nat}(o:a≤b)(t:b≤1000):a < 2 ^ 63:=Nat.lt_of_le_of_lt o (Nat.lt_of_le_of_lt t (of_decide_eq_true (id (Eq.refl true))))
theorem O205 {a b c:Nat}(o:c=b+1)(t:¬(a≤c)):(((-(a:Int)):Int)≤((b+1:Nat):Int))∧(((b+1:Nat):Int) < (a:Int)):=⟨Int.not_lt.mp fun g=>lin [c,a,b] [(1, .T (.w 0) (.w 1)),(1, .T (.a (.w 2) (.n 1)) (.g (.w 1))),(1, .L (.n 0) (.w 0)),(1, .L (.n 0) (.w 2))] rfl (nt (Nat.lt_of_not_le t)) g (Int.natCast_nonneg _) (Int.natCast_nonneg _),Int.not_le.mp fun g=>lin [c,b,a] [(-1, .E (.w 0) (.a (.w 1) (.n 1))),(1, .T (.w 0) (.w 2)),(1, .L (.w 2) (.a (.w 1) (.n 1)))] rfl (nq o) (nt (Nat.lt_of_not_le t)) g⟩
theorem O206 {a b:Nat}(o:¬(a≤b)):(((-(a:Int)):Int)≤(b:Int))∧((b:Int) < (a:Int)):=⟨Int.not_lt.mp fun g=>lin [b,a] [(1, .T (.w 0) (.w 1)),(1, .T (.w 0) (.g (.w 1))),(2, .L (.n 0) (.w 0))] rfl (nt (Nat.lt_of_not_le o)) g (Int.natCast_nonneg _),Int.not_le.mp fun g=>lin [b,a] [(1, .T (.w 0) (.w 1)),(1, .L (.w 1) (.w 0))] rfl (nt (Nat.lt_of_not_le o)) g⟩
theorem O207 {a:Nat}:a≤a+3:=Nat.le_add_right a 3
theorem O208 {a:Nat}:a≤a+2:=Nat.le_add_right a 2
theorem O209 {a b:Nat}(o:((b:Int)+2) < (a:Int)):(((-(a:Int)):Int)≤((b:Int)+2))∧(((b:Int)+2) < (a:Int)):=⟨Int.neg_natCast_le_ofNat a (b+2),Int.lt_of_add_one_le o⟩
theorem O211 {a b c d:Nat}(o:a≤b)(t:b < c)(J:d≤1000)(h3:c≤d):a≤2 ^ 24:=Nat.le_of_not_lt fun g=>lin [a,b,c,d] [(1, .L (.w 0) (.w 1)),(1, .T (.w 1) (.w 2)),(1, .L (.w 3) (.n 1000)),(1, .L (.w 2) (.w 3)),(1, .T (.n 16777216) (.w 0))] rfl (nl o) (nt t) (nl J) (nl h3) (nt g)
theorem O212 {a:Nat}:a < a+1:=Nat.lt_add_one a
theorem O213 {a b c d:Nat}(o:a≤c)(t:d≤b)(J:c≤d):a+1≤b+1:=Nat.le_of_not_lt fun g=>lin [a,c,d,b] [(1, .L (.w 0) (.w 1)),(1, .L (.w 2) (.w 3)),(1, .L (.w 1) (.w 2)),(1, .T (.a (.w 3) (.n 1)) (.a (.w 0) (.n 1)))] rfl (nl o) (nl t) (nl J) (nt g)
theorem O214 {a b:Nat}(o:¬((a:Int) < (b:Int))):¬(a < b):=fun g=>lin [b,a] [(1, .L (.w 0) (.w 1)),(1, .T (.w 1) (.w 0))] rfl (Int.not_lt.mp o) (nt g)
theorem O215 {a b:Nat}(o:b≤a):a+b≤a*2:=Nat.le_of_not_lt fun g=>lin [b,a] [(1, .L (.w 0) (.w 1)),(1, .T (.r (.w 1) 2) (.a (.w 1) (.w 0)))] rfl (nl o) (nt g)
theorem O217 {a b:Nat}(o:a < 6):min a b≤6:=Nat.le_of_not_lt fun g=>(Nat.le_total a b).elim (fun O=>lin [a,(((min a b):Nat):Int)] [(1, .T (.w 0) (.n 6)),(1, .T (.n 6) (.w 1)),(1, .E (.w 1) (.w 0))] rfl (nt o) (nt g) (nq (Nat.min_eq_left O))) (fun O=>lin [a,(((min a b):Nat):Int),b] [(1, .T (.w 0) (.n 6)),(1, .T (.n 6) (.w 1)),(1, .E (.w 1) (.w 2)),(1, .L (.w 2) (.w 0))] rfl (nt o) (nt g) (nq (Nat.min_eq_right O)) (nl O))
theorem O218 {a b:Nat}(o:a≤0+b)(t:b≤6):a≤6:=Nat.le_of_not_lt fun g=>lin [a,b] [(1, .L (.w 0) (.a (.n 0) (.w 1))),(1, .L (.w 1) (.n 6)),(1, .T (.n 6) (.w 0))] rfl (nl o) (nl t) (nt g)
theorem O219 {a:Nat}(o:a≤64):a≤2 ^ 24:=Nat.le_trans o (Nat.le_of_ble_eq_true rfl)
theorem O221 {a b:Nat}(o:a≤64)(t:b≤a):a+b≤16777216:=Nat.le_of_not_lt fun g=>lin [a,b] [(2, .L (.w 0) (.n 64)),(1, .L (.w 1) (.w 0)),(1, .T (.n 16777216) (.a (.w 0) (.w 1)))] rfl (nl o) (nl t) (nt g)
theorem O222 {a:Nat}(o:(0:Nat) < 10 ^ a)(t:(0:Nat)=10 ^ a):False:=lin [(((10 ^ a):Nat):Int)] [(1, .T (.n 0) (.w 0)),(-1, .E (.n 0) (.w 0))] rfl (nt o) (nq t)
theorem O224 {a:Int}(o:(0:Int)≤a)(t:a≤3):(a=0)∨((a=1)∨((a=2)∨(a=3))):=by lia
theorem O225 {a:Int}(o:((0:Int)≤a)∧(a < 3)):(0:Int)≤1+a:=Int.not_lt.mp fun g=>lin [a] [(1, .L (.n 0) (.w 0)),(1, .T (.a (.n 1) (.w 0)) (.n 0))] rfl o.1 g
theorem O226 {a:Int}(o:((0:Int)≤a)∧(a < 3)):1+a≤3:=Int.not_lt.mp fun g=>lin [a] [(1, .T (.w 0) (.n 3)),(1, .T (.n 3) (.a (.n 1) (.w 0)))] rfl o.2 g
theorem O227 {a b c d:Nat}(o:a≤3+(1003*d))(t:b≤1000)(J:c≤3):a+(b+c)≤3+(1003*(d+1)):=Nat.le_of_not_lt fun g=>lin [a,d,b,c] [(1, .L (.w 0) (.a (.n 3) (.m 1003 (.w 1)))),(1, .L (.w 2) (.n 1000)),(1, .L (.w 3) (.n 3)),(1, .T (.a (.n 3) (.m 1003 (.a (.w 1) (.n 1)))) (.a (.w 0) (.a (.w 2) (.w 3))))] rfl (nl o) (nl t) (nl J) (nt g)
theorem O228 {a:Nat}(o:a≤6):(a:Int) < 2 ^ 63:=Int.ofNat_lt.mpr (Nat.lt_of_le_of_lt o (of_decide_eq_true (id (Eq.refl true))))
theorem O230 {a b:Nat}(o:a < b)(t:b≤6):(Int.toNat ((a:Int)+1))≤8:=Nat.lt_of_lt_of_le o (Nat.le_trans t (of_decide_eq_true (id (Eq.refl true))))
theorem O232 {a:Nat}:(0:Int)≤((a:Int)+1):=Int.zero_le_ofNat (a+1)
theorem O233 {a b:Nat}(o:a < b)(t:b≤6):((4:Int)*((a:Int)+1))≤2 ^ 27:=Int.not_lt.mp fun g=>lin [a,b] [(4, .T (.w 0) (.w 1)),(4, .L (.w 1) (.n 6)),(1, .T (.n (2^27)) (.m 4 (.a (.w 0) (.n 1))))] rfl (nt o) (nl t) g
theorem O234 {a b:Nat}(o:a≤1000)(t:b≤3):a+b≤2 ^ 24:=Nat.le_trans (Nat.add_le_add o t) (of_decide_eq_true (id (Eq.refl true)))
theorem O235 {a b c d e:Nat}(o:a≤3+(1003*d))(t:b≤1000)(J:c≤3)(h3:d < e)(h4:e≤6):a+(b+c)≤2 ^ 24:=Nat.le_of_not_lt fun g=>lin [a,d,b,c,e] [(1, .L (.w 0) (.a (.n 3) (.m 1003 (.w 1)))),(1, .L (.w 2) (.n 1000)),(1, .L (.w 3) (.n 3)),(1003, .T (.w 1) (.w 4)),(1003, .L (.w 4) (.n 6)),(1, .T (.n 16777216) (.a (.w 0) (.a (.w 2) (.w 3))))] rfl (nl o) (nl t) (nl J) (nt h3) (nl h4) (nt g)
theorem O236 {a b c:Nat}(o:(a+1≤b)∧(b≤c)):(a≤b)∧(b≤c):=⟨Nat.le_of_not_lt fun g=>lin [a,b] [(1, .L (.a (.w 0) (.n 1)) (.w 1)),(1, .T (.w 1) (.w 0))] rfl (nl o.1) (nt g),Nat.le_of_not_lt fun g=>lin [b,c] [(1, .L (.w 0) (.w 1)),(1, .T (.w 1) (.w 0))] rfl (nl o.2) (nt g)⟩
theorem O237 {a:Nat}(o:a≤100):(a:Int) < 2 ^ 63:=Int.ofNat_lt.mpr (Nat.lt_of_le_of_lt o (of_decide_eq_true (id (Eq.refl true))))
theorem O238 {a b:Nat}(o:(b:Int) < (a:Int)):(((-(a:Int)):Int)≤(b:Int))∧((b:Int) < (a:Int)):=⟨Int.neg_natCast_le_natCast a b,Int.lt_of_add_one_le o⟩
theorem O241 {a b:Nat}(o:(a:Int)=(b:Int)):a=b:=Nat.le_antisymm (Nat.le_of_not_lt fun g=>lin [a,b] [(1, .E (.w 0) (.w 1)),(1, .T (.w 1) (.w 0))] rfl o (nt g)) (Nat.le_of_not_lt fun g=>lin [a,b] [(-1, .E (.w 0) (.w 1)),(1, .T (.w 0) (.w 1))] rfl o (nt g))
theorem O242 {a b:Nat}(o:a≠b)(t:a≤b):a+1≤b:=Nat.le_of_not_lt fun g=>(Nat.lt_or_gt_of_ne o).elim (fun O=>lin [b,a] [(1, .T (.w 0) (.a (.w 1) (.n 1))),(1, .T (.w 1) (.w 0))] rfl (nt g) (nt O)) (fun O=>lin [a,b] [(1, .L (.w 0) (.w 1)),(1, .T (.w 1) (.w 0))] rfl (nl t) (nt O))
theorem O243 {a b:Nat}(o:(a:Int) < (b:Int))(t:b≤a):False:=lin [a,b] [(1, .T (.w 0) (.w 1)),(1, .L (.w 1) (.w 0))] rfl o (nl t)
theorem O244 {a b:Nat}(o:a < b)(t:b≤60):(((-(2 ^ 63)):Int)≤(a:Int))∧((a:Int) < 2 ^ 63):=⟨Int.not_lt.mp fun g=>lin [a] [(1, .T (.w 0) (.g (.n (2^63)))),(1, .L (.n 0) (.w 0))] rfl g (Int.natCast_nonneg _),Int.not_le.mp fun g=>lin [a,b] [(1, .T (.w 0) (.w 1)),(1, .L (.w 1) (.n 60)),(1, .L (.n (2^63)) (.w 0))] rfl (nt o) (nl t) g⟩
theorem O245 {a:Nat}(o:a≤60):(a:Int) < 2 ^ 63:=Int.ofNat_lt.mpr (Nat.lt_of_le_of_lt o (of_decide_eq_true (id (Eq.refl true))))
theorem O246 {a b c:Nat}(o:a≤b)(t:b < c)(J:c≤60):a≤2 ^ 24:=Nat.le_trans o (Nat.le_trans (Nat.le_of_lt t) (Nat.le_trans J (of_decide_eq_true (id (Eq.refl true)))))
theorem O248 {a b:Nat}(o:¬(a < b)):¬((a:Int) < (b:Int)):=fun g=>lin [b,a] [(1, .L (.w 0) (.w 1)),(1, .T (.w 1) (.w 0))] rfl (nl (Nat.le_of_not_lt o)) g
theorem O251 {a b c:Nat}(o:a≤b)(t:b+1=c)(J:c≤60):a≤2 ^ 24:=Nat.le_of_not_lt fun g=>lin [a,b,c] [(1, .L (.w 0) (.w 1)),(1, .E (.a (.w 1) (.n 1)) (.w 2)),(1, .L (.w 2) (.n 60)),(1, .T (.n 16777216) (.w 0))] rfl (nl o) (nq t) (nl J) (nt g)
theorem O252 {a b c:Nat}(o:a≤b)(t:b+1=c)(J:c≤60):a+1≤60:=Nat.le_of_not_lt fun g=>lin [a,b,c] [(1, .L (.w 0) (.w 1)),(1, .E (.a (.w 1) (.n 1)) (.w 2)),(1, .L (.w 2) (.n 60)),(1, .T (.n 60) (.a (.w 0) (.n 1)))] rfl (nl o) (nq t) (nl J) (nt g)
theorem O253 {a b:Nat}(o:(0:Nat)=a - (b+1))(t:b+1≠a)(J:b < a):False:=(Nat.lt_or_gt_of_ne t).elim (fun O=>(Nat.le_total (b+1) a).elim (fun q2=>lin [(((a - (b+1)):Nat):Int),b,a] [(-1, .E (.n 0) (.w 0)),(1, .T (.a (.w 1) (.n 1)) (.w 2)),(-1, .E (.a (.w 0) (.a (.w 1) (.n 1))) (.w 2))] rfl (nq o) (nt O) (nq (Nat.sub_add_cancel q2))) (fun q2=>lin [b,a] [(1, .T (.a (.w 0) (.n 1)) (.w 1)),(1, .L (.w 1) (.a (.w 0) (.n 1)))] rfl (nt O) (nl q2))) (fun O=>lin [b,a] [(1, .T (.w 0) (.w 1)),(1, .T (.w 1) (.a (.w 0) (.n 1)))] rfl (nt J) (nt O))
theorem O255 {a b:Nat}(o:a+1 < b)(t:b≤60):(((-(2 ^ 63)):Int)≤((a+1:Nat):Int))∧(((a+1:Nat):Int) < 2 ^ 63):=⟨Int.not_lt.mp fun g=>lin [a] [(1, .T (.a (.w 0) (.n 1)) (.g (.n (2^63)))),(1, .L (.n 0) (.w 0))] rfl g (Int.natCast_nonneg _),Int.not_le.mp fun g=>lin [a,b] [(1, .T (.a (.w 0) (.n 1)) (.w 1)),(1, .L (.w 1) (.n 60)),(1, .L (.n (2^63)) (.a (.w 0) (.n 1)))] rfl (nt o) (nl t) g⟩
theorem O257 {a b c:Nat}(o:(a+1)+b < c)(t:c≤60):(((-(2 ^ 63)):Int)≤(((a+1)+b:Nat):Int))∧((((a+1)+b:Nat):Int) < 2 ^ 63):=⟨Int.not_lt.mp fun g=>lin [a,b] [(1, .T (.a (.a (.w 0) (.n 1)) (.w 1)) (.g (.n (2^63)))),(1, .L (.n 0) (.w 0)),(1, .L (.n 0) (.w 1))] rfl g (Int.natCast_nonneg _) (Int.natCast_nonneg _),Int.not_le.mp fun g=>lin [a,b,c] [(1, .T (.a (.a (.w 0) (.n 1)) (.w 1)) (.w 2)),(1, .L (.w 2) (.n 60)),(1, .L (.n (2^63)) (.a (.a (.w 0) (.n 1)) (.w 1)))] rfl (nt o) (nl t) g⟩
theorem O258 {a b c:Nat}(o:(b+1)+a < c)(t:c≤60):a≤2 ^ 24:=Nat.le_of_not_lt fun g=>lin [b,a,c] [(1, .T (.a (.a (.w 0) (.n 1)) (.w 1)) (.w 2)),(1, .L (.w 2) (.n 60)),(1, .T (.n 16777216) (.w 1)),(1, .L (.n 0) (.w 0))] rfl (nt o) (nl t) (nt g) (Int.natCast_nonneg _)
theorem O259 {a:Nat}:a+1≥1:=Nat.le_add_left 1 a
theorem O260 {a b c d:Nat}(o:a≤c)(t:b=(c+1)+d)(J:d≥1):(a+(0+1))+(0+1)≤b:=Nat.le_of_not_lt fun g=>lin [a,c,b,d] [(1, .L (.w 0) (.w 1)),(-1, .E (.w 2) (.a (.a (.w 1) (.n 1)) (.w 3))),(1, .L (.n 1) (.w 3)),(1, .T (.w 2) (.a (.a (.w 0) (.a (.n 0) (.n 1))) (.a (.n 0) (.n 1))))] rfl (nl o) (nq t) (nl J) (nt g)
theorem O261 {a b c d:Nat}(o:a≤c)(t:b=(c+1)+d):a+(0+1)≤b:=Nat.le_of_not_lt fun g=>lin [a,c,b,d] [(1, .L (.w 0) (.w 1)),(-1, .E (.w 2) (.a (.a (.w 1) (.n 1)) (.w 3))),(1, .T (.w 2) (.a (.w 0) (.a (.n 0) (.n 1)))),(1, .L (.n 0) (.w 3))] rfl (nl o) (nq t) (nt g) (Int.natCast_nonneg _)
theorem O262 {a b c d:Nat}(o:a=6)(t:b≤66000)(J:c=1)(h3:d=0):a+(b+(c+d))≤70000:=Nat.le_of_not_lt fun g=>lin [a,b,c,d] [(1, .E (.w 0) (.n 6)),(1, .L (.w 1) (.n 66000)),(1, .E (.w 2) (.n 1)),(1, .E (.w 3) (.n 0)),(1, .T (.n 70000) (.a (.w 0) (.a (.w 1) (.a (.w 2) (.w 3)))))] rfl (nq o) (nl t) (nq J) (nq h3) (nt g)
theorem O266 {a b c d e:Nat}(o:a≤b)(t:c=(b+1)+d)(J:c=e)(h3:e≤60):a≤2 ^ 24:=Nat.le_of_not_lt fun g=>lin [a,b,c,d,e] [(1, .L (.w 0) (.w 1)),(-1, .E (.w 2) (.a (.a (.w 1) (.n 1)) (.w 3))),(1, .E (.w 2) (.w 4)),(1, .L (.w 4) (.n 60)),(1, .T (.n 16777216) (.w 0)),(1, .L (.n 0) (.w 3))] rfl (nl o) (nq t) (nq J) (nl h3) (nt g) (Int.natCast_nonneg _)
theorem O267 {a b c d e:Nat}(o:a≤b)(t:c=(b+1)+d)(J:c=e)(h3:e≤60):a+1≤2 ^ 24:=Nat.le_of_not_lt fun g=>lin [a,b,c,d,e] [(1, .L (.w 0) (.w 1)),(-1, .E (.w 2) (.a (.a (.w 1) (.n 1)) (.w 3))),(1, .E (.w 2) (.w 4)),(1, .L (.w 4) (.n 60)),(1, .T (.n 16777216) (.a (.w 0) (.n 1))),(1, .L (.n 0) (.w 3))] rfl (nl o) (nq t) (nq J) (nl h3) (nt g) (Int.natCast_nonneg _)
theorem O268 {a b:Nat}(o:(0:Nat)=a - b)(t:b≠a)(J:b≤a):False:=(Nat.lt_or_gt_of_ne t).elim (fun O=>(Nat.le_total b a).elim (fun q2=>lin [(((a - b):Nat):Int),b,a] [(-1, .E (.n 0) (.w 0)),(1, .T (.w 1) (.w 2)),(-1, .E (.a (.w 0) (.w 1)) (.w 2))] rfl (nq o) (nt O) (nq (Nat.sub_add_cancel q2))) (fun q2=>lin [b,a] [(1, .T (.w 0) (.w 1)),(1, .L (.w 1) (.w 0))] rfl (nt O) (nl q2))) (fun O=>lin [b,a] [(1, .L (.w 0) (.w 1)),(1, .T (.w 1) (.w 0))] rfl (nl J) (nt O))
theorem O270 {a b c d:Nat}(o:a=6)(t:b≤66000)(J:c=1)(h3:d=0):a+(b+(c+d))≤2 ^ 24:=Nat.le_of_not_lt fun g=>lin [a,b,c,d] [(1, .E (.w 0) (.n 6)),(1, .L (.w 1) (.n 66000)),(1, .E (.w 2) (.n 1)),(1, .E (.w 3) (.n 0)),(1, .T (.n 16777216) (.a (.w 0) (.a (.w 1) (.a (.w 2) (.w 3)))))] rfl (nq o) (nl t) (nq J) (nq h3) (nt g)
theorem O271 {a b c:Nat}(o:a≤b)(t:b+1 < c)(J:c≤60):a≤2 ^ 24:=Nat.le_of_not_lt fun g=>lin [a,b,c] [(1, .L (.w 0) (.w 1)),(1, .T (.a (.w 1) (.n 1)) (.w 2)),(1, .L (.w 2) (.n 60)),(1, .T (.n 16777216) (.w 0))] rfl (nl o) (nt t) (nl J) (nt g)
theorem O275 {a b c d:Nat}(o:a=4)(t:b≤4200000)(J:c=3)(h3:d=0):a+(b+(c+d))≤2 ^ 24:=Nat.le_of_not_lt fun g=>lin [a,b,c,d] [(1, .E (.w 0) (.n 4)),(1, .L (.w 1) (.n 4200000)),(1, .E (.w 2) (.n 3)),(1, .E (.w 3) (.n 0)),(1, .T (.n 16777216) (.a (.w 0) (.a (.w 1) (.a (.w 2) (.w 3)))))] rfl (nq o) (nl t) (nq J) (nq h3) (nt g)
theorem O281 {a:Nat}:(Int.toNat ((-1)+(a:Int)))=a - 1:=by exact sb (Int.add_comm ..) (Int.toNat_sub a 1)
theorem O282 {a b c:Nat}(o:a≤c)(t:c≤b):a≤b:=Nat.le_trans o t
theorem O283 {a b c:Nat}(o:a≤2)(t:b≤2*c):a+b≤2*(c+1):=Nat.le_of_not_lt fun g=>lin [a,b,c] [(1, .L (.w 0) (.n 2)),(1, .L (.w 1) (.m 2 (.w 2))),(1, .T (.m 2 (.a (.w 2) (.n 1))) (.a (.w 0) (.w 1)))] rfl (nl o) (nl t) (nt g)
theorem O285 {a b:Nat}(o:(a+1)*b≤501*4)(t:a≤500):a+((a+1)*b)≤16777216:=Nat.le_trans (Nat.add_le_add t o) (of_decide_eq_true (id (Eq.refl true)))
theorem O286 {a b c:Nat}(o:(1:Nat)≤b)(t:a≤c):a+1≤b+c:=Nat.le_of_not_lt fun g=>lin [b,a,c] [(1, .L (.n 1) (.w 0)),(1, .L (.w 1) (.w 2)),(1, .T (.a (.w 0) (.w 2)) (.a (.w 1) (.n 1)))] rfl (nl o) (nl t) (nt g)
theorem O287 {a:Nat}:((1:Int)≤((a:Int)+1))∧(((-1):Int) < ((a:Int)+1)):=⟨Int.not_lt.mp fun g=>lin [a] [(1, .T (.a (.w 0) (.n 1)) (.n 1)),(1, .L (.n 0) (.w 0))] rfl g (Int.natCast_nonneg _),Int.not_le.mp fun g=>lin [a] [(1, .L (.a (.w 0) (.n 1)) (.g (.n 1))),(1, .L (.n 0) (.w 0))] rfl g (Int.natCast_nonneg _)⟩
theorem O288 {a:Nat}:(Int.toNat ((-1)+((a:Int)+1)))=a:=by refine sb (Int.add_comm ..) (sb (Int.add_neg_cancel_right ..) ?_); rfl
theorem O289 {a b:Nat}(o:(0:Nat) < a):(0:Nat) < a+b:=Nat.add_pos_left o b
theorem O290 {a b c:Nat}(o:(0:Nat) < c)(t:b=a+c):(a:Int) < (b:Int):=Int.not_le.mp fun g=>lin [c,b,a] [(1, .T (.n 0) (.w 0)),(-1, .E (.w 1) (.a (.w 2) (.w 0))),(1, .L (.w 1) (.w 2))] rfl (nt o) (nq t) g
theorem O291 {a b c:Nat}(o:(1:Nat)≤c)(t:b+c≤a):(((-(a:Int)):Int)≤(b:Int))∧((b:Int) < (a:Int)):=⟨Int.not_lt.mp fun g=>lin [c,b,a] [(1, .L (.n 1) (.w 0)),(1, .L (.a (.w 1) (.w 0)) (.w 2)),(1, .T (.w 1) (.g (.w 2))),(2, .L (.n 0) (.w 1))] rfl (nl o) (nl t) g (Int.natCast_nonneg _),Int.not_le.mp fun g=>lin [c,b,a] [(1, .L (.n 1) (.w 0)),(1, .L (.a (.w 1) (.w 0)) (.w 2)),(1, .L (.w 2) (.w 1))] rfl (nl o) (nl t) g⟩
theorem O292 {a b c d e f:Nat}(o:a≤b)(t:c+d≤e)(J:c=f)(h3:e≤1000)(h4:b≤f):a≤1000:=Nat.le_of_not_lt fun g=>lin [a,b,c,d,e,f] [(1, .L (.w 0) (.w 1)),(1, .L (.a (.w 2) (.w 3)) (.w 4)),(-1, .E (.w 2) (.w 5)),(1, .L (.w 4) (.n 1000)),(1, .L (.w 1) (.w 5)),(1, .T (.n 1000) (.w 0)),(1, .L (.n 0) (.w 3))] rfl (nl o) (nl t) (nq J) (nl h3) (nl h4) (nt g) (Int.natCast_nonneg _)
theorem O297 {a b c:Nat}(o:((b+1)+c)+1≤a):(((-(a:Int)):Int)≤((b+1:Nat):Int))∧(((b+1:Nat):Int) < (a:Int)):=⟨Int.not_lt.mp fun g=>lin [b,c,a] [(1, .L (.a (.a (.a (.w 0) (.n 1)) (.w 1)) (.n 1)) (.w 2)),(1, .T (.a (.w 0) (.n 1)) (.g (.w 2))),(2, .L (.n 0) (.w 0)),(1, .L (.n 0) (.w 1))] rfl (nl o) g (Int.natCast_nonneg _) (Int.natCast_nonneg _),Int.not_le.mp fun g=>lin [b,c,a] [(1, .L (.a (.a (.a (.w 0) (.n 1)) (.w 1)) (.n 1)) (.w 2)),(1, .L (.w 2) (.a (.w 0) (.n 1))),(1, .L (.n 0) (.w 1))] rfl (nl o) g (Int.natCast_nonneg _)⟩
theorem O298 {a b c d e:Nat}(o:((a+1)+d)+1≤c)(t:b≤e)(J:e≤d):(((a+1)+b:Nat):Int) < (c:Int):=Int.not_le.mp fun g=>lin [a,d,c,b,e] [(1, .L (.a (.a (.a (.w 0) (.n 1)) (.w 1)) (.n 1)) (.w 2)),(1, .L (.w 3) (.w 4)),(1, .L (.w 4) (.w 1)),(1, .L (.w 2) (.a (.a (.w 0) (.n 1)) (.w 3)))] rfl (nl o) (nl t) (nl J) g
theorem O299 {a b c d e:Nat}(o:((b+1)+d)+1≤a)(t:c≤e)(J:e≤d):(((-(a:Int)):Int)≤(((b+1)+c:Nat):Int))∧((((b+1)+c:Nat):Int) < (a:Int)):=⟨Int.not_lt.mp fun g=>lin [b,d,a,c] [(1, .L (.a (.a (.a (.w 0) (.n 1)) (.w 1)) (.n 1)) (.w 2)),(1, .T (.a (.a (.w 0) (.n 1)) (.w 3)) (.g (.w 2))),(2, .L (.n 0) (.w 0)),(1, .L (.n 0) (.w 1)),(1, .L (.n 0) (.w 3))] rfl (nl o) g (Int.natCast_nonneg _) (Int.natCast_nonneg _) (Int.natCast_nonneg _),Int.not_le.mp fun g=>lin [b,d,a,c,e] [(1, .L (.a (.a (.a (.w 0) (.n 1)) (.w 1)) (.n 1)) (.w 2)),(1, .L (.w 3) (.w 4)),(1, .L (.w 4) (.w 1)),(1, .L (.w 2) (.a (.a (.w 0) (.n 1)) (.w 3)))] rfl (nl o) (nl t) (nl J) g⟩
theorem O300 {a b c d:Nat}(o:((a+1)+d)+1≤c)(t:b≤d):(((a+1)+b:Nat):Int) < (c:Int):=Int.not_le.mp fun g=>lin [a,d,c,b] [(1, .L (.a (.a (.a (.w 0) (.n 1)) (.w 1)) (.n 1)) (.w 2)),(1, .L (.w 3) (.w 1)),(1, .L (.w 2) (.a (.a (.w 0) (.n 1)) (.w 3)))] rfl (nl o) (nl t) g
theorem O301 {a b c d:Nat}(o:((b+1)+d)+1≤a)(t:c≤d):(((-(a:Int)):Int)≤(((b+1)+c:Nat):Int))∧((((b+1)+c:Nat):Int) < (a:Int)):=⟨Int.not_lt.mp fun g=>lin [b,d,a,c] [(1, .L (.a (.a (.a (.w 0) (.n 1)) (.w 1)) (.n 1)) (.w 2)),(1, .T (.a (.a (.w 0) (.n 1)) (.w 3)) (.g (.w 2))),(2, .L (.n 0) (.w 0)),(1, .L (.n 0) (.w 1)),(1, .L (.n 0) (.w 3))] rfl (nl o) g (Int.natCast_nonneg _) (Int.natCast_nonneg _) (Int.natCast_nonneg _),Int.not_le.mp fun g=>lin [b,d,a,c] [(1, .L (.a (.a (.a (.w 0) (.n 1)) (.w 1)) (.n 1)) (.w 2)),(1, .L (.w 3) (.w 1)),(1, .L (.w 2) (.a (.a (.w 0) (.n 1)) (.w 3)))] rfl (nl o) (nl t) g⟩
theorem O302 {a b c:Nat}(o:((b+1)+c)+1≤a):¬((a:Int)≤(((b+1)+c:Nat):Int)):=fun g=>lin [b,c,a] [(1, .L (.a (.a (.a (.w 0) (.n 1)) (.w 1)) (.n 1)) (.w 2)),(1, .L (.w 2) (.a (.a (.w 0) (.n 1)) (.w 1)))] rfl (nl o) g
theorem O305 {a b:Nat}:a+1≤(a+1)+b:=Nat.le_add_right (a+1) b
theorem O308 {a b:Nat}:¬((((a+1)+b:Nat):Int) < 0):=Int.not_ofNat_neg (a+1+b)
theorem O309 {a b c:Nat}(o:a+1≤0+b)(t:c < a)(J:b≤c):False:=lin [a,b,c] [(1, .L (.a (.w 0) (.n 1)) (.a (.n 0) (.w 1))),(1, .T (.w 2) (.w 0)),(1, .L (.w 1) (.w 2))] rfl (nl o) (nt t) (nl J)
theorem O310 {a b c d e:Nat}(o:((b+1)+c)+1≤d)(t:a+(e+1)≤c+1)(J:d≤1000):a≤2 ^ 24:=Nat.le_of_not_lt fun g=>lin [b,c,d,a,e] [(1, .L (.a (.a (.a (.w 0) (.n 1)) (.w 1)) (.n 1)) (.w 2)),(1, .L (.a (.w 3) (.a (.w 4) (.n 1))) (.a (.w 1) (.n 1))),(1, .L (.w 2) (.n 1000)),(1, .T (.n 16777216) (.w 3)),(1, .L (.n 0) (.w 0)),(1, .L (.n 0) (.w 4))] rfl (nl o) (nl t) (nl J) (nt g) (Int.natCast_nonneg _) (Int.natCast_nonneg _)
theorem O311 {a b c d:Nat}(o:a+1≤(b+1)+d)(t:d≤c):a+1≤b+(c+3):=Nat.le_of_not_lt fun g=>lin [a,b,d,c] [(1, .L (.a (.w 0) (.n 1)) (.a (.a (.w 1) (.n 1)) (.w 2))),(1, .L (.w 2) (.w 3)),(1, .T (.a (.w 1) (.a (.w 3) (.n 3))) (.a (.w 0) (.n 1)))] rfl (nl o) (nl t) (nt g)
theorem O312 {a:Nat}:a+1≤a+3:=of_eq_true (Eq.trans Nat.add_le_add_iff_right._simp_1 (Nat.le_add_right._simp_1 a 2))
theorem O313 {a b c:Nat}(o:a+(b+1)≤c+1):(a+1)+b≤c+1:=Nat.le_of_not_lt fun g=>lin [a,b,c] [(1, .L (.a (.w 0) (.a (.w 1) (.n 1))) (.a (.w 2) (.n 1))),(1, .T (.a (.w 2) (.n 1)) (.a (.a (.w 0) (.n 1)) (.w 1)))] rfl (nl o) (nt g)
theorem O314 {a b:Nat}(o:a≤60):a - b≤60:=Nat.le_of_not_lt fun g=>(Nat.le_total b a).elim (fun O=>lin [a,(((a - b):Nat):Int),b] [(1, .L (.w 0) (.n 60)),(1, .T (.n 60) (.w 1)),(1, .E (.a (.w 1) (.w 2)) (.w 0)),(1, .L (.n 0) (.w 2))] rfl (nl o) (nt g) (nq (Nat.sub_add_cancel O)) (Int.natCast_nonneg _)) (fun O=>lin [(((a - b):Nat):Int)] [(1, .T (.n 60) (.w 0)),(1, .E (.w 0) (.n 0))] rfl (nt g) (nq (Nat.sub_eq_zero_of_le O)))
theorem O316 {a b c d:Nat}(o:((b+1)+c)+1≤d)(t:a≤c+1)(J:d≤1000):a≤2 ^ 24:=Nat.le_of_not_lt fun g=>lin [b,c,d,a] [(1, .L (.a (.a (.a (.w 0) (.n 1)) (.w 1)) (.n 1)) (.w 2)),(1, .L (.w 3) (.a (.w 1) (.n 1))),(1, .L (.w 2) (.n 1000)),(1, .T (.n 16777216) (.w 3)),(1, .L (.n 0) (.w 0))] rfl (nl o) (nl t) (nl J) (nt g) (Int.natCast_nonneg _)
theorem O317 {a:Nat}(o:(0:Nat) < a):(((-(a:Int)):Int)≤-1)∧(((-1):Int) < (a:Int)):=⟨Int.not_lt.mp fun g=>lin [a] [(1, .T (.n 0) (.w 0)),(1, .T (.g (.n 1)) (.g (.w 0)))] rfl (nt o) g,Int.not_le.mp fun g=>lin [a] [(1, .T (.n 0) (.w 0)),(1, .L (.w 0) (.g (.n 1)))] rfl (nt o) g⟩
theorem O320 {a b:Nat}(o:a≤b+1)(t:b≤60):a≤70:=Nat.le_of_not_lt fun g=>lin [a,b] [(1, .L (.w 0) (.a (.w 1) (.n 1))),(1, .L (.w 1) (.n 60)),(1, .T (.n 70) (.w 0))] rfl (nl o) (nl t) (nt g)
theorem O321 {a b:Nat}(o:a≤b+1)(t:b≤60):a+1≤70:=Nat.le_of_not_lt fun g=>lin [a,b] [(1, .L (.w 0) (.a (.w 1) (.n 1))),(1, .L (.w 1) (.n 60)),(1, .T (.n 70) (.a (.w 0) (.n 1)))] rfl (nl o) (nl t) (nt g)
theorem O322 {a:Nat}(o:a≤70):(a:Int) < 2 ^ 63:=Int.ofNat_lt.mpr (Nat.lt_of_le_of_lt o (of_decide_eq_true (id (Eq.refl true))))
theorem O323 {a:Nat}:((Int.toNat (((a:Int) - 1) - 0):Nat):Int)=((a - 1:Nat):Int):=by exact sb (Int.sub_zero ..) (congrArg Int.ofNat (Int.toNat_sub a 1))
theorem O324 {a:Nat}:((-(2 ^ 62)):Int)≤((a:Int) - 1):=Int.not_lt.mp fun g=>lin [a] [(1, .T (.s (.w 0) (.n 1)) (.g (.n (2^62)))),(1, .L (.n 0) (.w 0))] rfl g (Int.natCast_nonneg _)
theorem O325 {a:Nat}(o:a≤70):((a:Int) - 1) < 2 ^ 62:=Int.not_le.mp fun g=>lin [a] [(1, .L (.w 0) (.n 70)),(1, .L (.n (2^62)) (.s (.w 0) (.n 1)))] rfl (nl o) g
theorem O326 {a b:Nat}(o:b < a - 1):(((a:Int) - 1)+((b:Int)*(-1)))=(((a - 1) - b:Nat):Int):=by refine sb (Int.ofNat_sub (Nat.le_of_lt o) ..) (sb (Int.ofNat_sub (Nat.le_of_lt (Nat.lt_of_sub_pos (Nat.lt_of_le_of_lt (Nat.zero_le b) o))) ..) (sb (Int.mul_neg_one ..) ?_)); rfl
theorem O331 {a b:Nat}(o:b < a):(((-(a:Int)):Int)≤((b:Int) - 1))∧(((b:Int) - 1) < (a:Int)):=⟨Int.not_lt.mp fun g=>lin [b,a] [(1, .T (.w 0) (.w 1)),(1, .T (.s (.w 0) (.n 1)) (.g (.w 1))),(2, .L (.n 0) (.w 0))] rfl (nt o) g (Int.natCast_nonneg _),Int.not_le.mp fun g=>lin [b,a] [(1, .T (.w 0) (.w 1)),(1, .L (.w 1) (.s (.w 0) (.n 1)))] rfl (nt o) g⟩
theorem O332 {a b:Nat}(o:a≤b)(t:b≤70):a < 2 ^ 63:=Nat.lt_of_le_of_lt o (Nat.lt_of_le_of_lt t (of_decide_eq_true (id (Eq.refl true))))
theorem O334 {a b c:Nat}(o:a < b)(t:c≤70)(J:b≤c):(((-(2 ^ 63)):Int)≤((a:Int) - 1))∧(((a:Int) - 1) < 2 ^ 63):=⟨Int.not_lt.mp fun g=>lin [a] [(1, .T (.s (.w 0) (.n 1)) (.g (.n (2^63)))),(1, .L (.n 0) (.w 0))] rfl g (Int.natCast_nonneg _),Int.not_le.mp fun g=>lin [a,b,c] [(1, .T (.w 0) (.w 1)),(1, .L (.w 2) (.n 70)),(1, .L (.w 1) (.w 2)),(1, .L (.n (2^63)) (.s (.w 0) (.n 1)))] rfl (nt o) (nl t) (nl J) g⟩
theorem O336 {a b:Nat}(o:a≤200)(t:b≤200):a+b≤2 ^ 24:=Nat.le_trans (Nat.add_le_add o t) (of_decide_eq_true (id (Eq.refl true)))
theorem O337 {a b c:Nat}(o:a < b)(t:c≤70)(J:b≤c):(((-(2 ^ 63)):Int)≤(a:Int))∧((a:Int) < 2 ^ 63):=⟨Int.not_lt.mp fun g=>lin [a] [(1, .T (.w 0) (.g (.n (2^63)))),(1, .L (.n 0) (.w 0))] rfl g (Int.natCast_nonneg _),Int.not_le.mp fun g=>lin [a,b,c] [(1, .T (.w 0) (.w 1)),(1, .L (.w 2) (.n 70)),(1, .L (.w 1) (.w 2)),(1, .L (.n (2^63)) (.w 0))] rfl (nt o) (nl t) (nl J) g⟩
theorem O338 {a b:Nat}(o:a≤b)(t:b≤70):a≤2 ^ 24:=Nat.le_trans o (Nat.le_trans t (of_decide_eq_true (id (Eq.refl true))))
theorem O340 {a b c:Nat}(o:a≤2*b)(t:b=c)(J:c≤200):a≤400:=Nat.le_of_not_lt fun g=>lin [a,b,c] [(1, .L (.w 0) (.m 2 (.w 1))),(2, .E (.w 1) (.w 2)),(2, .L (.w 2) (.n 200)),(1, .T (.n 400) (.w 0))] rfl (nl o) (nq t) (nl J) (nt g)
theorem O341 {a b c:Nat}(o:a≤2*b)(t:b=c)(J:c≤400):a≤800:=Nat.le_of_not_lt fun g=>lin [a,b,c] [(1, .L (.w 0) (.m 2 (.w 1))),(2, .E (.w 1) (.w 2)),(2, .L (.w 2) (.n 400)),(1, .T (.n 800) (.w 0))] rfl (nl o) (nq t) (nl J) (nt g)
theorem O344 {a b:Nat}(o:a≤b)(t:b≤70):(a*800)+(a*1)≤16777216:=Nat.le_of_not_lt fun g=>lin [a,b] [(801, .L (.w 0) (.w 1)),(801, .L (.w 1) (.n 70)),(1, .T (.n 16777216) (.a (.r (.w 0) 800) (.r (.w 0) 1)))] rfl (nl o) (nl t) (nt g)
theorem O346 {a b:Nat}:a+((b+1)+1)=((a+1)+b)+1:=Nat.le_antisymm (Nat.le_of_not_lt fun g=>lin [a,b] [(1, .T (.a (.a (.a (.w 0) (.n 1)) (.w 1)) (.n 1)) (.a (.w 0) (.a (.a (.w 1) (.n 1)) (.n 1))))] rfl (nt g)) (Nat.le_of_not_lt fun g=>lin [a,b] [(1, .T (.a (.w 0) (.a (.a (.w 1) (.n 1)) (.n 1))) (.a (.a (.a (.w 0) (.n 1)) (.w 1)) (.n 1)))] rfl (nt g))
theorem O347 {a:Nat}(o:a≤900):(a:Int) < 2 ^ 63:=Int.ofNat_lt.mpr (Nat.lt_of_le_of_lt o (of_decide_eq_true (id (Eq.refl true))))
theorem O348 {a:Nat}:(((-((a+1:Nat):Int)):Int)≤0)∧((0:Int) < ((a+1:Nat):Int)):=⟨Int.neg_natCast_le_ofNat (a+1) 0,Int.ofNat_succ_pos a⟩
theorem O349 {a:Nat}(o:a≤899):a+1 < 2 ^ 63:=Nat.lt_of_not_le fun g=>lin [a] [(1, .L (.w 0) (.n 899)),(1, .L (.n 9223372036854775808) (.a (.w 0) (.n 1)))] rfl (nl o) (nl g)
theorem O351 {a:Nat}(o:a≤900):1+a≤2 ^ 24:=Nat.le_of_not_lt fun g=>lin [a] [(1, .L (.w 0) (.n 900)),(1, .T (.n 16777216) (.a (.n 1) (.w 0)))] rfl (nl o) (nt g)
theorem O352 {a:Nat}:(1:Nat)≤a+1:=Nat.le_add_left 1 a
theorem O353 {a:Nat}(o:a≤900):(a - 1)+1≤901:=Nat.le_of_not_lt fun g=>(Nat.le_total 1 a).elim (fun O=>lin [a,(((a - 1):Nat):Int)] [(1, .L (.w 0) (.n 900)),(1, .T (.n 901) (.a (.w 1) (.n 1))),(1, .E (.a (.w 1) (.n 1)) (.w 0))] rfl (nl o) (nt g) (nq (Nat.sub_add_cancel O))) (fun O=>lin [(((a - 1):Nat):Int)] [(1, .T (.n 901) (.a (.w 0) (.n 1))),(1, .E (.w 0) (.n 0))] rfl (nt g) (nq (Nat.sub_eq_zero_of_le O)))
theorem O357 {a b c:Nat}(o:a=1)(t:b≤901)(J:c=1):a+(b+(c+0))≤2 ^ 24:=Nat.le_of_not_lt fun g=>lin [a,b,c] [(1, .E (.w 0) (.n 1)),(1, .L (.w 1) (.n 901)),(1, .E (.w 2) (.n 1)),(1, .T (.n 16777216) (.a (.w 0) (.a (.w 1) (.a (.w 2) (.n 0)))))] rfl (nq o) (nl t) (nq J) (nt g)
theorem O358 {a b:Nat}(o:a≤b)(t:b - a=0):a=b:=Nat.le_antisymm (Nat.le_of_not_lt fun g=>lin [a,b] [(1, .L (.w 0) (.w 1)),(1, .T (.w 1) (.w 0))] rfl (nl o) (nt g)) (Nat.le_of_not_lt fun g=>(Nat.le_total a b).elim (fun O=>lin [(((b - a):Nat):Int),a,b] [(1, .E (.w 0) (.n 0)),(1, .T (.w 1) (.w 2)),(-1, .E (.a (.w 0) (.w 1)) (.w 2))] rfl (nq t) (nt g) (nq (Nat.sub_add_cancel O))) (fun O=>lin [a,b] [(1, .T (.w 0) (.w 1)),(1, .L (.w 1) (.w 0))] rfl (nt g) (nl O)))
theorem O359 {a:Nat}:a - a=0:=Nat.sub_self a
theorem O361 {a b:Nat}(o:b < a):(a - 1) - (a - (b+1))=b:=by exact sb (Nat.add_comm b 1 ..) (sy (Nat.sub_sub ..) (Nat.sub_sub_self (Nat.le_sub_one_of_lt o)))
theorem O364 {a b c:Nat}(o:a - c=b+1):(a - 1) - ((b+1) - 1)=c:=by lia
theorem O365 {a:Nat}:a+1 < a+2:=Nat.lt_add_one (a+1)
theorem O371 {a b:Nat}:(a+1)+b=(a+b)+1:=Nat.add_right_comm a 1 b
theorem O373 {a b:Nat}(o:(b>a)∨(a - b < 1)):a≤b:=Nat.le_of_not_lt fun g=>o.elim (fun O=>lin [b,a] [(1, .T (.w 0) (.w 1)),(1, .T (.w 1) (.w 0))] rfl (nt g) (nt O)) (fun O=>(Nat.le_total b a).elim (fun q2=>lin [b,a,(((a - b):Nat):Int)] [(1, .T (.w 0) (.w 1)),(1, .T (.w 2) (.n 1)),(-1, .E (.a (.w 2) (.w 0)) (.w 1))] rfl (nt g) (nt O) (nq (Nat.sub_add_cancel q2))) (fun q2=>lin [b,a] [(1, .T (.w 0) (.w 1)),(1, .L (.w 1) (.w 0))] rfl (nt g) (nl q2)))
theorem O374 {a b:Nat}:(min (a+1) b) - a≤2 ^ 24:=Nat.le_trans (Nat.sub_le_sub_right (Nat.min_le_left _ _) a) (by refine sb (Nat.add_sub_cancel_left ..) ?_; decide)
theorem O375 {a b:Nat}(o:a < b):(min (a+1) b) - a=1:=by exact sb (Nat.min_eq_left o) (Nat.add_sub_cancel_left a 1)
theorem O377 {a b:Nat}(o:a=b)(t:b≤10000):a≤2 ^ 24:=Nat.le_of_not_lt fun g=>lin [a,b] [(1, .E (.w 0) (.w 1)),(1, .L (.w 1) (.n 10000)),(1, .T (.n 16777216) (.w 0))] rfl (nq o) (nl t) (nt g)
theorem O379 {a b c:Nat}(o:b≤1000):(min a b) - c≤2 ^ 24:=Nat.le_trans (Nat.sub_le _ _) (Nat.le_trans (Nat.min_le_right _ _) (Nat.le_trans o (by decide)))
theorem O380 {a b c:Nat}(o:a≤2*b)(t:c≤1000)(J:b≤c):a≤10000:=Nat.le_of_not_lt fun g=>lin [a,b,c] [(1, .L (.w 0) (.m 2 (.w 1))),(2, .L (.w 2) (.n 1000)),(2, .L (.w 1) (.w 2)),(1, .T (.n 10000) (.w 0))] rfl (nl o) (nl t) (nl J) (nt g)
theorem O381 {a b c:Nat}(o:b≤1000):(min a b) - c≤1001:=Nat.le_trans (Nat.sub_le _ _) (Nat.le_trans (Nat.min_le_right _ _) (Nat.le_trans o (by decide)))
theorem O382 {a b c d e:Nat}(o:a=b+1)(t:c < d)(J:e < c)(h3:d≤1000)(h4:b≤2*e):a≤10000:=Nat.le_of_not_lt fun g=>lin [a,b,c,d,e] [(1, .E (.w 0) (.a (.w 1) (.n 1))),(2, .T (.w 2) (.w 3)),(2, .T (.w 4) (.w 2)),(2, .L (.w 3) (.n 1000)),(1, .L (.w 1) (.m 2 (.w 4))),(1, .T (.n 10000) (.w 0))] rfl (nq o) (nt t) (nt J) (nl h3) (nl h4) (nt g)
theorem O383 {a b c d:Nat}(o:a+1≤(b+1)+d)(t:d < c):a+1≤b+(c+1):=Nat.le_of_not_lt fun g=>lin [a,b,d,c] [(1, .L (.a (.w 0) (.n 1)) (.a (.a (.w 1) (.n 1)) (.w 2))),(1, .T (.w 2) (.w 3)),(1, .T (.a (.w 1) (.a (.w 3) (.n 1))) (.a (.w 0) (.n 1)))] rfl (nl o) (nt t) (nt g)
theorem O384 {a b c d:Nat}(o:a=c+1)(t:d < b)(J:c≤2*d):a+(0+1)≤2*(b+1):=Nat.le_of_not_lt fun g=>lin [a,c,d,b] [(1, .E (.w 0) (.a (.w 1) (.n 1))),(2, .T (.w 2) (.w 3)),(1, .L (.w 1) (.m 2 (.w 2))),(1, .T (.m 2 (.a (.w 3) (.n 1))) (.a (.w 0) (.a (.n 0) (.n 1))))] rfl (nq o) (nt t) (nl J) (nt g)
theorem O385 {a b c:Nat}(o:a=1):a+((min (b+1) c) - b)≤1001:=by subst o; exact Nat.le_trans (Nat.add_le_add_left (Nat.sub_le_sub_right (Nat.min_le_left _ _) b) 1) (by refine sb (Nat.add_sub_cancel_left ..) ?_; decide)
theorem O386 {a b c d:Nat}(o:a≤2*b)(t:c < d)(J:d≤1000)(h3:b≤c):a≤10000:=Nat.le_of_not_lt fun g=>lin [a,b,c,d] [(1, .L (.w 0) (.m 2 (.w 1))),(2, .T (.w 2) (.w 3)),(2, .L (.w 3) (.n 1000)),(2, .L (.w 1) (.w 2)),(1, .T (.n 10000) (.w 0))] rfl (nl o) (nt t) (nl J) (nl h3) (nt g)
theorem O387 {a b c:Nat}(o:a≤2*c)(t:c≤b):a+(0+1)≤2*(b+1):=Nat.le_of_not_lt fun g=>lin [a,c,b] [(1, .L (.w 0) (.m 2 (.w 1))),(2, .L (.w 1) (.w 2)),(1, .T (.m 2 (.a (.w 2) (.n 1))) (.a (.w 0) (.a (.n 0) (.n 1))))] rfl (nl o) (nl t) (nt g)
theorem O388 {a b c:Nat}(o:a≤2*b)(t:b < c)(J:c≤1000):a≤10000:=Nat.le_of_not_lt fun g=>lin [a,b,c] [(1, .L (.w 0) (.m 2 (.w 1))),(2, .T (.w 1) (.w 2)),(2, .L (.w 2) (.n 1000)),(1, .T (.n 10000) (.w 0))] rfl (nl o) (nt t) (nl J) (nt g)
theorem O389 {a b:Nat}(o:a≤1000):(min a a) - b≤1001:=Nat.le_trans (Nat.sub_le _ _) (Nat.le_trans (Nat.min_le_right _ _) (Nat.le_trans o (by decide)))
theorem O390 {a:Nat}:(min 0 a) - 0=0:=Nat.sub_zero (min 0 a)
theorem O391 {a b c d:Nat}(o:a=b+1)(t:c < d)(J:d≤1000)(h3:b≤2*c):a≤4000:=Nat.le_of_not_lt fun g=>lin [a,b,c,d] [(1, .E (.w 0) (.a (.w 1) (.n 1))),(2, .T (.w 2) (.w 3)),(2, .L (.w 3) (.n 1000)),(1, .L (.w 1) (.m 2 (.w 2))),(1, .T (.n 4000) (.w 0))] rfl (nq o) (nt t) (nl J) (nl h3) (nt g)
theorem O392 {a b c:Nat}(o:a≤2*b)(t:c≤1000)(J:b≤c):a≤4000:=Nat.le_of_not_lt fun g=>lin [a,b,c] [(1, .L (.w 0) (.m 2 (.w 1))),(2, .L (.w 2) (.n 1000)),(2, .L (.w 1) (.w 2)),(1, .T (.n 4000) (.w 0))] rfl (nl o) (nl t) (nl J) (nt g)
theorem O393 {a b c:Nat}(o:b=10)(t:c+a≤10):min a (b - c)=a:=Nat.min_eq_left (Nat.le_sub_of_add_le (by exact sb (o ..) (sb (Nat.add_comm ..) t)))
theorem O394 {a b:Nat}:((a:Int)+(b:Int))=((a+b:Nat):Int):=Int.ofNat_add_ofNat a b
theorem O396 {a b:Nat}:(a+b) - a=b:=Nat.add_sub_self_left a b
theorem O399 {a:Nat}(o:a≤63):(a:Int) < 2 ^ 63:=Int.ofNat_lt.mpr (Nat.lt_of_le_of_lt o (of_decide_eq_true (id (Eq.refl true))))
theorem O401:(((-(2 ^ 63)):Int)≤0)∧((0:Int) < 2 ^ 63):=of_decide_eq_true (id (Eq.refl true))
theorem O402 {a:Nat}(o:a < 8):((4:Int)*(a:Int))≤2 ^ 27:=Int.not_lt.mp fun g=>lin [a] [(4, .T (.w 0) (.n 8)),(1, .T (.n (2^27)) (.m 4 (.w 0)))] rfl (nt o) g
theorem O403 {a b:Nat}:((-(a:Int)):Int)≤(b:Int):=Int.neg_natCast_le_natCast a b
theorem O406 {a:Int}(o:((0:Int)≤a)∧(a < 3)):(((-(2 ^ 63)):Int)≤a)∧(a < 2 ^ 63):=⟨Int.not_lt.mp fun g=>lin [a] [(1, .L (.n 0) (.w 0)),(1, .T (.w 0) (.g (.n (2^63))))] rfl o.1 g,Int.not_le.mp fun g=>lin [a] [(1, .T (.w 0) (.n 3)),(1, .L (.n (2^63)) (.w 0))] rfl o.2 g⟩
theorem O407 {a:Nat}(o:(a=4)∨((a=5)∨(a=6))):(10 - (a:Int))≠0:=fun g=>lin [a] [(1, .L (.w 0) (.n 6)),(1, .E (.s (.n 10) (.w 0)) (.n 0))] rfl (nl (d456 o).2) g
theorem O410 {a b c:Nat}(o:a≤c)(t:b≤c)(J:c=10):a+b≤2 ^ 24:=Nat.le_of_not_lt fun g=>lin [a,c,b] [(1, .L (.w 0) (.w 1)),(1, .L (.w 2) (.w 1)),(2, .E (.w 1) (.n 10)),(1, .T (.n 16777216) (.a (.w 0) (.w 2)))] rfl (nl o) (nl t) (nq J) (nt g)
theorem O411 {a:Nat}(o:a=10):a≤2 ^ 24:=Eq.symm o▸Nat.le_of_ble_eq_true rfl
theorem O413 {a:Nat}(o:(a=45)∨((a=83)∨((a=84)∨((a=114)∨((a=115)∨((a=116)∨((a=119)∨(a=120)))))))):a < 128:=by rcases o with rfl | rfl | rfl | rfl | rfl | rfl | rfl | rfl <;>decide
theorem O414 {a b c:Nat}(o:a=c)(t:b=c):a+b=2*c:=Eq.ndrec (motive:=fun {c}=>b=c→a+b=2*c) (fun t=>t▸Eq.symm (Nat.two_mul b)) o t
theorem O415 {a b c:Nat}(o:(c=4)∨((c=5)∨(c=6)))(t:a=c)(J:b=c):a+(b+0)≤16777216:=Nat.le_of_not_lt fun g=>lin [c,a,b] [(2, .L (.w 0) (.n 6)),(1, .E (.w 1) (.w 0)),(1, .E (.w 2) (.w 0)),(1, .T (.n 16777216) (.a (.w 1) (.a (.w 2) (.n 0))))] rfl (nl (d456 o).2) (nq t) (nq J) (nt g)
theorem O416 {a:Nat}(o:a < 128):((0:Int)≤(a:Int))∧((a:Int) < 256):=⟨Int.not_lt.mp fun g=>lin [a] [(1, .T (.w 0) (.n 0)),(1, .L (.n 0) (.w 0))] rfl g (Int.natCast_nonneg _),Int.not_le.mp fun g=>lin [a] [(1, .T (.w 0) (.n 128)),(1, .L (.n 256) (.w 0))] rfl (nt o) g⟩
theorem O417 {a b c:Nat}(o:(c=4)∨((c=5)∨(c=6)))(t:a=c)(J:b=c):a+b≤2 ^ 24:=Nat.le_of_not_lt fun g=>lin [c,a,b] [(2, .L (.w 0) (.n 6)),(1, .E (.w 1) (.w 0)),(1, .E (.w 2) (.w 0)),(1, .T (.n 16777216) (.a (.w 1) (.w 2)))] rfl (nl (d456 o).2) (nq t) (nq J) (nt g)
theorem O419:(((-(2 ^ 63)):Int)≤1)∧((1:Int) < 2 ^ 63):=of_decide_eq_true (id (Eq.refl true))
theorem O422 {a:Nat}(o:a < 2):(a=0)∨(a=1):=by cases a with | zero=>exact .inl rfl | succ n=>exact .inr (congrArg _ (Nat.lt_one_iff.mp (Nat.lt_of_succ_lt_succ o)))
theorem O423 {a b:Nat}(o:(b=4)∨((b=5)∨(b=6)))(t:a=b):a≤6:=Nat.le_of_not_lt fun g=>lin [b,a] [(1, .L (.w 0) (.n 6)),(1, .E (.w 1) (.w 0)),(1, .T (.n 6) (.w 1))] rfl (nl (d456 o).2) (nq t) (nt g)
theorem O425 {a b c:Nat}(o:a=2*b)(t:c=b)(J:c≤6):a≤12:=Nat.le_of_not_lt fun g=>lin [a,b,c] [(1, .E (.w 0) (.m 2 (.w 1))),(-2, .E (.w 2) (.w 1)),(2, .L (.w 2) (.n 6)),(1, .T (.n 12) (.w 0))] rfl (nq o) (nq t) (nl J) (nt g)
theorem O426 {a b c:Nat}(o:a=2*b)(t:c=b)(J:c≤6):a≤2 ^ 24:=Nat.le_of_not_lt fun g=>lin [a,b,c] [(1, .E (.w 0) (.m 2 (.w 1))),(-2, .E (.w 2) (.w 1)),(2, .L (.w 2) (.n 6)),(1, .T (.n 16777216) (.w 0))] rfl (nq o) (nq t) (nl J) (nt g)
theorem O428 {a:Nat}(o:a < 2 ^ 8):(a:Int)≤1114111:=Int.not_lt.mp fun g=>lin [a] [(1, .T (.w 0) (.n 256)),(1, .T (.n 1114111) (.w 0))] rfl (nt o) g
theorem O429 {a:Nat}(o:a < 2):(((-(2 ^ 63)):Int)≤(a:Int))∧((a:Int) < 2 ^ 63):=⟨Int.not_lt.mp fun g=>lin [a] [(1, .T (.w 0) (.g (.n (2^63)))),(1, .L (.n 0) (.w 0))] rfl g (Int.natCast_nonneg _),Int.not_le.mp fun g=>lin [a] [(1, .T (.w 0) (.n 2)),(1, .L (.n (2^63)) (.w 0))] rfl (nt o) g⟩
theorem O432 {a b:Nat}(o:a≤b):(a:Int)≤(b:Int):=Int.not_lt.mp fun g=>lin [a,b] [(1, .L (.w 0) (.w 1)),(1, .T (.w 1) (.w 0))] rfl (nl o) g
theorem O433 {a:Nat}(o:(0:Nat) < a):(0:Int) < (a:Int):=Int.not_le.mp fun g=>lin [a] [(1, .T (.n 0) (.w 0)),(1, .L (.w 0) (.n 0))] rfl (nt o) g
theorem O434 {a:Nat}{b:Int}(o:((0:Int)≤b)∧(b < (a:Int))):(((-(a:Int)):Int)≤b)∧(b < (a:Int)):=⟨Int.not_lt.mp fun g=>lin [b,a] [(2, .L (.n 0) (.w 0)),(1, .T (.w 0) (.w 1)),(1, .T (.w 0) (.g (.w 1)))] rfl o.1 o.2 g,Int.not_le.mp fun g=>lin [b,a] [(1, .T (.w 0) (.w 1)),(1, .L (.w 1) (.w 0))] rfl o.2 g⟩
theorem O435 {a:Nat}(o:a≤64):(a:Int) < 2 ^ 63:=Int.ofNat_lt.mpr (Nat.lt_of_le_of_lt o (of_decide_eq_true (id (Eq.refl true))))
theorem O436 {a:Nat}(o:(0:Nat) < a):(a:Int)≠0:=fun g=>lin [a] [(1, .T (.n 0) (.w 0)),(1, .E (.w 0) (.n 0))] rfl (nt o) g
theorem O438 {a:Nat}(o:a≤100):6+a≤2 ^ 24:=Nat.le_of_not_lt fun g=>lin [a] [(1, .L (.w 0) (.n 100)),(1, .T (.n 16777216) (.a (.n 6) (.w 0)))] rfl (nl o) (nt g)
theorem O439 {a:Nat}(o:a≤100):(6+a)+1≤2 ^ 24:=Nat.le_of_not_lt fun g=>lin [a] [(1, .L (.w 0) (.n 100)),(1, .T (.n 16777216) (.a (.a (.n 6) (.w 0)) (.n 1)))] rfl (nl o) (nt g)
theorem O442 {a b:Nat}(o:b=a)(t:b≤6):a≤6:=le_of_eq_of_le (id (Eq.symm o)) t
theorem O443 {a:Nat}(o:a≤100):(6+a)+1≤107:=Nat.le_of_not_lt fun g=>lin [a] [(1, .L (.w 0) (.n 100)),(1, .T (.n 107) (.a (.a (.n 6) (.w 0)) (.n 1)))] rfl (nl o) (nt g)
theorem O444 {a:Nat}(o:a≤642):4+a≤2 ^ 24:=Nat.le_of_not_lt fun g=>lin [a] [(1, .L (.w 0) (.n 642)),(1, .T (.n 16777216) (.a (.n 4) (.w 0)))] rfl (nl o) (nt g)
theorem O445 {a:Nat}(o:a≤642):(4+a)+5≤2 ^ 24:=Nat.le_of_not_lt fun g=>lin [a] [(1, .L (.w 0) (.n 642)),(1, .T (.n 16777216) (.a (.a (.n 4) (.w 0)) (.n 5)))] rfl (nl o) (nt g)
theorem O447 {a:Nat}(o:(2:Nat)≤a)(t:a=0):False:=Eq.ndrec (motive:=fun {a}=>2≤a→False) (fun o=>Nat.not_succ_le_zero 1 o) (Eq.symm t) o
theorem O448 {a:Nat}(o:(2:Nat)≤a):(((-(a:Int)):Int)≤0)∧((0:Int) < (a:Int)):=⟨Int.not_lt.mp fun g=>lin [a] [(1, .L (.n 2) (.w 0)),(1, .T (.n 0) (.g (.w 0)))] rfl (nl o) g,Int.not_le.mp fun g=>lin [a] [(1, .L (.n 2) (.w 0)),(1, .L (.w 0) (.n 0))] rfl (nl o) g⟩
theorem O449 {a b:Nat}(o:a≤100)(t:b≤642):a+b≤2 ^ 24:=Nat.le_trans (Nat.add_le_add o t) (of_decide_eq_true (id (Eq.refl true)))
theorem O450 {a b:Nat}(o:a≤100)(t:b≤642):(a+b)+2≤2 ^ 24:=Nat.le_of_not_lt fun g=>lin [a,b] [(1, .L (.w 0) (.n 100)),(1, .L (.w 1) (.n 642)),(1, .T (.n 16777216) (.a (.a (.w 0) (.w 1)) (.n 2)))] rfl (nl o) (nl t) (nt g)
theorem O451 {a:Nat}(o:(2:Nat)≤a):(((-(a:Int)):Int)≤-1)∧(((-1):Int) < (a:Int)):=⟨Int.not_lt.mp fun g=>lin [a] [(1, .L (.n 2) (.w 0)),(1, .T (.g (.n 1)) (.g (.w 0)))] rfl (nl o) g,Int.not_le.mp fun g=>lin [a] [(1, .L (.n 2) (.w 0)),(1, .L (.w 0) (.g (.n 1)))] rfl (nl o) g⟩
theorem O452 {a b c:Nat}(o:a≤100)(t:b≤642)(J:c≤100):((a+b)+2)+c≤2 ^ 24:=Nat.le_of_not_lt fun g=>lin [a,b,c] [(1, .L (.w 0) (.n 100)),(1, .L (.w 1) (.n 642)),(1, .L (.w 2) (.n 100)),(1, .T (.n 16777216) (.a (.a (.a (.w 0) (.w 1)) (.n 2)) (.w 2)))] rfl (nl o) (nl t) (nl J) (nt g)
theorem O453 {a b c:Nat}(o:a≤100)(t:b≤642)(J:c≤100):((a+b)+2)+c≤844:=Nat.le_of_not_lt fun g=>lin [a,b,c] [(1, .L (.w 0) (.n 100)),(1, .L (.w 1) (.n 642)),(1, .L (.w 2) (.n 100)),(1, .T (.n 844) (.a (.a (.a (.w 0) (.w 1)) (.n 2)) (.w 2)))] rfl (nl o) (nl t) (nl J) (nt g)
theorem O454 {a b:Nat}(o:b=a)(t:b≤6):a - 1 < 6:=Nat.lt_of_not_le fun g=>(Nat.le_total 1 a).elim (fun O=>lin [b,a,(((a - 1):Nat):Int)] [(-1, .E (.w 0) (.w 1)),(1, .L (.w 0) (.n 6)),(1, .L (.n 6) (.w 2)),(1, .E (.a (.w 2) (.n 1)) (.w 1))] rfl (nq o) (nl t) (nl g) (nq (Nat.sub_add_cancel O))) (fun O=>lin [(((a - 1):Nat):Int)] [(1, .L (.n 6) (.w 0)),(1, .E (.w 0) (.n 0))] rfl (nl g) (nq (Nat.sub_eq_zero_of_le O)))
theorem O455 {a b:Nat}(o:(2:Nat)≤b)(t:b=a):(a - 1)+1=a:=by subst t; exact Nat.sub_add_cancel (Nat.le_trans (by decide) o)
theorem O456 {a:Nat}(o:a≤844):4+a≤2 ^ 24:=Nat.le_of_not_lt fun g=>lin [a] [(1, .L (.w 0) (.n 844)),(1, .T (.n 16777216) (.a (.n 4) (.w 0)))] rfl (nl o) (nt g)
theorem O457 {a:Nat}(o:a≤844):(4+a)+3≤2 ^ 24:=Nat.le_of_not_lt fun g=>lin [a] [(1, .L (.w 0) (.n 844)),(1, .T (.n 16777216) (.a (.a (.n 4) (.w 0)) (.n 3)))] rfl (nl o) (nt g)
theorem O459 {a b c:Nat}(o:b=a)(t:b=c+1):(1:Nat)≤a:=o▸Eq.symm t▸Nat.le_add_left 1 c
theorem O461 {a b c:Nat}(o:b=a+1)(t:c=b)(J:c≤6):(((2*a)+1)+(0+1))+1≤2 ^ 24:=Nat.le_of_not_lt fun g=>lin [b,a,c] [(-2, .E (.w 0) (.a (.w 1) (.n 1))),(-2, .E (.w 2) (.w 0)),(2, .L (.w 2) (.n 6)),(1, .T (.n 16777216) (.a (.a (.a (.m 2 (.w 1)) (.n 1)) (.a (.n 0) (.n 1))) (.n 1)))] rfl (nq o) (nq t) (nl J) (nt g)
theorem O463 {a b:Nat}(o:b=a)(t:b≤6):a+1≤2 ^ 24:=o▸Nat.le_trans (Nat.add_le_add_right t 1) (of_decide_eq_true (id (Eq.refl true)))
theorem O464 {a b c d e:Nat}(o:a=b+c)(t:b+d≤16777216)(J:c < e)(h3:e=d):a≤2 ^ 24:=Nat.le_of_not_lt fun g=>lin [a,b,c,d,e] [(1, .E (.w 0) (.a (.w 1) (.w 2))),(1, .L (.a (.w 1) (.w 3)) (.n 16777216)),(1, .T (.w 2) (.w 4)),(1, .E (.w 4) (.w 3)),(1, .T (.n 16777216) (.w 0))] rfl (nq o) (nl t) (nt J) (nq h3) (nt g)
theorem O465 {a b c:Nat}(o:a=b+c):a+1=b+(c+1):=Nat.le_antisymm (Nat.le_of_not_lt fun g=>lin [a,b,c] [(1, .E (.w 0) (.a (.w 1) (.w 2))),(1, .T (.a (.w 1) (.a (.w 2) (.n 1))) (.a (.w 0) (.n 1)))] rfl (nq o) (nt g)) (Nat.le_of_not_lt fun g=>lin [a,b,c] [(-1, .E (.w 0) (.a (.w 1) (.w 2))),(1, .T (.a (.w 0) (.n 1)) (.a (.w 1) (.a (.w 2) (.n 1))))] rfl (nq o) (nt g))
theorem O466 {a b c:Nat}(o:b=c)(t:c=a+1):a≤b:=Eq.ndrec (motive:=fun {c}=>c=a+1→a≤b) (fun t=>Nat.le.intro (id (Eq.symm t))) o t
theorem O467 {a b c d e f:Nat}(o:c+(b+0)≤d)(t:e=a)(J:f=c)(h3:e=f)(h4:d≤16777216):a+b≤16777216:=Nat.le_of_not_lt fun g=>lin [c,b,d,e,a,f] [(1, .L (.a (.w 0) (.a (.w 1) (.n 0))) (.w 2)),(-1, .E (.w 3) (.w 4)),(1, .E (.w 5) (.w 0)),(1, .E (.w 3) (.w 5)),(1, .L (.w 2) (.n 16777216)),(1, .T (.n 16777216) (.a (.w 4) (.w 1)))] rfl (nl o) (nq t) (nq J) (nq h3) (nl h4) (nt g)
theorem O468 {a b c d:Nat}(o:a=c)(t:b=d)(J:c+d≤2 ^ 24):a+b≤2 ^ 24:=Nat.le_of_not_lt fun g=>lin [a,c,b,d] [(1, .E (.w 0) (.w 1)),(1, .E (.w 2) (.w 3)),(1, .L (.a (.w 1) (.w 3)) (.n 16777216)),(1, .T (.n 16777216) (.a (.w 0) (.w 2)))] rfl (nq o) (nq t) (nl J) (nt g)
theorem O469 {a b:Nat}(o:a+(10*(b+1)) < 9900):a+1 < 9900:=Nat.lt_of_not_le fun g=>lin [a,b] [(1, .T (.a (.w 0) (.m 10 (.a (.w 1) (.n 1)))) (.n 9900)),(1, .L (.n 9900) (.a (.w 0) (.n 1))),(10, .L (.n 0) (.w 1))] rfl (nt o) (nl g) (Int.natCast_nonneg _)
theorem O470 {a:Nat}:(Int.toNat (((((a:Int) - 1) - (-1)) - (-1)) - 1))=a:=of_eq_true   (Eq.trans     (congrFun'       (congrArg Eq         (congrArg Int.toNat           (Eq.trans             (congrFun'               (congrArg HSub.hSub                 (Eq.trans                   (congrFun' (congrArg HSub.hSub (Eq.trans (Int.sub_neg (↑a - 1) 1) (Int.sub_add_cancel (↑a) 1))) (-1))                   (Int.sub_neg (↑a) 1)))               1)             (Int.add_sub_cancel (↑a) 1))))       a)     (eq_self a))
theorem O471 {a:Nat}(o:¬(((a:Int) - 1)> -1)):Int.toNat 0=a:=by lia
theorem O472 {a b:Nat}:(Int.toNat (((a:Int) - 1)+((-1)*(b:Int))))=(a - 1) - b:=by rw [Int.neg_mul,Int.one_mul,← Int.sub_eq_add_neg,Int.sub_sub]; exact (Int.toNat_sub a (1+b)).trans (Nat.sub_sub a 1 b).symm
theorem O474 {a:Int}(o:((0:Int)≤a)∧(a < 3)):((1:Nat)≤1+(Int.toNat a))∧(1+(Int.toNat a)≤3):=⟨Nat.le_of_not_lt fun g=>lin [(((Int.toNat a):Nat):Int)] [(1, .T (.a (.n 1) (.w 0)) (.n 1)),(1, .L (.n 0) (.w 0))] rfl (nt g) (Int.natCast_nonneg _),Nat.le_of_not_lt fun g=>(Int.le_total 0 a).elim (fun O=>lin [a,(((Int.toNat a):Nat):Int)] [(1, .T (.w 0) (.n 3)),(1, .T (.n 3) (.a (.n 1) (.w 1))),(1, .E (.w 1) (.w 0))] rfl o.2 (nt g) (Int.toNat_of_nonneg O)) (fun O=>lin [(((Int.toNat a):Nat):Int)] [(1, .T (.n 3) (.a (.n 1) (.w 0))),(1, .E (.w 0) (.n 0))] rfl (nt g) (nq (Int.toNat_of_nonpos O)))⟩
theorem O475 {a:Nat}(o:((1:Nat)≤a)∧(a≤3)):(a=1)∨((a=2)∨(a=3)):=by lia
theorem O476 {a:Int}(o:((0:Int)≤a)∧(a < 3)):1+a=((1+(Int.toNat a):Nat):Int):=by simp only [Int.natCast_add,Int.toNat_of_nonneg o.1]; rfl
theorem O478 {a b c:Nat}:(a+(b+c)) - c=a+b:=by exact sy (Nat.add_assoc ..) (sb (Nat.add_sub_cancel ..) rfl)
theorem O481 {a b c d:Nat}(o:((1:Nat)≤b)∧(b≤3))(t:a≤73*(d+1))(J:c≤70):a+(b+c)≤73*((d+1)+1):=Nat.le_of_not_lt fun g=>lin [b,a,d,c] [(1, .L (.w 0) (.n 3)),(1, .L (.w 1) (.m 73 (.a (.w 2) (.n 1)))),(1, .L (.w 3) (.n 70)),(1, .T (.m 73 (.a (.a (.w 2) (.n 1)) (.n 1))) (.a (.w 1) (.a (.w 0) (.w 3))))] rfl (nl o.2) (nl t) (nl J) (nt g)
theorem O482 {a b c d:Nat}(o:((1:Nat)≤a)∧(a≤3))(t:((1:Nat)≤c)∧(c≤3))(J:b≤73*(d+1))(h3:d < 6):a+(b+c)≤1000:=Nat.le_of_not_lt fun g=>lin [a,c,b,d] [(1, .L (.w 0) (.n 3)),(1, .L (.w 1) (.n 3)),(1, .L (.w 2) (.m 73 (.a (.w 3) (.n 1)))),(73, .T (.w 3) (.n 6)),(1, .T (.n 1000) (.a (.w 0) (.a (.w 2) (.w 1))))] rfl (nl o.2) (nl t.2) (nl J) (nt h3) (nt g)
theorem O483 {a:Nat}:(2*a)+2=2*(a+1):=Eq.refl (2*a+2)
theorem O484 {a b:Nat}(o:b=a+1)(t:b≤6):a < 6:=Eq.ndrec (motive:=fun {b}=>b≤6→a < 6) (fun t=>Nat.lt_of_succ_le t) (Eq.symm o) t
theorem O486 {a b:Nat}(o:b=a+1)(t:b≤6):2*a≤57:=Nat.le_of_not_lt fun g=>lin [b,a] [(-2, .E (.w 0) (.a (.w 1) (.n 1))),(2, .L (.w 0) (.n 6)),(1, .T (.n 57) (.m 2 (.w 1)))] rfl (nq o) (nl t) (nt g)
theorem O488 {a b c:Nat}(o:a≤73*(b+1))(t:c=b+1)(J:c≤6):a≤1000:=Nat.le_of_not_lt fun g=>lin [a,b,c] [(1, .L (.w 0) (.m 73 (.a (.w 1) (.n 1)))),(-73, .E (.w 2) (.a (.w 1) (.n 1))),(73, .L (.w 2) (.n 6)),(1, .T (.n 1000) (.w 0))] rfl (nl o) (nq t) (nl J) (nt g)
theorem O489 {a b:Nat}(o:b=a+1)(t:b≤6):2*a≤59:=Nat.le_of_not_lt fun g=>lin [b,a] [(-2, .E (.w 0) (.a (.w 1) (.n 1))),(2, .L (.w 0) (.n 6)),(1, .T (.n 59) (.m 2 (.w 1)))] rfl (nq o) (nl t) (nt g)
theorem O490 {a b:Nat}(o:a≤b)(t:b - a≤0):a=b:=Nat.le_antisymm (Nat.le_of_not_lt fun g=>lin [a,b] [(1, .L (.w 0) (.w 1)),(1, .T (.w 1) (.w 0))] rfl (nl o) (nt g)) (Nat.le_of_not_lt fun g=>(Nat.le_total a b).elim (fun O=>lin [(((b - a):Nat):Int),a,b] [(1, .L (.w 0) (.n 0)),(1, .T (.w 1) (.w 2)),(-1, .E (.a (.w 0) (.w 1)) (.w 2))] rfl (nl t) (nt g) (nq (Nat.sub_add_cancel O))) (fun O=>lin [a,b] [(1, .T (.w 0) (.w 1)),(1, .L (.w 1) (.w 0))] rfl (nt g) (nl O)))
theorem O491 {a b c:Nat}(o:a=c)(t:b=c):a≤b:=Eq.ndrec (motive:=fun {c}=>a=c→a≤b) (fun o=>Nat.le_of_eq o) t o
theorem O493 {a b c:Nat}(o:a=c)(t:¬(b < c)):a≤b:=Eq.ndrec (motive:=fun {c}=>¬b < c→a≤b) (fun t=>Nat.le_of_not_lt t) o t
theorem O494 {a b:Nat}(o:a≤b)(t:¬(a=b)):a+1≤b:=Nat.le_of_not_lt fun g=>(Nat.lt_or_gt_of_ne t).elim (fun O=>lin [b,a] [(1, .T (.w 0) (.a (.w 1) (.n 1))),(1, .T (.w 1) (.w 0))] rfl (nt g) (nt O)) (fun O=>lin [a,b] [(1, .L (.w 0) (.w 1)),(1, .T (.w 1) (.w 0))] rfl (nl o) (nt O))
theorem O496 {a b:Nat}(o:a≤b)(t:b≤8):a≤999:=Nat.le_trans o (Nat.le_trans t (of_decide_eq_true (id (Eq.refl true))))
theorem O497 {a b:Nat}(o:a≤b)(t:b≤8):a≤1000:=Nat.le_trans o (Nat.le_trans t (of_decide_eq_true (id (Eq.refl true))))
theorem O500 {a:Nat}(o:(a:Int) < 3):(a=0)∨((a=1)∨(a=2)):=by lia
theorem O501 {a:Nat}(o:(a=4)∨((a=5)∨(a=6))):(0:Int) < (10 - (a:Int)):=Int.not_le.mp fun g=>lin [a] [(1, .L (.w 0) (.n 6)),(1, .L (.s (.n 10) (.w 0)) (.n 0))] rfl (nl (d456 o).2) g
theorem O502 {a b:Nat}(o:((0:Int)≤(a:Int))∧((a:Int) < (10 - (b:Int)))):(1+a)+b≤10:=Nat.le_of_not_lt fun g=>lin [a,b] [(1, .T (.w 0) (.s (.n 10) (.w 1))),(1, .T (.n 10) (.a (.a (.n 1) (.w 0)) (.w 1)))] rfl o.2 (nt g)
theorem O503 {a:Nat}:(1:Nat)≤1+a:=Nat.le_add_right 1 a
theorem O504 {a:Nat}:(1+(a:Int))=((1+a:Nat):Int):=Int.le_antisymm (Int.not_lt.mp fun g=>lin [a] [(1, .T (.a (.n 1) (.w 0)) (.a (.n 1) (.w 0)))] rfl g) (Int.not_lt.mp fun g=>lin [a] [(1, .T (.a (.n 1) (.w 0)) (.a (.n 1) (.w 0)))] rfl g)
theorem O505 {a b:Nat}(o:(b=4)∨((b=5)∨(b=6)))(t:a=b):(a=4)∨((a=5)∨(a=6)):=Eq.mpr (id (congrArg (fun _a=>_a=4∨_a=5∨_a=6) t)) (Or.symm (Or.symm o))
theorem O507 {a b:Nat}(o:b=2*a):(a*0)+a≤b:=Nat.le_of_not_lt fun g=>lin [b,a] [(-1, .E (.w 0) (.m 2 (.w 1))),(2, .T (.w 0) (.a (.r (.w 1) 0) (.w 1))),(1, .L (.n 0) (.w 0))] rfl (nq o) (nt g) (Int.natCast_nonneg _)
theorem O508 {a:Nat}:a*0≤(a*0)+a:=Nat.le_add_right (a*0) a
theorem O509 {a b:Nat}(o:b=2*a):(a*1)+a≤b:=Nat.le_of_not_lt fun g=>lin [b,a] [(-1, .E (.w 0) (.m 2 (.w 1))),(1, .T (.w 0) (.a (.r (.w 1) 1) (.w 1)))] rfl (nq o) (nt g)
theorem O510 {a:Nat}:a*1≤(a*1)+a:=Nat.le_add_right (a*1) a
theorem O511 {a:Nat}(o:(0:Nat) < a):¬((a:Int)=0):=fun g=>lin [a] [(1, .T (.n 0) (.w 0)),(1, .E (.w 0) (.n 0))] rfl (nt o) g
theorem O514 {a b:Nat}(o:(0:Nat) < 2 ^ b):¬(2 ^ a=(2 ^ a)+(2 ^ b)):=of_eq_true   (Eq.trans     (congrArg Not       (Eq.trans Nat.left_eq_add._simp_1         (Eq.trans Nat.pow_eq_zero._simp_1           (Eq.trans (congrFun' (congrArg And (eq_false' fun h=>False.elim (noConfusion_of_Nat Nat.ctorIdx h))) ¬b=0)             (false_and ¬b=0)))))     not_false_eq_true)
theorem O515 {a b c:Nat}(o:2 ^ b < 2 ^ a)(t:c=(2 ^ a)+(2 ^ b)):¬((0:Nat)=2 ^ a):=NeZero.ne' (2 ^ a)
theorem O516 {a b:Nat}(o:(0:Nat) < 2 ^ a)(t:2 ^ a < 2 ^ b):¬(2 ^ a=(2 ^ b)+(2 ^ a)):=of_eq_true   (Eq.trans     (congrArg Not       (Eq.trans Nat.right_eq_add._simp_1         (Eq.trans Nat.pow_eq_zero._simp_1           (Eq.trans (congrFun' (congrArg And (eq_false' fun h=>False.elim (noConfusion_of_Nat Nat.ctorIdx h))) ¬b=0)             (false_and ¬b=0)))))     not_false_eq_true)
theorem O517 {a b:Nat}(o:(0:Nat) < 2 ^ b)(t:2 ^ b < 2 ^ a):¬((0:Nat)=(2 ^ a)+(2 ^ b)):=NeZero.ne' (2 ^ a+2 ^ b)
theorem O518 {a b:Nat}:(((a:Int) % 2)+(2*(b:Int)))=(((a % 2)+(2*b):Nat):Int):=by lia
theorem O520 {a b:Nat}(o:a < b)(t:b=256):a / 32 < 8:=Eq.ndrec (motive:=fun {b}=>a < b→a / 32 < 8) (fun o=>Nat.div_lt_of_lt_mul o) (Eq.symm t) o
theorem O522 {a:Nat}:(32*(a / 32))+(a % 32)=a:=Nat.div_add_mod a 32
theorem O523 {a:Nat}(o:a < 10):(a=0)∨((a=1)∨((a=2)∨((a=3)∨((a=4)∨((a=5)∨((a=6)∨((a=7)∨((a=8)∨(a=9))))))))):=(by decide:∀a,a < 10→(a=0)∨((a=1)∨((a=2)∨((a=3)∨((a=4)∨((a=5)∨((a=6)∨((a=7)∨((a=8)∨(a=9)))))))))) a o
theorem O524 {a b:Nat}(o:((a:Int)=0)∧(((b+1:Nat):Int)=1)):a=0:=Nat.le_antisymm (Nat.le_of_not_lt fun g=>lin [a] [(1, .E (.w 0) (.n 0)),(1, .T (.n 0) (.w 0))] rfl o.1 (nt g)) (Nat.le_of_not_lt fun g=>lin [a] [(-1, .E (.w 0) (.n 0)),(1, .T (.w 0) (.n 0))] rfl o.1 (nt g))
theorem O525 {a b:Nat}(o:((b:Int)=0)∧(((a+1:Nat):Int)=1)):a=0:=Nat.le_antisymm (Nat.le_of_not_lt fun g=>lin [a] [(1, .E (.a (.w 0) (.n 1)) (.n 1)),(1, .T (.n 0) (.w 0))] rfl o.2 (nt g)) (Nat.le_of_not_lt fun g=>lin [a] [(-1, .E (.a (.w 0) (.n 1)) (.n 1)),(1, .T (.w 0) (.n 0))] rfl o.2 (nt g))
theorem O527 {a b:Nat}(o:b≤a):¬(a < b):=fun g=>lin [b,a] [(1, .L (.w 0) (.w 1)),(1, .T (.w 1) (.w 0))] rfl (nl o) (nt g)
theorem O530 {a b:Nat}(o:b=a+1):¬(((a:Int)+2) < (b:Int)):=fun g=>lin [b,a] [(1, .E (.w 0) (.a (.w 1) (.n 1))),(1, .T (.a (.w 1) (.n 2)) (.w 0))] rfl (nq o) g
theorem O531 {a b:Nat}(o:(1:Nat)=a - (b+1)):a=b+2:=(Nat.eq_add_of_sub_eq (Nat.le_of_lt (Nat.lt_of_sub_pos (by refine sy o ?_; decide))) o.symm).trans (Nat.add_comm 1 (b+1))
theorem O532 {a b:Nat}(o:b=a+2):¬(((a:Int)+2) < (b:Int)):=Eq.symm o▸Int.lt_irrefl (↑a+2)
theorem O533 {a:Nat}:a+1≤a+2:=Nat.le_succ (a+1)
theorem O537 {a:Nat}:((-((a+1:Nat):Int)):Int)≤-1:=Int.ofNat_lt.mpr (Nat.zero_lt_succ a)
theorem O538 {a:Nat}:((-1)+((a+1:Nat):Int))=(a:Int):=Int.le_antisymm (Int.not_lt.mp fun g=>lin [a] [(1, .T (.w 0) (.a (.g (.n 1)) (.a (.w 0) (.n 1))))] rfl g) (Int.not_lt.mp fun g=>lin [a] [(1, .T (.a (.g (.n 1)) (.a (.w 0) (.n 1))) (.w 0))] rfl g)
theorem O540 {a b:Nat}(o:b=93)(t:b=94):(2:Nat)≤a:=Nat.le_of_not_lt fun g=>lin [b] [(1, .E (.w 0) (.n 93)),(-1, .E (.w 0) (.n 94))] rfl (nq o) (nq t)
theorem O541 {a:Nat}(o:(1:Nat)≤a):¬(a+1 < 2):=fun g=>lin [a] [(1, .L (.n 1) (.w 0)),(1, .T (.a (.w 0) (.n 1)) (.n 2))] rfl (nl o) (nt g)
theorem O543 {a b:Nat}(o:a < b)(t:b=256):a / 16 < 16:=Eq.ndrec (motive:=fun {b}=>a < b→a / 16 < 16) (fun o=>Nat.div_lt_of_lt_mul o) (Eq.symm t) o
theorem O545 {a:Nat}:(16*(a / 16))+(a % 16)=a:=Nat.div_add_mod a 16
inductive PV where
 | none | bool (b:Bool) | int (i:Int) | str (s:Str) | bytes (b:Array UInt8)
 | ref (a:Addr) | blt (id:String) | typ (n:String) | mth (id:String) (a:Addr)
 | slc (l u s:Option Int) | rng (a b c:Int)
 | tup (l:List PV) | lst (l:List PV) | dct (E:List Str) (l:List PV)
def IsL (h:Heap)(a:Addr)(vs:Array Value):Prop:=∃o,h.get? a=some o∧o.cls= .type "list"∧o.dict=none∧o.slots= #[]∧∃n,o.data= .seq vs n
theorem IsL.isList {h:Heap}{a:Addr}{vs}(x:IsL h a vs):h.IsList a vs:=by obtain ⟨o,e,c,_,_,n⟩:=x; exact I1_3 o e c n
def IsM (h:Heap)(m:Addr)(id:String)(a:Addr):Prop:=∃o,h.get? m=some o∧o= {cls:= .type "builtin_function_or_method",data:= .fields #[.builtin id, .ref a]}
structure GC where
 prog:Program
 w:World
 hG:Heap
 Pt:Addr
 os:OsState
 mg:Str→Option Value
 mb:Str→Option Value
 TabOk:Heap→Prop
section
variable (g:GC)(X:Addr→Prop)(h:Heap)
mutual
noncomputable def Rd:PV→Value→Prop
 | .none, v => v= .none
 | .bool b, v => v= .bool b
 | .int i, v => ∃t,v= .int i t
 | .str x, v => ∃t,v= .str x t
 | .bytes b, v => ∃t,v= .bytes b t
 | .ref a, v => v= .ref a
 | .blt id, v => v= .builtin id
 | .typ n, v => v= .type n
 | .mth id b, v => ∃a,v= .ref a∧¬X a∧IsM h a id b
 | .slc l u st, v => ∃a l' H s',v= .ref a∧¬X a∧h.IsSlice a l' H s'∧l'.map (·.1)=l∧H.map (·.1)=u∧s'.map (·.1)=st
 | .rng x y z, v => ∃a t u w,v= .ref a∧¬X a∧IsRange h a x y z t u w
 | .tup l, v => ∃a vs,v= .ref a∧¬X a∧IsTup h a vs∧RdL l vs.toList
 | .lst l, v => ∃a vs,v= .ref a∧¬X a∧h.IsList a vs∧RdL l vs.toList
 | .dct E l, v => ∃a vs,v= .ref a∧¬X a∧h.DictOf (strKind g.prog g.w) a (E.zip vs)∧vs.length=E.length∧RdL l vs
noncomputable def RdL:List PV→List Value→Prop
 | [], vs => vs= []
 | p :: l, vs => ∃v r,vs=v::r∧Rd p v∧RdL l r
end
end
section
variable {g:GC}{X I:Addr→Prop}{h h':Heap}
@[simp] theorem rd_none {v:Value}:Rd g X h .none v↔v= .none:=Iff.rfl
@[simp] theorem rd_bool {b:Bool} {v:Value}:Rd g X h (.bool b) v↔v= .bool b:=Iff.rfl
@[simp] theorem rd_int {i:Int} {v:Value}:Rd g X h (.int i) v↔∃t,v= .int i t:=Iff.rfl
@[simp] theorem rd_str {x:Str} {v:Value}:Rd g X h (.str x) v↔∃t,v= .str x t:=Iff.rfl
@[simp] theorem rd_bytes {x:Array UInt8} {v:Value}:Rd g X h (.bytes x) v↔∃t,v= .bytes x t:=Iff.rfl
@[simp] theorem rd_ref {a:Addr} {v:Value}:Rd g X h (.ref a) v↔v= .ref a:=Iff.rfl
@[simp] theorem rd_blt {a:String} {v:Value}:Rd g X h (.blt a) v↔v= .builtin a:=Iff.rfl
@[simp] theorem rd_typ {a:String} {v:Value}:Rd g X h (.typ a) v↔v= .type a:=Iff.rfl
theorem iK_ {a:String}{b:Addr}{v:Value}:Rd g X h (.mth a b) v↔∃c,v= .ref c∧¬X c∧IsM h c a b:=Iff.rfl
theorem fQ_ {l u st:Option Int}{v:Value}:Rd g X h (.slc l u st) v↔∃a l' H s',v= .ref a∧¬X a∧h.IsSlice a l' H s'∧l'.map (·.1)=l∧H.map (·.1)=u∧s'.map (·.1)=st:=Iff.rfl
theorem hu_ {x y z:Int}{v:Value}:Rd g X h (.rng x y z) v↔∃a t u w,v= .ref a∧¬X a∧IsRange h a x y z t u w:=Iff.rfl
theorem ck_ {l:List PV}{v:Value}:Rd g X h (.tup l) v↔∃a vs,v= .ref a∧¬X a∧IsTup h a vs∧RdL g X h l vs.toList:=Iff.rfl
theorem bb_ {l:List PV}{v:Value}:Rd g X h (.lst l) v↔∃a vs,v= .ref a∧¬X a∧h.IsList a vs∧RdL g X h l vs.toList:=Iff.rfl
theorem fR_ {E:List Str}{l:List PV}{v:Value}:Rd g X h (.dct E l) v↔∃a vs,v= .ref a∧¬X a∧h.DictOf (strKind g.prog g.w) a (E.zip vs)∧vs.length=E.length∧RdL g X h l vs:=Iff.rfl
theorem aG_ {vs:List Value}:RdL g X h [] vs↔vs= []:=Iff.rfl
theorem am_ {p:PV}{l:List PV}{vs:List Value}:RdL g X h (p::l) vs↔∃v r,vs=v::r∧Rd g X h p v∧RdL g X h l r:=Iff.rfl
structure bE_ (X I:Addr→Prop)(h h':Heap):Prop where
 keep:∀b o,¬X b→h.get? b=some o→h'.get? b=some o
 out:∀b o,¬X b→h.get? b=some o→¬I b
mutual
theorem an_ (C:bE_ X I h h'):∀(p:PV) (v:Value),Rd g X h p v→Rd g I h' p v
 | .none, v, r => by exact r
 | .bool _, v, r => by exact r
 | .int _, v, r => by exact r
 | .str _, v, r => by exact r
 | .bytes _, v, r => by exact r
 | .ref _, v, r => by exact r
 | .blt _, v, r => by exact r
 | .typ _, v, r => by exact r
 | .mth id b, v, r => by
  rw [iK_] at r ⊢
  (refine X1_3 r fun a e hx q1=> ?_; obtain ⟨o,f,q⟩:=q1)
  exact I1_3 a e (C.out a o hx f) (I1_2 o (C.keep a o hx f) q)
 | .slc l u st, v, r => by
  rw [fQ_] at r ⊢
  (refine X4_4 r fun a l' H s' e hx Y B=> ?_; obtain ⟨o,f,q⟩:=Y)
  exact I4_4 a l' H s' e (C.out a o hx f) (I1_2 o (C.keep a o hx f) q) B
 | .rng x y z, v, r => by
  rw [hu_] at r ⊢
  refine X4_3 r fun a t u w e hx f=> ?_
  exact I4_3 a t u w e (C.out a _ hx f) (C.keep a _ hx f)
 | .tup l, v, r => by
  rw [ck_] at r ⊢
  (refine X2_4 r fun a vs e hx q3 M=> ?_; obtain ⟨o,f,q⟩:=q3)
  exact I2_4 a vs e (C.out a o hx f) (I1_2 o (C.keep a o hx f) q) (aw_ C l _ M)
 | .lst l, v, r => by
  rw [bb_] at r ⊢
  (refine X2_4 r fun a vs e hx q4 M=> ?_; obtain ⟨o,f,q⟩:=q4)
  exact I2_4 a vs e (C.out a o hx f) (I1_2 o (C.keep a o hx f) q) (aw_ C l _ M)
 | .dct E l, v, r => by
  rw [fR_] at r ⊢
  (refine X2_5 r fun a vs e hx q5 N M=> ?_; obtain ⟨o,R,S,f,B,j,h3,F,P⟩:=q5)
  exact I2_5 a vs e (C.out a o hx f) (I3_6 o R S (C.keep a o hx f) B j h3 F P) N (aw_ C l _ M)
theorem aw_ (C:bE_ X I h h'):∀(l:List PV) (vs:List Value),RdL g X h l vs→RdL g I h' l vs
 | [], vs, r => by rw [aG_] at r ⊢; exact r
 | p :: l, vs, r => by
  rw [am_] at r ⊢
  refine X2_3 r fun v t e B j=> ?_
  exact I2_3 v t e (an_ C p v B) (aw_ C l t j)
end
theorem aH_:∀{l:List PV} {vs:List Value},RdL g X h l vs→vs.length=l.length
 | [], vs, r => by rw [aG_] at r; subst r; rfl
 | p :: l, vs, r => by
  rw [am_] at r
  (refine X2_3 r fun v t Z _ j=> ?_; subst Z)
  simp [aH_ j]
theorem cG_:∀{l:List PV} {vs:List Value} {i:Nat} {p:PV},RdL g X h l vs→l[i]? =some p→∃v,vs[i]? =some v∧Rd g X h p v
 | [], vs, i, p, r, e => by contradiction
 | q :: l, vs, i, p, r, e => by
  rw [am_] at r
  (refine X2_3 r fun v t q7 B j=> ?_; subst q7)
  cases i with
  | zero => simp at e; subst e; exact I1_2 v rfl B
  | succ i => simp at e; simpa using cG_ j e
theorem bG_:∀{l l':List PV} {vs D:List Value},RdL g X h l vs→RdL g X h l' D→RdL g X h (l++l') (vs++D)
 | [], l', vs, D, r, r' => by rw [aG_] at r; subst r; exact r'
 | p :: l, l', vs, D, r, r' => by
  rw [am_] at r
  (refine X2_3 r fun v t q8 B j=> ?_; subst q8)
  rw [List.cons_append,am_]
  exact I2_3 v (t++D) rfl B (bG_ j r')
theorem bn_ {p:PV}{v:Value}(r:Rd g X h p v):RdL g X h [p] [v]:=by rw [am_]; exact I2_3 v [] rfl r (by rw [aG_])
end
structure GC.Ok (g:GC)(s:Shared):Prop where
 gk:∀b o,b≠g.Pt→g.hG.get? b=some o→s.heap.get? b=some o
 pt:∃o,s.heap.get? g.Pt=some o
 tab:g.TabOk s.heap
 gens:AllBare s.gens
 os:s.os=g.os
 tok:0 < s.toks
theorem GC.Ok.none {g:GC}{s:Shared}(O:g.Ok s){a:Addr}(U:s.heap.get? a=Option.none):g.hG.get? a=Option.none:=by
 cases e:g.hG.get? a with
 | none => rfl
 | some o=>
  by_cases q:a=g.Pt
  ·refine X1_1 O.pt fun o' e'=> ?_
   rw [← q,U] at e'; contradiction
  ·rw [O.gk a o q e] at U; contradiction
def Kp (g:GC)(h h':Heap):Prop:=∀b o,b≠g.Pt→h.get? b=some o→h'.get? b=some o
theorem Kp.refl {g:GC}{h:Heap}:Kp g h h:=fun _ _ _ e=>e
theorem Kp.trans {g:GC}{h h' K:Heap}(x:Kp g h h')(y:Kp g h' K):Kp g h K:=fun b o n e=>y b o n (x b o n e)
theorem Kp.of {g:GC}{h h':Heap}(x:∀b o,h.get? b=some o→h'.get? b=some o):Kp g h h':=fun b o _ e=>x b o e
def bg_ (o:Obj):Prop:=∀vs,o.data= .fields vs→∀q t,vs[1]? ≠some (.str q t)
structure GC.Good (g:GC):Prop where
 tabKeepW:∀(h h':Heap) (W:Addr→Prop),g.TabOk h→¬W g.Pt→(∀a o,W a→h.get? a=some o→bg_ o)→(∀b o,¬W b→h.get? b=some o→h'.get? b=some o)→g.TabOk h'
 main:g.hG.Ns mainGlobals g.mg
 blts:g.hG.Ns builtinsNs g.mb
 nolim:g.hG.NoLimit
 ptMain:mainGlobals≠g.Pt
 ptBlt:builtinsNs≠g.Pt
 ptSta:cStatics≠g.Pt
theorem GC.Good.tabKeep {g:GC}(G:g.Good)(h h':Heap)(a:Addr)(T:g.TabOk h)(n:a≠g.Pt)(c:∀o,h.get? a=some o→bg_ o)(k:∀b o,b≠a→h.get? b=some o→h'.get? b=some o):g.TabOk h':=
 G.tabKeepW h h' (fun b=>b=a) T (fun e=>n e.symm) (fun b o e q=>c o (e▸q)) fun b o q e=>k b o q e
theorem GC.Ok.keep {g:GC}(G:g.Good){s:Shared}(O:g.Ok s){h':Heap}{tk:Nat}(hk:∀b o,s.heap.get? b=some o→h'.get? b=some o)(ht:0 < tk):
  g.Ok {s with heap:=h',toks:=tk} where
 gk:=fun b o n e=>hk b o (O.gk b o n e)
 pt:=(X1_1 O.pt fun o e=>⟨o,hk _ o e⟩)
 tab:=G.tabKeep s.heap _ s.heap.objs.size O.tab (fun e=>by refine X1_1 O.pt fun o f=> ?_; rw [← e] at f; exact absurd (Heap.lt_size f) (Nat.lt_irrefl _))
  (fun o f=>absurd (Heap.lt_size f) (Nat.lt_irrefl _)) fun b o _ e=>hk b o e
 gens:=O.gens
 os:=O.os
 tok:=ht
def AOk (k:Nat)(A:Around):Prop:=A.handled=none∧A.depth+k < recursionLimit∧A.units+10*k < cLine
theorem AOk.down {k:Nat}{A:Around}{env:Env}(a:AOk (k+1) A):AOk k (A.deeper env):=by
 refine X0_3 a fun B j h3=> ?_
 refine I0_3 B ?_ ?_
 ·refine (?_:A.depth+1+k < _); exact O0 j
 ·refine (?_:A.units+3+10*k < _); exact O1 h3
theorem AOk.units {k:Nat}{A:Around}(a:AOk k A):A.units < cLine:=by have:=a.2.2; exact Nat.lt_of_add_right_lt this
theorem AOk.room {k:Nat}{A:Around}(a:AOk k A):A.depth < recursionLimit:=by have:=a.2.1; exact Nat.lt_of_add_right_lt this
inductive OC where
 | lst (l:List PV)
 | ba (b:Array UInt8)
structure Loc (g:GC)(env:Env)(X:Addr→Prop)(σ:List (Str×PV))(ω:List (Addr×OC))(h:Heap):Prop where
 fn:env.scope.kind= .function
 gl:env.globals=mainGlobals
 bl:env.builtins=builtinsNs
 xs:∀a,X a→∃o,h.get? a=some o
 ptX:X g.Pt
 gX:∀a,X a→a≠g.Pt→g.hG.get? a=none
 lX:X env.locals
 lP:env.locals≠g.Pt
 cX:∀x c,env.cells.lookup x=some c→X c∧c≠g.Pt∧c≠env.locals∧∃J,h.IsCell c J
 inj:∀x y c,env.cells.lookup x=some c→env.cells.lookup y=some c→x=y
 ns:∃m,h.Ns env.locals m∧∀x pv,(x,pv)∈σ→env.kindOf x=some .local→∃v,m x=some v∧Rd g X h pv v
 vars:∀x pv,(x,pv)∈σ→env.kindOf x=some .local∨((env.kindOf x=some .cell∨env.kindOf x=some .free)∧(x==("__classdict__" :Str))=false∧∃c v,env.cells.lookup x=some c∧h.IsCell c (some v)∧Rd g X h pv v)
 own:∀a oc,(a,oc)∈ω→X a∧a≠g.Pt∧a≠env.locals∧(∀x c,env.cells.lookup x=some c→c≠a)∧(match oc with
  | .lst l => ∃vs,IsL h a vs∧RdL g X h l vs.toList
  | .ba b => ∃o n,h.get? a=some o∧o= {cls:= .type "bytearray",data:= .bytearray b n})
 once:ω.Pairwise fun p q=>p.1≠q.1
section
variable {g:GC}{env:Env}{X:Addr→Prop}{σ:List (Str×PV)}{ω:List (Addr×OC)}{h h':Heap}
theorem Loc.carry (L:Loc g env X σ ω h)(k:Kp g h h')(hp:∃o,h'.get? g.Pt=some o):bE_ X X h h' where
 keep:=fun b o n e=>k b o (by rintro rfl; exact n L.ptX) e
 out:=fun _ _ n _=>n
theorem IsCell.kp {c:Addr}{J:Option Value}(x:h.IsCell c J)(k:Kp g h h')(hc:c≠g.Pt):h'.IsCell c J:=(X1_2 x fun o e d=>⟨o,k c o hc e,d⟩)
theorem Ns.kp {a:Addr}{m}(x:h.Ns a m)(k:Kp g h h')(hc:a≠g.Pt):h'.Ns a m:=X3_2 x fun o R S e r=>I3_2 o R S (k a o hc e) r
theorem Loc.kp (L:Loc g env X σ ω h)(k:Kp g h h')(hp:∃o,h'.get? g.Pt=some o):Loc g env X σ ω h' where
 fn:=L.fn
 gl:=L.gl
 bl:=L.bl
 xs:=fun a ha=>by
  by_cases e:a=g.Pt
  ·exact sb e hp
  ·refine X1_1 (L.xs a ha) fun o f=> ?_; exact ⟨o,k a o e f⟩
 ptX:=L.ptX
 gX:=L.gX
 lX:=L.lX
 lP:=L.lP
 cX:=fun x c hc=>let ⟨B,j,h3,J,F⟩:=L.cX x c hc; ⟨B,j,h3,J,IsCell.kp F k j⟩
 inj:=L.inj
 ns:=by
  refine X1_2 L.ns fun m hm hv=> ?_
  refine I1_2 m (Ns.kp hm k L.lP) (fun x pv hx hk=> ?_)
  refine X1_2 (hv x pv hx hk) fun v e r=> ?_
  exact I1_2 v e (an_ (L.carry k hp) _ _ r)
 vars:=fun x pv hx=>by
  rcases L.vars x pv hx with B | ⟨B,Q,c,v,j,h3,F⟩
  ·exact .inl B
  ·exact .inr ⟨B,Q,c,v,j,IsCell.kp h3 k (L.cX x c j).2.1,an_ (L.carry k hp) _ _ F⟩
 own:=fun a oc ha=>by
  refine X0_5 (L.own a oc ha) fun B j h3 F P=> ?_
  refine I0_5 B j h3 F ?_
  cases oc with
  | lst l=>
   (refine X1_2 P fun vs V r=> ?_; obtain ⟨o,f,q⟩:=V)
   exact I1_2 vs ⟨o,k a o j f,q⟩ (aw_ (L.carry k hp) _ _ r)
  | ba b=>
   refine X2_2 P fun o n f q=> ?_
   exact I2_2 o n (k a o j f) q
 once:=L.once
end
section
variable (g:GC)(k:Nat)(env:Env)(X:Addr→Prop)(σ:List (Str×PV))(ω:List (Addr×OC))
structure Ev (e:Expr)(pv:PV):Prop where
 run:∀A s E,AOk k A→g.Ok s→Loc g env X σ ω s.heap→
  wpAny (model g.prog g.w) A (eval e env) (fun v s'=>g.Ok s'∧Kp g s.heap s'.heap∧Rd g X s'.heap pv v) E s
structure EvT (e:Expr)(b:Bool):Prop where
 run:∀A s E,AOk k A→g.Ok s→Loc g env X σ ω s.heap→
  wpAny (model g.prog g.w) A (PySem.isTrue e env (eval e env)) (fun c s'=>g.Ok s'∧Kp g s.heap s'.heap∧c=b) E s
structure EvL (K:List Expr)(pvs:List PV):Prop where
 run:∀A s E,AOk k A→g.Ok s→Loc g env X σ ω s.heap→
  ∀pos,wpAny (model g.prog g.w) A (spliced (backTo pos (starEach K env))) (fun vs s'=>g.Ok s'∧Kp g s.heap s'.heap∧RdL g X s'.heap pvs vs) E s
end
structure XOk (g:GC)(X:Addr→Prop)(h:Heap):Prop where
 xs:∀a,X a→∃o,h.get? a=some o
 ptX:X g.Pt
 gX:∀a,X a→a≠g.Pt→g.hG.get? a=none
def Op (g:GC)(k:Nat)(X:Addr→Prop)(ps:List PV)(t:List Value→Sem Value)(p:PV):Prop:=∀A s E vs,AOk k A→g.Ok s→XOk g X s.heap→RdL g X s.heap ps vs→
 wpAny (model g.prog g.w) A (t vs) (fun v s'=>0 < s'.toks→g.Ok s'∧Kp g s.heap s'.heap∧Rd g X s'.heap p v) E s
section
variable {g:GC}{k:Nat}{env:Env}{X:Addr→Prop}{σ:List (Str×PV)}{ω:List (Addr×OC)}{h h':Heap}
theorem Loc.xok (L:Loc g env X σ ω h):XOk g X h:=⟨L.xs,L.ptX,L.gX⟩
theorem XOk.carry (x:XOk g X h)(kk:Kp g h h'):bE_ X X h h':=⟨fun b o n e=>kk b o (by rintro rfl; exact n x.ptX) e,fun _ _ n _=>n⟩
theorem XOk.new (x:XOk g X h){a:Addr}(ha:h.objs.size≤a):¬X a:=fun hx=>by
 obtain ⟨o,Y⟩:=x.xs a hx
 exact absurd (Heap.lt_size Y) (Nat.not_lt.mpr ha)
theorem dC_ (x:XOk g X h)(kk:Kp g h h'){p v}(r:Rd g X h p v):Rd g X h' p v:=an_ (x.carry kk) p v r
theorem dT_ (x:XOk g X h)(kk:Kp g h h'){p v}(r:RdL g X h p v):RdL g X h' p v:=aw_ (x.carry kk) p v r
theorem Ev.use {e:Expr}{pv:PV}(H:Ev g k env X σ ω e pv){A s E}{Q:Value→Shared→Prop}(a:AOk k A)(O:g.Ok s)(L:Loc g env X σ ω s.heap)
  (c:∀v s',g.Ok s'→Kp g s.heap s'.heap→Loc g env X σ ω s'.heap→Rd g X s'.heap pv v→Q v s'):wpAny (model g.prog g.w) A (eval e env) Q E s:=
 wpAny_mono (H.run A s E a O L) (fun v s' p=>c v s' p.1 p.2.1 (L.kp p.2.1 p.1.pt) p.2.2) fun _ _ x=>x
theorem EvT.use {e:Expr}{b:Bool}(H:EvT g k env X σ ω e b){A s E}{Q:Bool→Shared→Prop}(a:AOk k A)(O:g.Ok s)(L:Loc g env X σ ω s.heap)
  (c:∀s',g.Ok s'→Kp g s.heap s'.heap→Loc g env X σ ω s'.heap→Q b s'):wpAny (model g.prog g.w) A (PySem.isTrue e env (eval e env)) Q E s:=
 wpAny_mono (H.run A s E a O L) (fun v s' p=>by obtain ⟨p1,p2,rfl⟩:=p; exact c s' p1 p2 (L.kp p2 p1.pt)) fun _ _ x=>x
theorem EvL.use {K:List Expr}{pvs:List PV}(H:EvL g k env X σ ω K pvs){A s E pos}{Q:List Value→Shared→Prop}(a:AOk k A)(O:g.Ok s)(L:Loc g env X σ ω s.heap)
  (c:∀vs s',g.Ok s'→Kp g s.heap s'.heap→Loc g env X σ ω s'.heap→RdL g X s'.heap pvs vs→Q vs s'):wpAny (model g.prog g.w) A (spliced (backTo pos (starEach K env))) Q E s:=
 wpAny_mono (H.run A s E a O L pos) (fun v s' p=>c v s' p.1 p.2.1 (L.kp p.2.1 p.1.pt) p.2.2) fun _ _ x=>x
theorem Op.use {ps:List PV}{t:List Value→Sem Value}{p:PV}(H:Op g k X ps t p){A s E vs}{Q:Value→Shared→Prop}(a:AOk k A)(O:g.Ok s)(x:XOk g X s.heap)(r:RdL g X s.heap ps vs)
  (c:∀v s',g.Ok s'→Kp g s.heap s'.heap→Rd g X s'.heap p v→Q v s'):wpAny (model g.prog g.w) A (t vs) Q E s:=
 wpAny_with_toks (n:=1) O.tok (wpAny_mono (H A s _ vs a O x r) (fun v s' p ht=>let q:=p ht; c v s' q.1 q.2.1 q.2.2) fun _ _ x _=>x)
theorem eA_ {e:Expr}{pv:PV}(H:∀A s E,AOk k A→g.Ok s→Loc g env X σ ω s.heap→
  wpAny (model g.prog g.w) A (eval e env) (fun v s'=>0 < s'.toks→g.Ok s'∧Kp g s.heap s'.heap∧Rd g X s'.heap pv v) E s):Ev g k env X σ ω e pv:= .mk fun A s E a O L=>
 wpAny_with_toks (n:=1) O.tok (wpAny_mono (H A s E a O L) (fun _ _ p=>p) fun _ _ x _=>x)
theorem aa_ {x:Str}{pos:Pos}{pv:PV}(hx:(x,pv)∈σ)(hd:autoParam ((x==("__debug__" :Str))=false) aQ0):Ev g k env X σ ω (.Name x pos) pv:= .mk fun A s E a O L=>by
 rcases L.vars x pv hx with hl | ⟨hk,ah,c,v,hc,hcell,hr⟩
 ·obtain ⟨m,hn,R⟩:=L.ns
  obtain ⟨v,e,r⟩:=R x pv hx hl
  exact wpAny_Name (wpAny_loadName_local L.fn hl hn e ⟨O,Kp.refl,r⟩) hd
 ·rcases hk with hk | hk
  ·exact wpAny_Name (wpAny_loadName_cell L.fn hk hc hcell ⟨O,Kp.refl,hr⟩) hd
  ·exact wpAny_Name (wpAny_loadName_free L.fn hk hc hcell ⟨O,Kp.refl,hr⟩ ah) hd
theorem GC.Ok.main (G:g.Good){s:Shared}(O:g.Ok s):s.heap.Ns mainGlobals g.mg:=X3_2 G.main fun o K ep e r=>I3_2 o K ep (O.gk _ o G.ptMain e) r
theorem GC.Ok.blts (G:g.Good){s:Shared}(O:g.Ok s):s.heap.Ns builtinsNs g.mb:=X3_2 G.blts fun o K ep e r=>I3_2 o K ep (O.gk _ o G.ptBlt e) r
theorem GC.Ok.nolim (G:g.Good){s:Shared}(O:g.Ok s):s.heap.NoLimit:=X1_2 G.nolim fun mc x q=>I1_2 mc (X3_2 x fun o K ep e r=>I3_2 o K ep (O.gk _ o G.ptSta e) r) q
theorem mt_ (G:g.Good){x:Str}{pos:Pos}{pv:PV}{v:Value}(hk:env.kindOf x=some .globalImplicit)(hm:g.mg x=some v)(hr:∀h,Rd g X h pv v)
  (hd:autoParam ((x==("__debug__" :Str))=false) aQ0):Ev g k env X σ ω (.Name x pos) pv:= .mk fun A s E _ O L=>
 Name_function_global L.fn hk (loadGlobal_global (by exact sb L.gl (O.main G)) hm ⟨O,Kp.refl,hr _⟩) hd
theorem lw_ (G:g.Good){x:Str}{pos:Pos}{pv:PV}{v:Value}(hk:env.kindOf x=some .globalImplicit)(hm:g.mg x=none)(hb:g.mb x=some v)(hr:∀h,Rd g X h pv v)
  (hd:autoParam ((x==("__debug__" :Str))=false) aQ0):Ev g k env X σ ω (.Name x pos) pv:= .mk fun A s E _ O L=>
 Name_function_global L.fn hk (loadGlobal_builtin (by exact sb L.gl (O.main G)) hm (by exact sb L.bl (O.blts G)) hb ⟨O,Kp.refl,hr _⟩) hd
theorem Ok.toks (G:g.Good){s:Shared}(O:g.Ok s){tk:Nat}(ht:0 < tk):g.Ok {s with toks:=tk}:=O.keep G (h':=s.heap) (fun _ _ e=>e) ht
theorem ad_ (G:g.Good){i:Int}{n:Nat}{pos:Pos}:Ev g k env X σ ω (.Constant (.int i) n pos) (.int i):=eA_ fun A s E _ O _=>
 wpAny_Constant_int fun ht=>⟨Ok.toks G O ht,Kp.refl,by simp⟩
theorem ah_ (G:g.Good){x:Str}{n:Nat}{pos:Pos}:Ev g k env X σ ω (.Constant (.str x) n pos) (.str x):=eA_ fun A s E _ O _=>
 Constant_str fun ht=>⟨Ok.toks G O ht,Kp.refl,by simp⟩
theorem eC_ {b:Bool}{n:Nat}{pos:Pos}:Ev g k env X σ ω (.Constant (.bool b) n pos) (.bool b):= .mk fun A s E _ O _=>
 Constant_bool ⟨O,Kp.refl,by rfl⟩
theorem mr_ {n:Nat}{pos:Pos}:Ev g k env X σ ω (.Constant .none n pos) .none:= .mk fun A s E _ O _=>
 Constant_none ⟨O,Kp.refl,by rfl⟩
theorem ag_:EvL g k env X σ ω [] []:= .mk fun A s E _ O _ pos=>wpAny_pure ⟨O,Kp.refl,by rw [aG_]⟩
noncomputable def nst:Expr→Bool | .Starred .. =>false | _=>true
theorem bT_ {e:Expr}{K:List Expr}{env:Env}(h:nst e=true):starEach (e::K) env=(false,eval e env)::starEach K env:=by cases e <;>first | rfl | contradiction
theorem b8_ {e:Expr}{K:List Expr}{p:PV}{ps:List PV}(he:Ev g k env X σ ω e p)(Z:EvL g k env X σ ω K ps)
  (hn:starEach (e::K) env=(false,eval e env)::starEach K env):EvL g k env X σ ω (e::K) (p::ps):= .mk fun A s E a O L pos=>by
 refine sb hn ?_
 refine (?_:wpAny _ A (do let v ← eval e env; let ab ← pure [v]; return ab++(← holding ab (spliced (backTo pos (starEach K env))))) _ _ s)
 refine wpAny_bind (he.use a O L fun v s' O' K' L' r=>wpAny_bind (wpAny_pure (wpAny_bind (wpAny_holding (Z.use a O' L' fun vs al am ae aw r'=>wpAny_pure (I0_3 am (K'.trans ae) ?_))))))
 show RdL g X al.heap (p::ps) ([v]++vs)
 rw [List.singleton_append,am_]
 exact I2_3 v vs rfl (dC_ L'.xok ae r) r'
theorem ac_ {e:Expr}{K:List Expr}{p:PV}{ps:List PV}(he:Ev g k env X σ ω e p)(Z:EvL g k env X σ ω K ps)
  (ap:autoParam (nst e=true) aQ1):EvL g k env X σ ω (e::K) (p::ps):=b8_ he Z (bT_ ap)
theorem ae_ {l r:Expr}{M:Operator}{pos:Pos}{p q o:PV}(hl:Ev g k env X σ ω l p)(hr:Ev g k env X σ ω r q)
  (Y:Op g k X [p,q] (fun vs=>binaryOp M (vs.getD 0 .none) (vs.getD 1 .none)) o):Ev g k env X σ ω (.BinOp l M r pos) o:= .mk fun A s E a O L=>
 wpAny_BinOp (hl.use a O L fun v V I F f J=>hr.use a I f fun u aa N B S P=>
  Y.use (vs:= [v,u]) a N S.xok (by rw [am_]; exact I2_3 v [u] rfl (dC_ f.xok B J) (bn_ P)) fun z U C D j=>⟨C,(F.trans B).trans D,j⟩)
theorem cR_ {x:Expr}{M:UnaryOp}{pos:Pos}{p o:PV}(hx:Ev g k env X σ ω x p)(Y:Op g k X [p] (fun vs=>unaryOp M (vs.getD 0 .none)) o):Ev g k env X σ ω (.UnaryOp M x pos) o:= .mk fun A s E a O L=>
 UnaryOp_ (hx.use a O L fun v V I F f J=>Y.use (vs:= [v]) a I f.xok (bn_ J) fun z U C D j=>⟨C,F.trans D,j⟩)
theorem jt_ {l r:Expr}{M:CmpOp}{pos:Pos}{p q o:PV}(hl:Ev g k env X σ ω l p)(hr:Ev g k env X σ ω r q)
  (Y:Op g k X [p,q] (fun vs=>compareOp M (vs.getD 0 .none) (vs.getD 1 .none)) o) (hm:autoParam (behindInMarks M r=false) aQ5):Ev g k env X σ ω (.Compare l [M] [r] pos) o:= .mk fun A s E a O L=>
 wpAny_Compare1 (hl.use a O L fun v V I F f J=>hr.use a I f fun u aa N B S P=>
  Y.use (vs:= [v,u]) a N S.xok (by rw [am_]; exact I2_3 v [u] rfl (dC_ f.xok B J) (bn_ P)) fun z U C D j=>⟨C,(F.trans B).trans D,j⟩) hm
theorem ai_ {l r:Expr}{M:CmpOp}{pos:Pos}{p q:PV}{b:Bool}(hl:Ev g k env X σ ω l p)(hr:Ev g k env X σ ω r q)
  (Y:Op g k X [p,q] (fun vs=>compareOp M (vs.getD 0 .none) (vs.getD 1 .none)) (.bool b)) (hm:autoParam (behindInMarks M r=false) aQ5):EvT g k env X σ ω (.Compare l [M] [r] pos) b:= .mk fun A s E a O L=>
 wpAny_isTrue_Compare1 (hl.use a O L fun v V I F f J=>hr.use a I f fun u aa N B S P=>
  Y.use (vs:= [v,u]) a N S.xok (by rw [am_]; exact I2_3 v [u] rfl (dC_ f.xok B J) (bn_ P)) fun z U C D j=>by
   rw [rd_bool] at j; subst j; exact wpAny_truthy_bool (I0_3 C ((F.trans B).trans D) rfl)) hm
theorem dg_ {x:Expr}{pos:Pos}{b:Bool}(hx:EvT g k env X σ ω x b):EvT g k env X σ ω (.UnaryOp .Not x pos) (!b):= .mk fun A s E a O L=>
 isTrue_not (hx.use a O L fun s' O' K' _=>⟨O',K',rfl⟩)
theorem op2 {p q o:PV}{t:Value→Value→Sem Value}(H:∀A s E v u,AOk k A→g.Ok s→XOk g X s.heap→Rd g X s.heap p v→Rd g X s.heap q u→
  wpAny (model g.prog g.w) A (t v u) (fun v s'=>0 < s'.toks→g.Ok s'∧Kp g s.heap s'.heap∧Rd g X s'.heap o v) E s):Op g k X [p,q] (fun vs=>t (vs.getD 0 .none) (vs.getD 1 .none)) o:=fun A s E vs a O x r=>by
 rw [am_] at r
 obtain ⟨v,r1,rfl,R,r⟩:=r
 rw [am_] at r
 obtain ⟨u,r2,rfl,T,r⟩:=r
 rw [aG_] at r
 subst r
 exact H A s E v u a O x R T
theorem op1 {p o:PV}{t:Value→Sem Value}(H:∀A s E v,AOk k A→g.Ok s→XOk g X s.heap→Rd g X s.heap p v→
  wpAny (model g.prog g.w) A (t v) (fun v s'=>0 < s'.toks→g.Ok s'∧Kp g s.heap s'.heap∧Rd g X s'.heap o v) E s):Op g k X [p] (fun vs=>t (vs.getD 0 .none)) o:=fun A s E vs a O x r=>by
 rw [am_] at r
 obtain ⟨v,r1,rfl,R,r⟩:=r
 rw [aG_] at r
 subst r
 exact H A s E v a O x R
theorem iQ_ {M:Operator}{a b c:Int}(H:∀{A:Around} {E:Value→Shared→Prop} {s:Shared} {t u:Tok} {Q:Value→Shared→Prop},(∀t' tk,Q (.int c t') {s with toks:=tk})→wpAny (model g.prog g.w) A (binaryOp M (.int a t) (.int b u)) Q E s)(G:g.Good):
  Op g k X [.int a, .int b] (fun vs=>binaryOp M (vs.getD 0 .none) (vs.getD 1 .none)) (.int c):=op2 fun A s E v u _ O _ R T=>by
 rw [rd_int] at R T
 obtain ⟨t,rfl⟩:=R
 obtain ⟨u,rfl⟩:=T
 exact H fun t' tk ht=>(I0_3 (Ok.toks G O ht) Kp.refl (by simp))
theorem a6_ (G:g.Good){a b:Int}:Op g k X [.int a, .int b] (fun vs=>binaryOp .Add (vs.getD 0 .none) (vs.getD 1 .none)) (.int (a+b)):=iQ_ (fun h=>add_int (h _ _)) G
theorem ep_ (G:g.Good){a b:Int}:Op g k X [.int a, .int b] (fun vs=>binaryOp .Sub (vs.getD 0 .none) (vs.getD 1 .none)) (.int (a - b)):=iQ_ (fun h=>sub_int (h _ _)) G
theorem bj_ (G:g.Good){a b:Int}(hb:b≠0):Op g k X [.int a, .int b] (fun vs=>binaryOp .Mod (vs.getD 0 .none) (vs.getD 1 .none)) (.int (Int.fmod a b)):=iQ_ (fun h=>mod_int' hb (h _ _)) G
theorem cc_ (G:g.Good){a b:Int}(hb:b≠0)(Z:Builtin.divisionGoesByPylong a b=false):Op g k X [.int a, .int b] (fun vs=>binaryOp .FloorDiv (vs.getD 0 .none) (vs.getD 1 .none)) (.int (Int.fdiv a b)):=iQ_ (fun h=>floordiv_int hb (h _ _) (.inl Z)) G
theorem ln_ (G:g.Good){a b:Int}:Op g k X [.int a, .int b] (fun vs=>binaryOp .BitAnd (vs.getD 0 .none) (vs.getD 1 .none)) (.int (Builtin.bitAnd a b)):=iQ_ (fun h=>and_int (h _ _)) G
theorem aB_ (G:g.Good){x y:Str}(Z:x.length+y.length≤sizeLine):Op g k X [.str x, .str y] (fun vs=>binaryOp .Add (vs.getD 0 .none) (vs.getD 1 .none)) (.str (x++y)):=op2 fun A s E v u _ O _ R T=>by
 rw [rd_str] at R T
 obtain ⟨t,rfl⟩:=R
 obtain ⟨u,rfl⟩:=T
 exact PyProof.Rows.add_str (fun t' tk ht=>(I0_3 (Ok.toks G O ht) Kp.refl (by simp))) Z
theorem iP_ (G:g.Good){x:Str}{n:Int}(Z:PySem.MulOk x n):Op g k X [.str x, .int n] (fun vs=>binaryOp .Mult (vs.getD 0 .none) (vs.getD 1 .none)) (.str (Txt.mul x n)):=op2 fun A s E v u _ O _ R T=>by
 rw [rd_str] at R; rw [rd_int] at T
 obtain ⟨t,rfl⟩:=R
 obtain ⟨u,rfl⟩:=T
 exact SB.mul Z (fun t' tk ht=>(I0_3 (Ok.toks G O ht) Kp.refl (by simp)))
theorem gd_ {M:CmpOp}{a b:Int}{c:Bool}(H:∀{A:Around} {E:Value→Shared→Prop} {s:Shared} {t u:Tok} {Q:Value→Shared→Prop},Q (.bool c) s→wpAny (model g.prog g.w) A (compareOp M (.int a t) (.int b u)) Q E s):
  Op g k X [.int a, .int b] (fun vs=>compareOp M (vs.getD 0 .none) (vs.getD 1 .none)) (.bool c):=op2 fun A s E v u _ O _ R T=>by
 rw [rd_int] at R T
 obtain ⟨t,rfl⟩:=R
 obtain ⟨u,rfl⟩:=T
 exact H fun _=>⟨O,Kp.refl,by rfl⟩
theorem cq_ {a b:Int}:Op g k X [.int a, .int b] (fun vs=>compareOp .Lt (vs.getD 0 .none) (vs.getD 1 .none)) (.bool (decide (a < b))):=gd_ fun h=>lt_int h
theorem nu_ {a b:Int}:Op g k X [.int a, .int b] (fun vs=>compareOp .Gt (vs.getD 0 .none) (vs.getD 1 .none)) (.bool (decide (b < a))):=gd_ fun h=>gt_int h
theorem nv_ {a b:Int}:Op g k X [.int a, .int b] (fun vs=>compareOp .GtE (vs.getD 0 .none) (vs.getD 1 .none)) (.bool (decide (b≤a))):=gd_ fun h=>ge_int h
theorem ca_ {a b:Int}:Op g k X [.int a, .int b] (fun vs=>compareOp .Eq (vs.getD 0 .none) (vs.getD 1 .none)) (.bool (a==b)):=gd_ fun h=>eq_int h
theorem jx_ {a b:Int}:Op g k X [.int a, .int b] (fun vs=>compareOp .NotEq (vs.getD 0 .none) (vs.getD 1 .none)) (.bool (a !=b)):=gd_ fun h=>ne_int h
theorem dY_ {m f:Expr}{pos:Pos}{p q o:PV}{T id:String}(y:Ev g k env X σ ω m p)(hi:Ev g k env X σ ω f q)
  (ho:Op g k X [p,q] (fun vs=>getItem (vs.getD 0 .none) (vs.getD 1 .none)) o)
  (ty:∀(s:Shared) v,Rd g X s.heap p v→s.TypeIs v T) (lk:typeLookup (.type T) "__getitem__" =pure (some (.builtin id)))
  (V:autoParam (∀o i,∃C,subscripted f false o i=operate C (getItem o i)) aQ3):Ev g k env X σ ω (.Subscript m f pos) o:= .mk fun A s E a O L=>
 Subscript_ (y.use a O L fun v af R Q H ae=>hi.use a R H fun u Y K D S aq=>by
  refine X1_1 (V v u) fun C e=> ?_
  exact tail_any (ty Y v (dC_ H.xok D ae)) lk (ho.use (vs:= [v,u]) a K S.xok (by rw [am_]; exact I2_3 v [u] rfl (dC_ H.xok D ae) (bn_ aq)) fun z ak M N aj=>(I0_3 M ((Q.trans D).trans N) aj)) e)
theorem k9_ {x:Str}:∀(s:Shared) v,Rd g X s.heap (.str x) v→s.TypeIs v "str" :=fun s v r=>by rw [rd_str] at r; (refine X1_1 r fun t q1=> ?_; subst q1); exact typeIs_str s x t
theorem hn_ {x:Array UInt8}:∀(s:Shared) v,Rd g X s.heap (.bytes x) v→s.TypeIs v "bytes" :=fun s v r=>by rw [rd_bytes] at r; (refine X1_1 r fun t q2=> ?_; subst q2); rfl
theorem la_ {l:List PV}:∀(s:Shared) v,Rd g X s.heap (.lst l) v→s.TypeIs v "list" :=fun s v r=>by rw [bb_] at r; (refine X2_4 r fun a vs q3 _ P _=> ?_; subst q3); exact P.typeIs
theorem mS_ {l:List PV}:∀(s:Shared) v,Rd g X s.heap (.tup l) v→s.TypeIs v "tuple" :=fun s v r=>by rw [ck_] at r; (refine X2_4 r fun a vs q4 _ P _=> ?_; subst q4); exact P.typeIs
theorem mT_ {ks:List Str}{l:List PV}:∀(s:Shared) v,Rd g X s.heap (.dct ks l) v→s.TypeIs v "dict" :=fun s v r=>by rw [fR_] at r; (refine X2_4 r fun a vs q5 _ P _=> ?_; subst q5); exact P.typeIs
noncomputable def at? {α:Type}(l:List α)(i:Int):Option α:=(seqIndex? i l.length).bind (l[·]?)
theorem cs_ {i:Int}{n j:Nat}(e:seqIndex? i n=some j):j < n∧-(n:Int)≤i∧i < n:=by
 unfold seqIndex? at e
 by_cases J:i < 0
 ·simp only [J,if_true] at e
  by_cases U:(decide (0≤i+n) && decide (i+n < n))=true
  ·rw [if_pos U] at e
   simp only [Bool.and_eq_true,decide_eq_true_eq] at U
   cases e; exact O49 U
  ·rw [if_neg U] at e; contradiction
 ·simp only [J,if_false] at e
  by_cases U:(decide (0≤i) && decide (i < n))=true
  ·rw [if_pos U] at e
   simp only [Bool.and_eq_true,decide_eq_true_eq] at U
   cases e; exact O50 U
  ·rw [if_neg U] at e; contradiction
theorem gF_ (G:g.Good){x:Str}{i:Int}{c:Nat}(hb: -2 ^ 63≤i∧i < 2 ^ 63)(hc:(seqIndex? i x.length).bind (x.cps[·]?)=some c):
  Op g k X [.str x, .int i] (fun vs=>getItem (vs.getD 0 .none) (vs.getD 1 .none)) (.str ⟨#[c]⟩):=op2 fun A s E v u _ O _ y I=>by
 rw [rd_str] at y; rw [rd_int] at I
 (refine X1_1 y fun t q6=> ?_; subst q6)
 (refine X1_1 I fun u q7=> ?_; subst q7)
 refine PyProof.Rows.getItem_str (by simp only [Bool.or_eq_false_iff,decide_eq_false_iff_not]; exact O51 hb) hc fun ht=>(I0_3 (Ok.toks G O ht) Kp.refl (by simp))
theorem gG_ {l:List PV}{i:Int}{p:PV}(hb: -2 ^ 63≤i∧i < 2 ^ 63)(hp:at? l i=some p):
  Op g k X [.lst l, .int i] (fun vs=>getItem (vs.getD 0 .none) (vs.getD 1 .none)) p:=op2 fun A s E v u _ O _ y I=>by
 rw [bb_] at y; rw [rd_int] at I
 (refine X2_4 y fun a vs q8 hx P hr=> ?_; subst q8)
 (refine X1_1 I fun u q9=> ?_; subst q9)
 refine X1_2 (Option.bind_eq_some_iff.mp hp) fun j hj hp=> ?_
 refine X0_3 (cs_ hj) fun U h2 h3=> ?_
 have hn:vs.size=l.length:=by have:=aH_ hr; simpa using this
 refine X1_2 (cG_ hr hp) fun v y ad=> ?_
 have ai:vs[j]? =some v:=by simpa using y
 have ac:j=(if i < 0 then i+l.length else i).toNat:=by
  unfold seqIndex? at hj
  dsimp only at hj
  generalize (if i < 0 then i+(l.length:Int) else i)=q at hj ⊢
  by_cases U:(decide (0≤q) && decide (q < l.length))=true
  ·rw [if_pos U] at hj; cases hj; rfl
  ·rw [if_neg U] at hj; contradiction
 by_cases J:i < 0
 ·rw [if_pos J] at ac
  exact wpAny_getItem_list_neg P J (by exact le_of_eq_of_le (congrArg Neg.neg (congrArg Nat.cast hn)) h2) hb.1 (x:=v) (by exact sb hn (sy ac ai)) fun _=>⟨O,Kp.refl,ad⟩
 ·rw [if_neg J] at ac
  exact wpAny_getItem_list P (by exact O53 J) hb.2 (x:=v) (by exact sy ac ai) fun _=>⟨O,Kp.refl,ad⟩
theorem gE_ {l:List PV}{i:Int}{p:PV}(hb: -2 ^ 63≤i∧i < 2 ^ 63)(hp:at? l i=some p):
  Op g k X [.tup l, .int i] (fun vs=>getItem (vs.getD 0 .none) (vs.getD 1 .none)) p:=op2 fun A s E v u _ O _ y I=>by
 rw [ck_] at y; rw [rd_int] at I
 (refine X2_4 y fun a vs aw hx P hr=> ?_; subst aw)
 (refine X1_1 I fun u a0=> ?_; subst a0)
 refine X1_2 (Option.bind_eq_some_iff.mp hp) fun j hj hp=> ?_
 have hn:vs.size=l.length:=by have:=aH_ hr; simpa using this
 refine X1_2 (cG_ hr hp) fun v y ad=> ?_
 exact PyProof.Rows.getItem_tuple P hb.1 hb.2 (by exact sb hn hj) (by simpa using y) fun _=>⟨O,Kp.refl,ad⟩
theorem gY_ (G:g.Good){m f:Expr}{pos:Pos}{x:Str}{i:Int}{c:Nat}(y:Ev g k env X σ ω m (.str x))(hi:Ev g k env X σ ω f (.int i))
  (hb: -2 ^ 63≤i∧i < 2 ^ 63) (hc:(seqIndex? i x.length).bind (x.cps[·]?)=some c) (V:autoParam (∀o i,∃C,subscripted f false o i=operate C (getItem o i)) aQ3):
  Ev g k env X σ ω (.Subscript m f pos) (.str ⟨#[c]⟩):=dY_ y hi (gF_ G hb hc) k9_ F.slot_str_getitem.lookup V
theorem ay_ {m f:Expr}{pos:Pos}{l:List PV}{i:Int}{p:PV}(y:Ev g k env X σ ω m (.lst l))(hi:Ev g k env X σ ω f (.int i))
  (hb: -2 ^ 63≤i∧i < 2 ^ 63) (hp:at? l i=some p) (V:autoParam (∀o i,∃C,subscripted f false o i=operate C (getItem o i)) aQ3):
  Ev g k env X σ ω (.Subscript m f pos) p:=dY_ y hi (gG_ hb hp) la_ F.slot_list_getitem.lookup V
theorem gX_ {m f:Expr}{pos:Pos}{l:List PV}{i:Int}{p:PV}(y:Ev g k env X σ ω m (.tup l))(hi:Ev g k env X σ ω f (.int i))
  (hb: -2 ^ 63≤i∧i < 2 ^ 63) (hp:at? l i=some p) (V:autoParam (∀o i,∃C,subscripted f false o i=operate C (getItem o i)) aQ3):
  Ev g k env X σ ω (.Subscript m f pos) p:=dY_ y hi (gE_ hb hp) mS_ F.slot_tuple_getitem.lookup V
theorem cO_ (x:Option (Int×Tok)):IsPart (partValue x) (x.map (·.1)):=by
 cases x with
 | none => exact .none
 | some p => exact .int p.1 p.2
theorem aJ_ (G:g.Good){lo hi st:Option Expr}{pos:Pos}{l u s:Option Int}
  (P:∀A s E,AOk k A→g.Ok s→Loc g env X σ ω s.heap→wpAny (model g.prog g.w) A (evalPart lo env) (fun v s'=>g.Ok s'∧Kp g s.heap s'.heap∧∃p,v=partValue p∧p.map (·.1)=l) E s)
  (I:∀A s E,AOk k A→g.Ok s→Loc g env X σ ω s.heap→wpAny (model g.prog g.w) A (evalPart hi env) (fun v s'=>g.Ok s'∧Kp g s.heap s'.heap∧∃p,v=partValue p∧p.map (·.1)=u) E s)
  (V:∀A s' E,AOk k A→g.Ok s'→Loc g env X σ ω s'.heap→wpAny (model g.prog g.w) A (evalPart st env) (fun v an=>g.Ok an∧Kp g s'.heap an.heap∧∃p,v=partValue p∧p.map (·.1)=s) E s'):
  Ev g k env X σ ω (.Slice lo hi st pos) (.slc l u s):=eA_ fun A s₀ E a O L=>by
 refine wpAny_Slice (wpAny_mono (P A s₀ E a O L) (fun v1 af p1=> ?_) fun _ _ x=>x)
 obtain ⟨R,Q,q1,rfl,e1⟩:=p1
 have H:=L.kp Q R.pt
 refine wpAny_mono (I A af E a R H) (fun v2 Y p2=> ?_) fun _ _ x=>x
 obtain ⟨K,D,q2,rfl,e2⟩:=p2
 have S:=H.kp D K.pt
 refine wpAny_mono (V A Y E a K S) (fun v3 ak p3 ht=> ?_) fun _ _ x=>x
 obtain ⟨M,N,q3,rfl,e3⟩:=p3
 have ap:=S.kp N M.pt
 refine I0_3 (M.keep G (fun b o e=>Heap.get?_push_of_some _ e) ht) (((Q.trans D).trans N).trans (Kp.of fun b o e=>Heap.get?_push_of_some _ e)) ?_
 rw [fQ_]
 exact I4_6 _ q1 q2 q3 rfl (ap.xok.new (Nat.le_refl _)) (I1_3 _ (Heap.get?_push_size _ rfl) rfl rfl) e1 e2 e3
theorem ap_:∀A s E,AOk k A→g.Ok s→Loc g env X σ ω s.heap→wpAny (model g.prog g.w) A (evalPart none env) (fun v s'=>g.Ok s'∧Kp g s.heap s'.heap∧∃p,v=partValue p∧p.map (·.1)=(none:Option Int)) E s:=
 fun A s E _ O _=>wpAny_pure ⟨O,Kp.refl,none,rfl,rfl⟩
theorem aq_ {e:Expr}{i:Int}(he:Ev g k env X σ ω e (.int i)):∀A s E,AOk k A→g.Ok s→Loc g env X σ ω s.heap→wpAny (model g.prog g.w) A (evalPart (some e) env) (fun v s'=>g.Ok s'∧Kp g s.heap s'.heap∧∃p,v=partValue p∧p.map (·.1)=some i) E s:=
 fun A s E a O L=>he.use a O L fun v s' O' K' _ r=>by
  rw [rd_int] at r; (refine X1_1 r fun t a4=> ?_; subst a4)
  exact ⟨O',K',some (i,t),rfl,rfl⟩
noncomputable def ssl (x:Str)(l u s:Option Int):Str:=
 if (s.getD 1==1 && (Builtin.Str.strSliceIndices l u (s.getD 1) x.length).length==x.length)=true then x else ⟨((Builtin.Str.strSliceIndices l u (s.getD 1) x.length).filterMap (x.cps[·]?)).toArray⟩
theorem fV_ (G:g.Good){x:Str}{l u s:Option Int}(J:(s.getD 1==0)=false)(B:(ssl x l u s).length≤sizeLine):
  Op g k X [.str x, .slc l u s] (fun vs=>getItem (vs.getD 0 .none) (vs.getD 1 .none)) (.str (ssl x l u s)):=op2 fun A s₀ E v w _ O _ y I=>by
 rw [rd_str] at y; rw [fQ_] at I
 (refine X1_1 y fun t ax=> ?_; subst ax)
 (refine X4_6 I fun a l' Z s' aC hx ag a3 aD a8=> ?_; subst aC; subst a3; subst aD; subst a8)
 refine wpAny_getItem_str_slice ag J ?_
 unfold ssl at B
 refine (?_:Made.post (if ((s'.map (·.1)).getD 1==1 && (Builtin.Str.strSliceIndices (l'.map (·.1)) (Z.map (·.1)) ((s'.map (·.1)).getD 1) x.length).length==x.length)=true then _ else Made.str ⟨((Builtin.Str.strSliceIndices (l'.map (·.1)) (Z.map (·.1)) ((s'.map (·.1)).getD 1) x.length).filterMap (x.cps[·]?)).toArray⟩) _ _)
 by_cases hc:((s'.map (·.1)).getD 1==1 && (Builtin.Str.strSliceIndices (l'.map (·.1)) (Z.map (·.1)) ((s'.map (·.1)).getD 1) x.length).length==x.length)=true
 ·refine sb (if_pos hc) ?_
  intro ht
  exact I0_3 O Kp.refl (by simp only [rd_str,ssl,if_pos hc]; exact ⟨t,rfl⟩)
 ·refine sb (if_neg hc) ?_
  rw [if_neg hc] at B
  exact ⟨B,fun ht=>⟨Ok.toks G O ht,Kp.refl,by simp only [rd_str,ssl,if_neg hc]; exact ⟨_,rfl⟩⟩⟩
noncomputable def lsl {α:Type}(x:List α)(l u s:Option Int):List α:=(sliceRange (sliceBounds l u s x.length).1 (sliceBounds l u s x.length).2.1 (sliceBounds l u s x.length).2.2).filterMap (x[·]?)
theorem iH_ {l:List PV}{vs:List Value}(r:RdL g X h l vs):∀idx:List Nat,RdL g X h (idx.filterMap (l[·]?)) (idx.filterMap (vs[·]?))
 | [] => by rw [List.filterMap_nil,List.filterMap_nil,aG_]
 | i :: idx => by
  have ih:=iH_ r idx
  dsimp only [List.filterMap_cons,List.filterMap_cons]
  cases e:l[i]? with
  | some p=>
   refine X1_2 (cG_ r e) fun v y hr=> ?_
   refine sb y ?_
   rw [am_]
   exact I2_3 v _ rfl hr ih
  | none=>
   have hn:=aH_ r
   have:vs[i]? =none:=by
    rw [List.getElem?_eq_none_iff] at e ⊢
    exact le_of_eq_of_le hn e
   exact sb this ih
theorem fW_ (G:g.Good){x:List PV}{l u s:Option Int}(J:s≠some 0)(B:x.length≤sizeLine):
  Op g k X [.lst x, .slc l u s] (fun vs=>getItem (vs.getD 0 .none) (vs.getD 1 .none)) (.lst (lsl x l u s)):=op2 fun A s₀ E v w _ O xo y I=>by
 rw [bb_] at y; rw [fQ_] at I
 (refine X2_4 y fun al vs a5 aM P hr=> ?_; subst a5)
 (refine X4_6 I fun a l' Z s' a1 hx ag a6 a7 az=> ?_; subst a1; subst a6; subst a7; subst az)
 have hn:vs.size=x.length:=by have:=aH_ hr; simpa using this
 refine wpAny_getItem_list_slice (vl:=partValue l') (vu:=partValue Z) (vs:=partValue s') P ag (cO_ l') (cO_ Z) (cO_ s') J (fun ht=> ?_) (by exact O10 hn B)
 refine I0_3 (O.keep G (fun b o e=>Heap.get?_push_of_some _ e) ht) (Kp.of fun b o e=>Heap.get?_push_of_some _ e) ?_
 rw [bb_]
 refine I2_4 _ _ rfl (xo.new (Nat.le_refl _)) ⟨_,Heap.get?_push_size _ rfl,rfl,_,rfl⟩ ?_
 have e2:(slicePick vs (l'.map (·.1)) (Z.map (·.1)) (s'.map (·.1))).toList=(sliceRange (sliceBounds (l'.map (·.1)) (Z.map (·.1)) (s'.map (·.1)) x.length).1 (sliceBounds (l'.map (·.1)) (Z.map (·.1)) (s'.map (·.1)) x.length).2.1 (sliceBounds (l'.map (·.1)) (Z.map (·.1)) (s'.map (·.1)) x.length).2.2).filterMap (vs.toList[·]?):=by
  unfold slicePick
  refine sb hn ?_
  simp
 refine sb e2 ?_
 exact dT_ xo (Kp.of fun b o e=>Heap.get?_push_of_some _ e) (iH_ hr _)
theorem ax_ (G:g.Good){m f:Expr}{pos:Pos}{x:Str}{l u s:Option Int}(y:Ev g k env X σ ω m (.str x))(hi:Ev g k env X σ ω f (.slc l u s))
  (J:(s.getD 1==0)=false) (B:(ssl x l u s).length≤sizeLine) (V:autoParam (∀o i,∃C,subscripted f false o i=operate C (getItem o i)) aQ3):
  Ev g k env X σ ω (.Subscript m f pos) (.str (ssl x l u s)):=dY_ y hi (fV_ G J B) k9_ F.slot_str_getitem.lookup V
theorem bB_ (G:g.Good){m f:Expr}{pos:Pos}{x:List PV}{l u s:Option Int}(y:Ev g k env X σ ω m (.lst x))(hi:Ev g k env X σ ω f (.slc l u s))
  (J:s≠some 0) (B:x.length≤sizeLine) (V:autoParam (∀o i,∃C,subscripted f false o i=operate C (getItem o i)) aQ3):
  Ev g k env X σ ω (.Subscript m f pos) (.lst (lsl x l u s)):=dY_ y hi (fW_ G J B) la_ F.slot_list_getitem.lookup V
theorem hU_ (x:XOk g X h){ps:List PV}{vs:List Value}(r:RdL g X h ps vs):Rd g X (h.push {cls:= .type "list",data:= .seq vs.toArray}) (.lst ps) (.ref h.objs.size):=by
 rw [bb_]
 exact I2_4 _ vs.toArray rfl (x.new (Nat.le_refl _)) ⟨_,Heap.get?_push_size _ rfl,rfl,_,rfl⟩ (dT_ x (Kp.of fun b o e=>Heap.get?_push_of_some _ e) r)
theorem iJ_ (x:XOk g X h){ps:List PV}{vs:List Value}(r:RdL g X h ps vs):Rd g X (h.push {cls:= .type "tuple",data:= .seq vs.toArray}) (.tup ps) (.ref h.objs.size):=by
 rw [ck_]
 exact I2_4 _ vs.toArray rfl (x.new (Nat.le_refl _)) ⟨_,Heap.get?_push_size _ rfl,rfl,_,rfl⟩ (dT_ x (Kp.of fun b o e=>Heap.get?_push_of_some _ e) r)
theorem eB_ (G:g.Good){es:List Expr}{pos:Pos}{ps:List PV}(he:EvL g k env X σ ω es ps)(B:autoParam (ps.length≤sizeLine) aQ0):Ev g k env X σ ω (.List es pos) (.lst ps):=eA_ fun A s E a O L=>
 PyProof.Rows.List_ (he.use a O L fun vs s' O' K' L' r=>wpAny_newObj_type (fun ht=>⟨O'.keep G (fun b o e=>Heap.get?_push_of_some _ e) ht,K'.trans (Kp.of fun b o e=>Heap.get?_push_of_some _ e),hU_ L'.xok r⟩)
  (by show vs.toArray.size≤sizeLine; exact sb List.size_toArray (sb (aH_ r) B)))
theorem cd_ (G:g.Good){es:List Expr}{n:Nat}{pos:Pos}{ps:List PV}(he:EvL g k env X σ ω es ps)(B:autoParam (ps.length≤sizeLine) aQ0):Ev g k env X σ ω (.Tuple es n pos) (.tup ps):=eA_ fun A s E a O L=>
 PyProof.Rows.Tuple_ (he.use a O L fun vs s' O' K' L' r=>wpAny_newObj_type (fun ht=>⟨O'.keep G (fun b o e=>Heap.get?_push_of_some _ e) ht,K'.trans (Kp.of fun b o e=>Heap.get?_push_of_some _ e),iJ_ L'.xok r⟩)
  (by refine (?_:vs.toArray.size≤sizeLine); exact sb List.size_toArray (sb (aH_ r) B)))
abbrev e2_ (g:GC)(P:Heap→Prop)(f:Value):Prop:=∀h,P h→∃kp,(kp=Keeper.frame∨kp=Keeper.machine∨kp=Keeper.boundFrame)∧Looks (model g.prog g.w) h (keeperOf f) kp
theorem bQ_ {id:String}:e2_ g (fun _=>True) (.builtin id):=fun h _=>⟨.machine, .inr (.inl rfl),Looks.now⟩
theorem dn_ {n:String}:e2_ g (fun _=>True) (.type n):=fun h _=>⟨.machine, .inr (.inl rfl),Looks.now⟩
theorem hC_ {a:Addr}:e2_ g (fun h=>∃o fd,h.get? a=some o∧o.data= .func fd) (.ref a):=fun h ⟨o,fd,R,hd⟩=>by
 refine I1_2 .frame (.inl rfl) ((Looks.ld (part:=none) R).andThen ?_)
 refine sb hd ?_
 exact .now
theorem bq_ {P:Heap→Prop}{f:Value}{first:List Value}{e:Expr}{j:List Expr}{pos:Pos}{ps:List PV}(T:EvL g k env X σ ω (e::j) ps)(hk:e2_ g P f)
  (I:(backTo pos (starEach j env)).any (·.1)=false) (S:starEach (e::j) env=(false,eval e env)::starEach j env)
  {A s E} {Q:Value→Shared→Prop} (a:AOk k A) (O:g.Ok s) (L:Loc g env X σ ω s.heap)
  (c:∀vs s',g.Ok s'→Kp g s.heap s'.heap→Loc g env X σ ω s'.heap→RdL g X s'.heap ps vs→P s'.heap∧wpAny (model g.prog g.w) A (call f (first++vs) []) Q E s'):
  wpAny (model g.prog g.w) A (callWith pos f first (backTo pos (starEach (e::j) env)) []) Q E s:=by
 have aa:=fun A s E a O L=>T.run A s E a O L pos
 rw [S] at aa ⊢
 refine callWith_of (by refine (?_:((false || (backTo pos (starEach j env)).any (·.1)) || false)=false); refine sb I ?_; rfl) hk ?_
 exact evalArgs_plain (wpAny_mono (aa A s E a O L) (fun vs s' p=>c vs s' p.1 p.2.1 (L.kp p.2.1 p.1.pt) p.2.2) fun _ _ x=>x)
theorem ge_ {P:Heap→Prop}{f:Value}{first:List Value}{pos:Pos}(hk:e2_ g P f)
  {A s E} {Q:Value→Shared→Prop} (hp:P s.heap) (c:wpAny (model g.prog g.w) A (call f (first++ []) []) Q E s):
  wpAny (model g.prog g.w) A (callWith pos f first (backTo pos (starEach [] env)) []) Q E s:=
 callWith_of rfl hk (evalArgs_nil3 ⟨hp,c⟩)
theorem ar_ {b e:Expr}{j:List Expr}{pos:Pos}{id:String}{ps:List PV}{o:PV}(V:Ev g k env X σ ω b (.blt id))(T:EvL g k env X σ ω (e::j) ps)
  (R:Op g k X ps (fun vs=>call (.builtin id) vs) o) (I:autoParam (∀pos,(backTo pos (starEach j env)).any (·.1)=false) aQ2) (J:autoParam (nst e=true) aQ1) (S:starEach (e::j) env=(false,eval e env)::starEach j env:=bT_ J)
  (hc:autoParam (eval (.Call b (e::j) [] pos) env=(do callWith pos (← eval b env) [] (backTo pos (starEach (e::j) env)) (backToKw pos (keywordEach [] env)))) aQ6):
  Ev g k env X σ ω (.Call b (e::j) [] pos) o:= .mk fun A s E a O L=>
 Call_ (V.use a O L fun v M B y l i=>by
  rw [rd_blt] at i; subst i
  exact bq_ T bQ_ (I _) S a B l fun vs N C D G F=>⟨trivial,R.use (vs:=vs) a C G.xok F fun z K q u m=>⟨q,(y.trans D).trans u,m⟩⟩) hc
theorem bz_ {b e:Expr}{j:List Expr}{pos:Pos}{id:String}{ps:List PV}{o:PV}(V:Ev g k env X σ ω b (.typ id))(T:EvL g k env X σ ω (e::j) ps)
  (R:Op g k X ps (fun vs=>call (.type id) vs) o) (I:autoParam (∀pos,(backTo pos (starEach j env)).any (·.1)=false) aQ2) (J:autoParam (nst e=true) aQ1) (S:starEach (e::j) env=(false,eval e env)::starEach j env:=bT_ J)
  (hc:autoParam (eval (.Call b (e::j) [] pos) env=(do callWith pos (← eval b env) [] (backTo pos (starEach (e::j) env)) (backToKw pos (keywordEach [] env)))) aQ6):
  Ev g k env X σ ω (.Call b (e::j) [] pos) o:= .mk fun A s E a O L=>
 Call_ (V.use a O L fun v M B y l i=>by
  rw [rd_typ] at i; subst i
  exact bq_ T dn_ (I _) S a B l fun vs N C D G F=>⟨trivial,R.use (vs:=vs) a C G.xok F fun z K q u m=>⟨q,(y.trans D).trans u,m⟩⟩) hc
def aC_ (g:GC)(k:Nat)(f:Addr)(ps:List PV)(o:PV):Prop:=∀A s X vs,AOk k A→g.Ok s→XOk g X s.heap→RdL g X s.heap ps vs→
 codeAny (model g.prog g.w) A (.call (.ref f) ⟨vs,[]⟩) (fun r s'=>∃v,r= .ok (.ret v)∧g.Ok s'∧Kp g s.heap s'.heap∧Rd g X s'.heap o v) s
theorem aC_.call {f:Addr}{ps:List PV}{o:PV}(H:aC_ g k f ps o){A s vs E}{Q:Value→Shared→Prop}(a:AOk k A)(O:g.Ok s)(x:XOk g X s.heap)(r:RdL g X s.heap ps vs)
  (c:∀v s',g.Ok s'→Kp g s.heap s'.heap→Rd g X s'.heap o v→Q v s'):wpAny (model g.prog g.w) A (PySem.call (.ref f) vs []) Q E s:=
 wpAny_call (codeAny_mono (H A s X vs a O x r) fun r s' ⟨v,e,O',K',r'⟩=>by subst e; exact c v s' O' K' r')
def IsFn (g:GC)(f:Addr):Prop:=f≠g.Pt∧∃o fd,g.hG.get? f=some o∧o.data= .func fd
theorem az_ {b e:Expr}{j:List Expr}{pos:Pos}{f:Addr}{ps:List PV}{o:PV}(V:Ev g k env X σ ω b (.ref f))(ab:IsFn g f)(T:EvL g k env X σ ω (e::j) ps)
  (R:aC_ g k f ps o) (I:autoParam (∀pos,(backTo pos (starEach j env)).any (·.1)=false) aQ2) (J:autoParam (nst e=true) aQ1) (S:starEach (e::j) env=(false,eval e env)::starEach j env:=bT_ J)
  (hc:autoParam (eval (.Call b (e::j) [] pos) env=(do callWith pos (← eval b env) [] (backTo pos (starEach (e::j) env)) (backToKw pos (keywordEach [] env)))) aQ6):
  Ev g k env X σ ω (.Call b (e::j) [] pos) o:= .mk fun A s E a O L=>
 Call_ (V.use a O L fun v M B y l i=>by
  rw [rd_ref] at i; subst i
  refine bq_ T hC_ (I _) S a B l fun vs N C D G F=>⟨?_,R.call (vs:=vs) a C G.xok F fun z K q u m=>⟨q,(y.trans D).trans u,m⟩⟩
  obtain ⟨hp,ob,fd,h1,h2⟩:=ab
  exact I2_2 ob fd (C.gk _ _ hp h1) h2) hc
def Mth (g:GC)(p:PV)(X:Addr→Prop)(name:Str)(id:String):Prop:=∀A E (s:Shared) v (pl:Sem Bool) (Q:Value×List Value→Shared→Prop),Rd g X s.heap p v→Q (.builtin id,[v]) s→wpAny (model g.prog g.w) A (getMethod v name pl) Q E s
theorem ms_ {ob e:Expr}{j:List Expr}{name:Str}{apos pos:Pos}{id:String}{p:PV}{ps:List PV}{o:PV}(U:Ev g k env X σ ω ob p)(hm:Mth g p X name id)(T:EvL g k env X σ ω (e::j) ps)
  (R:Op g k X (p::ps) (fun vs=>call (.builtin id) vs) o) (I:autoParam (∀pos,(backTo pos (starEach j env)).any (·.1)=false) aQ2) (J:autoParam (nst e=true) aQ1) (S:starEach (e::j) env=(false,eval e env)::starEach j env:=bT_ J)
  (hc:∃pl,eval (.Call (.Attribute ob name apos) (e::j) [] pos) env=(do
     let Z ← eval ob env
     standAt apos.atName
     match ← holding [Z] (getMethod Z name pl) with
      | (f, first) => callWith pos f first (backTo pos (starEach (e::j) env)) []):=by exact ⟨_,rfl⟩):
  Ev g k env X σ ω (.Call (.Attribute ob name apos) (e::j) [] pos) o:= .mk fun A s E a O L=>by
 obtain ⟨pl,hc⟩:=hc
 refine MethodCall_ (pl:=pl) (U.use a O L fun v M B y l i=> ?_) hc
 refine hm _ _ _ _ _ _ i ?_
 exact bq_ T bQ_ (I _) S a B l fun vs N C D G F=>⟨trivial,R.use (vs:=v::vs) a C G.xok (by rw [am_]; exact I2_3 v vs rfl (dC_ l.xok D i) F) fun z K q u m=>⟨q,(y.trans D).trans u,m⟩⟩
theorem kN_ {ob:Expr}{name:Str}{apos pos:Pos}{id:String}{p:PV}{o:PV}(U:Ev g k env X σ ω ob p)(hm:Mth g p X name id)
  (R:Op g k X [p] (fun vs=>call (.builtin id) vs) o)
  (hc:∃pl,eval (.Call (.Attribute ob name apos) [] [] pos) env=(do
     let Z ← eval ob env
     standAt apos.atName
     match ← holding [Z] (getMethod Z name pl) with
      | (f, first) => callWith pos f first (backTo pos (starEach [] env)) []):=by exact ⟨_,rfl⟩):
  Ev g k env X σ ω (.Call (.Attribute ob name apos) [] [] pos) o:= .mk fun A s E a O L=>by
 obtain ⟨pl,hc⟩:=hc
 refine MethodCall_ (pl:=pl) (U.use a O L fun v M B y l i=> ?_) hc
 refine hm _ _ _ _ _ _ i ?_
 exact ge_ bQ_ trivial (R.use (vs:= [v]) a B l.xok (bn_ i) fun z K q u m=>⟨q,y.trans u,m⟩)
theorem bi_ {x:Str}{name:Str}{id:String}(Y:Slot "str" name id)(ty:typeOf (.builtin id)=pure (.type "method_descriptor")):Mth g (.str x) X name id:=fun A E s v pl Q r hq=>by
 rw [rd_str] at r; obtain ⟨t,rfl⟩:=r
 exact GM.of (.str x t) (typeIs_str _ _ _) Y ty GM.noRef hq
end
noncomputable def av (Xo:Addr→Prop)(i j:List Addr):Addr→Prop:=fun a=>Xo a∨a∈i∨a∈j
structure LS (g:GC)(H:Heap)(env:Env)(Xo:Addr→Prop)(i j:List Addr)(σ:List (Str×PV))(ω:List (Addr×OC))(s:Shared):Prop where
 ok:g.Ok s
 loc:Loc g env (av Xo i j) σ ω s.heap
 base:∀b o,b≠g.Pt→b ∉ i→H.get? b=some o→s.heap.get? b=some o
 ex:∀b o,H.get? b=some o→∃P,s.heap.get? b=some P
 new:∀a∈j,H.get? a=none
 gM:∀a,(a∈i∨a∈j)→g.hG.get? a=none∧a≠g.Pt
 lM:env.locals∈i∨env.locals∈j
 cM:∀x c,env.cells.lookup x=some c→c∈i∨c∈j
 oM:∀a oc,(a,oc)∈ω→a∈i∨a∈j
noncomputable def upd (x:Str)(pv:PV)(σ:List (Str×PV)):List (Str×PV):=(x,pv)::σ.filter fun p=>p.1 !=x
theorem ab_ {x:Str}{pv:PV}{σ:List (Str×PV)}:(x,pv)∈upd x pv σ:= .head _
theorem au_ {x y:Str}{pv q:PV}{σ:List (Str×PV)}(h:(y,q)∈σ)(Y:(y !=x)=true):(y,q)∈upd x pv σ:= .tail _ (List.mem_filter.mpr ⟨h,Y⟩)
theorem uQ {x y:Str}{pv q:PV}{σ:List (Str×PV)}(h:(y,q)∈σ)(Y:autoParam ((y !=x)=true) aQ0):(y,q)∈upd x pv σ:=au_ h Y
theorem mQ {D:Type}{a:D}{l:List D}:a∈a::l:= .head _
theorem tQ {D:Type}{a b:D}{l:List D}(h:a∈l):a∈b::l:= .tail _ h
theorem iX {D:Type}{l:List D}{p:D}(n:Nat)(h:l[n]? =some p):p∈l:=List.mem_of_getElem? h
theorem ix1 {D:Type}{a b:D}{z:List D}:b∈a::b::z:= .tail _ (.head _)
theorem ix2 {D:Type}{a b c:D}{z:List D}:c∈a::b::c::z:= .tail _ ix1
theorem ix3 {D:Type}{a b c d:D}{z:List D}:d∈a::b::c::d::z:= .tail _ ix2
theorem b2_ {x y:Str}{pv q:PV}{σ:List (Str×PV)}(h:(y,q)∈upd x pv σ):(y=x∧q=pv)∨(y≠x∧(y,q)∈σ):=by
 rcases List.mem_cons.mp h with h | h
 ·cases h; exact .inl ⟨rfl,rfl⟩
 ·refine X0_2 (List.mem_filter.mp h) fun t F=> ?_
  exact .inr ⟨by simpa using F,t⟩
section
variable {g:GC}{k:Nat}{H:Heap}{env:Env}{Xo:Addr→Prop}{i j:List Addr}{σ σ':List (Str×PV)}{ω ω':List (Addr×OC)}{s:Shared}
theorem LS.kp (S:LS g H env Xo i j σ ω s){s':Shared}(O:g.Ok s')(K:Kp g s.heap s'.heap):LS g H env Xo i j σ ω s' where
 ok:=O
 loc:=S.loc.kp K O.pt
 base:=fun b o n m e=>K b o n (S.base b o n m e)
 ex:=fun b o e=>by
  refine X1_1 (S.ex b o e) fun P e'=> ?_
  by_cases hb:b=g.Pt
  ·exact sb hb O.pt
  ·exact ⟨P,K b P hb e'⟩
 new:=S.new
 gM:=S.gM
 lM:=S.lM
 cM:=S.cM
 oM:=S.oM
theorem LS.weak (S:LS g H env Xo i j σ ω s)(h:∀p∈σ',p∈σ)(f:∀p∈ω',p∈ω:=by exact fun _ h=>h)(hp:ω'.Pairwise (fun p q=>p.1≠q.1):=by exact LS.once (by assumption)):LS g H env Xo i j σ' ω' s where
 ok:=S.ok
 loc:= {S.loc with
  ns:=(X1_2 S.loc.ns fun m hm hv=>⟨m,hm,fun x pv hx=>hv x pv (h _ hx)⟩)
  vars:=fun x pv hx=>S.loc.vars x pv (h _ hx)
  own:=fun a oc ha=>S.loc.own a oc (f _ ha)
  once:=hp}
 base:=S.base
 ex:=S.ex
 new:=S.new
 gM:=S.gM
 lM:=S.lM
 cM:=S.cM
 oM:=fun a oc ha=>S.oM a oc (f _ ha)
theorem LS.once (S:LS g H env Xo i j σ ω s):ω.Pairwise fun p q=>p.1≠q.1:=S.loc.once
theorem LS.mut (G:g.Good)(S:LS g H env Xo i j σ ω s){a:Addr}{h':Heap}{tk:Nat}(ha:a∈i∨a∈j)(hs:Heap.SameBut a s.heap h')(hd:∀o,s.heap.get? a=some o→bg_ o)
  (he:∃o,h'.get? a=some o) (ht:0 < tk):
  g.Ok {s with heap:=h',toks:=tk}∧(∀b o,b≠g.Pt→b ∉ i→H.get? b=some o→h'.get? b=some o)∧(∀b o,H.get? b=some o→∃P,h'.get? b=some P)∧
   (∀X',(∀b,X' b→av Xo i j b)→(∀b,b=a→X' b)→bE_ X' X' s.heap h')∧(∀b o,b≠a→s.heap.get? b=some o→h'.get? b=some o):=by
 have hx:=S.gM a ha
 refine ⟨⟨fun b o n e=>hs.extBut b o (by rintro rfl; rw [hx.1] at e; contradiction) (S.ok.gk b o n e), ?_, ?_,S.ok.gens,S.ok.os,ht⟩, ?_, ?_, ?_,fun b o n e=>hs.extBut b o n e⟩
 ·refine X1_1 S.ok.pt fun o e=> ?_
  exact ⟨o,hs.extBut _ o (fun q=>hx.2 q.symm) e⟩
 ·exact G.tabKeep _ _ a S.ok.tab hx.2 hd fun b o n e=>hs.extBut b o n e
 ·intro b o n m e
  refine hs.extBut b o ?_ (S.base b o n m e)
  rintro rfl
  rcases ha with ha | ha
  ·exact m ha
  ·rw [S.new _ ha] at e; contradiction
 ·intro b o e
  refine X1_1 (S.ex b o e) fun P e'=> ?_
  by_cases hb:b=a
  ·exact sb hb he
  ·exact ⟨P,hs.extBut b P hb e'⟩
 ·intro X' _ hX
  exact ⟨fun b o n e=>hs.extBut b o (fun q=>n (hX b q)) e,fun b o n _=>n⟩
theorem Ns.noFields {h:Heap}{a:Addr}{m}(x:h.Ns a m):∀o,h.get? a=some o→bg_ o:=by
 refine X3_3 x fun P es ep e hd _=> ?_
 intro o f vs hf
 rw [e] at f; cases f
 rw [hd] at hf; contradiction
theorem Ns.ex {h:Heap}{a:Addr}{m}(x:h.Ns a m):∃o,h.get? a=some o:=(X3_2 x fun o _ _ e _=>⟨o,e⟩)
theorem IsCell.noFields {h:Heap}{a:Addr}{ov}(x:h.IsCell a ov):∀o,h.get? a=some o→bg_ o:=by
 refine X1_2 x fun P e hd=> ?_
 intro o f vs hf
 rw [e] at f; cases f
 rw [hd] at hf; contradiction
theorem LS.store (G:g.Good)(S:LS g H env Xo i j σ ω s){x:Str}{pv:PV}{v:Value}(hk:env.kindOf x=some .local∨(env.kindOf x=some .cell∧(env.cells.lookup x).isSome=true))(ah:(x==("__classdict__" :Str))=false)(hr:Rd g (av Xo i j) s.heap pv v)
  {A E} {Q:Unit→Shared→Prop} (c:∀s',LS g H env Xo i j (upd x pv σ) ω s'→Q () s'):wpAny (model g.prog g.w) A (storeName env x v) Q E s:=by
 have L:=S.loc
 rcases hk with hk | ⟨hk,am⟩
 ·obtain ⟨m,Y,hv⟩:=L.ns
  refine wpAny_storeName_local hk Y (fun h' ad U=>c _ ?_) (by refine sb L.fn ?_; rfl)
  obtain ⟨O',b',e',K',N⟩:=S.mut G (tk:=s.toks+1) S.lM U (Ns.noFields Y) (Ns.ex ad) (Nat.succ_pos _)
  have C:=K' (av Xo i j) (fun _ h=>h) (fun b q=>by exact sb q L.lX)
  refine ⟨O', ?_,b',e',S.new,S.gM,S.lM,S.cM,S.oM⟩
  refine {fn:=L.fn,gl:=L.gl,bl:=L.bl,xs:=fun a ha=> ?_,ptX:=L.ptX,gX:=L.gX,lX:=L.lX,lP:=L.lP,cX:=fun y c hc=> ?_,inj:=L.inj,ns:=⟨_,ad,fun y q hy V=> ?_⟩,vars:=fun y q hy=> ?_,own:=fun a oc ha=> ?_,once:=L.once}
  ·obtain ⟨o,f⟩:=L.xs a ha
   by_cases q:a=env.locals
   ·exact sb q (Ns.ex ad)
   ·exact ⟨o,N a o q f⟩
  ·obtain ⟨t,F,h3,ov,oc,M,T⟩:=L.cX y c hc
   exact ⟨t,F,h3,ov,oc,N c oc h3 M,T⟩
  ·rcases b2_ hy with ⟨rfl,rfl⟩ | ⟨B,hy⟩
   ·exact ⟨v,by simp,an_ C _ _ hr⟩
   ·obtain ⟨u,hu,aa⟩:=hv y q hy V
    exact I1_2 u (by simp [B,hu]) (an_ C _ _ aa)
  ·rcases b2_ hy with ⟨rfl,rfl⟩ | ⟨B,hy⟩
   ·exact .inl hk
   ·rcases L.vars y q hy with t | ⟨t,R,c,u,F,⟨o,f,hd⟩,M⟩
    ·exact .inl t
    ·exact .inr ⟨t,R,c,u,F,⟨o,N c o (L.cX y c F).2.2.1 f,hd⟩,an_ C _ _ M⟩
  ·obtain ⟨t,F,h3,M,T⟩:=L.own a oc ha
   refine I0_5 t F h3 M ?_
   cases oc with
   | lst l=>
    obtain ⟨vs,⟨o,f,q⟩,r⟩:=T
    exact I1_2 vs ⟨o,N a o h3 f,q⟩ (aw_ C _ _ r)
   | ba b=>
    obtain ⟨o,n,f,q⟩:=T
    exact I2_2 o n (N a o h3 f) q
 ·obtain ⟨Z,J⟩:=Option.isSome_iff_exists.mp am
  obtain ⟨al,aw,ao,ar,I⟩:=L.cX x Z J
  refine wpAny_storeName_cell L.fn hk J I fun h' X U=>c _ ?_
  obtain ⟨O',b',e',K',N⟩:=S.mut G (tk:=s.toks) (S.cM x Z J) U (IsCell.noFields I) (by obtain ⟨o,f,_⟩:=X; exact ⟨o,f⟩) S.ok.tok
  have C:=K' (av Xo i j) (fun _ h=>h) (fun b q=>by exact sb q al)
  obtain ⟨m,Y,hv⟩:=L.ns
  refine ⟨O', ?_,b',e',S.new,S.gM,S.lM,S.cM,S.oM⟩
  refine {fn:=L.fn,gl:=L.gl,bl:=L.bl,xs:=fun a ha=> ?_,ptX:=L.ptX,gX:=L.gX,lX:=L.lX,lP:=L.lP,cX:=fun y c hc=> ?_,inj:=L.inj,ns:=⟨m,Y.sameBut U (Ne.symm ao),fun y q hy V=> ?_⟩,vars:=fun y q hy=> ?_,own:=fun a oc ha=> ?_,once:=L.once}
  ·obtain ⟨o,f⟩:=L.xs a ha
   by_cases q:a=Z
   ·refine sb q ?_; obtain ⟨o,f,_⟩:=X; exact ⟨o,f⟩
   ·exact ⟨o,N a o q f⟩
  ·obtain ⟨t,F,h3,ov,oc,M,T⟩:=L.cX y c hc
   by_cases q:c=Z
   ·exact ⟨t,F,h3,some v,q▸X⟩
   ·exact ⟨t,F,h3,ov,oc,N c oc q M,T⟩
  ·rcases b2_ hy with ⟨rfl,rfl⟩ | ⟨B,hy⟩
   ·rw [hk] at V; contradiction
   ·obtain ⟨u,hu,aa⟩:=hv y q hy V
    exact I1_2 u hu (an_ C _ _ aa)
  ·rcases b2_ hy with ⟨rfl,rfl⟩ | ⟨B,hy⟩
   ·exact .inr ⟨.inl hk,ah,Z,v,J,X,an_ C _ _ hr⟩
   ·rcases L.vars y q hy with t | ⟨t,R,c,u,F,⟨o,f,hd⟩,M⟩
    ·exact .inl t
    ·refine .inr ⟨t,R,c,u,F,⟨o,N c o (fun q=>B ?_) f,hd⟩,an_ C _ _ M⟩
     exact L.inj y x c F (q▸J)
  ·obtain ⟨t,F,h3,M,T⟩:=L.own a oc ha
   refine I0_5 t F h3 M ?_
   have B:a≠Z:=fun q=>M x Z J q.symm
   cases oc with
   | lst l=>
    obtain ⟨vs,⟨o,f,q⟩,r⟩:=T
    exact I1_2 vs ⟨o,N a o B f,q⟩ (aw_ C _ _ r)
   | ba b=>
    obtain ⟨o,n,f,q⟩:=T
    exact I2_2 o n (N a o B f) q
end
section
variable {g:GC}{k:Nat}{K:Heap}{env:Env}{Xo:Addr→Prop}{u t:List Addr}{σ σ':List (Str×PV)}{ω ω':List (Addr×OC)}{s s':Shared}
theorem Loc.anti {X X':Addr→Prop}{h:Heap}(L:Loc g env X σ ω h)(hX:∀a,X' a→X a)(hp:X' g.Pt)(hl:X' env.locals)(hc:∀x c,env.cells.lookup x=some c→X' c)(ho:∀a oc,(a,oc)∈ω→X' a):Loc g env X' σ ω h:=by
 have C:bE_ X X' h h:=⟨fun b o _ e=>e,fun b o n _ q=>n (hX b q)⟩
 refine {fn:=L.fn,gl:=L.gl,bl:=L.bl,xs:=fun a ha=>L.xs a (hX a ha),ptX:=hp,gX:=fun a ha=>L.gX a (hX a ha),lX:=hl,lP:=L.lP,cX:=fun x c h=>⟨hc x c h,(L.cX x c h).2⟩,inj:=L.inj,ns:= ?_,vars:=fun x pv hx=> ?_,own:=fun a oc ha=> ?_,once:=L.once}
 ·refine X1_2 L.ns fun m hm hv=> ?_
  exact I1_2 m hm (fun x pv hx hk=>(X1_2 (hv x pv hx hk) fun v e r=>(I1_2 v e (an_ C _ _ r))))
 ·rcases L.vars x pv hx with h1 | ⟨h1,h2,c,v,h3,h4,h5⟩
  ·exact .inl h1
  ·exact .inr ⟨h1,h2,c,v,h3,h4,an_ C _ _ h5⟩
 ·refine X0_5 (L.own a oc ha) fun h1 h2 h3 h4 h5=> ?_
  refine I0_5 (ho a oc ha) h2 h3 h4 ?_
  cases oc with
  | lst l => refine X1_2 h5 fun vs q r=> ?_; exact I1_2 vs q (aw_ C _ _ r)
  | ba b => exact h5
theorem LS.rebase (S:LS g K env Xo u t σ ω s):LS g s.heap env Xo (t++u) [] σ ω s where
 ok:=S.ok
 loc:=S.loc.anti (fun a h=>by rcases h with h | h | h; exact .inl h; (rcases List.mem_append.mp h with h | h; exact .inr (.inr h); exact .inr (.inl h)); exact (nomatch h))
  (by rcases S.loc.ptX with h | h | h; exact .inl h; exact .inr (.inl (List.mem_append.mpr (.inr h))); exact .inr (.inl (List.mem_append.mpr (.inl h))))
  (by rcases S.lM with h | h; exact .inr (.inl (List.mem_append.mpr (.inr h))); exact .inr (.inl (List.mem_append.mpr (.inl h))))
  (fun x c hc=>by rcases S.cM x c hc with h | h; exact .inr (.inl (List.mem_append.mpr (.inr h))); exact .inr (.inl (List.mem_append.mpr (.inl h))))
  (fun x c hc=>by rcases S.oM x c hc with h | h; exact .inr (.inl (List.mem_append.mpr (.inr h))); exact .inr (.inl (List.mem_append.mpr (.inl h))))
 base:=fun b o _ _ e=>e
 ex:=fun b o e=>⟨o,e⟩
 new:=fun a h=>nomatch h
 gM:=fun a h=>by
  rcases h with h | h
  ·exact S.gM a ((List.mem_append.mp h).symm)
  ·exact (nomatch h)
 lM:= .inl (List.mem_append.mpr S.lM.symm)
 cM:=fun x c h=> .inl (List.mem_append.mpr (S.cM x c h).symm)
 oM:=fun x c h=> .inl (List.mem_append.mpr (S.oM x c h).symm)
theorem LS.chain {N:List Addr}(S:LS g K env Xo u t σ ω s)(O:LS g s.heap env Xo (t++u) N σ' ω' s')(ho:∀a oc,(a,oc)∈ω'→a∈u∨a∈t):LS g K env Xo u t σ' ω' s' where
 ok:=O.ok
 loc:=O.loc.anti (fun a h=>by rcases h with h | h | h; exact .inl h; exact .inr (.inl (List.mem_append.mpr (.inr h))); exact .inr (.inl (List.mem_append.mpr (.inl h))))
  S.loc.ptX (.inr S.lM) (fun x c h=> .inr (S.cM x c h)) (fun a oc h=> .inr (ho a oc h))
 base:=fun b o n m e=>O.base b o n (fun q=>by
  rcases List.mem_append.mp q with q | q
  ·rw [S.new b q] at e; contradiction
  ·exact m q) (S.base b o n m e)
 ex:=fun b o e=>(X1_1 (S.ex b o e) fun o' e'=>O.ex b o' e')
 new:=S.new
 gM:=S.gM
 lM:=S.lM
 cM:=S.cM
 oM:=ho
structure Wp (g:GC)(A:Around)(env:Env)(b:List Stmt)(Q:Flow→Shared→Prop)(E:Value→Shared→Prop)(s:Shared):Prop where
 run:wpAny (model g.prog g.w) A (execs b env) Q E s
def Cont (g:GC)(A:Around)(env:Env)(i:List Stmt)(Q:Flow→Shared→Prop)(E:Value→Shared→Prop)(f:Flow)(s':Shared):Prop:=match f with
 | .next => Wp g A env i Q E s'
 | f => Q f s'
section
variable {A:Around}{E:Value→Shared→Prop}{Q:Flow→Shared→Prop}{i:List Stmt}
theorem b4_ {st:Stmt}(h:wpAny (model g.prog g.w) A (exec st env) (Cont g A env i Q E) E s):Wp g A env (st::i) Q E s:=
 ⟨wpAny_execs_cons (wpAny_mono h (fun f s' p=>by cases f <;>first | exact p.run | exact p) fun _ _ x=>x)⟩
abbrev Kd (env:Env)(x:Str):Prop:=env.kindOf x=some .local∨(env.kindOf x=some .cell∧(env.cells.lookup x).isSome=true)
theorem kL {env:Env}{x:Str}(h:autoParam (env.kindOf x=some .local) aQ8):Kd env x:= .inl h
theorem kC {env:Env}{x:Str}(h:env.kindOf x=some .cell:=by exact Eq.refl (some NameKind.cell))(h2:autoParam ((env.cells.lookup x).isSome=true) aQ1):Kd env x:= .inr ⟨h,h2⟩
theorem wpQ {b:List Stmt}(h:∀Q':Flow→Shared→Prop,(∀f s',Q f s'→Q' f s')→Wp g A env b Q' E s):Wp g A env b Q E s:=h Q fun _ _ x=>x
theorem al_ (G:g.Good){x:Str}{px:Pos}{e:Expr}{pos:Pos}{pv:PV}(S:LS g K env Xo u t σ ω s)(a:AOk k A)(he:Ev g k env (av Xo u t) σ ω e pv)(hk:Kd env x)
  (c:∀s',LS g K env Xo u t (upd x pv σ) ω s'→Wp g A env i Q E s') (ao:autoParam ((x==("__classdict__" :Str))=false) aQ0) (aw:autoParam (swapsWith e (some (Expr.Name x px)) pos.line env=pure false) aQ4):
  Wp g A env (.Assign [.Name x px] e pos::i) Q E s:=
 b4_ (wpAny_Assign_Name (he.use a S.ok S.loc fun v H z y Z V=>(S.kp z y).store G hk ao V c) aw)
theorem aO_ {e:Expr}{pos:Pos}{pv:PV}(S:LS g K env Xo u t σ ω s)(a:AOk k A)(he:Ev g k env (av Xo u t) σ ω e pv)
  (c:∀v s',LS g K env Xo u t σ ω s'→Rd g (av Xo u t) s'.heap pv v→Q (.ret v) s'):Wp g A env (.Return (some e) pos::i) Q E s:=
 b4_ (wpAny_Return_some (he.use a S.ok S.loc fun v H z y Z V=>c v H (S.kp z y) V))
theorem aX_ {I:Expr}{body j:List Stmt}{pos:Pos}{b:Bool}(S:LS g K env Xo u t σ ω s)(a:AOk k A)(ht:EvT g k env (av Xo u t) σ ω I b)
  (c1:b=true→∀s',LS g K env Xo u t σ ω s'→Wp g A env body (Cont g A env i Q E) E s') (c2:b=false→∀s',LS g K env Xo u t σ ω s'→Wp g A env j (Cont g A env i Q E) E s'):
  Wp g A env (.If I body j pos::i) Q E s:=
 b4_ (wpAny_If (ht.use a S.ok S.loc fun H z y Z=>by
  cases b with
  | true => exact (c1 rfl H (S.kp z y)).run
  | false => exact (c2 rfl H (S.kp z y)).run))
theorem af_ (h:Q .next s):Wp g A env [] Q E s:=⟨wpAny_execs_nil h⟩
theorem d9_ {pos:Pos}(h:Q .brk s):Wp g A env (.Break pos::i) Q E s:=b4_ (wpAny_Break h)
def eR_ (g:GC)(hT:Heap)(env:Env)(Xo:Addr→Prop)(M:List Addr)(J:List (Str×PV)→List (Addr×OC)→Prop)(B:List (Str×PV)→List (Addr×OC)→Prop)(o:PV)(f:Flow)(s':Shared):Prop:=match f with
 | .next | .cont => ∃N σ' ω',J σ' ω'∧LS g hT env Xo M N σ' ω' s'∧(∀a oc,(a,oc)∈ω'→a∈M)
 | .brk => ∃N σ' ω',B σ' ω'∧LS g hT env Xo M N σ' ω' s'∧(∀a oc,(a,oc)∈ω'→a∈M)
 | .ret v => ∃N σ',LS g hT env Xo M N σ' [] s'∧Rd g (av Xo M N) s'.heap o v
theorem d8_ {D:Type}(P:D→List (Str×PV)→List (Addr×OC)→Prop)(m:D→Nat)(tb:D→Bool)(B:List (Str×PV)→List (Addr×OC)→Prop)(o:PV){I:Expr}{body j:List Stmt}{pos:Pos}
  (S:LS g K env Xo u t σ ω s) (a:AOk k A) (d0:D) (h0:P d0 σ ω)
  (ht:∀d σ' ω',P d σ' ω'→∀X,EvT g k env X σ' ω' I (tb d))
  (ak:∀d σ' ω' hT ah M s' E',P d σ' ω'→tb d=true→LS g hT env ah M [] σ' ω' s'→Wp g A env body (eR_ g hT env ah M (fun ae ad=>∃Y,m Y < m d∧P Y ae ad) B o) E' s')
  (done:∀d σ' ω' s' E',P d σ' ω'→tb d=false→LS g K env Xo u t σ' ω' s'→Wp g A env j (Cont g A env i Q E) E' s')
  (brk:∀σ' ω' s',B σ' ω'→LS g K env Xo u t σ' ω' s'→Wp g A env i Q E s')
  (ret:∀v σ' s',LS g K env Xo u t σ' [] s'→Rd g (av Xo u t) s'.heap o v→Q (.ret v) s'):
  Wp g A env (.While I body j pos::i) Q E s:=by
 refine b4_ (wpAny_While (codeAny_whileLoop (fun n s'=>∃d σ' ω',m d=n∧P d σ' ω'∧LS g K env Xo u t σ' ω' s') ?_ (m d0) (I3_3 d0 σ ω rfl h0 S)))
 rintro n H ⟨d,σ1,ω1,rfl,hP,S1⟩
 refine (ht d σ1 ω1 hP _).use a S1.ok S1.loc fun R ag ai az=> ?_
 have F:=S1.kp ag ai
 cases hb:tb d with
 | true=>
  refine sb (if_pos rfl) ?_
  refine wpAny_mono (ak d σ1 ω1 R.heap Xo (t++u) R _ hP hb F.rebase).run (fun f T p=> ?_) fun _ _ x=>x
  have aa:∀{ω':List (Addr×OC)},(∀a oc,(a,oc)∈ω'→a∈t++u)→∀a oc,(a,oc)∈ω'→a∈u∨a∈t:=fun h a oc q=>(List.mem_append.mp (h a oc q)).symm
  cases f with
  | next => (refine X3_3 p fun N σ' ω' q1 O U=> ?_; obtain ⟨Y,hm,ab⟩:=q1); exact ⟨m Y,hm,Y,σ',ω',rfl,ab,F.chain O (aa U)⟩
  | cont => (refine X3_3 p fun N σ' ω' q2 O U=> ?_; obtain ⟨Y,hm,ab⟩:=q2); exact ⟨m Y,hm,Y,σ',ω',rfl,ab,F.chain O (aa U)⟩
  | brk => refine X3_3 p fun N σ' ω' hB O U=> ?_; exact brk σ' ω' T hB (F.chain O (aa U))
  | ret v=>
   refine X2_2 p fun N σ' O r=> ?_
   refine ret v σ' T (F.chain O (fun _ _ h=>nomatch h)) (an_ ⟨fun b o _ e=>e,fun b o n _ q=>n ?_⟩ _ _ r)
   rcases q with q | q | q
   ·exact .inl q
   ·exact .inr (.inl (List.mem_append.mpr (.inr q)))
   ·exact .inr (.inl (List.mem_append.mpr (.inl q)))
 | false=>
  refine sb (if_neg (by simp)) ?_
  refine wpAny_mono (done d σ1 ω1 R _ hP hb F).run (fun f T p=> ?_) fun _ _ x=>x
  cases f <;>exact p
end
end
def Its (g:GC)(X:Addr→Prop)(p:PV)(items:List PV):Prop:=∀A s E v (Q:Value→Shared→Prop),A.handled=none→g.Ok s→XOk g X s.heap→Rd g X s.heap p v→
 (∀I fp P St h',g.Ok {s with heap:=h'}→(∀b o,s.heap.get? b=some o→h'.get? b=some o)→(∀F,F.handled=none→Walks g.prog g.w F I fp [I] items.length P St)→St 0 h'→
  (∀b∈fp,¬X b∧b≠g.Pt∧∃o,h'.get? b=some o)→¬X I→I≠g.Pt→(∃o,h'.get? I=some o)→s.heap.get? I=none→
  (∀J D i w pv,bE_ X D s.heap J→P i w→items[i]? =some pv→Rd g D J pv w)→(∀J i,St i J→∃o,J.get? I=some o∧bg_ o)→
  (∀A E s i j w f (Q:Unit→Shared→Prop),St j s.heap→P i w→Q () s→wpAny (model g.prog g.w) A (letOwnedTupleGo f (.ref I) w) Q E s)→Q (.ref I) {s with heap:=h'})→wpAny (model g.prog g.w) A (pyIter v) Q E s
section
variable {g:GC}{k:Nat}{X:Addr→Prop}
theorem dm_ {x:Str}{px:Pos}{it v:Value}:letOwnedTupleGo (.Name x px) it v=pure ():=rfl
theorem db_ {A:Around}{E:Value→Shared→Prop}{s:Shared}{f:Expr}{I:Addr}{v:Value}{T:String}{o:Obj}{Q:Unit→Shared→Prop}(y:s.heap.get? I=some o)(hc:o.cls= .type T)
  (hT: ["enumerate","zip","dict_itemiterator","dict_reverseitemiterator","odict_iterator","itertools.zip_longest","itertools.pairwise"].contains T=false) (h:Q () s):wpAny (model g.prog g.w) A (letOwnedTupleGo f (.ref I) v) Q E s:=by
 obtain ⟨c,d,dt,sl⟩:=o
 dsimp only at hc; subst hc
 cases v with
 | ref a=>
  have Y:wpAny (model g.prog g.w) A (do
    let o ← load I
    match o.cls,o.data with
    | .type n, .fields vs=>
     if ["enumerate","zip","dict_itemiterator","dict_reverseitemiterator","odict_iterator","itertools.zip_longest","itertools.pairwise"].contains n && vs[0]? ==some (rawInt a) then
      rule "for.unpacks-the-owned-tuple"
      updateField I 0 .none
    | _, _ => pure ():Sem Unit) Q E s:=by
   refine wpAny_bind (wpAny_load y ?_)
   cases dt with
   | fields vs=>
    dsimp only
    refine sb hT ?_
    exact wpAny_pure h
   | _ => exact wpAny_pure h
  cases f <;>first | exact wpAny_pure h | exact Y
 | _ => cases f <;>exact wpAny_pure h
theorem cL_ {A:Around}{E:Value→Shared→Prop}{s:Shared}{f:Expr}{it v:Value}{Q:Unit→Shared→Prop}(hv:∀a,v≠ .ref a)(h:Q () s):wpAny (model g.prog g.w) A (letOwnedTupleGo f it v) Q E s:=by
 have:letOwnedTupleGo f it v=pure ():=by
  cases f <;>first | rfl | (cases it <;>first | rfl | (cases v <;>first | rfl | exact absurd rfl (hv _)))
 exact sb this (wpAny_pure h)
theorem a8_ {h:Heap}:h.get? h.objs.size=none:=by
 cases e:h.get? h.objs.size with
 | none => rfl
 | some o => exact absurd (Heap.lt_size e) (Nat.lt_irrefl _)
theorem dF_ (G:g.Good){l:List PV}:Its g X (.lst l) l:=fun A s E v Q J O x r K=>by
 rw [bb_] at r
 (refine X2_4 r fun a vs q1 hx H hr=> ?_; subst q1)
 have ha:a < s.heap.objs.size:=by refine X1_2 H fun o y _=> ?_; exact Heap.lt_size y
 have L:vs.size=l.length:=by have:=aH_ hr; simpa using this
 have z:=(O.pt).elim fun o y=>Heap.lt_size y
 have U:a≠g.Pt:=fun e=>hx (e▸x.ptX)
 refine wpAny_pyIter_list H ?_
 refine K s.heap.objs.size [s.heap.objs.size,a] (fun i v=>vs[i]? =some v) (fun i h=>h.IsListIter s.heap.objs.size a i∧h.IsList a vs) _
  (O.keep G (fun b o e=>Heap.get?_push_of_some _ e) O.tok) (fun b o e=>Heap.get?_push_of_some _ e) (fun F B=>L▸Walks.list B _ _ (Nat.ne_of_lt ha) vs) ⟨⟨_,Heap.get?_push_size _ rfl,rfl,rfl⟩,H.push _⟩
  (fun b hb=> ?_) (x.new (Nat.le_refl _)) (Nat.ne_of_gt z) ⟨_,Heap.get?_push_size _ rfl⟩ a8_ (fun hq D i w pv hk C hi=> ?_) (fun hq i m=> ?_) (fun A E s i j w t Q m C h=> ?_)
 ·rcases List.mem_cons.mp hb with rfl | hb
  ·exact ⟨x.new (Nat.le_refl _),Nat.ne_of_gt z,_,Heap.get?_push_size _ rfl⟩
  ·rcases List.mem_cons.mp hb with rfl | hb
   ·refine X1_2 H fun o y _=> ?_
    exact ⟨hx,U,o,Heap.get?_push_of_some _ y⟩
   ·cases hb
 ·refine X1_2 (cG_ hr hi) fun w' R S=> ?_
  have:w=w':=by
   have M:vs.toList[i]? =some w:=by simpa using C
   rw [R] at M; cases M; rfl
  subst this
  exact an_ hk _ _ S
 ·(refine X0_2 m fun q2 _=> ?_; obtain ⟨o,y,hc,hd⟩:=q2)
  exact ⟨o,y,fun vs e q t=>by rw [hd] at e; cases e; simp⟩
 ·(refine X0_2 m fun q3 _=> ?_; obtain ⟨o,y,hc,_⟩:=q3)
  exact db_ y hc (by decide) h
theorem gQ_ (G:g.Good){l:List PV}:Its g X (.tup l) l:=fun A s E v Q J O x r K=>by
 rw [ck_] at r
 (refine X2_4 r fun a vs q4 hx H hr=> ?_; subst q4)
 have ha:a < s.heap.objs.size:=H.lt
 have L:vs.size=l.length:=by have:=aH_ hr; simpa using this
 have z:=(O.pt).elim fun o y=>Heap.lt_size y
 have U:a≠g.Pt:=fun e=>hx (e▸x.ptX)
 have V:s.heap.IsTuple a vs:=H
 refine wpAny_pyIter_tuple V ?_
 refine K s.heap.objs.size [s.heap.objs.size,a] (fun i v=>vs[i]? =some v) (fun i h=>h.IsTupleIter s.heap.objs.size a i∧h.IsTuple a vs) _
  (O.keep G (fun b o e=>Heap.get?_push_of_some _ e) O.tok) (fun b o e=>Heap.get?_push_of_some _ e) (fun F B=>L▸Walks.tuple B _ _ (Nat.ne_of_lt ha) vs) ⟨⟨_,Heap.get?_push_size _ rfl,rfl,rfl⟩,V.push _⟩
  (fun b hb=> ?_) (x.new (Nat.le_refl _)) (Nat.ne_of_gt z) ⟨_,Heap.get?_push_size _ rfl⟩ a8_ (fun hq D i w pv hk C hi=> ?_) (fun hq i m=> ?_) (fun A E s i j w t Q m C h=> ?_)
 ·rcases List.mem_cons.mp hb with rfl | hb
  ·exact ⟨x.new (Nat.le_refl _),Nat.ne_of_gt z,_,Heap.get?_push_size _ rfl⟩
  ·rcases List.mem_cons.mp hb with rfl | hb
   ·refine X1_2 H fun o y _=> ?_
    exact ⟨hx,U,o,Heap.get?_push_of_some _ y⟩
   ·exact (nomatch hb)
 ·refine X1_2 (cG_ hr hi) fun w' R S=> ?_
  have:w=w':=by
   have M:vs.toList[i]? =some w:=by simpa using C
   rw [R] at M; cases M; rfl
  subst this
  exact an_ hk _ _ S
 ·(refine X0_2 m fun q5 _=> ?_; obtain ⟨o,y,hc,hd⟩:=q5)
  exact ⟨o,y,fun vs e q t=>by rw [hd] at e; cases e; nofun⟩
 ·(refine X0_2 m fun q6 _=> ?_; obtain ⟨o,y,hc,_⟩:=q6)
  exact db_ y hc (by decide) h
noncomputable def sgn (x:Str):List PV:=x.cps.toList.map fun c=> .str ⟨#[c]⟩
theorem hE_ (G:g.Good){x:Str}{T:String}(hT: ["enumerate","zip","dict_itemiterator","dict_reverseitemiterator","odict_iterator","itertools.zip_longest","itertools.pairwise"].contains T=false)
  (W:∀F:Around,F.handled=none→∀I t,Walks g.prog g.w F I [I] [I] x.cps.size (SignAt x) fun i h=>h.IsStrIter I T x t i)
  (hp:∀A E s t (Q:Value→Shared→Prop),Q (.ref s.heap.objs.size) {s with heap:=s.heap.push {cls:= .type T,data:= .fields #[.str x t, .int 0 0]}}→wpAny (model g.prog g.w) A (pyIter (.str x t)) Q E s):Its g X (.str x) (sgn x):=fun A s E v Q J O N r K=>by
 rw [rd_str] at r
 (refine X1_1 r fun t q7=> ?_; subst q7)
 have z:=(O.pt).elim fun o y=>Heap.lt_size y
 have L:x.cps.size=(sgn x).length:=by simp [sgn]
 refine hp _ _ _ _ _ ?_
 refine K s.heap.objs.size [s.heap.objs.size] (SignAt x) (fun i h=>h.IsStrIter s.heap.objs.size T x t i) _
  (O.keep G (fun b o e=>Heap.get?_push_of_some _ e) O.tok) (fun b o e=>Heap.get?_push_of_some _ e) (fun F B=>L▸W F B _ t) ⟨_,Heap.get?_push_size _ rfl,rfl,rfl⟩
  (fun b hb=> ?_) (N.new (Nat.le_refl _)) (Nat.ne_of_gt z) ⟨_,Heap.get?_push_size _ rfl⟩ a8_ (fun hq D i w pv hk C hi=> ?_) (fun hq i m=> ?_) (fun A E s i j w t Q m C h=> ?_)
 ·rcases List.mem_cons.mp hb with rfl | hb
  ·exact ⟨N.new (Nat.le_refl _),Nat.ne_of_gt z,_,Heap.get?_push_size _ rfl⟩
  ·cases hb
 ·(refine X2_2 C fun c u hc q8=> ?_; subst q8)
  have:pv= .str ⟨#[c]⟩:=by
   unfold sgn at hi
   rw [List.getElem?_map] at hi
   have M:x.cps.toList[i]? =some c:=by simpa using hc
   rw [M] at hi; cases hi; rfl
  subst this
  simp
 ·refine X1_3 m fun o y hc hd=> ?_
  exact ⟨o,y,fun vs e q t=>by rw [hd] at e; cases e; simp⟩
 ·(refine X2_2 C fun c u hc q9=> ?_; subst q9)
  exact cL_ (fun a h=>nomatch h) h
theorem dE_ (G:g.Good){x:Str}:Its g X (.str x) (sgn x):=by
 cases ha:x.cps.all (· < 128)
 ·exact hE_ G (T:= "str_iterator") (by decide) (fun F hA I t=>Walks.strWide hA I x t) fun A E s t Q h=>wpAny_pyIter_wide ha h
 ·exact hE_ G (T:= "str_ascii_iterator") (by decide) (fun F hA I t=>Walks.strAscii hA I x t) fun A E s t Q h=>wpAny_pyIter_ascii ha h
noncomputable def octs (b:Array UInt8):List PV:=b.toList.map fun c=> .int (c.toNat:Int)
theorem ji_ (G:g.Good){x:Array UInt8}:Its g X (.bytes x) (octs x):=fun A s E v Q J O N r K=>by
 rw [rd_bytes] at r
 (refine X1_1 r fun t ac=> ?_; subst ac)
 have z:=(O.pt).elim fun o y=>Heap.lt_size y
 have L:x.size=(octs x).length:=by simp [octs]
 refine KBw.pyIter_bytes ?_
 refine K s.heap.objs.size [s.heap.objs.size] _ (fun i h=>KBw.IsBytesIter h s.heap.objs.size x t i) _
  (O.keep G (fun b o e=>Heap.get?_push_of_some _ e) O.tok) (fun b o e=>Heap.get?_push_of_some _ e) (fun F B=>L▸KBw.walks B _ _ t) ⟨_,Heap.get?_push_size _ rfl,rfl,rfl⟩
  (fun b hb=> ?_) (N.new (Nat.le_refl _)) (Nat.ne_of_gt z) ⟨_,Heap.get?_push_size _ rfl⟩ a8_ (fun hq D i w pv hk C hi=> ?_) (fun hq i m=> ?_) (fun A E s i j w t Q m C h=> ?_)
 ·rcases List.mem_cons.mp hb with rfl | hb
  ·exact ⟨N.new (Nat.le_refl _),Nat.ne_of_gt z,_,Heap.get?_push_size _ rfl⟩
  ·cases hb
 ·(refine X2_2 C fun c u hc ae=> ?_; subst ae)
  have:pv= .int (c.toNat:Int):=by
   unfold octs at hi
   rw [List.getElem?_map] at hi
   have M:x.toList[i]? =some c:=by simpa using hc
   rw [M] at hi; cases hi; rfl
  subst this
  simp
 ·refine X1_3 m fun o y hc hd=> ?_
  exact ⟨o,y,fun vs e q t=>by rw [hd] at e; cases e; simp⟩
 ·(refine X2_2 C fun c u hc ab=> ?_; subst ab)
  exact cL_ (fun a h=>nomatch h) h
noncomputable def rngs (a c:Int)(n:Nat):List PV:=(List.range n).map fun (i:Nat)=> .int (a+(i:Int)*c)
theorem gR_ (G:g.Good){a b c:Int}{n:Nat}(L:Builtin.Range.rangeSize a b c=(n:Int))(hs:Builtin.Range.small a b c=true):Its g X (.rng a b c) (rngs a c n):=fun A s E v Q J O N r K=>by
 rw [hu_] at r
 (refine X4_3 r fun r t u w af hx hr=> ?_; subst af)
 have z:=(O.pt).elim fun o y=>Heap.lt_size y
 have H:n=(rngs a c n).length:=by simp [rngs]
 refine wpAny_pyIter_range hr hs ?_
 refine sb L ?_
 refine K s.heap.objs.size [s.heap.objs.size] (fun i v=>∃t,v=Value.int (a+i*c) t) (fun i h=>IsRangeIter h s.heap.objs.size (a+i*c) (n - i) c) _
  (O.keep G (fun b o e=>Heap.get?_push_of_some _ e) O.tok) (fun b o e=>Heap.get?_push_of_some _ e) (fun F B=>H▸Walks.range B _ a c n) (by
   refine (?_:(s.heap.push _).get? _=_)
   refine sb (Heap.get?_push_size _ rfl) ?_; simp)
  (fun b hb=> ?_) (N.new (Nat.le_refl _)) (Nat.ne_of_gt z) ⟨_,Heap.get?_push_size _ rfl⟩ a8_ (fun hq D i w pv hk C hi=> ?_) (fun hq i m=> ?_) (fun A E s i j w t Q m C h=> ?_)
 ·rcases List.mem_cons.mp hb with rfl | hb
  ·exact ⟨N.new (Nat.le_refl _),Nat.ne_of_gt z,_,Heap.get?_push_size _ rfl⟩
  ·exact (nomatch hb)
 ·(refine X1_1 C fun u Z=> ?_; subst Z)
  have:pv= .int (a+i*c):=by
   unfold rngs at hi
   rw [List.getElem?_map] at hi
   cases e:(List.range n)[i]? with
   | none => rw [e] at hi; cases hi
   | some j=>
    rw [e] at hi
    have:j=i:=by have:=List.getElem?_range (n:=n) (i:=i) (by simpa using (List.getElem?_eq_some_iff.mp e).1); rw [e] at this; cases this; rfl
    subst this; cases hi; rfl
  subst this
  simp
 ·exact ⟨_,m,fun vs e q t=>by cases e; simp [rawInt]⟩
 ·(refine X1_1 C fun u aa=> ?_; subst aa)
  exact cL_ (fun a h=>nomatch h) h
end
section
variable {g:GC}{k:Nat}{D:Heap}{env:Env}{Xo:Addr→Prop}{u t:List Addr}{σ σ':List (Str×PV)}{ω ω':List (Addr×OC)}{s s':Shared}
def Asg (g:GC)(k:Nat)(env:Env)(z:Expr)(pv:PV)(σ σ':List (Str×PV)):Prop:=∀{D Xo u t ω s A E v} {Q:Unit→Shared→Prop},AOk k A→LS g D env Xo u t σ ω s→Rd g (av Xo u t) s.heap pv v→
 (∀s',LS g D env Xo u t σ' ω s'→Q () s')→wpAny (model g.prog g.w) A (assign z env v) Q E s
theorem b0_ (G:g.Good){x:Str}{px:Pos}{pv:PV}(hk:Kd env x)(aP:autoParam ((x==("__classdict__" :Str))=false) aQ0):Asg g k env (.Name x px) pv σ (upd x pv σ):=
 fun _ S r c=>wpAny_assign_Name (S.store G hk aP r c)
noncomputable abbrev Xw (Xo:Addr→Prop) (I:Addr):Addr→Prop:=fun a=>Xo a∨a=I
theorem gn_ {I b:Addr}(h:av (Xw Xo I) u t b):av Xo u t b∨b=I:=by
 rcases h with (h | h) | h
 ·exact .inl (.inl h)
 ·exact .inr h
 ·exact .inl (.inr h)
theorem hh_ {I b:Addr}(h:av Xo u t b):av (Xw Xo I) u t b:=by
 rcases h with h | h
 ·exact .inl (.inl h)
 ·exact .inr h
theorem Loc.carry2 {X X':Addr→Prop}{h h':Heap}(L:Loc g env X σ ω h)(C:bE_ X X' h h')(az:∀a,X a→X' a)(hx:∀a,X' a→∃o,h'.get? a=some o)(U:∀b o,(b=env.locals∨(∃x,env.cells.lookup x=some b)∨(∃oc,(b,oc)∈ω))→h.get? b=some o→h'.get? b=some o)
  (aQ:∀a,X' a→X a∨g.hG.get? a=none:=by exact fun _ h=> .inl h):Loc g env X' σ ω h':=by
 have Z:∀{x c ov},env.cells.lookup x=some c→h.IsCell c ov→h'.IsCell c ov:=fun hc ⟨o,F,hd⟩=>⟨o,U _ o (.inr (.inl ⟨_,hc⟩)) F,hd⟩
 refine {fn:=L.fn,gl:=L.gl,bl:=L.bl,xs:=hx,ptX:=az _ L.ptX,gX:=fun a ha n=>(aQ a ha).elim (fun q=>L.gX a q n) id,lX:=az _ L.lX,lP:=L.lP,cX:=fun x c hc=> ?_,inj:=L.inj,ns:= ?_,vars:=fun x pv a4=> ?_,own:=fun a oc ha=> ?_,once:=L.once}
 ·obtain ⟨V,h2,h3,ov,h4⟩:=L.cX x c hc
  exact ⟨az _ V,h2,h3,ov,Z hc h4⟩
 ·(refine X1_2 L.ns fun m q1 hv=> ?_; obtain ⟨o,es,ep,F,r⟩:=q1)
  exact I1_2 m (I3_2 o es ep (U _ o (.inl rfl) F) r) (fun x pv hx hk=>(X1_2 (hv x pv hx hk) fun v e r=>⟨v,e,an_ C _ _ r⟩))
 ·rcases L.vars x pv a4 with V | ⟨V,h2,c,v,h3,h4,h5⟩
  ·exact .inl V
  ·exact .inr ⟨V,h2,c,v,h3,Z h3 h4,an_ C _ _ h5⟩
 ·refine X0_5 (L.own a oc ha) fun V h2 h3 h4 h5=> ?_
  refine I0_5 (az _ V) h2 h3 h4 ?_
  cases oc with
  | lst l=>
   (refine X1_2 h5 fun vs q2 r=> ?_; obtain ⟨o,F,q⟩:=q2)
   exact I1_2 vs (I1_2 o (U _ o (.inr (.inr ⟨_,ha⟩)) F) q) (aw_ C _ _ r)
  | ba b=>
   refine X2_2 h5 fun o n F q=> ?_
   exact I2_2 o n (U _ o (.inr (.inr ⟨_,ha⟩)) F) q
theorem LS.enter (S:LS g D env Xo u t σ ω s){I:Addr}{h':Heap}{tk:Nat}(O:g.Ok {s with heap:=h',toks:=tk})(j:∀b o,s.heap.get? b=some o→h'.get? b=some o)(hn:s.heap.get? I=none)(he:∃o,h'.get? I=some o):
  LS g D env (Xw Xo I) u t σ ω {s with heap:=h',toks:=tk} where
 ok:=O
 loc:=S.loc.carry2 ⟨fun b o _ e=>j b o e,fun b o n e q=>by
   rcases gn_ q with q | q
   ·exact n q
   ·rw [q,hn] at e; contradiction⟩ (fun a=>hh_) (fun a ha=>by
   rcases gn_ ha with h | h
   ·refine X1_1 (S.loc.xs a h) fun o F=> ?_; exact ⟨o,j _ _ F⟩
   ·exact sb h he) (fun b o _ e=>j b o e) (fun a ha=>(gn_ ha).imp id fun q=>by exact sb q (S.ok.none hn))
 base:=fun b o n m e=>j _ _ (S.base b o n m e)
 ex:=fun b o e=>(X1_1 (S.ex b o e) fun o' e'=>⟨o',j _ _ e'⟩)
 new:=S.new
 gM:=S.gM
 lM:=S.lM
 cM:=S.cM
 oM:=S.oM
theorem LS.notI (S:LS g D env Xo u t σ ω s){I:Addr}(hn:s.heap.get? I=none):D.get? I=none∧g.hG.get? I=none∧I≠g.Pt∧¬av Xo u t I∧I ∉ u∧I ∉ t:=by
 have V:¬av Xo u t I:=fun h=>by refine X1_1 (S.loc.xs I h) fun o F=> ?_; rw [hn] at F; contradiction
 have h2:I≠g.Pt:=fun e=>V (e▸S.loc.ptX)
 refine I0_6 ?_ ?_ h2 V (fun h=>V (.inr (.inl h))) (fun h=>V (.inr (.inr h)))
 ·cases e:D.get? I with
  | none => rfl
  | some o => refine X1_1 (S.ex I o e) fun o' e'=> ?_; rw [hn] at e'; contradiction
 ·cases e:g.hG.get? I with
  | none => rfl
  | some o => rw [S.ok.gk I o h2 e] at hn; contradiction
theorem LS.tick (G:g.Good){I:Addr}(S:LS g D env (Xw Xo I) u t σ ω s){h':Heap}{tk:Nat}(Y:D.get? I=none∧g.hG.get? I=none∧I≠g.Pt∧¬av Xo u t I)(j:∀b o,b≠I→s.heap.get? b=some o→h'.get? b=some o)
  (hc:∀o,s.heap.get? I=some o→bg_ o) (he:∃o,h'.get? I=some o) (ht:0 < tk):LS g D env (Xw Xo I) u t σ ω {s with heap:=h',toks:=tk} where
 ok:=⟨fun b o n e=>j _ _ (by rintro rfl; rw [Y.2.1] at e; contradiction) (S.ok.gk b o n e),let ⟨o,e⟩:=S.ok.pt; ⟨o,j _ _ (Ne.symm Y.2.2.1) e⟩,G.tabKeep _ _ I S.ok.tab Y.2.2.1 hc j,S.ok.gens,S.ok.os,ht⟩
 loc:=by
  have C:bE_ (av (Xw Xo I) u t) (av (Xw Xo I) u t) s.heap h':=⟨fun b o n e=>j b o (fun q=>n (.inl (.inr q))) e,fun b o n _=>n⟩
  refine S.loc.carry2 C (fun _ h=>h) (fun a ha=> ?_) (fun b o hb e=> ?_)
  ·by_cases q:a=I
   ·exact sb q he
   ·refine X1_1 (S.loc.xs a ha) fun o F=> ?_; exact ⟨o,j _ _ q F⟩
  ·refine j _ _ ?_ e
   rintro rfl
   refine Y.2.2.2 (.inr ?_)
   rcases hb with rfl | ⟨x,hx⟩ | ⟨oc,F⟩
   ·exact S.lM
   ·exact S.cM x _ hx
   ·exact S.oM _ oc F
 base:=fun b o n m e=>j _ _ (by rintro rfl; rw [Y.1] at e; contradiction) (S.base b o n m e)
 ex:=fun b o e=>let ⟨o',e'⟩:=S.ex b o e; ⟨o',j _ _ (by rintro rfl; rw [Y.1] at e; contradiction) e'⟩
 new:=S.new
 gM:=S.gM
 lM:=S.lM
 cM:=S.cM
 oM:=S.oM
theorem LS.leave (G:g.Good){I:Addr}(S:LS g D env (Xw Xo I) u t σ ω s){h':Heap}{tk:Nat}(Y:D.get? I=none∧g.hG.get? I=none∧I≠g.Pt∧¬av Xo u t I)(hp:Xo g.Pt)(j:∀b o,b≠I→s.heap.get? b=some o→h'.get? b=some o)
  (hc:∀o,s.heap.get? I=some o→bg_ o) (ht:0 < tk):LS g D env Xo u t σ ω {s with heap:=h',toks:=tk} where
 ok:=⟨fun b o n e=>j _ _ (by rintro rfl; rw [Y.2.1] at e; contradiction) (S.ok.gk b o n e),let ⟨o,e⟩:=S.ok.pt; ⟨o,j _ _ (Ne.symm Y.2.2.1) e⟩,G.tabKeep _ _ I S.ok.tab Y.2.2.1 hc j,S.ok.gens,S.ok.os,ht⟩
 loc:=by
  have L':Loc g env (av Xo u t) σ ω s.heap:=S.loc.anti (fun a=>hh_) (.inl hp) (.inr S.lM) (fun x c h=> .inr (S.cM x c h)) (fun a oc h=> .inr (S.oM a oc h))
  have C0:bE_ (av (Xw Xo I) u t) (av Xo u t) s.heap h':=⟨fun b o n e=>j b o (fun q=>n (.inl (.inr q))) e,fun b o n _ q=>n (hh_ q)⟩
  have af:∀b o,(b=env.locals∨(∃x,env.cells.lookup x=some b)∨(∃oc,(b,oc)∈ω))→s.heap.get? b=some o→h'.get? b=some o:=fun b o hb e=>by
   refine j _ _ ?_ e
   rintro rfl
   refine Y.2.2.2 (.inr ?_)
   rcases hb with rfl | ⟨x,hx⟩ | ⟨oc,F⟩
   ·exact S.lM
   ·exact S.cM x _ hx
   ·exact S.oM _ oc F
  have L:=S.loc
  have Z:∀{x c ov},env.cells.lookup x=some c→s.heap.IsCell c ov→h'.IsCell c ov:=fun hc ⟨o,F,hd⟩=>⟨o,af _ o (.inr (.inl ⟨_,hc⟩)) F,hd⟩
  refine {fn:=L.fn,gl:=L.gl,bl:=L.bl,xs:=fun a ha=> ?_,ptX:= .inl hp,gX:=fun a ha=>L.gX a (hh_ ha),lX:= .inr S.lM,lP:=L.lP,cX:=fun x c hc=> ?_,inj:=L.inj,ns:= ?_,vars:=fun x pv a4=> ?_,own:=fun a oc ha=> ?_,once:=L.once}
  ·refine X1_1 (L'.xs a ha) fun o F=> ?_
   exact ⟨o,j a o (fun q=>Y.2.2.2 (q▸ha)) F⟩
  ·obtain ⟨V,h2,h3,ov,h4⟩:=L'.cX x c hc
   exact ⟨V,h2,h3,ov,Z hc h4⟩
  ·(refine X1_2 L.ns fun m q3 hv=> ?_; obtain ⟨o,es,ep,F,r⟩:=q3)
   exact I1_2 m (I3_2 o es ep (af _ o (.inl rfl) F) r) (fun x pv hx hk=>(X1_2 (hv x pv hx hk) fun v e r=>⟨v,e,an_ C0 _ _ r⟩))
  ·rcases L.vars x pv a4 with V | ⟨V,h2,c,v,h3,h4,h5⟩
   ·exact .inl V
   ·exact .inr ⟨V,h2,c,v,h3,Z h3 h4,an_ C0 _ _ h5⟩
  ·refine X0_5 (L.own a oc ha) fun V h2 h3 h4 h5=> ?_
   refine I0_5 (.inr (S.oM a oc ha)) h2 h3 h4 ?_
   cases oc with
   | lst l=>
    (refine X1_2 h5 fun vs q4 r=> ?_; obtain ⟨o,F,q⟩:=q4)
    exact I1_2 vs (I1_2 o (af _ o (.inr (.inr ⟨_,ha⟩)) F) q) (aw_ C0 _ _ r)
   | ba b=>
    refine X2_2 h5 fun o n F q=> ?_
    exact I2_2 o n (af _ o (.inr (.inr ⟨_,ha⟩)) F) q
 base:=fun b o n m e=>j _ _ (by rintro rfl; rw [Y.1] at e; contradiction) (S.base b o n m e)
 ex:=fun b o e=>let ⟨o',e'⟩:=S.ex b o e; ⟨o',j _ _ (by rintro rfl; rw [Y.1] at e; contradiction) e'⟩
 new:=S.new
 gM:=S.gM
 lM:=S.lM
 cM:=S.cM
 oM:=S.oM
section
variable {A:Around}{E:Value→Shared→Prop}{Q:Flow→Shared→Prop}{ak:List Stmt}
theorem da_ (G:g.Good){z iter:Expr}{body ag:List Stmt}{pos:Pos}{p:PV}{items:List PV}(P:Nat→List (Str×PV)→List (Addr×OC)→Prop)(B:List (Str×PV)→List (Addr×OC)→Prop)(o:PV)
  (S:LS g D env Xo u t σ ω s) (a:AOk k A) (hp:Xo g.Pt) (hi:Ev g k env (av Xo u t) σ ω iter p) (aJ:∀X,Its g X p items) (h0:P 0 σ ω)
  (aM:∀i pv σ' ω' hT ax M s' E' v,items[i]? =some pv→P i σ' ω'→ax g.Pt→LS g hT env ax M [] σ' ω' s'→Rd g (av ax M []) s'.heap pv v→
   wpAny (model g.prog g.w) A (assign z env v) (fun _ a7=>Wp g A env body (eR_ g hT env ax M (P (i+1)) B o) E' a7) E' s')
  (done:∀σ' ω' s' E',P items.length σ' ω'→LS g D env Xo u t σ' ω' s'→Wp g A env ag (Cont g A env ak Q E) E' s')
  (brk:∀σ' ω' s',B σ' ω'→LS g D env Xo u t σ' ω' s'→Wp g A env ak Q E s')
  (ret:∀v σ' s',LS g D env Xo u t σ' [] s'→Rd g (av Xo u t) s'.heap o v→Q (.ret v) s')
  (hs:autoParam (∀x,foldedSetIterable iter env x=pure x) aQ2):
  Wp g A env (.For z iter body ag pos::ak) Q E s:=by
 refine b4_ (wpAny_For (hi.use a S.ok S.loc fun v ab a0 aB aI aK=>aJ _ _ _ _ _ _ a.1 a0 aI.xok aK fun I fp PP St h' a6 j W aW a9 bh bi aX au aT aF aV=> ?_) hs)
 have ai:=S.kp a0 aB
 have NI:=ai.notI au
 have Y:D.get? I=none∧g.hG.get? I=none∧I≠g.Pt∧¬av Xo u t I:=⟨NI.1,NI.2.1,NI.2.2.1,NI.2.2.2.1⟩
 have aG:LS g D env (Xw Xo I) u t σ ω {ab with heap:=h'}:=ai.enter (tk:=ab.toks) a6 j au aX
 have aD:∀{ω':List (Addr×OC)},(∀a oc,(a,oc)∈ω'→a∈t++u)→∀a oc,(a,oc)∈ω'→a∈u∨a∈t:=fun h a oc q=>(List.mem_append.mp (h a oc q)).symm
 have a1:∀b,¬av Xo u t b→b ∉ t++u:=fun b n q=>n (.inr (List.mem_append.mp q).symm)
 have WA:Walks g.prog g.w A I fp [I] items.length PP St:=W A a.1
 have aA:∀{s' σ'},LS g D env (Xw Xo I) u t σ' [] s'→LS g D env Xo u t σ' [] s':=fun {s' σ'} y=>⟨y.ok,y.loc.anti (fun a=>hh_) (.inl hp) (.inr y.lM) (fun x c h=> .inr (y.cM x c h)) (fun a oc h=> .inr (y.oM a oc h)),y.base,y.ex,y.new,y.gM,y.lM,y.cM,y.oM⟩
 have a2:∀{s' σ' ω'},LS g D env (Xw Xo I) u t σ' ω' s'→LS g D env Xo u t σ' ω' s':=fun {s' σ' ω'} y=>⟨y.ok,y.loc.anti (fun a=>hh_) (.inl hp) (.inr y.lM) (fun x c h=> .inr (y.cM x c h)) (fun a oc h=> .inr (y.oM a oc h)),y.base,y.ex,y.new,y.gM,y.lM,y.cM,y.oM⟩
 refine codeAny_forLoop_any (fun n s'=>∃i σ' ω',n=items.length - i∧i≤items.length∧P i σ' ω'∧LS g D env (Xw Xo I) u t σ' ω' s'∧St i s'.heap∧
   (∀b o,¬av Xo u t b→ab.heap.get? b=some o→s'.heap.get? b=some o)) ?_ items.length ⟨0,σ,ω,rfl,Nat.zero_le _,h0,aG,aW,fun b o _ e=>j b o e⟩
 rintro n J ⟨i,σ3,ω3,rfl,hle,hP,S3,hst3,hk3⟩
 have ap:∀o,J.heap.get? I=some o→bg_ o:=fun o e=>by refine X1_2 (aF _ i hst3) fun o' e' q=> ?_; rw [e] at e'; cases e'; exact q
 by_cases aa:i < items.length
 ·refine wpAny_with_toks (n:=1) S3.ok.tok (WA.item i J _ _ aa hst3 fun w H ac aH T al ht=> ?_)
  dsimp only
  have aq:∀b o,b≠I→J.heap.get? b=some o→H.get? b=some o:=fun b o n e=>al b o (fun h=>n (List.mem_singleton.mp h)) e
  have R:LS g D env (Xw Xo I) u t σ3 ω3 {J with heap:=H,toks:=ac}:=S3.tick G Y aq ap ((X1_2 (aF _ _ T) fun o e _=>⟨o,e⟩)) ht
  obtain ⟨pv,aL⟩:∃pv,items[i]? =some pv:=⟨items[i],by simp [aa]⟩
  have aj:∀b o,¬av Xo u t b→ab.heap.get? b=some o→H.get? b=some o:=fun b o n e=>aq b o (by rintro rfl; rw [au] at e; contradiction) (hk3 b o n e)
  have hr:Rd g (av (Xw Xo I) (t++u) []) H pv w:=aT _ _ _ _ _ ⟨aj,fun b o n e q=>by
   rcases q with (q | q) | q | q
   ·exact n (.inl q)
   ·rw [q,au] at e; contradiction
   ·exact n (.inr (List.mem_append.mp q).symm)
   ·exact (nomatch q)⟩ aH aL
  refine aV _ _ _ _ _ _ _ _ T aH ?_
  refine wpAny_mono (aM i pv σ3 ω3 H (Xw Xo I) (t++u) _ _ w aL hP (.inl hp) R.rebase hr) (fun _ a8 aC=>wpAny_mono aC.run (fun f K p=> ?_) fun _ _ x=>x) fun _ _ x=>x
  have am:∀{N σ' ω'},P (i+1) σ' ω'→LS g H env (Xw Xo I) (t++u) N σ' ω' K→(∀a oc,(a,oc)∈ω'→a∈t++u)→∃m,m < items.length - i∧∃i' σ' ω',m=items.length - i'∧i'≤items.length∧P i' σ' ω'∧LS g D env (Xw Xo I) u t σ' ω' K∧St i' K.heap∧
    (∀b o,¬av Xo u t b→ab.heap.get? b=some o→K.heap.get? b=some o):=fun {N σ' ω'} ah y ad=>by
   refine ⟨items.length - (i+1),by exact O47 aa,i+1,σ',ω',rfl,aa,ah,R.chain y (aD ad),WA.frame _ _ _ T (fun b hb o e=>y.base b o (a9 b hb).2.1 (a1 b (a9 b hb).1) e),fun b o n e=>y.base b o (fun q=>n (q▸ai.loc.ptX)) (a1 b n) (aj b o n e)⟩
  cases f with
  | next => refine X3_3 p fun N σ' ω' ah y ad=> ?_; exact am ah y ad
  | cont => refine X3_3 p fun N σ' ω' ah y ad=> ?_; exact am ah y ad
  | brk => refine X3_3 p fun N σ' ω' hB y ad=> ?_; exact brk σ' ω' K hB (a2 (R.chain y (aD ad)))
  | ret v=>
   refine X2_2 p fun N σ' y r=> ?_
   refine ret v σ' K (aA (R.chain y (fun _ _ h=>nomatch h))) (an_ ⟨fun b o _ e=>e,fun b o n _ q=>n ?_⟩ _ _ r)
   rcases q with q | q | q
   ·exact .inl (.inl q)
   ·exact .inr (.inl (List.mem_append.mpr (.inr q)))
   ·exact .inr (.inl (List.mem_append.mpr (.inl q)))
 ·have a_:i=items.length:=by exact O48 hle aa
  subst a_
  refine wpAny_with_toks (n:=1) S3.ok.tok (WA.done J _ _ hst3 fun H ac al ht=> ?_)
  dsimp only
  have R:LS g D env Xo u t σ3 ω3 {J with heap:=H,toks:=ac}:=S3.leave G Y hp (fun b o n e=>al b o (fun h=>n (List.mem_singleton.mp h)) e) ap ht
  refine wpAny_mono (done σ3 ω3 _ _ hP R).run (fun f a8 p=> ?_) fun _ _ x=>x
  cases f <;>exact p
end
end
section
variable {g:GC}{k:Nat}{env:Env}{X:Addr→Prop}{σ σ':List (Str×PV)}{ω:List (Addr×OC)}{s s':Shared}
theorem Loc.storeL (G:g.Good)(O:g.Ok s)(L:Loc g env X σ ω s.heap)(hG:g.hG.get? env.locals=none){x:Str}{pv:PV}{v:Value}(hk:env.kindOf x=some .local)(hr:Rd g X s.heap pv v)
  {A E} {Q:Unit→Shared→Prop} (c:∀s',g.Ok s'→Loc g env X (upd x pv σ) ω s'.heap→Heap.SameBut env.locals s.heap s'.heap→Q () s'):wpAny (model g.prog g.w) A (storeName env x v) Q E s:=by
 refine X1_2 L.ns fun m hn hv=> ?_
 refine wpAny_storeName_local hk hn (fun h' bA bj=> ?_) (by refine sb L.fn ?_; rfl)
 have k':∀b o,b≠env.locals→s.heap.get? b=some o→h'.get? b=some o:=fun b o n e=>bj.extBut b o n e
 have C:bE_ X X s.heap h':=⟨fun b o n e=>k' b o (fun q=>n (q▸L.lX)) e,fun b o n _=>n⟩
 refine c {s with heap:=h',toks:=s.toks+1} ⟨fun b o n e=>k' b o (by rintro rfl; rw [hG] at e; contradiction) (O.gk b o n e),(X1_1 O.pt fun o e=>⟨o,k' _ o (Ne.symm L.lP) e⟩),G.tabKeep _ _ _ O.tab L.lP (Ns.noFields hn) k',O.gens,O.os,Nat.succ_pos _⟩ ?_ bj
 refine {fn:=L.fn,gl:=L.gl,bl:=L.bl,xs:=fun a ha=> ?_,ptX:=L.ptX,gX:=L.gX,lX:=L.lX,lP:=L.lP,cX:=fun y c hc=> ?_,inj:=L.inj,ns:=(I1_2 _ bA (fun y q hy bR=> ?_)),vars:=fun y q hy=> ?_,own:=fun a oc ha=> ?_,once:=L.once}
 ·refine X1_1 (L.xs a ha) fun o ho=> ?_
  by_cases q:a=env.locals
  ·exact sb q (Ns.ex bA)
  ·exact ⟨o,k' a o q ho⟩
 ·obtain ⟨h1,h2,h3,ov,oc,h4,h5⟩:=L.cX y c hc
  exact ⟨h1,h2,h3,ov,oc,k' c oc h3 h4,h5⟩
 ·rcases b2_ hy with ⟨rfl,rfl⟩ | ⟨bz,hy⟩
  ·exact I1_2 v (by simp) (an_ C _ _ hr)
  ·refine X1_2 (hv y q hy bR) fun u hu bL=> ?_
   exact I1_2 u (by simp [bz,hu]) (an_ C _ _ bL)
 ·rcases b2_ hy with ⟨rfl,rfl⟩ | ⟨bz,hy⟩
  ·exact .inl hk
  ·rcases L.vars y q hy with h1 | ⟨h1,bB,c,u,h2,⟨o,ho,hd⟩,h4⟩
   ·exact .inl h1
   ·exact .inr ⟨h1,bB,c,u,h2,⟨o,k' c o (L.cX y c h2).2.2.1 ho,hd⟩,an_ C _ _ h4⟩
 ·refine X0_5 (L.own a oc ha) fun h1 h2 h3 h4 h5=> ?_
  refine I0_5 h1 h2 h3 h4 ?_
  cases oc with
  | lst l=>
   (refine X1_2 h5 fun vs q1 r=> ?_; obtain ⟨o,ho,q⟩:=q1)
   exact I1_2 vs ⟨o,k' a o h3 ho,q⟩ (aw_ C _ _ r)
  | ba b=>
   refine X2_2 h5 fun o n ho q=> ?_
   exact I2_2 o n (k' a o h3 ho) q
def AsgL (g:GC)(k:Nat)(env:Env)(F:Expr)(pv:PV)(σ σ':List (Str×PV)):Prop:=∀{X s A E v} {Q:Unit→Shared→Prop},AOk k A→g.Ok s→Loc g env X σ [] s.heap→g.hG.get? env.locals=none→Rd g X s.heap pv v→
 (∀s',g.Ok s'→Loc g env X σ' [] s'.heap→(∀b o,b≠g.Pt→b≠env.locals→s.heap.get? b=some o→s'.heap.get? b=some o)→Q () s')→wpAny (model g.prog g.w) A (assign F env v) Q E s
theorem aI_ (G:g.Good){x:Str}{px:Pos}{pv:PV}(hk:env.kindOf x=some .local):AsgL g k env (.Name x px) pv σ (upd x pv σ):=
 fun a O L hG r c=>wpAny_assign_Name (L.storeL G O hG hk r fun s' O' L' hs=>c s' O' L' fun b o _ n e=>hs.extBut b o n e)
def hk_ (g:GC)(k:Nat)(env:Env)(X:Addr→Prop)(σ:List (Str×PV))(aj:List Expr)(b:Bool):Prop:=∀A s E,AOk k A→g.Ok s→Loc g env X σ [] s.heap→
 wpAny (model g.prog g.w) A (forIn aj true fun c r=>if r=true then do let ok ← PySem.isTrue c env (eval c env); pure (ForInStep.yield ok) else pure (ForInStep.yield r)) (fun ok s'=>g.Ok s'∧Kp g s.heap s'.heap∧ok=b) E s
theorem bl_:hk_ g k env X σ [] true:=fun A s E a O L=>wpAny_tests_nil ⟨O,Kp.refl,rfl⟩
theorem be_ {c:Expr}{b:Bool}(h:EvT g k env X σ [] c b):hk_ g k env X σ [c] b:=fun A s E a O L=>wpAny_tests_one (h.run A s E a O L)
structure CEnd (g:GC)(X:Addr→Prop)(h:Heap)(ps:List PV)(D C:Addr)(s':Shared):Prop where
 ok:g.Ok s'
 dc:D≠C
 hd:h.get? D=none
 hc:h.get? C=none
 keep:∀b o,b≠g.Pt→h.get? b=some o→s'.heap.get? b=some o
 ns:∃m,s'.heap.Ns C m
 lst:∃ys,s'.heap.IsList D ys∧RdL g (fun a=>X a∨a=C∨a=D) s'.heap ps ys.toList
theorem gc_ {ar F iter:Expr}{aj:List Expr}{scope:Scope}{pos:Pos}{it acc:Value}{A:Around}{R:Result→Shared→Prop}(I:Nat→Shared→Prop)
  (bt:∀n s E',I n s→wpAny (model g.prog g.w) A (pyNext it) (fun r B=>match r with
   | none => R (.ok .next) B
   | some v => wpAny (model g.prog g.w) A (letOwnedTupleGo F it v) (fun _ a8=>wpAny (model g.prog g.w) A (assign F env v) (fun _ ay=>
     wpAny (model g.prog g.w) A (forIn aj true fun c r=>if r=true then do let ok ← PySem.isTrue c env (eval c env); pure (ForInStep.yield ok) else pure (ForInStep.yield r)) (fun ok H=>
      if ok=true then wpAny (model g.prog g.w) A (eval ar env) (fun x ax=>
       wpAny (model g.prog g.w) A (call (.builtin "list.append") [acc,x]) (fun _ N=>∃m,m < n∧I m N) E' ax) E' H
      else ∃m,m < n∧I m H) E' ay) E' a8) E' B) E' s)
  (n:Nat) (h:I n s):
  codeAny (model g.prog g.w) A (.compLoop (.ListComp ar [⟨F,iter,aj,0⟩] scope pos) 0 it acc env) R s:=by
 refine codeAny_loop rfl I (fun n s hI=> ?_) n h
 refine (?_:wpAny _ A ((compTurn (.ListComp ar [⟨F,iter,aj,0⟩] scope pos) 0 it acc env).onRaise (fun x=>do noteFrame x env; theTreesLotGoes x)) _ _ s)
 refine wpAny_noted ?_
 refine sb (compTurn_list ..) ?_
 refine wpAny_bind (wpAny_standAt (wpAny_bind (wpAny_mono (bt n s _ hI) (fun r B S=> ?_) fun _ _ h'=>h')))
 cases r with
 | none => exact wpAny_pure S
 | some v=>
  refine wpAny_bind (wpAny_mono S (fun _ a8 bf=> ?_) fun _ _ h'=>h')
  refine wpAny_bind (wpAny_mono bf (fun _ ay bv=>wpAny_bind (wpAny_mono bv (fun ok H aW=> ?_) fun _ _ h'=>h')) fun _ _ h'=>h')
  cases ok with
  | false => exact wpAny_pure ⟨rfl,aW⟩
  | true=>
   exact wpAny_bind (wpAny_bind (wpAny_mono aW (fun x ax M=>wpAny_bind (wpAny_mono M (fun _ N bm=>wpAny_pure (wpAny_pure ⟨rfl,bm⟩)) fun _ _ h'=>h')) fun _ _ h'=>h'))
theorem nN {a b:Nat}(h:a≠b):a≠b:=h
theorem lN {a b:Nat}(h:a < b):a < b:=h
theorem bg_.list {o:Obj}{items n}(h:o.data= .seq items n):bg_ o:=fun vs e q t=>by rw [h] at e; contradiction
theorem gb_ (G:g.Good){ar F iter:Expr}{aj:List Expr}{scope:Scope}{pos:Pos}{cl:List (Str×Addr)}{p:PV}{items:List PV}{σc:List (Str×PV)}{σt:PV→List (Str×PV)}{b:PV→Bool}{f:PV→PV}
  {A:Around} {E:Value→Shared→Prop} {RR:Value→Addr→Result→Shared→Prop}
  (a:AOk k A) (O:g.Ok s) (L:Loc g env X σ ω s.heap) (hi:Ev g k env X σ ω iter p) (b8:∀X,Its g X p items) (bD:items.length≤sizeLine)
  (hcl:∀x c,cl.lookup x=some c→env.cells.lookup x=some c)
  (hcell:∀y∈scope.names,y.2≠ .cell) (hkind:scope.kind= .function)
  (hcap:∀q∈σc,q∈σ∧env.kindOf q.1≠some .local∧(cl.lookup q.1).isSome=true∧∀C,(compEnvC scope cl C env).kindOf q.1=some .cell∨(compEnvC scope cl C env).kindOf q.1=some .free)
  (htgt:∀pv∈items,∀C,AsgL g k (compEnvC scope cl C env) F pv σc (σt pv))
  (hback:∀pv∈items,∀q∈σc,q∈σt pv)
  (htest:∀pv∈items,∀X C,hk_ g k (compEnvC scope cl C env) X (σt pv) aj (b pv))
  (helt:∀pv∈items,b pv=true→∀X C,Ev g k (compEnvC scope cl C env) X (σt pv) [] ar (f pv))
  (bK:∀h D C s',(∀b o,b≠g.Pt→s.heap.get? b=some o→h.get? b=some o)→CEnd g X h ((items.filter b).map f) D C s'→(∀a,X a→∃o,h.get? a=some o)→RR (.ref D) C (.ok .next) s'):
  wpAny (model g.prog g.w) A (eval iter env) (fun x B=>wpAny (model g.prog g.w) A (pyIter x) (fun it ay=>wpAny (model g.prog g.w) A (newList []) (fun acc H=>
   wpAny (model g.prog g.w) A (newFunctionEnv scope env.globals cl [] env.qual none .none (some env)) (fun cenv ax=>
    codeAny (model g.prog g.w) A (.compStart (.ListComp ar [⟨F,iter,aj,0⟩] scope pos) 0 it acc {cenv with scope:=relabel scope env}) (RR acc cenv.locals) ax) E H) E ay) E B) E s:=by
 refine hi.use a O L fun x B U b0 K b9=>b8 _ _ _ _ _ _ a.1 U K.xok b9 fun I fp PP St h' aG ah W b4 bM bG aK bo au bH b6 bO=> ?_
 refine wpAny_newObj_type (wpAny_newFunctionEnv hcell (by intro y hy; simp at hy) (fun S ab aa=> ?_) hkind) 
 dsimp only at ab aa ⊢
 generalize bg:h'.push {cls:= .type "list",dict:=none,data:= .seq ([]:List Value).toArray}=H2 at ab aa ⊢
 generalize hD:h'.objs.size=D at*
 have P:H2.objs.size=D+1:=by exact sy (bg ..) (sb (Heap.size_push ..) (sb (hD ..) rfl))
 generalize hC:H2.objs.size=C at*
 have bi: @Ne Nat D C:=by exact O55 P
 have a0: @LT.lt Nat _ I D:=by refine X1_1 bo fun o e=> ?_; exact sy hD (Heap.lt_size e)
 have aN:∀{b:Nat} {o},h'.get? b=some o→@LT.lt Nat _ b D:=fun e=>hD▸Heap.lt_size e
 have old:∀b o,h'.get? b=some o→S.get? b=some o:=fun b o e=>aa.extBut b o (nN (by have:=aN e; exact O56 this P)) (Heap.get?_push_of_some _ (bg▸Heap.get?_push_of_some _ e))
 have aU:S.IsList D #[]:=⟨_,aa.extBut _ _ bi (Heap.get?_push_of_some _ (bg▸hD▸Heap.get?_push_size _ rfl)),rfl,_,rfl⟩
 have ae:∀{b:Nat} {o},B.heap.get? b=some o→@LT.lt Nat _ b D:=fun e=>aN (ah _ _ e)
 have T: @LT.lt Nat _ g.Pt D:=by refine X1_1 U.pt fun o e=> ?_; exact ae e
 have XD:∀{b:Nat},X b→@LT.lt Nat _ b D:=fun hb=>by refine X1_1 (K.xs _ hb) fun o e=> ?_; exact ae e
 have aT:∀b:Nat,@LE.le Nat _ D b→g.hG.get? b=none:=fun b hb=>by
  cases e:g.hG.get? b with
  | none => rfl
  | some o => have:=ae (U.gk b o (nN (by exact O9 T hb)) e); exact (O6 this hb).elim
 have bw:g.hG.get? I=none:=by
  cases e:g.hG.get? I with
  | none => rfl
  | some o => rw [U.gk I o aK e] at au; contradiction
 let cenv:=compEnvC scope cl C env
 have a_:∀x c,cenv.cells.lookup x=some c→X c∧c≠g.Pt∧c≠C∧c≠D∧c≠I∧∃ov,B.heap.IsCell c ov:=fun x c hc=>by
  obtain ⟨h1,h2,h3,ov,h4⟩:=K.cX x c (hcl x c hc)
  have:=XD h1
  exact ⟨h1,h2,nN (by exact O56 this P),nN (by exact O57 this),fun q=>bG (q▸h1),ov,h4⟩
 let Xc:Addr→Prop:=fun a=>X a∨a=C∨a=D∨a=I
 have bP:C≠g.Pt:=nN (by exact O58 P T)
 have aZ:Loc g cenv Xc σc [] S:=by
  have Cr:bE_ X Xc B.heap S:=⟨fun b o n e=>old b o (ah b o e),fun b o n e q=>by
   have:=ae e
   rcases q with q | q | q | q
   ·exact n q
   ·have q': @Eq Nat b C:=q
    exact O59 this q' P
   ·have q': @Eq Nat b D:=q
    exact O60 this q'
   ·rw [q,au] at e; contradiction⟩
  have bF:∀z,Xc z→z≠g.Pt→g.hG.get? z=none:=fun z hz n=>by
   have be:(∀o,B.heap.get? z=some o→False)→g.hG.get? z=none:=fun f=>U.none (by
    cases e:B.heap.get? z with
    | none => rfl
    | some o => exact (f o e).elim)
   rcases hz with hz | q | q | q
   ·exact K.gX z hz n
   ·exact be fun o e=>by
     have:=ae e
     have q': @Eq Nat z C:=q
     exact O59 this q' P
   ·exact be fun o e=>by
     have:=ae e
     have q': @Eq Nat z D:=q
     exact O60 this q'
   ·exact be fun o e=>by rw [q,au] at e; contradiction
  refine {fn:=hkind,gl:=K.gl,bl:=K.bl,xs:=fun a ha=> ?_,ptX:= .inl K.ptX,gX:=bF,lX:= .inr (.inl rfl),lP:=bP,cX:=fun x c hc=> ?_,inj:=fun x y c hx hy=>K.inj x y c (hcl _ _ hx) (hcl _ _ hy),ns:=(I1_2 _ ab (fun x pv hx hk=> ?_)),vars:=fun x pv hx=> ?_,own:=fun a oc h=>(nomatch h),once:=List.Pairwise.nil}
  ·rcases ha with ha | rfl | rfl | rfl
   ·refine X1_1 (K.xs a ha) fun o e=> ?_; exact ⟨o,old _ _ (ah _ _ e)⟩
   ·exact Ns.ex ab
   ·refine X1_2 aU fun o e _=> ?_; exact ⟨o,e⟩
   ·refine X1_1 bo fun o e=> ?_; exact ⟨o,old _ _ e⟩
  ·obtain ⟨h1,h2,h3,h4,h5,ov,⟨o,e,hd⟩⟩:=a_ x c hc
   exact ⟨.inl h1,h2,h3,ov,o,old _ _ (ah _ _ e),hd⟩
  ·refine X0_4 (hcap _ hx) fun _ _ _ bN=> ?_
   rcases bN C with q | q <;>(rw [q] at hk; contradiction)
  ·refine X0_4 (hcap _ hx) fun h1 h2 h3 h4=> ?_
   rcases K.vars x pv h1 with q | ⟨q1,q2,c,v,q3,⟨o,e,hd⟩,q5⟩
   ·exact absurd q h2
   ·refine X1_1 (Option.isSome_iff_exists.mp h3) fun c' b3=> ?_
    have:=hcl _ _ b3
    have e2:c'=c:=by dsimp only at this; rw [q3] at this; cases this; rfl
    subst e2
    exact .inr ⟨h4 C,q2,c',v,b3,⟨o,old _ _ (ah _ _ e),hd⟩,an_ Cr _ _ q5⟩
 have J:g.Ok {B with heap:=S,toks:=B.toks+([]:List (Str×Value)).length}:=by
  refine ⟨fun b o n e=>old _ _ (aG.gk b o n e),(X1_1 aG.pt fun o e=>⟨o,old _ _ e⟩), ?_,U.gens,U.os,U.tok⟩
  exact G.tabKeep _ _ D aG.tab (nN (by exact O7 T)) (fun o e=>by have:=aN e; exact (O61 this).elim) fun b o _ e=>old b o e
 have WA:Walks g.prog g.w A I fp [I] items.length PP St:=W A a.1
 have a9:∀b∈fp,@LT.lt Nat _ b D∧b≠g.Pt:=fun b hb=>by obtain ⟨_,h2,o,e⟩:=bM b hb; exact ⟨aN e,h2⟩
 have az:∀H:Shared,H= {B with heap:=S,toks:=B.toks+([]:List (Str×Value)).length}→
   codeAny (model g.prog g.w) A (.compLoop (.ListComp ar [⟨F,iter,aj,0⟩] scope pos) 0 (.ref I) (.ref D) cenv) (RR (.ref D) C) H:=by
  rintro H rfl
  refine gc_ (env:=cenv) (fun n s'=>∃i ys,n=items.length - i∧i≤items.length∧g.Ok s'∧St i s'.heap∧s'.heap.IsList D ys∧RdL g Xc s'.heap (((items.take i).filter b).map f) ys.toList∧ys.size≤i∧
   Loc g cenv Xc σc [] s'.heap∧(∀b o,b≠g.Pt→B.heap.get? b=some o→s'.heap.get? b=some o)) ?_ items.length
   ⟨0,#[],rfl,Nat.zero_le _,J,WA.frame _ _ _ b4 (fun b _ o e=>old b o e),aU,by simp [aG_],Nat.le_refl _,aZ,fun b o _ e=>old _ _ (ah _ _ e)⟩
  rintro n H E' ⟨i,ys,rfl,hle,J,hst3,hl3,hr3,hys,L3,hk3⟩
  have aL:∀o,H.heap.get? I=some o→bg_ o:=fun o e=>by refine X1_2 (b6 _ i hst3) fun o' e' q=> ?_; rw [e] at e'; cases e'; exact q
  by_cases V:i < items.length
  ·refine wpAny_with_toks (n:=1) J.tok (WA.item i H _ _ V hst3 fun w M aq br al aA ht=> ?_)
   have j:∀b o,b≠I→H.heap.get? b=some o→M.get? b=some o:=fun b o n e=>aA b o (fun h=>n (List.mem_singleton.mp h)) e
   have bk:bE_ Xc Xc H.heap M:=⟨fun b o n e=>j b o (fun q=>n (.inr (.inr (.inr q)))) e,fun b o n _=>n⟩
   have aD:g.Ok {H with heap:=M,toks:=aq}:=⟨fun b o n e=>j b o (by rintro rfl; rw [bw] at e; contradiction) (J.gk b o n e),let ⟨o,e⟩:=J.pt; ⟨o,j _ o (Ne.symm aK) e⟩,G.tabKeep _ _ I J.tab aK aL j,J.gens,J.os,ht⟩
   have bs:Loc g cenv Xc σc [] M:=L3.carry2 bk (fun _ h=>h) (fun q hq=>by
    by_cases e:q=I
    ·refine sb e ?_; refine X1_2 (b6 _ _ al) fun o ho _=> ?_; exact ⟨o,ho⟩
    ·refine X1_1 (L3.xs q hq) fun o ho=> ?_; exact ⟨o,j _ _ e ho⟩) (fun q o hq e=>j q o (by
     rintro rfl
     rcases hq with h1 | ⟨x,hx⟩ | ⟨oc,h1⟩
     ·have h2: @Eq Nat q C:=h1; exact O59 a0 h2 P
     ·exact (a_ x q hx).2.2.2.2.1 rfl
     ·exact (nomatch h1)) e)
   obtain ⟨pv,bd⟩:∃pv,items[i]? =some pv:=⟨items[i],by simp [V]⟩
   have ac:pv∈items:=List.mem_of_getElem? bd
   have bQ:Rd g Xc M pv w:=bH _ _ _ _ _ ⟨fun q o n e=>j q o (by rintro rfl; rw [au] at e; contradiction) (hk3 q o (fun z=>n (z▸K.ptX)) e),fun q o n e z=>by
    have:=ae e
    rcases z with z | z | z | z
    ·exact n z
    ·have q': @Eq Nat q C:=z
     exact O59 this q' P
    ·have q': @Eq Nat q D:=z
     exact O60 this q'
    ·rw [z,au] at e; contradiction⟩ br bd
   refine bO _ _ _ _ _ _ _ _ al br ?_
   refine htgt pv ac C a aD bs (aT _ (by refine (?_: @LE.le Nat _ D C); exact O62 P)) bQ fun N bn a6 bp=> ?_
   have ak:∀q o,q≠g.Pt→q≠C→M.get? q=some o→N.heap.get? q=some o:=bp
   have aQ:St (i+1) N.heap:=WA.frame _ _ _ al fun q hq o e=>ak q o (a9 q hq).2 (nN (by have:=(a9 q hq).1; exact O56 this P)) e
   have aX:N.heap.IsList D ys:=by refine X1_2 hl3 fun o e r=> ?_; exact I1_2 o (ak _ _ (nN (by exact O7 T)) bi (j _ _ (nN (by exact O7 a0)) e)) r
   have bc:RdL g Xc N.heap (((items.take i).filter b).map f) ys.toList:=aw_ ⟨fun q o n e=>ak q o (fun z=>n (.inl (z▸K.ptX))) (fun z=>n (.inr (.inl z))) (j q o (fun z=>n (.inr (.inr (.inr z)))) e),fun q o n _=>n⟩ _ _ hr3
   have aB:∀q o,q≠g.Pt→B.heap.get? q=some o→N.heap.get? q=some o:=fun q o n e=>ak q o n (nN (by have:=ae e; exact O56 this P)) (j q o (by rintro rfl; rw [au] at e; contradiction) (hk3 q o n e))
   refine wpAny_mono (htest pv ac Xc C A N E' a bn a6) (fun ok aS p=> ?_) fun _ _ x=>x
   (refine X0_3 p fun a4 af q3=> ?_; subst q3)
   have ag:=a6.kp af a4.pt
   have a2:St (i+1) aS.heap:=WA.frame _ _ _ aQ fun q hq o e=>af q o (a9 q hq).2 e
   have aH:aS.heap.IsList D ys:=by refine X1_2 aX fun o e r=> ?_; exact I1_2 o (af _ _ (nN (by exact O7 T)) e) r
   have aC:=dT_ a6.xok af bc
   have aE:(items.take (i+1)).filter b=(items.take i).filter b++(if b pv then [pv] else []):=take_succ_filter b items i pv bd
   cases hb:b pv with
   | false=>
    refine sb (if_neg (by simp)) ?_
    refine ⟨items.length - (i+1),by exact O47 V,i+1,ys,rfl,V,a4,a2,aH, ?_,by exact O63 hys,(ag.anti (fun _ h=>h) ag.ptX ag.lX (fun x c h=>(ag.cX x c h).1) (fun _ _ h=>nomatch h)) |>fun Z=> {Z with ns:=(X1_2 Z.ns fun m hm hv=>⟨m,hm,fun x ap hx=>hv x ap (hback pv ac _ hx)⟩),vars:=fun x ap hx=>Z.vars x ap (hback pv ac _ hx)},fun q o n e=>af q o n (aB q o n e)⟩
    refine sb aE (sb hb ?_); simpa using aC
   | true=>
    refine sb (if_pos rfl) ?_
    refine (helt pv ac hb Xc C).use a a4 ag fun y an ai a1 aR b7=> ?_
    have a7:an.heap.IsList D ys:=by refine X1_2 aH fun o e r=> ?_; exact I1_2 o (a1 _ _ (nN (by exact O7 T)) e) r
    have aY:=dT_ ag.xok a1 aC
    refine wpAny_list_append a7 (fun ao aJ bb=> ?_) (by exact O64 hys V bD)
    have Y:∀q o,q≠D→an.heap.get? q=some o→ao.get? q=some o:=fun q o n e=>bb.extBut q o n e
    have aI:bE_ Xc Xc an.heap ao:=⟨fun q o n e=>Y q o (fun z=>n (.inr (.inr (.inl z)))) e,fun q o n _=>n⟩
    have bI:∀o,an.heap.get? D=some o→bg_ o:=fun o e=>by obtain ⟨o',e',_,_,hd⟩:=a7; rw [e] at e'; cases e'; exact bg_.list hd
    have bx:g.Ok {an with heap:=ao}:=⟨fun q o n e=>Y q o (by rintro rfl; rw [aT _ (Nat.le_refl _)] at e; contradiction) (ai.gk q o n e),let ⟨o,e⟩:=ai.pt; ⟨o,Y _ o (nN (by exact O57 T)) e⟩,G.tabKeep _ _ D ai.tab (nN (by exact O7 T)) bI Y,ai.gens,ai.os,ai.tok⟩
    have a3:Loc g cenv Xc (σt pv) [] ao:=aR.carry2 aI (fun _ h=>h) (fun q hq=>by
     by_cases e:q=D
     ·refine sb e ?_; refine X1_2 aJ fun o ho _=> ?_; exact ⟨o,ho⟩
     ·refine X1_1 (aR.xs q hq) fun o ho=> ?_; exact ⟨o,Y _ _ e ho⟩) (fun q o hq e=>Y q o (by
      rintro rfl
      rcases hq with h1 | ⟨x,hx⟩ | ⟨oc,h1⟩
      ·have h2: @Eq Nat q C:=h1; exact O65 h2 P
      ·exact (a_ x q hx).2.2.2.1 rfl
      ·exact (nomatch h1)) e)
    have aP:St (i+1) ao:=WA.frame _ _ _ a2 fun q hq o e=>Y q o (nN (by have:=(a9 q hq).1; exact O57 this)) (a1 q o (a9 q hq).2 e)
    refine ⟨items.length - (i+1),by exact O47 V,i+1,ys.push y,rfl,V,bx,aP,aJ, ?_,by exact sb (Array.size_push ..) (O66 hys),{a3 with ns:=(X1_2 a3.ns fun m hm hv=>⟨m,hm,fun x ap hx=>hv x ap (hback pv ac _ hx)⟩),vars:=fun x ap hx=>a3.vars x ap (hback pv ac _ hx)},
     fun q o n e=>Y q o (nN (by have:=ae e; exact O57 this)) (a1 q o n (af q o n (aB q o n e)))⟩
    refine sb aE (sb hb ?_)
    simp only [if_true,List.map_append,List.map_cons,List.map_nil,Array.toList_push]
    exact bG_ (aw_ aI _ _ aY) (bn_ (an_ aI _ _ b7))
  ·have bJ:i=items.length:=by exact O48 hle V
   subst bJ
   refine wpAny_with_toks (n:=1) J.tok (WA.done H _ _ hst3 fun M aq aA ht=> ?_)
   have j:∀b o,b≠I→H.heap.get? b=some o→M.get? b=some o:=fun b o n e=>aA b o (fun h=>n (List.mem_singleton.mp h)) e
   have aD:g.Ok {H with heap:=M,toks:=aq}:=⟨fun b o n e=>j b o (by rintro rfl; rw [bw] at e; contradiction) (J.gk b o n e),let ⟨o,e⟩:=J.pt; ⟨o,j _ o (Ne.symm aK) e⟩,G.tabKeep _ _ I J.tab aK aL j,J.gens,J.os,ht⟩
   have a5:∀q:Nat,@LE.le Nat _ D q→B.heap.get? q=none:=fun q hq=>by
    cases e:B.heap.get? q with
    | none => rfl
    | some o => have:=ae e; exact (O6 this hq).elim
   refine bK B.heap D C _ (fun q o n e=>b0 q o n e) ⟨aD,bi,a5 _ (Nat.le_refl _),a5 _ (by exact O62 P),fun q o n e=>j q o (by rintro rfl; rw [au] at e; contradiction) (hk3 q o n e), ?_, ?_⟩ K.xs
   ·(refine X1_2 L3.ns fun m q4 _=> ?_; obtain ⟨o,es,ep,e,r⟩:=q4)
    exact I4_2 m o es ep (j _ o (by refine (?_: @Ne Nat C I); exact O58 P a0) e) r
   ·refine X1_2 hl3 fun o e r=> ?_
    refine I1_2 ys (I1_2 o (j _ o (nN (by exact O7 a0)) e) r) ?_
    rw [List.take_of_length_le (Nat.le_refl _)] at hr3
    exact aw_ ⟨fun q o n e=>j q o (fun z=>n (.inr (.inr (.inr z)))) e,fun q o n _ z=>n (z.elim .inl fun z=>z.elim (fun z=> .inr (.inl z)) fun z=> .inr (.inr (.inl z)))⟩ _ _ hr3
 exact codeAny_compStart_list (az _ rfl) (WA.self 0 _ _ _ (WA.frame _ _ _ b4 fun b _ o e=>old b o e) (az _ rfl))
theorem CEnd.read (G:g.Good){h:Heap}{ps:List PV}{D C:Addr}(Z:CEnd g X h ps D C s')(hx:∀a,X a→∃o,h.get? a=some o)(hp:X g.Pt)(O:g.Ok s)(hk:∀b o,b≠g.Pt→s.heap.get? b=some o→h.get? b=some o){v:Heap}(hs:Heap.SameBut C s'.heap v):
  g.Ok {s' with heap:=v}∧Kp g s.heap v∧Rd g X v (.lst ps) (.ref D):=by
 have nC:∀{b o},h.get? b=some o→b≠C:=fun e q=>by rw [q,Z.hc] at e; contradiction
 have nD:∀{b o},h.get? b=some o→b≠D:=fun e q=>by rw [q,Z.hd] at e; contradiction
 have z:C≠g.Pt:=fun q=>by refine X1_1 (hx _ hp) fun o e=> ?_; exact nC e q.symm
 have ak:g.hG.get? C=none:=by
  cases e:g.hG.get? C with
  | none => rfl
  | some o => exact absurd rfl (nC (hk _ _ z (O.gk C o z e)))
 have U:∀b o,b≠C→s'.heap.get? b=some o→v.get? b=some o:=fun b o n e=>hs.extBut b o n e
 refine I0_3 ⟨fun b o n e=>U b o (by rintro rfl; rw [ak] at e; contradiction) (Z.ok.gk b o n e),(X1_1 Z.ok.pt fun o e=>⟨o,U _ o (Ne.symm z) e⟩), ?_,Z.ok.gens,Z.ok.os,Z.ok.tok⟩ (fun b o n e=>U b o (nC (hk b o n e)) (Z.keep b o n (hk b o n e))) ?_
 ·refine X1_1 Z.ns fun m hm=> ?_
  exact G.tabKeep _ _ C Z.ok.tab z (Ns.noFields hm) U
 ·(refine X1_2 Z.lst fun ys q1 hr=> ?_; obtain ⟨o,e,r⟩:=q1)
  rw [bb_]
  refine I2_4 D ys rfl (fun q=> ?_) ⟨o,U _ o Z.dc e,r⟩ (aw_ ⟨fun b o n e=>U b o (fun q=>n (.inr (.inl q))) e,fun b o n _ q=>n (.inl q)⟩ _ _ hr)
  refine X1_1 (hx _ q) fun o e=> ?_
  exact nD e rfl
theorem mu_ (G:g.Good){j i iter:Expr}{t:List Expr}{scope:Scope}{pos:Pos}(cl:List (Str×Addr)){p:PV}{items:List PV}(σc:List (Str×PV))(σt:PV→List (Str×PV))(b:PV→Bool)(f:PV→PV)
  (hi:Ev g k env X σ ω iter p) (H:∀X,Its g X p items) (R:items.length≤sizeLine)
  (l:closureFor scope env=pure cl) (hcl:∀x c,cl.lookup x=some c→env.cells.lookup x=some c)
  (hcell:∀y∈scope.names,y.2≠ .cell) (hkind:scope.kind= .function) (hnames:∀x∈scope.names,x.2= .local→scope.names.lookup x.1=some .local)
  (hcap:∀q∈σc,q∈σ∧env.kindOf q.1≠some .local∧(cl.lookup q.1).isSome=true∧∀C,(compEnvC scope cl C env).kindOf q.1=some .cell∨(compEnvC scope cl C env).kindOf q.1=some .free)
  (htgt:∀pv∈items,∀C,AsgL g k (compEnvC scope cl C env) i pv σc (σt pv))
  (hback:∀pv∈items,∀q∈σc,q∈σt pv)
  (htest:∀pv∈items,∀X C,hk_ g k (compEnvC scope cl C env) X (σt pv) t (b pv))
  (helt:∀pv∈items,b pv=true→∀X C,Ev g k (compEnvC scope cl C env) X (σt pv) [] j (f pv))
  (hs:autoParam (∀x,foldedSetIterable iter env x=pure x) aQ2):
  Ev g k env X σ ω (.ListComp j [⟨i,iter,t,0⟩] scope pos) (.lst ((items.filter b).map f)):= .mk fun A s E a O L=>by
 simp only [eval_ListComp]
 refine wpAny_comprehension_free (use:=none) rfl hs l hkind hnames (gb_ G (RR:=fun acc C=>compPost (model g.prog g.w) A E none _ acc C) a O L hi H R hcl hcell hkind hcap htgt hback htest helt ?_)
 intro h D C s' hk Z hx
 refine X1_1 Z.ns fun m hm=> ?_
 exact I1_2 m hm (fun v V=>Z.read G hx L.ptX O hk V)
end
section
variable {g:GC}{k:Nat}{Y:Heap}{env:Env}{Xo:Addr→Prop}{N J:List Addr}{σ σ':List (Str×PV)}{ω ω':List (Addr×OC)}{s s':Shared}{A:Around}{E:Value→Shared→Prop}{Q:Flow→Shared→Prop}{u:List Stmt}
theorem LS.enterK (S:LS g Y env Xo N J σ ω s){I:Addr}{s':Shared}(O:g.Ok s')(K:Kp g s.heap s'.heap)(hn:s.heap.get? I=none)(he:∃o,s'.heap.get? I=some o):
  LS g Y env (Xw Xo I) N J σ ω s' where
 ok:=O
 loc:=S.loc.carry2 ⟨fun b o n e=>K b o (fun q=>n (q▸S.loc.ptX)) e,fun b o n e q=>by
   rcases gn_ q with q | q
   ·exact n q
   ·rw [q,hn] at e; contradiction⟩ (fun a=>hh_) (fun a ha=>by
   rcases gn_ ha with h | h
   ·by_cases q:a=g.Pt
    ·exact sb q O.pt
    ·refine X1_1 (S.loc.xs a h) fun o ho=> ?_; exact ⟨o,K _ _ q ho⟩
   ·exact sb h he) (fun b o hb e=>K b o (by
    rcases hb with rfl | ⟨x,hx⟩ | ⟨oc,ho⟩
    ·exact S.loc.lP
    ·exact (S.loc.cX x _ hx).2.1
    ·exact (S.loc.own _ oc ho).2.1) e) (fun a ha=>(gn_ ha).imp id fun q=>by exact sb q (S.ok.none hn))
 base:=fun b o n m e=>K _ _ n (S.base b o n m e)
 ex:=fun b o e=>by
  refine X1_1 (S.ex b o e) fun o' e'=> ?_
  by_cases q:b=g.Pt
  ·exact sb q O.pt
  ·exact ⟨o',K _ _ q e'⟩
 new:=S.new
 gM:=S.gM
 lM:=S.lM
 cM:=S.cM
 oM:=S.oM
theorem lG_ (G:g.Good){y:Str}{py P:Pos}{j i iter:Expr}{t:List Expr}{scope:Scope}{pos:Pos}(cl:List (Str×Addr)){p:PV}{items:List PV}(σc:List (Str×PV))(σt:PV→List (Str×PV))(b:PV→Bool)(f:PV→PV)
  (S:LS g Y env Xo N J σ ω s) (a:AOk k A) (hp:Xo g.Pt) (hi:Ev g k env (av Xo N J) σ ω iter p) (H:∀X,Its g X p items) (R:items.length≤sizeLine)
  (aj:swapsWith (.ListComp j [⟨i,iter,t,0⟩] scope pos) (some (.Name y py)) P.line env=pure true) (hy:env.kindOf y=some .local)
  (l:closureFor scope env=pure cl) (hcl:∀x c,cl.lookup x=some c→env.cells.lookup x=some c)
  (hcell:∀y∈scope.names,y.2≠ .cell) (hkind:scope.kind= .function) (hnames:∀x∈scope.names,x.2= .local→scope.names.lookup x.1=some .local)
  (hcap:∀q∈σc,q∈σ∧env.kindOf q.1≠some .local∧(cl.lookup q.1).isSome=true∧∀C,(compEnvC scope cl C env).kindOf q.1=some .cell∨(compEnvC scope cl C env).kindOf q.1=some .free)
  (htgt:∀pv∈items,∀C,AsgL g k (compEnvC scope cl C env) i pv σc (σt pv))
  (hback:∀pv∈items,∀q∈σc,q∈σt pv)
  (htest:∀pv∈items,∀X C,hk_ g k (compEnvC scope cl C env) X (σt pv) t (b pv))
  (helt:∀pv∈items,b pv=true→∀X C,Ev g k (compEnvC scope cl C env) X (σt pv) [] j (f pv))
  (c:∀s',LS g Y env Xo N J (upd y (.lst ((items.filter b).map f)) σ) ω s'→Wp g A env u Q E s')
  (af:autoParam ((y==("__classdict__" :Str))=false) aQ0) (hs:autoParam (∀x,foldedSetIterable iter env x=pure x) aQ2):
  Wp g A env (.Assign [.Name y py] (.ListComp j [⟨i,iter,t,0⟩] scope pos) P::u) Q E s:=by
 refine b4_ ?_
 refine sb (exec_Assign_Name_used _ _ _ _ aj) ?_
 refine wpAny_bind (wpAny_standAt (wpAny_bind ?_))
 refine (?_:wpAny _ A (do let _ ← comprehension (.ListComp j [⟨i,iter,t,0⟩] scope pos) scope env _ (newList []) false (eval iter env) (some (assign (.Name y py) env))) _ _ s)
 refine wpAny_bind (wpAny_mono (wpAny_comprehension_free (use:=some (assign (.Name y py) env)) (Q:=fun _ s'=>Cont g A env u Q E .next s') rfl hs l hkind hnames
  (gb_ G (RR:=fun acc C=>compPost (model g.prog g.w) A E (some (assign (.Name y py) env)) (fun _ s'=>Cont g A env u Q E .next s') acc C) a S.ok S.loc hi H R hcl hcell hkind hcap htgt hback htest helt ?_)) (fun _ s' hq=>wpAny_pure (wpAny_pure hq)) fun _ _ e=>e)
 intro h D C s' hk Z hx
 refine X1_1 Z.ns fun m hm=> ?_
 refine (?_:wpAny _ A (assign (.Name y py) env (.ref D)) _ _ _)
 have z:C≠g.Pt:=fun q=>by refine X1_1 (hx _ S.loc.ptX) fun o e=> ?_; rw [← q,Z.hc] at e; contradiction
 have hn:s.heap.get? C=none:=by
  cases e:s.heap.get? C with
  | none => rfl
  | some o => have:=hk C o z e; rw [Z.hc] at this; contradiction
 have K':Kp g s.heap s'.heap:=fun b o n e=>Z.keep b o n (hk b o n e)
 have S':LS g Y env (Xw Xo C) N J σ ω s':=S.enterK Z.ok K' hn (Ns.ex hm)
 have NI:=S.notI hn
 have R':Rd g (av (Xw Xo C) N J) s'.heap (.lst ((items.filter b).map f)) (.ref D):=by
  refine X1_2 Z.lst fun ys hl hr=> ?_
  rw [bb_]
  refine I2_4 D ys rfl (fun q=> ?_) hl (aw_ ⟨fun b o n e=>e,fun b o n _ q=>n ?_⟩ _ _ hr)
  ·rcases gn_ q with q | q
   ·refine X1_1 (hx _ q) fun o e=> ?_
    rw [Z.hd] at e; contradiction
   ·exact Z.dc q
  ·rcases gn_ q with q | q
   ·exact .inl q
   ·exact .inr (.inl q)
 refine X1_2 S'.loc.ns fun mL az a1=> ?_
 have nC:env.locals≠C:=fun q=>NI.2.2.2.1 (q▸S.loc.lX)
 have al:Rd g (av (Xw Xo C) (J++N) []) s'.heap (.lst ((items.filter b).map f)) (.ref D):=an_ ⟨fun b o _ e=>e,fun b o n _ q=>n (by
  rcases q with q | q | q
  ·exact .inl q
  ·exact .inr (List.mem_append.mp q).symm
  ·exact (nomatch q))⟩ _ _ R'
 refine wpAny_assign_Name (S'.rebase.store G (.inl hy) af al fun M B=> ?_)
 have ab:=S'.chain B (fun a oc h=>S.oM a oc h)
 have ah:∃m,M.heap.Ns C m:=by
  refine X3_2 hm fun o es ep e r=> ?_
  exact ⟨m,o,es,ep,B.base C o NI.2.2.1 (fun q=>by
   rcases List.mem_append.mp q with q | q
   ·exact NI.2.2.2.2.2 q
   ·exact NI.2.2.2.2.1 q) e,r⟩
 refine X1_1 ah fun aa F=> ?_
 refine I1_2 aa F (fun am T=>c _ ?_)
 exact ab.leave (tk:=M.toks) G (I0_4 NI.1 NI.2.1 NI.2.2.1 NI.2.2.2.1) hp (fun b o n e=>T.extBut b o n e) (Ns.noFields F) B.ok.tok
end
noncomputable def fdef (n:Nat):Str×Arguments×List Stmt×Scope:=match PySem.Challenge.pw_kt0027_01.main.body[n]? with
 | some (.FunctionDef name args body _ _ _ scope _ _ _) => (name,args,body,scope)
 | _ => ("",⟨[],[],none,[],[],none,[]⟩,[],default)
noncomputable abbrev fdat (n:Nat) (pm cd doc:Value):FuncData:=docDef (fdef n).1 (fdef n).2.1 (fdef n).2.2.1 (fdef n).2.2.2 pm cd doc
structure FnAt (g:GC)(f:Addr)(n:Nat)(pm cd doc:Value):Prop where
 ob:∃o,g.hG.get? f=some o∧o.data= .func (fdat n pm cd doc)
 fp:f≠g.Pt
 code:∃c o vs t,cd= .ref c∧c≠g.Pt∧g.hG.get? c=some o∧o.data= .fields vs∧vs[1]? =some (.str (fdef n).1 t)
theorem FnAt.isFn {g:GC}{f:Addr}{n:Nat}{pm cd doc:Value}(F:FnAt g f n pm cd doc):IsFn g f:=⟨F.fp,(X1_2 F.ob fun o e d=>⟨o,_,e,d⟩)⟩
noncomputable abbrev cenv (n:Nat) (pm cd doc:Value) (L f:Addr):Env:=callEnvC (fdat n pm cd doc) L f
theorem dv_ {i:Str→Option NameKind}{x:Str}{v:Value}(hk:i x=some .local):∀(ps:List Str) (vs:List Value) (m:Str→Option Value),ps.Nodup→(x,v)∈ps.zip vs→bindL i (ps.zip vs) m x=some v
 | [], _, _, _, h => by simp at h
 | _ :: _, [], _, _, h => by simp at h
 | p :: ps, u :: vs, m, hn, h => by
  rw [List.zip_cons_cons] at h ⊢
  rw [List.nodup_cons] at hn
  simp only [bindL]
  rcases List.mem_cons.mp h with h | h
  ·cases h
   refine sb (if_pos hk) ?_
   have N:∀(ps:List Str) (vs:List Value) (m:Str→Option Value),x ∉ ps→bindL i (ps.zip vs) m x=m x:=by
    intro ps
    induction ps with
    | nil => intro vs m _; simp [bindL]
    | cons q ps ih=>
     intro vs m hx
     cases vs with
     | nil => simp [bindL]
     | cons u vs=>
      simp only [List.zip_cons_cons]
      refine sb (ih vs _ (fun h=>hx (tQ h))) ?_
      have:x≠q:=fun e=>hx (e▸ .head _)
      split <;>simp [this]
   refine sb (N ps vs _ hn.1) ?_; simp
  ·exact dv_ hk ps vs _ hn.2 h
theorem dw_ {i:Str→Option NameKind}{x:Str}{v:Value}(hk:i x≠some .local):∀(ps:List Str) (vs:List Value) (m:Str→Option Value),ps.Nodup→(x,v)∈ps.zip vs→bindC i (ps.zip vs) m x=some v
 | [], _, _, _, h => by simp at h
 | _ :: _, [], _, _, h => by simp at h
 | p :: ps, u :: vs, m, hn, h => by
  rw [List.zip_cons_cons] at h ⊢
  rw [List.nodup_cons] at hn
  simp only [bindC]
  rcases List.mem_cons.mp h with h | h
  ·cases h
   refine sb (if_neg hk) ?_
   have N:∀(ps:List Str) (vs:List Value) (m:Str→Option Value),x ∉ ps→bindC i (ps.zip vs) m x=m x:=by
    intro ps
    induction ps with
    | nil => intro vs m _; simp [bindC]
    | cons q ps ih=>
     intro vs m hx
     cases vs with
     | nil => simp [bindC]
     | cons u vs=>
      simp only [List.zip_cons_cons]
      refine sb (ih vs _ (fun h=>hx (tQ h))) ?_
      have:x≠q:=fun e=>hx (e▸ .head _)
      split <;>simp [this]
   refine sb (N ps vs _ hn.1) ?_; simp
  ·exact dw_ hk ps vs _ hn.2 h
theorem de_ {g:GC}{X:Addr→Prop}{h:Heap}{x:Str}{pv:PV}:∀{ps:List Str} {pvs:List PV} {vs:List Value},RdL g X h pvs vs→(x,pv)∈ps.zip pvs→∃v,(x,v)∈ps.zip vs∧Rd g X h pv v
 | [], _, _, _, m => by simp at m
 | _ :: _, [], _, _, m => by simp at m
 | p :: ps, q :: pvs, vs, r, m => by
  rw [am_] at r
  (refine X2_3 r fun v t q1 h1 Y=> ?_; subst q1)
  rw [List.zip_cons_cons] at m ⊢
  rcases List.mem_cons.mp m with m | m
  ·cases m; exact I1_2 v mQ h1
  ·refine X1_2 (de_ Y m) fun u hu hr=> ?_; exact I1_2 u (tQ hu) hr
def Out (g:GC)(h₀:Heap)(Xo:Addr→Prop)(o:PV)(f:Flow)(s':Shared):Prop:=g.Ok s'∧Kp g h₀ s'.heap∧Rd g Xo s'.heap o (match f with | .ret v=>v | _=> .none)
theorem LS.out {g:GC}{h₀:Heap}{env:Env}{Xo:Addr→Prop}{M:List Addr}{σ ω s}{o:PV}{v:Value}(S:LS g h₀ env Xo [] M σ ω s)(r:Rd g (av Xo [] M) s.heap o v):Out g h₀ Xo o (.ret v) s:=
 ⟨S.ok,fun b o n e=>S.base b o n (fun h=>nomatch h) e,an_ ⟨fun _ _ _ e=>e,fun _ _ n _ q=>n (.inl q)⟩ _ _ r⟩
theorem aP_ {g:GC}(G:g.Good){k:Nat}{f:Addr}{n:Nat}{pm cd doc:Value}{pvs:List PV}{o:PV}(F:FnAt g f n pm cd doc)(ps:List Str)(an:ps.length=pvs.length)
  (P:∀vs,vs.length=pvs.length→bindArgs (fdat n pm cd doc) ⟨vs,[]⟩=pure (ps.zip vs)) (R:ps.Nodup)
  (hkind:∀m,∀x∈ps,(fdef n).2.2.2.names.lookup x=some .local∨((fdef n).2.2.2.names.lookup x=some .cell∧((cellsFrom m (fdef n).2.2.2.names []).lookup x).isSome=true))
  (ae:∀x∈ps,(x==("__classdict__" :Str))=false)
  (H:∀A s₀ C Xo L M E,AOk k A→Xo g.Pt→LS g s₀ (cenv n pm cd doc L f) Xo [] M (ps.zip pvs) [] C→Wp g A (cenv n pm cd doc L f) (fdef n).2.2.1 (Out g s₀ Xo o) E C)
  (al:autoParam ((fdef n).2.2.2.isCoroutine=false) aQ5) (V:autoParam ((fdef n).2.2.2.isGenerator=false) aQ5) (hk:autoParam ((fdef n).2.2.2.kind= .function) aQ7):aC_ g (k+1) f pvs o:=fun A s X vs a O x r=>by
 refine X1_2 F.ob fun ob ho hd=> ?_
 have J: @LT.lt Nat _ g.Pt s.heap.objs.size:=(O.pt).elim fun o ho=>Heap.lt_size ho
 have ah:s.heap.CodeRec cd (fdef n).1:=by
  refine X4_5 F.code fun c oc ak t h1 Y h3 h4 h5=> ?_
  exact I4_4 c oc ak t h1 (O.gk _ _ Y h3) h4 h5
 have am:=aH_ r
 have w:∀{x:Str×Value},x∈ps.zip vs→x.1∈ps:=fun h=>(List.of_mem_zip h).1
 refine codeAny_call_function (fd:=fdat n pm cd doc) (body:=(fdef n).2.2.1) a.room (O.gk _ _ F.fp ho) hd al V rfl ah ?_
 refine sb (P vs am) ?_
 refine wpAny_pure (wpAny_with_toks (n:=1) O.tok (wpAny_newFunctionEnv_cells hk (fun y hy=>hkind _ y.1 (w hy)) fun env he C I ht=> ?_))
 subst he
 have T:=I.toInCall.ns
 have j:=I.toInCall.keep
 refine X2_1 I.toInCall.same fun hh tk Q=> ?_
 subst Q
 have K:g.Ok {s with heap:=hh,toks:=tk}:=O.keep G j ht
 have l:∀(x:Str) (c:Nat),(cenv n pm cd doc s.heap.objs.size f).cells.lookup x=some c→@LT.lt Nat _ s.heap.objs.size c:=fun x c hc=>I.above x c (PySem.mem_of_lookup hc)
 have D:∀{b:Nat} {o},s.heap.get? b=some o→@LT.lt Nat _ b s.heap.objs.size:=fun e=>Heap.lt_size e
 have B:∀b:Nat,@LE.le Nat _ s.heap.objs.size b→s.heap.get? b=none:=fun b hb=>by
  cases e:s.heap.get? b with
  | none => rfl
  | some o => have:=D e; exact (O6 this hb).elim
 have XL:∀{b:Nat},X b→@LT.lt Nat _ b s.heap.objs.size:=fun hb=>by refine X1_1 (x.xs _ hb) fun o e=> ?_; exact D e
 let M:List Addr:=s.heap.objs.size::((cenv n pm cd doc s.heap.objs.size f).cells.map (·.1)).filterMap fun x=>(cenv n pm cd doc s.heap.objs.size f).cells.lookup x
 have aa:∀x c,(cenv n pm cd doc s.heap.objs.size f).cells.lookup x=some c→c∈M:=fun x c hc=> .tail _ (List.mem_filterMap.mpr ⟨x,List.mem_map.mpr ⟨(x,c),PySem.mem_of_lookup hc,rfl⟩,hc⟩)
 have Mof:∀{b},b∈M→b=s.heap.objs.size∨∃x,(cenv n pm cd doc s.heap.objs.size f).cells.lookup x=some b:=fun hb=>by
  rcases List.mem_cons.mp hb with h | hb
  ·exact .inl h
  ·refine X1_2 (List.mem_filterMap.mp hb) fun x _ hx=> ?_
   exact .inr ⟨x,hx⟩
 have Mge:∀b∈M,@LE.le Nat _ s.heap.objs.size b:=fun b hb=>by
  rcases Mof hb with rfl | ⟨x,hx⟩
  ·exact Nat.le_refl _
  ·exact Nat.le_of_lt (l x b hx)
 have Mex:∀b∈M,∃o,hh.get? b=some o:=fun b hb=>by
  rcases Mof hb with rfl | ⟨x,hx⟩
  ·exact Ns.ex T
  ·refine X1_2 (I.cell x b hx) fun o' e' _=> ?_
   exact ⟨o',e'⟩
 have Cr:bE_ X (av X [] M) s.heap hh:=⟨fun b o _ e=>j b o e,fun b o n e q=>by
  rcases q with q | q | q
  ·exact n q
  ·exact (nomatch q)
  ·have:=D e; have:=Mge _ q; exact O6 ‹_› this⟩
 have S:LS g s.heap (cenv n pm cd doc s.heap.objs.size f) X [] M (ps.zip pvs) [] {s with heap:=hh,toks:=tk}:=by
  refine ⟨K, ?_,fun b o _ _ e=>j b o e,fun b o e=>⟨o,j b o e⟩,fun b hb=>B _ (Mge b hb),fun b hb=> ?_, .inr mQ,fun x c hc=> .inr (aa x c hc),fun _ _ h=>nomatch h⟩
  ·have ai:∀z,av X [] M z→z≠g.Pt→g.hG.get? z=none:=fun z hz n=>by
    rcases hz with hz | hz | hz
    ·exact x.gX z hz n
    ·exact (nomatch hz)
    ·exact O.none (B z (Mge z hz))
   refine {fn:=hk,gl:=rfl,bl:=rfl,xs:=fun b hb=> ?_,ptX:= .inl x.ptX,gX:=ai,lX:= .inr (.inr mQ),lP:=nN (by refine (?_: @Ne Nat s.heap.objs.size g.Pt); exact O7 J),cX:=fun y c hc=> ?_,inj:=fun y z c h1 Y=>name_of_addr I.apart (PySem.mem_of_lookup h1) (PySem.mem_of_lookup Y),ns:=(I1_2 _ T (fun y pv hy ag=> ?_)),vars:=fun y pv hy=> ?_,own:=fun _ _ h=>(nomatch h),once:=List.Pairwise.nil}
   ·rcases hb with hb | hb | hb
    ·refine X1_1 (x.xs b hb) fun o e=> ?_; exact ⟨o,j _ _ e⟩
    ·exact (nomatch hb)
    ·exact Mex b hb
   ·have:=l y c hc
    exact ⟨.inr (.inr (aa y c hc)),nN (by exact Nat.ne_of_gt (Nat.lt_trans J this)),nN (by refine (?_: @Ne Nat c s.heap.objs.size); exact O7 this),_,I.cell y c hc⟩
   ·refine X1_2 (de_ r hy) fun v U hr=> ?_
    exact I1_2 v (dv_ ag ps vs _ R U) (an_ Cr _ _ hr)
   ·refine X1_2 (de_ r hy) fun v U hr=> ?_
    rcases hkind (s.heap.objs.size+1) y (w U) with q | ⟨q1,q2⟩
    ·exact .inl q
    ·refine X1_1 (Option.isSome_iff_exists.mp q2) fun c hc=> ?_
     have Z:(cenv n pm cd doc s.heap.objs.size f).cells.lookup y=some c:=hc
     have hcell:=I.cell y c Z
     rw [dw_ (x:=y) (v:=v) (by refine (?_:(fdef n).2.2.2.names.lookup y≠_); refine sb q1 ?_; simp) ps vs _ R U] at hcell
     exact .inr ⟨.inl q1,ae y (w U),c,v,Z,hcell,an_ Cr _ _ hr⟩
  ·rcases hb with hb | hb
   ·exact (nomatch hb)
   ·have:=Mge b hb
    refine ⟨?_,nN (by exact O9 J this)⟩
    cases e:g.hG.get? b with
    | none => rfl
    | some o => have:=D (O.gk b o (nN (by exact O9 J this)) e); exact (O6 this ‹_›).elim
 refine ⟨K.nolim G,codeAny_func ?_⟩
 exact wpAny_mono (H (A.deeper (cenv n pm cd doc s.heap.objs.size f)) s.heap _ X _ M _ a.down x.ptX S).run (fun fl s' h=>⟨_,rfl,h⟩) fun _ _ h=>h
end Mine
end
section
namespace Mine
theorem ej_:Slot "method_descriptor" "__get__" "method_descriptor.__get__" :=
 .of (owner:= "method_descriptor") (n:= "__get__") (by rw [typeLookup_type,builtinLookup_eq_fast]; kernel_rfl) (by decide+kernel) (by decide+kernel) (by decide+kernel)
  (by first | exact .inl (by decide+kernel) | exact .inr (by decide+kernel)) (by rw [isSubtype_type]; kernel_rfl)
theorem ks_:typeLookup (.type "method_descriptor") "__set__" =pure none:=by rw [typeLookup_type,builtinLookup_eq_fast]; kernel_rfl
theorem kt_:typeLookup (.type "method_descriptor") "__delete__" =pure none:=by rw [typeLookup_type,builtinLookup_eq_fast]; kernel_rfl
theorem ga_:entryFor table "method_descriptor.__get__" =some Builtin.«method_descriptor.__get__» :=entryFor_of_tree (by kernel_rfl)
theorem hi_ (a b c:Value):argsOk "method_descriptor.__get__" ⟨[a,b,c],[]⟩:=by unfold argsOk; kernel_rfl
noncomputable def jE_ (id:String)(a:Addr):Obj:= {cls:= .type "builtin_function_or_method",data:= .fields #[.builtin id, .ref a]}
set_option maxHeartbeats 0 in
theorem jn_ {prog:Program}{w:World}{A:Around}{E:Value→Shared→Prop}{s:Shared}{a:Addr}{vs:Array Value}{Q:Value→Shared→Prop}
  (hx:IsL s.heap a vs) (h:∀tk,Q (.ref s.heap.objs.size) {s with heap:=s.heap.push (jE_ "list.append" a),toks:=tk}):
  wpAny (model prog w) A (getAttr (.ref a) "append" true) Q E s:=by
 obtain ⟨⟨c,dct,m,x⟩,hx,hc,i,f,n,e⟩:=hx
 simp only at hc e i f
 subst hc e i f
 obtain ⟨hp,g,d,tk,os⟩:=s
 have j:∀k,(⟨hp,g,d,k,os⟩:Shared).TypeIs (.ref a) "list" :=fun _=>⟨_,hx,rfl⟩
 have q:=F.slot_list_getattribute.lookup
 have r:=F.slot_list_getattribute.bind (.ref a)
 have y:=am_list_getattr_none
 repeat (any_goals (first | assumption | exact j _ | wp_step))
 refine codeAny_call_builtin F.slot_list_getattribute.plain am_entry_list_getattribute (F.slot_list_getattribute.check _ _ _ _ _ _ _ _ (j _) (F.args_list_getattribute_2 _ _) ?_)
 have u:=F.slot_list_append.lookup
 have p:=ej_.lookup
 have t:=ks_
 have o:=kt_
 have z:=F.type_list_append
 iterate 60 (try any_goals (first | assumption | exact j _ | wp_step))
 refine (?_:wpAny _ _ (holding [Value.builtin "list.append"] (call (Value.builtin "method_descriptor.__get__") [Value.builtin "list.append",Value.ref a,Value.type "list"])>>=fun v=>ret v) _ _ _)
 refine wpAny_bind (wpAny_holding (wpAny_call_entry ej_ type_list_append ga_ ?_ (hi_ _ _ _)))
 refine wpAny_bind (wpAny_of_eq (a:=(.builtin "list.append",some (.ref a),some (.type "list"))) (by first | rfl | kernel_rfl) ?_)
 refine KFB.if_not (by decide+kernel) ?_
 have l:isSubtype (.type "list") (.type "list")=pure true:=by rw [isSubtype_type]; kernel_rfl
 refine wpAny_bind ?_
 refine wpAny_bind ?_
 refine wpAny_of_eq (a:=(Str.ofString "append",Value.type "list")) (by first | rfl | kernel_rfl) ?_
 repeat (any_goals (first | assumption | exact j _ | wp_step))
 refine I1_2 _ rfl (wpAny_pure ?_)
 exact wpAny_pure (h _)
end Mine
end
section
namespace Mine
theorem IsL.exact {h:Heap}{a:Addr}{vs:Array Value}(x:IsL h a vs):∃n,h.get? a=some {cls:= .type "list",data:= .seq vs n}:=by
 obtain ⟨⟨c,dct,a6,sl⟩,hx,hc,T,P,n,J⟩:=x
 simp only at hc J T P
 subst hc J T P
 exact ⟨n,hx⟩
theorem IsL.mk {h:Heap}{a:Addr}{vs:Array Value}{n:Nat}(x:h.get? a=some {cls:= .type "list",data:= .seq vs n}):IsL h a vs:=⟨_,x,rfl,rfl,rfl,n,rfl⟩
theorem IsL.noCode {h:Heap}{a:Addr}{vs:Array Value}(x:IsL h a vs):∀o,h.get? a=some o→bg_ o:=fun o M=>by
 refine X1_1 x.exact fun n e=> ?_
 rw [e] at M; cases M
 exact .list (n:=n) rfl
section
variable {g:GC}{k:Nat}{N:Heap}{env:Env}{Xo:Addr→Prop}{j i:List Addr}{σ σ':List (Str×PV)}{ω ω':List (Addr×OC)}{s s':Shared}
noncomputable def nB_ (g:GC)(X:Addr→Prop)(h:Heap)(a:Addr):OC→Prop
 | .lst l => ∃vs,IsL h a vs∧RdL g X h l vs.toList
 | .ba b => ∃o n,h.get? a=some o∧o= {cls:= .type "bytearray",data:= .bytearray b n}
theorem Loc.holds {X:Addr→Prop}{h:Heap}(L:Loc g env X σ ω h){a:Addr}{oc:OC}(ha:(a,oc)∈ω):nB_ g X h a oc:=by
 have:=(L.own a oc ha).2.2.2.2
 cases oc <;>exact this
noncomputable def nA_ (g:GC)(X:Addr→Prop)(h:Heap)(o:Obj):OC→Prop
 | .lst l => ∃vs n,o= {cls:= .type "list",data:= .seq vs n}∧RdL g X h l vs.toList
 | .ba b => ∃n,o= {cls:= .type "bytearray",data:= .bytearray b n}
theorem LS.alloc (G:g.Good)(S:LS g N env Xo j i σ ω s){o:Obj}{oc:OC}{tk:Nat}(M:o.isFreed=false)(ht:0 < tk)(hh:nA_ g (av Xo j i) s.heap o oc):
  LS g N env Xo j (s.heap.objs.size::i) σ ((s.heap.objs.size,oc)::ω) {s with heap:=s.heap.push o,toks:=tk}∧¬av Xo j i s.heap.objs.size:=by
 have keep:∀b f,s.heap.get? b=some f→(s.heap.push o).get? b=some f:=fun b f e=>Heap.get?_push_of_some _ e
 have O':g.Ok {s with heap:=s.heap.push o,toks:=tk}:=S.ok.keep G keep ht
 have L:=S.loc
 have K:¬av Xo j i s.heap.objs.size:=L.xok.new (Nat.le_refl _)
 have ac:s.heap.objs.size≠g.Pt:=fun e=>K (e▸L.ptX)
 have w:(s.heap.push o).get? s.heap.objs.size=some o:=Heap.get?_push_size _ M
 have C:bE_ (av Xo j i) (av Xo j (s.heap.objs.size::i)) s.heap (s.heap.push o):=⟨fun b f _ e=>keep b f e,fun b f n e q=>by
  rcases q with q | q | q
  ·exact n (.inl q)
  ·exact n (.inr (.inl q))
  ·rcases List.mem_cons.mp q with rfl | q
   ·exact absurd (Heap.lt_size e) (Nat.lt_irrefl _)
   ·exact n (.inr (.inr q))⟩
 have L':Loc g env (av Xo j (s.heap.objs.size::i)) σ ω (s.heap.push o):=L.carry2 C (fun a h=>by
   rcases h with h | h | h
   ·exact .inl h
   ·exact .inr (.inl h)
   ·exact .inr (.inr (tQ h)))
  (fun a ha=>by
   rcases ha with h | h | h
   ·refine X1_1 (L.xs a (.inl h)) fun f e=> ?_; exact ⟨f,keep _ _ e⟩
   ·refine X1_1 (L.xs a (.inr (.inl h))) fun f e=> ?_; exact ⟨f,keep _ _ e⟩
   ·rcases List.mem_cons.mp h with rfl | h
    ·exact ⟨o,w⟩
    ·refine X1_1 (L.xs a (.inr (.inr h))) fun f e=> ?_; exact ⟨f,keep _ _ e⟩)
  (fun b f _ e=>keep b f e) (fun a ha=>by
   rcases ha with h | h | h
   ·exact .inl (.inl h)
   ·exact .inl (.inr (.inl h))
   ·rcases List.mem_cons.mp h with rfl | h
    ·exact .inr (S.ok.none a8_)
    ·exact .inl (.inr (.inr h)))
 refine ⟨⟨O',{L' with own:=fun a oc' ha=> ?_,once:= ?_},fun b f n m e=>keep _ _ (S.base b f n m e),fun b f e=>(X1_1 (S.ex b f e) fun R aa=>⟨R,keep _ _ aa⟩),fun a ha=> ?_,fun a ha=> ?_,S.lM.imp id (.tail _),fun x c hc=>(S.cM x c hc).imp id (.tail _),fun a oc' ha=> ?_⟩,K⟩
 ·rcases List.mem_cons.mp ha with e | ha
  ·cases e
   refine I0_5 (.inr (.inr mQ)) ac (fun e=>K (e▸L.lX)) (fun x c hc e=>K (e▸(L.cX x c hc).1)) ?_
   cases oc with
   | ba b => refine X1_1 hh fun n e=> ?_; exact I2_2 o n w e
   | lst l=>
    refine X2_2 hh fun vs n e hr=> ?_
    exact I1_2 vs (IsL.mk (n:=n) (e▸w)) (aw_ C _ _ hr)
  ·exact L'.own a oc' ha
 ·refine List.pairwise_cons.mpr ⟨fun p hp e=> ?_,L.once⟩
  refine X0_2 (L.own p.1 p.2 hp) fun v _=> ?_
  have e':s.heap.objs.size=p.1:=e
  rw [← e'] at v
  exact K v
 ·rcases List.mem_cons.mp ha with rfl | ha
  ·exact (S.notI a8_).1
  ·exact S.new a ha
 ·rcases ha with ha | ha
  ·exact S.gM a (.inl ha)
  ·rcases List.mem_cons.mp ha with rfl | ha
   ·exact ⟨(S.notI a8_).2.1,ac⟩
   ·exact S.gM a (.inr ha)
 ·rcases List.mem_cons.mp ha with e | ha
  ·cases e; exact .inr mQ
  ·exact (S.oM a oc' ha).imp id (.tail _)
theorem LS.setOwn (G:g.Good)(S:LS g N env Xo j i σ ω s){a:Addr}{oc oc':OC}{h':Heap}{o:Obj}{tk:Nat}(ha:(a,oc)∈ω)(hs:Heap.SameBut a s.heap h')(hn:h'.get? a=some o)(ht:0 < tk)(hh:nA_ g (av Xo j i) s.heap o oc'):
  LS g N env Xo j i σ ((a,oc')::ω.filter fun p=>p.1 !=a) {s with heap:=h',toks:=tk}:=by
 have L:=S.loc
 refine X0_5 (L.own a oc ha) fun hX hP hL hC hO=> ?_
 have nc:∀o,s.heap.get? a=some o→bg_ o:=by
  cases oc with
  | lst l => refine X1_2 hO fun vs hl _=> ?_; exact hl.noCode
  | ba b=>
   refine X2_2 hO fun f n e q=> ?_
   intro a8 V
   rw [e] at V; cases V; subst q
   intro vs hv; contradiction
 refine X0_5 (S.mut G (tk:=tk) (S.oM a oc ha) hs nc ⟨o,hn⟩ ht) fun O' b' e' K' k'=> ?_
 have C:=K' (av Xo j i) (fun _ h=>h) (fun b q=>by exact sb q hX)
 have I:∀{x c ov},env.cells.lookup x=some c→s.heap.IsCell c ov→h'.IsCell c ov:=fun hc ⟨o,M,hd⟩=>⟨o,k' _ o (hC _ _ hc) M,hd⟩
 refine ⟨O', ?_,b',e',S.new,S.gM,S.lM,S.cM,fun b t hb=> ?_⟩
 ·refine {fn:=L.fn,gl:=L.gl,bl:=L.bl,xs:=fun b hb=> ?_,ptX:=L.ptX,gX:=L.gX,lX:=L.lX,lP:=L.lP,cX:=fun y c hc=> ?_,inj:=L.inj,ns:= ?_,vars:=fun y q hy=> ?_,own:=fun b t hb=> ?_,once:= ?_}
  ·by_cases q:b=a
   ·exact sb q ⟨o,hn⟩
   ·refine X1_1 (L.xs b hb) fun f z=> ?_; exact ⟨f,k' b f q z⟩
  ·obtain ⟨v,O,h3,ov,Y⟩:=L.cX y c hc
   exact ⟨v,O,h3,ov,I hc Y⟩
  ·refine X1_2 L.ns fun m hm hv=> ?_
   exact I1_2 m (hm.sameBut hs (fun e=>hL e.symm)) (fun y q hy ar=>(X1_2 (hv y q hy ar) fun u hu am=>(I1_2 u hu (an_ C _ _ am))))
  ·rcases L.vars y q hy with v | ⟨v,af,c,u,O,h3,Y⟩
   ·exact .inl v
   ·exact .inr ⟨v,af,c,u,O,I O h3,an_ C _ _ Y⟩
  ·rcases List.mem_cons.mp hb with e | hb
   ·cases e
    refine I0_5 hX hP hL hC ?_
    cases oc' with
    | ba b => refine X1_1 hh fun n e=> ?_; exact I2_2 o n hn e
    | lst l => refine X2_2 hh fun vs n e hr=> ?_; exact I1_2 vs (IsL.mk (n:=n) (e▸hn)) (aw_ C _ _ hr)
   ·refine X0_2 (List.mem_filter.mp hb) fun hb ao=> ?_
    have D:b≠a:=by simpa using ao
    refine X0_5 (L.own b t hb) fun v O h3 Y h5=> ?_
    refine I0_5 v O h3 Y ?_
    cases t with
    | lst l=>
     (refine X1_2 h5 fun vs q2 r=> ?_; obtain ⟨f,z,q⟩:=q2)
     exact I1_2 vs (I1_2 f (k' b f D z) q) (aw_ C _ _ r)
    | ba bb=>
     refine X2_2 h5 fun f n z q=> ?_
     exact I2_2 f n (k' b f D z) q
  ·refine List.pairwise_cons.mpr ⟨fun p hp e=> ?_,L.once.filter _⟩
   have:=(List.mem_filter.mp hp).2
   have e2:a=p.1:=e
   simp [← e2] at this
 ·rcases List.mem_cons.mp hb with e | hb
  ·cases e; exact S.oM a oc ha
  ·exact S.oM b t (List.mem_filter.mp hb).1
section
variable {A:Around}{E:Value→Shared→Prop}{Q:Flow→Shared→Prop}{F:List Stmt}
theorem bA_ (G:g.Good){x:Str}{px lp:Pos}{es:List Expr}{pos:Pos}{pvs:List PV}(S:LS g N env Xo j i σ ω s)(a:AOk k A)(he:EvL g k env (av Xo j i) σ ω es pvs)(hk:Kd env x)
  (c:∀b s',¬av Xo j i b→LS g N env Xo j (b::i) (upd x (.ref b) σ) ((b, .lst pvs)::ω) s'→Wp g A env F Q E s') (al:autoParam (pvs.length≤sizeLine) aQ0) (aj:autoParam ((x==("__classdict__" :Str))=false) aQ0)
  (ap:autoParam (swapsWith (.List es lp) (some (Expr.Name x px)) pos.line env=pure false) aQ4):
  Wp g A env (.Assign [.Name x px] (.List es lp) pos::F) Q E s:=
 b4_ (wpAny_Assign_Name (PyProof.Rows.List_ (he.use a S.ok S.loc fun vs ae B Z az H=>wpAny_newObj_type (by
  have U:=S.kp B Z
  refine X0_2 (U.alloc G (o:= {cls:= .type "list",data:= .seq vs.toArray}) (oc:= .lst pvs) (tk:=ae.toks) rfl B.tok (I2_2 vs.toArray 0 rfl H)) fun ab K=> ?_
  exact ab.store G hk aj (rd_ref.mpr rfl) fun s' S'=>c _ s' K S') (by
   have v:=aH_ H
   refine (?_:vs.toArray.size≤sizeLine)
   simp; exact O10 v al))) ap)
end
end
section
variable {g:GC}{k:Nat}{D:Heap}{env:Env}{Xo:Addr→Prop}{B z:List Addr}{σ σ':List (Str×PV)}{ω ω':List (Addr×OC)}{s s':Shared}{X:Addr→Prop}
noncomputable abbrev setω (a:Addr) (oc:OC) (ω:List (Addr×OC)):List (Addr×OC):=(a,oc)::ω.filter fun p=>p.1 !=a
theorem Loc.lst {h:Heap}(L:Loc g env X σ ω h){a:Addr}{l:List PV}(ha:(a, .lst l)∈ω):∃vs n,h.get? a=some {cls:= .type "list",data:= .seq vs n}∧RdL g X h l vs.toList:=by
 refine X1_2 (L.holds ha) fun vs K hr=> ?_
 refine X1_1 K.exact fun n e=> ?_
 exact I2_2 vs n e hr
theorem LS.upLst (G:g.Good)(S:LS g D env Xo B z σ ω s){a:Addr}{oc:OC}{l':List PV}{vs:Array Value}{n:Nat}{h':Heap}{tk:Nat}(ha:(a,oc)∈ω)(V:Heap.SameBut a s.heap h')(H:h'.get? a=some {cls:= .type "list",data:= .seq vs n})(ht:0 < tk)(hr:RdL g (av Xo B z) s.heap l' vs.toList):
  LS g D env Xo B z σ (setω a (.lst l') ω) {s with heap:=h',toks:=tk}:=S.setOwn G ha V H ht ⟨vs,n,rfl,hr⟩
theorem eV_ {ps:List PV}{vs:List Value}{h:Heap}(r:RdL g X h ps vs){n:Nat}(H:ps.length≤n):vs.length≤n:=by exact sb (aH_ r) H
section
variable {A:Around}{E:Value→Shared→Prop}{Q:Flow→Shared→Prop}{t:List Stmt}
theorem k4_ (G:g.Good){a:Addr}{l:List PV}{p:PV}{v:Value}{Q:Value→Shared→Prop}(S:LS g D env Xo B z σ ω s)(ha:(a, .lst l)∈ω)(hr:Rd g (av Xo B z) s.heap p v)(J:l.length≤sizeLine)
  (c:∀s',LS g D env Xo B z σ (setω a (.lst (l++ [p])) ω) s'→Q .none s'):wpAny (model g.prog g.w) A (call (.builtin "list.append") [.ref a,v]) Q E s:=by
 refine X2_2 (S.loc.lst ha) fun vs n e K=> ?_
 refine append_at e (fun h' V H=>c _ ?_) (by have:=eV_ K J; exact this)
 exact S.upLst (l':=l++ [p]) (tk:=s.toks) G ha V H S.ok.tok (by exact sb Array.toList_push (bG_ K (bn_ hr)))
theorem bM_ (G:g.Good){x:Str}{px apos pos I:Pos}{e:Expr}{a:Addr}{l:List PV}{p:PV}(S:LS g D env Xo B z σ ω s)(R:AOk k A)(hx:(x, .ref a)∈σ)(ha:(a, .lst l)∈ω)(he:Ev g k env (av Xo B z) σ ω e p)(J:l.length≤sizeLine)
  (c:∀s',LS g D env Xo B z σ (setω a (.lst (l++ [p])) ω) s'→Wp g A env t Q E s')
  (Y:autoParam (nst e=true) aQ1) (H:starEach [e] env=(false,eval e env)::starEach [] env:=bT_ Y) (hd:autoParam ((x==("__debug__" :Str))=false) aQ0)
  (hc:∃pl,eval (.Call (.Attribute (.Name x px) "append" apos) [e] [] pos) env=(do
     let ov ← eval (.Name x px) env
     standAt apos.atName
     match ← holding [ov] (getMethod ov "append" pl) with
      | (f, first) => callWith pos f first (backTo pos (starEach [e] env)) []):=by exact ⟨_,rfl⟩)
  (hi:autoParam (interactive env=false) aQ5) (M:autoParam (swapsWith (.Call (.Attribute (.Name x px) "append" apos) [e] [] pos) none I.line env=pure false) aQ4):
  Wp g A env (.Expr (.Call (.Attribute (.Name x px) "append" apos) [e] [] pos) I::t) Q E s:=by
 refine X1_1 hc fun pl hc=> ?_
 refine b4_ (wpAny_Expr (MethodCall_ (pl:=pl) ((aa_ hx hd).use R S.ok S.loc fun v m i C u j=> ?_) hc) hi M)
 rw [rd_ref] at j; subst j
 have q:=S.kp i C
 refine X2_2 (q.loc.lst ha) fun vs n e1 K=> ?_
 refine Calls.getMethod_list_append e1 rfl rfl ?_
 refine bq_ (ps:= [p]) (b8_ he ag_ H) bQ_ rfl H R i u fun vs Z N O ab F=>⟨trivial, ?_⟩
 rw [am_] at F
 (refine X2_3 F fun v r q1 hv hr=> ?_; subst q1)
 rw [aG_] at hr; subst hr
 exact k4_ G (q.kp N O) ha hv J c
theorem eU_ (G:g.Good){x y:Str}{px py apos pos:Pos}{a:Addr}{l:List PV}(S:LS g D env Xo B z σ ω s)(R:AOk k A)(hx:(x, .ref a)∈σ)(ha:(a, .lst l)∈ω)(hk:Kd env y)
  (c:∀s',LS g D env Xo B z (upd y (.mth "list.append" a) σ) ω s'→Wp g A env t Q E s') (T:autoParam ((y==("__classdict__" :Str))=false) aQ0) (hd:autoParam ((x==("__debug__" :Str))=false) aQ0)
  (hc:eval (.Attribute (.Name x px) "append" apos) env=(do
   let o ← eval (.Name x px) env
   standAt apos.atName
   let r ← holding [o] (getAttr o "append" true)
   letTemporaryGo (.Name x px) o r
   pure r):=by rfl)
  (M:autoParam (swapsWith (.Attribute (.Name x px) "append" apos) (some (Expr.Name y py)) pos.line env=pure false) aQ4):
  Wp g A env (.Assign [.Name y py] (.Attribute (.Name x px) "append" apos) pos::t) Q E s:=by
 refine b4_ (wpAny_Assign_Name ?_ M)
 refine sb hc ?_
 refine wpAny_bind ((aa_ hx hd).use R S.ok S.loc fun v m i C u j=> ?_)
 rw [rd_ref] at j; subst j
 have q:=S.kp i C
 refine X1_2 (u.holds ha) fun vs K _=> ?_
 refine wpAny_bind (wpAny_standAt (wpAny_bind (wpAny_holding (wpAny_with_toks (n:=1) i.tok (jn_ K fun tk ht=> ?_)))))
 have keep:∀b U,m.heap.get? b=some U→(m.heap.push (jE_ "list.append" a)).get? b=some U:=fun b U e=>Heap.get?_push_of_some _ e
 have P:LS g D env Xo B z σ ω {m with heap:=m.heap.push (jE_ "list.append" a),toks:=tk}:=q.kp (i.keep G keep ht) (Kp.of keep)
 refine wpAny_bind (wpAny_of_eq (a:=()) rfl (wpAny_pure (P.store G hk T ?_ c)))
 rw [iK_]
 exact ⟨_,rfl,u.xok.new (Nat.le_refl _),_,Heap.get?_push_size _ rfl,rfl⟩
end
end
theorem kj_ {as:Args}:(Code.builtin "list.append" as).quiet=true:=Code.quiet_builtin _ (by decide+kernel)
theorem kU_ {prog:Program}{w:World}{A:Around}{E:Value→Shared→Prop}{s:Shared}{a:Addr}{v:Value}{its:Array Value}{n:Nat}{Q:Unit→Shared→Prop}(I:s.heap.get? a=some {cls:= .type "list",data:= .seq its n})
  (h:Q () s):wpAny (model prog w) A (checkBoundCall "list.append" ⟨[.ref a,v],[]⟩) Q E s:=by
 obtain ⟨hp,gg,d,tk,os⟩:=s
 have hT:(⟨hp,gg,d,tk,os⟩:Shared).TypeIs (.ref a) "list" :=⟨_,I,rfl⟩
 have al:Manifest.signature? "list.append" =some ⟨.oneArg,"list.append","append", .self,[⟨"object", .posOnly,true⟩]⟩:=by rw [signature?_of (id:= "list.append") (n:= ['d','n','e','p','p','a']) (o:= ['t','s','i','l']) (by kernel_rfl) F.owner_list]; kernel_rfl
 have aq:∀x y,(Bind.checkArgs "list.append" ⟨.oneArg,"list.append","append", .self,[⟨"object", .posOnly,true⟩]⟩ ⟨[x,y],[]⟩)=pure ():=fun x y=>by kernel_rfl
 have hk:builtinKind "list.append" =some .method:=by decide+kernel
 have az:isSubtype (.type "list") (.type "module")=pure false:=by rw [isSubtype_type]; kernel_rfl
 have aE:Manifest.varargsMethods.contains "list.append" =false:=by decide+kernel
 have aa:(s!"{Bind.lastOf "list"}.{Bind.lastOf "list.append"}")= "list.append" :=by decide+kernel
 unfold checkBoundCall
 refine sb al ?_
 dsimp only
 refine sb hk ?_
 dsimp only
 refine KFB.if_not (by decide) ?_
 refine wpAny_bind ?_
 iterate 8 (try any_goals (first | assumption | wp_step))
 refine KFB.if_not rfl ?_
 refine wpAny_bind ?_
 iterate 2 (try any_goals (first | assumption | wp_step))
 refine wpAny_of_eq (a:=()) ?_ h
 show Bind.checkArgs "list.append" ⟨_,(s!"{Bind.lastOf "list"}.{Bind.lastOf "list.append"}"),_,_,_⟩ _=_
 refine sb aa ?_
 exact aq _ _
section
variable {g:GC}{k:Nat}{hF:Heap}{env:Env}{Xo:Addr→Prop}{M0 M1:List Addr}{σ σ':List (Str×PV)}{ω ω':List (Addr×OC)}{s s':Shared}{X:Addr→Prop}
section
variable {A:Around}{E:Value→Shared→Prop}{Q:Flow→Shared→Prop}{P:List Stmt}
theorem id_ {prog:Program}{w:World}{m D:Addr}{its:Array Value}{n:Nat}{x:Value}{Q:Value→Shared→Prop}(hm:IsM s.heap m "list.append" D)(I:s.heap.get? D=some {cls:= .type "list",data:= .seq its n})
  (h:∀h',Heap.SameBut D s.heap h'→h'.get? D=some {cls:= .type "list",data:= .seq (its.push x) (n+1)}→Q .none {s with heap:=h'})
  (ae:its.size≤sizeLine):wpAny (model prog w) A (call (.ref m) [x]) Q E s:=by
 (refine X1_2 hm fun o hm q1=> ?_; subst q1)
 refine wpAny_call (codeAny_of_tree ?_)
 refine (?_:wpAny _ A.in1 (callAny (.ref m) ⟨[x],[]⟩) _ _ s)
 refine wpAny_bind (wpAny_load hm ?_)
 refine KFB.if_so rfl ?_
 refine KFB.if_so rfl ?_
 refine wpAny_bind (kU_ I ?_)
 refine wpAny_bind (wpAny_pure (wpAny_pure ?_))
 refine ⟨kj_,codeAny_builtin entry_list_append ?_⟩
 refine (?_:wpAny _ _ (updateSeq D (·.push x)>>=fun _=>ret .none) _ _ s)
 refine wpAny_bind ?_
 refine wpAny_updateSeq I rfl (wpAny_pure ?_)
 refine h _ (Heap.SameBut.update ..) ?_
 rw [Heap.get?_update_self _ I (by refine sb (mapSeq_push ..) ?_; rfl),mapSeq_push]
abbrev n7_ (g:GC)(m D:Addr)(h:Heap):Prop:=IsM h m "list.append" D
theorem jc_ {m D:Addr}:e2_ g (fun h=>IsM h m "list.append" D) (.ref m):=fun h ⟨o,I,hd⟩=>by
 subst hd
 exact I1_2 .machine (.inr (.inl rfl)) ((Looks.ld (part:=none) I).andThen .now)
theorem cE_ (G:g.Good){y:Str}{py pos Z:Pos}{e:Expr}{a:Addr}{l:List PV}{p:PV}(S:LS g hF env Xo M0 M1 σ ω s)(A0:AOk k A)(hy:(y, .mth "list.append" a)∈σ)(ha:(a, .lst l)∈ω)(he:Ev g k env (av Xo M0 M1) σ ω e p)(ae:l.length≤sizeLine)
  (c:∀s',LS g hF env Xo M0 M1 σ (setω a (.lst (l++ [p])) ω) s'→Wp g A env P Q E s')
  (au:autoParam (nst e=true) aQ1) (hn:starEach [e] env=(false,eval e env)::starEach [] env:=bT_ au) (hd:autoParam ((y==("__debug__" :Str))=false) aQ0)
  (hc:autoParam (eval (.Call (.Name y py) [e] [] pos) env=(do callWith pos (← eval (.Name y py) env) [] (backTo pos (starEach [e] env)) (backToKw pos (keywordEach [] env)))) aQ6)
  (hi:autoParam (interactive env=false) aQ5) (ao:autoParam (swapsWith (.Call (.Name y py) [e] [] pos) none Z.line env=pure false) aQ4):
  Wp g A env (.Expr (.Call (.Name y py) [e] [] pos) Z::P) Q E s:=by
 refine b4_ (wpAny_Expr (Call_ ((aa_ hy hd).use A0 S.ok S.loc fun v a0 N ag U Y=> ?_) hc) hi ao)
 rw [iK_] at Y
 (refine X1_3 Y fun m q2 an hm=> ?_; subst q2)
 have af:=S.kp N ag
 refine bq_ (ps:= [p]) (b8_ he ag_ hn) (jc_ (D:=a)) rfl hn A0 N U fun vs K ad T a1 R=> ?_
 have z:IsM K.heap m "list.append" a:=(X1_2 hm fun o I q=>⟨o,(U.xok.carry T).keep m o an I,q⟩)
 refine ⟨z, ?_⟩
 rw [am_] at R
 (refine X2_3 R fun v r q3 hv hr=> ?_; subst q3)
 rw [aG_] at hr; subst hr
 have t:=af.kp ad T
 refine X2_2 (t.loc.lst ha) fun vs n e M=> ?_
 refine id_ z e (fun h' hs hn=>c _ ?_) (by have:=eV_ M ae; exact this)
 exact t.upLst (l':=l++ [p]) (tk:=K.toks) G ha hs hn t.ok.tok (by exact sb Array.toList_push (bG_ M (bn_ hv)))
noncomputable def mP_:PV→Prop
 | .none | .bool _ | .int _ | .str _ | .bytes _ | .ref _ | .blt _ | .typ _ => True
 | _ => False
theorem mP_.rd {p:PV}(f:mP_ p){X X':Addr→Prop}{h h':Heap}{v:Value}(r:Rd g X h p v):Rd g X' h' p v:=by
 cases p <;>first | exact f.elim | (exact r)
def dO_ (ω:List (Addr×OC))(σ σ':List (Str×PV))(a:Addr):Prop:=∀x pv,(x,pv)∈σ'→(x,pv)∈σ∨∃l,pv= .lst l∧(x, .ref a)∈σ∧(a, .lst l)∈ω
theorem Loc.view {h:Heap}(L:Loc g env X σ ω h){a:Addr}{oc:OC}(ha:(a,oc)∈ω)(V:dO_ ω σ σ' a)(aw:∀p∈ω',p∈ω∧p.1≠a)(hp:ω'.Pairwise fun p q=>p.1≠q.1):Loc g env (fun b=>X b∧b≠a) σ' ω' h:=by
 refine X0_5 (L.own a oc ha) fun aX aP aL aC aO=> ?_
 have C:bE_ X (fun b=>X b∧b≠a) h h:=⟨fun b o _ e=>e,fun b o n _ q=>n q.1⟩
 have lst:∀l,(a, .lst l)∈ω→Rd g (fun b=>X b∧b≠a) h (.lst l) (.ref a):=fun l M=>by
  refine X1_2 (L.holds M) fun vs i j=> ?_
  rw [bb_]
  exact I2_4 a vs rfl (fun q=>q.2 rfl) i.isList (aw_ C _ _ j)
 refine {fn:=L.fn,gl:=L.gl,bl:=L.bl,xs:=fun b hb=>L.xs b hb.1,ptX:=⟨L.ptX,Ne.symm aP⟩,gX:=fun b hb=>L.gX b hb.1,lX:=⟨L.lX,Ne.symm aL⟩,lP:=L.lP,cX:=fun y c hc=> ?_,inj:=L.inj,ns:= ?_,vars:=fun y q hy=> ?_,own:=fun b oc' hb=> ?_,once:=hp}
 ·refine X0_2 (L.cX y c hc) fun i j=> ?_
  exact ⟨⟨i,aC y c hc⟩,j⟩
 ·refine X1_2 L.ns fun m hm hv=> ?_
  refine I1_2 m hm (fun y q hy ah=> ?_)
  rcases V y q hy with hy | ⟨l,rfl,hy,M⟩
  ·refine X1_2 (hv y q hy ah) fun u hu J=> ?_; exact I1_2 u hu (an_ C _ _ J)
  ·refine X1_2 (hv y _ hy ah) fun u hu J=> ?_
   rw [rd_ref] at J; subst J
   exact I1_2 _ hu (lst l M)
 ·rcases V y q hy with hy | ⟨l,rfl,hy,M⟩
  ·rcases L.vars y q hy with i | ⟨i,B,c,u,j,h3,h4⟩
   ·exact .inl i
   ·exact .inr ⟨i,B,c,u,j,h3,an_ C _ _ h4⟩
  ·rcases L.vars y _ hy with i | ⟨i,B,c,u,j,h3,h4⟩
   ·exact .inl i
   ·rw [rd_ref] at h4; subst h4
    exact .inr ⟨i,B,c,_,j,h3,lst l M⟩
 ·refine X0_2 (aw _ hb) fun hb am=> ?_
  refine X0_5 (L.own b oc' hb) fun i j h3 h4 h5=> ?_
  refine I0_5 ⟨i,am⟩ j h3 h4 ?_
  cases oc' with
  | lst l => refine X1_2 h5 fun vs q r=> ?_; exact I1_2 vs q (aw_ C _ _ r)
  | ba b => exact h5
theorem dJ_ {e:Expr}{pv:PV}{a:Addr}{oc:OC}(ha:(a,oc)∈ω)(V:dO_ ω σ σ' a)(hf:mP_ pv)(H:Ev g k env (fun b=>X b∧b≠a) σ' (ω.filter fun p=>p.1 !=a) e pv):Ev g k env X σ ω e pv:= .mk fun A s E A0 O L=>
 wpAny_mono (H.run A s E A0 O (L.view ha V (fun p hp=>by refine X0_2 (List.mem_filter.mp hp) fun i j=> ?_; exact ⟨i,by simpa using j⟩) (L.once.filter _))) (fun v s' p=>⟨p.1,p.2.1,hf.rd p.2.2⟩) fun _ _ x=>x
theorem fp_ {e:Expr}{b:Bool}{a:Addr}{oc:OC}(ha:(a,oc)∈ω)(V:dO_ ω σ σ' a)(H:EvT g k env (fun b=>X b∧b≠a) σ' (ω.filter fun p=>p.1 !=a) e b):EvT g k env X σ ω e b:= .mk fun A s E A0 O L=>
 H.run A s E A0 O (L.view ha V (fun p hp=>by refine X0_2 (List.mem_filter.mp hp) fun i j=> ?_; exact ⟨i,by simpa using j⟩) (L.once.filter _))
end
end
section
variable {g:GC}{k:Nat}{env:Env}{X:Addr→Prop}{σ:List (Str×PV)}{ω:List (Addr×OC)}{h h':Heap}
theorem eF_ {U:CmpOp}{x y:Str}{c:Bool}(H:∀{A:Around} {E:Value→Shared→Prop} {s:Shared} {t u:Tok} {Q:Value→Shared→Prop},Q (.bool c) s→wpAny (model g.prog g.w) A (compareOp U (.str x t) (.str y u)) Q E s):
  Op g k X [.str x, .str y] (fun vs=>compareOp U (vs.getD 0 .none) (vs.getD 1 .none)) (.bool c):=op2 fun A s E v u _ O _ n f=>by
 rw [rd_str] at n f
 (refine X1_1 n fun t q1=> ?_; subst q1)
 (refine X1_1 f fun u q2=> ?_; subst q2)
 exact H fun _=>⟨O,Kp.refl,by rfl⟩
noncomputable def inS (x y:Str):Bool:= !(Builtin.Str.occurrences y x 0 y.length 1).isEmpty
theorem aY_ {x y:Str}:Op g k X [.str x, .str y] (fun vs=>compareOp .Eq (vs.getD 0 .none) (vs.getD 1 .none)) (.bool (x==y)):=eF_ fun h=>PyProof.Rows.eq_str h
theorem eG_ {x y:Str}:Op g k X [.str x, .str y] (fun vs=>compareOp .NotEq (vs.getD 0 .none) (vs.getD 1 .none)) (.bool (x !=y)):=eF_ fun h=>PyProof.Rows.ne_str h
theorem mw_ {x y:Str}:Op g k X [.str x, .str y] (fun vs=>compareOp .Lt (vs.getD 0 .none) (vs.getD 1 .none)) (.bool (decide (x.cps.toList < y.cps.toList))):=eF_ fun h=>PyProof.Rows.lt_str h
theorem jv_ {x y:Str}:Op g k X [.str x, .str y] (fun vs=>compareOp .LtE (vs.getD 0 .none) (vs.getD 1 .none)) (.bool (!(decide (y.cps.toList < x.cps.toList)))):=eF_ fun h=>PySem.P.le_str h
theorem mx_ {x y:Str}:Op g k X [.str x, .str y] (fun vs=>compareOp .Gt (vs.getD 0 .none) (vs.getD 1 .none)) (.bool (decide (y.cps.toList < x.cps.toList))):=eF_ fun h=>PySem.P.gt_str h
theorem jw_ {x y:Str}:Op g k X [.str x, .str y] (fun vs=>compareOp .In (vs.getD 0 .none) (vs.getD 1 .none)) (.bool (inS x y)):=eF_ fun h=>PyProof.Rows.in_str h
theorem kT_ {x y:Str}:Op g k X [.str x, .str y] (fun vs=>compareOp .NotIn (vs.getD 0 .none) (vs.getD 1 .none)) (.bool (!inS x y)):=eF_ fun h=>PyProof.Rows.notIn_str h
noncomputable abbrev txts (ys:List Str):List PV:=ys.map .str
theorem b3_:∀{ys:List Str} {vs:List Value},RdL g X h (txts ys) vs→StrsAre vs ys
 | [], vs, r => by rw [txts,List.map_nil,aG_] at r; subst r; exact .nil
 | y :: ys, vs, r => by
  rw [txts,List.map_cons,am_] at r
  (refine X2_3 r fun v t q3 m p=> ?_; subst q3)
  rw [rd_str] at m
  (refine X1_1 m fun T q4=> ?_; subst q4)
  exact .cons y T (b3_ p)
theorem lk_ {ys:List Str}{vs:List Value}(Z:StrsAre vs ys):RdL g X h (txts ys) vs:=by
 induction Z with
 | nil => exact aG_.mpr rfl
 | cons _ t r F => exact am_.mpr (I2_3 _ _ rfl (rd_str.mpr ⟨t,rfl⟩) F)
theorem eH_ {x:Str}{ys:List Str}:Op g k X [.str x, .lst (txts ys)] (fun vs=>compareOp .In (vs.getD 0 .none) (vs.getD 1 .none)) (.bool (ys.any fun y=>y==x)):=op2 fun A s E v u _ O _ n f=>by
 rw [rd_str] at n; rw [bb_] at f
 (refine X1_1 n fun t q5=> ?_; subst q5)
 (refine X2_4 f fun a vs q6 _ C hr=> ?_; subst q6)
 exact in_list_strs (vs:=vs.toList) C (b3_ hr) fun _=>⟨O,Kp.refl,by rfl⟩
theorem fv_ {x:Str}{ys:List Str}:Op g k X [.str x, .lst (txts ys)] (fun vs=>compareOp .NotIn (vs.getD 0 .none) (vs.getD 1 .none)) (.bool (!ys.any fun y=>y==x)):=op2 fun A s E v u _ O _ n f=>by
 rw [rd_str] at n; rw [bb_] at f
 (refine X1_1 n fun t q7=> ?_; subst q7)
 (refine X2_4 f fun a vs q8 _ C hr=> ?_; subst q8)
 exact notin_list_strs (vs:=vs.toList) C (b3_ hr) fun _=>⟨O,Kp.refl,by rfl⟩
theorem g7_ {x:Str}{ys:List Str}:Op g k X [.str x, .tup (txts ys)] (fun vs=>compareOp .In (vs.getD 0 .none) (vs.getD 1 .none)) (.bool (ys.any fun y=>y==x)):=op2 fun A s E v u _ O _ n f=>by
 rw [rd_str] at n; rw [ck_] at f
 (refine X1_1 n fun t V=> ?_; subst V)
 (refine X2_4 f fun a vs I _ C hr=> ?_; subst I)
 exact in_tuple_strs C (b3_ hr) fun _=>(I0_3 O Kp.refl (by rfl))
theorem cW_:∀{xs ys:List Str},xs.length=ys.length→(List.range xs.length).all (fun i=>xs[i]? ==ys[i]?)=(xs==ys)
 | [], [], _ => rfl
 | x :: xs, y :: ys, e => by
  have F:=cW_ (xs:=xs) (ys:=ys) (by simpa using e)
  simp only [List.length_cons,List.range_succ_eq_map,List.all_cons,List.all_map]
  have h0:((x::xs)[0]? ==(y::ys)[0]?)=(x==y):=by
   refine (?_:(some x==some y)=_); rfl
  refine sb h0 ?_
  have m:((fun i=>(x::xs)[i]? ==(y::ys)[i]?) ∘ Nat.succ)=fun i=>xs[i]? ==ys[i]? :=by funext i; simp
  refine sb m (sb F ?_)
  rfl
theorem fK_ {A:Around}{s:Shared}{xs ys:List Str}{vs D:Array Value}(r:StrsAre vs.toList xs)(q:StrsAre D.toList ys)(o:vs.size=D.size):∀j (m:j < vs.size) (p:j < D.size),PySem.SeqAt.EqAt A s vs[j] D[j] (xs[j]? ==ys[j]?):=by
 have get:∀{xs:List Str} {l:List Value} (r:StrsAre l xs) (j:Nat) (h:j < l.length),∃x t,l[j]= .str x t∧xs[j]? =some x:=by
  intro xs l r
  induction r with
  | nil => intro j h; exact absurd h (Nat.not_lt_zero _)
  | cons y t r F=>
   intro j h
   cases j with
   | zero => exact I2_2 y t rfl rfl
   | succ j => refine X2_2 (F j (by simpa using h)) fun x T K M=> ?_; exact I2_2 x T (by exact K) (by exact M)
 intro j m p
 refine X2_2 (get r j (by exact m)) fun x t K M=> ?_
 refine X2_2 (get q j (by exact p)) fun y u e3 Y=> ?_
 have S:vs[j]= .str x t:=by simpa using K
 have R:D[j]= .str y u:=by simpa using e3
 simp only [S,R,M,Y]
 exact PySem.SeqAt.EqAt.str_str x t y u
theorem dW_ {xs ys:List Str}(h:xs.length≠ys.length):(xs==ys)=false:=by
 cases e:xs==ys with
 | false => rfl
 | true => exact absurd (congrArg List.length (eq_of_beq e)) h
theorem a4_ {l:List PV}{vs:Array Value}(r:RdL g X h l vs.toList):vs.size=l.length:=by have:=aH_ r; simpa using this
theorem jy_ {xs ys:List Str}:Op g k X [.lst (txts xs), .lst (txts ys)] (fun vs=>compareOp .Eq (vs.getD 0 .none) (vs.getD 1 .none)) (.bool (xs==ys)):=op2 fun A s E v u a O _ n f=>by
 rw [bb_] at n f
 (refine X2_4 n fun b vs N _ C hr=> ?_; subst N)
 (refine X2_4 f fun c D J _ z B=> ?_; subst J)
 have m:=a4_ hr
 have p:=a4_ B
 rw [List.length_map] at m p
 by_cases o:vs.size=D.size
 ·refine PySem.SeqAt.eq_listAt C z o a.units (fK_ (b3_ hr) (b3_ B) o) fun _=>⟨O,Kp.refl, ?_⟩
  rw [rd_bool,m,cW_ (by exact O11 m p o)]
 ·refine PySem.SeqAt.eq_list_lengthsAt C z (by simpa using o) a.units fun _=>⟨O,Kp.refl, ?_⟩
  rw [rd_bool,dW_ (by exact m▸p▸Ne.intro o)]
theorem dM_ {xs ys:List Str}:Op g k X [.lst (txts xs), .lst (txts ys)] (fun vs=>compareOp .NotEq (vs.getD 0 .none) (vs.getD 1 .none)) (.bool (xs !=ys)):=op2 fun A s E v u a O _ n f=>by
 rw [bb_] at n f
 (refine X2_4 n fun b vs L _ C hr=> ?_; subst L)
 (refine X2_4 f fun c D G _ z B=> ?_; subst G)
 have m:=a4_ hr
 have p:=a4_ B
 rw [List.length_map] at m p
 by_cases o:vs.size=D.size
 ·refine PySem.SeqAt.RcNeAt.lists C z o a.units (fK_ (b3_ hr) (b3_ B) o) g.prog g.w _ _ fun _=>⟨O,Kp.refl, ?_⟩
  rw [rd_bool,m,cW_ (by exact O11 m p o)]
  rfl
 ·refine PySem.SeqAt.RcNeAt.lists_lengths C z (by simpa using o) a.units g.prog g.w _ _ fun _=>⟨O,Kp.refl, ?_⟩
  refine (?_:Rd g X _ (.bool (!(xs==ys))) _)
  rw [rd_bool,dW_ (by exact m▸p▸Ne.intro o)]
  rfl
theorem oc1 {f:Value}{p o:PV}(H:∀A s E v,AOk k A→g.Ok s→XOk g X s.heap→Rd g X s.heap p v→
  wpAny (model g.prog g.w) A (call f [v]) (fun v s'=>0 < s'.toks→g.Ok s'∧Kp g s.heap s'.heap∧Rd g X s'.heap o v) E s):Op g k X [p] (fun vs=>call f vs) o:=fun A s E vs a O x r=>by
 rw [am_] at r
 obtain ⟨v,U,rfl,j,r⟩:=r
 rw [aG_] at r
 subst r
 exact H A s E v a O x j
theorem oc2 {f:Value}{p q o:PV}(H:∀A s E v u,AOk k A→g.Ok s→XOk g X s.heap→Rd g X s.heap p v→Rd g X s.heap q u→
  wpAny (model g.prog g.w) A (call f [v,u]) (fun v s'=>0 < s'.toks→g.Ok s'∧Kp g s.heap s'.heap∧Rd g X s'.heap o v) E s):Op g k X [p,q] (fun vs=>call f vs) o:=fun A s E vs a O x r=>by
 rw [am_] at r
 obtain ⟨v,U,rfl,j,r⟩:=r
 rw [am_] at r
 obtain ⟨u,r2,rfl,z,r⟩:=r
 rw [aG_] at r
 subst r
 exact H A s E v u a O x j z
theorem oc3 {f:Value}{p q V o:PV}(H:∀A s E v u J,AOk k A→g.Ok s→XOk g X s.heap→Rd g X s.heap p v→Rd g X s.heap q u→Rd g X s.heap V J→
  wpAny (model g.prog g.w) A (call f [v,u,J]) (fun v s'=>0 < s'.toks→g.Ok s'∧Kp g s.heap s'.heap∧Rd g X s'.heap o v) E s):Op g k X [p,q,V] (fun vs=>call f vs) o:=fun A s E vs a O x r=>by
 rw [am_] at r
 obtain ⟨v,U,rfl,j,r⟩:=r
 rw [am_] at r
 obtain ⟨u,r2,rfl,z,r⟩:=r
 rw [am_] at r
 obtain ⟨J,r3,rfl,C,r⟩:=r
 rw [aG_] at r
 subst r
 exact H A s E v u J a O x j z C
theorem b5_ (G:g.Good){x:Str}{ys:List Str}(B:(ys.map (fun x=>x.length)).sum+ys.length*x.length≤16777216):Op g k X [.str x, .lst (txts ys)] (fun vs=>call (.builtin "str.join") vs) (.str (Txt.join x ys)):=oc2 fun A s E v u _ O _ j z=>by
 rw [rd_str] at j; rw [bb_] at z
 obtain ⟨t,rfl⟩:=j
 obtain ⟨a,vs,rfl,_,I,hr⟩:=z
 exact join_list I (b3_ hr) B fun t' k ht=>(I0_3 (Ok.toks G O ht) Kp.refl (by simp))
theorem bh_ (G:g.Good){x:Str}(B:(x.length:Int) < 2 ^ 63):Op g k X [.str x] (fun vs=>call (.builtin "len") vs) (.int x.length):=oc1 fun A s E v _ O _ j=>by
 rw [rd_str] at j
 obtain ⟨t,rfl⟩:=j
 exact PyProof.Rows.len_str (by exact O13 B) fun ht=>(I0_3 (Ok.toks G O ht) Kp.refl (by simp))
theorem c2_ (G:g.Good){l:List PV}(B:(l.length:Int) < 2 ^ 63):Op g k X [.lst l] (fun vs=>call (.builtin "len") vs) (.int l.length):=oc1 fun A s E v _ O _ j=>by
 rw [bb_] at j
 obtain ⟨a,vs,rfl,_,I,hr⟩:=j
 have D:=a4_ hr
 exact call_len_list I (by exact O14 B D) fun ht=>(I0_3 (Ok.toks G O ht) Kp.refl (by simp [D]))
theorem m4_ (G:g.Good){c:Nat}:Op g k X [.str ⟨#[c]⟩] (fun vs=>call (.builtin "ord") vs) (.int c):=oc1 fun A s E v _ O _ j=>by
 rw [rd_str] at j
 obtain ⟨t,rfl⟩:=j
 exact P.ord_of_char fun ht=>(I0_3 (Ok.toks G O ht) Kp.refl (by simp))
theorem m6_ (G:g.Good){i:Int}(hi:(decide (i < 0) || decide (i>1114111))=false):Op g k X [.int i] (fun vs=>call (.builtin "chr") vs) (.str ⟨#[i.toNat]⟩):=oc1 fun A s E v _ O _ j=>by
 rw [rd_int] at j
 obtain ⟨t,rfl⟩:=j
 exact P.chr_of_int hi fun ht=>(I0_3 (Ok.toks G O ht) Kp.refl (by simp))
theorem eX_ {x:Str}:Op g k X [.str x] (fun vs=>call (.builtin "str.isalnum") vs) (.bool (Txt.isalnum x)):=oc1 fun A s E v _ O _ j=>by
 rw [rd_str] at j
 obtain ⟨t,rfl⟩:=j
 exact SC.isalnum fun ht=>⟨O,Kp.refl,by rfl⟩
theorem kl_ (G:g.Good){x y:Str}(B:x.length≤sizeLine):Op g k X [.str x, .str y] (fun vs=>call (.builtin "str.strip") vs) (.str (Txt.stripChars x y)):=oc2 fun A s E v u _ O _ j z=>by
 rw [rd_str] at j z
 obtain ⟨t,rfl⟩:=j
 obtain ⟨u,rfl⟩:=z
 exact SC.stripChars (fun t' k ht=>(I0_3 (Ok.toks G O ht) Kp.refl (by simp))) B
theorem km_ (G:g.Good){x:Str}(B:x.length+2≤sizeLine):Op g k X [.str x] (fun vs=>call (.builtin "str.split") vs) (.lst (txts (Txt.words x))):=oc1 fun A s E v _ O K j=>by
 rw [rd_str] at j
 obtain ⟨t,rfl⟩:=j
 have D:(Builtin.Str.spaceWords x (x.length+1)).length≤sizeLine:=by
  have Z:=(StrLaws.sw_weight x).1
  have e2:=StrLaws.len_le_wsum (Builtin.Str.spaceWords x (x.length+1))
  exact O15 e2 B Z
 have L:∀(l:List (Str×Tok)) (s':Shared),l.map (·.1)=Txt.words x→s'.gens=s.gens→s'.os=s.os→s'.heap=s.heap.push {cls:= .type "list",data:= .seq (strValues l).toArray}→
   0 < s'.toks→g.Ok s'∧Kp g s.heap s'.heap∧Rd g X s'.heap (.lst (txts (Txt.words x))) (.ref s.heap.objs.size):=by
  intro l s' I N R h3 ht
  have keep:∀b o,s.heap.get? b=some o→s'.heap.get? b=some o:=fun b o e=>by refine sb h3 ?_; exact Heap.get?_push_of_some _ e
  refine I0_3 ?_ (Kp.of keep) ?_
  ·exact ⟨fun b o n e=>keep b o (O.gk b o n e),(X1_1 O.pt fun o e=>⟨o,keep _ o e⟩),(O.keep G (h':=s'.heap) (tk:=1) keep (by decide)).tab,N▸O.gens,R▸O.os,ht⟩
  ·rw [bb_,h3]
   refine I2_4 _ ((strValues l).toArray) rfl (K.new (Nat.le_refl _)) ⟨_,Heap.get?_push_size _ rfl,rfl,_,rfl⟩ ?_
   refine sy I ?_
   exact lk_ (strsAre_of_values l)
 refine call_meets F.slot_str_split (typeIs_str _ _ _) F.entry_str_split (F.args_str_split_1 _) (meets_str_split_space x t (by exact Nat.le_of_add_right_le B) D) ?_
 cases hw:Builtin.Str.spaceWords x (x.length+1)== [(0,x.length)]
 ·simp only [Bool.false_eq_true,if_false]
  refine sb (strsFrom_eq ..) ?_
  exact L (numbered s.toks (PySem.wordsOf x)) _ ((numbered_texts _ _).trans (if_neg (ne_true_of_eq_false hw)).symm) rfl rfl rfl
 ·simp only [if_true]
  exact L [(x,t)] _ (if_pos hw).symm rfl rfl rfl
theorem dj_ (G:g.Good){n:Int}:Op g k X [.int n] (fun vs=>call (.type "range") vs) (.rng 0 n 1):=oc1 fun A s E v _ O K j=>by
 rw [rd_int] at j
 obtain ⟨t,rfl⟩:=j
 refine call_range_1 fun ht=>(I0_3 (O.keep G (fun b o e=>Heap.get?_push_of_some _ e) ht) (Kp.of fun b o e=>Heap.get?_push_of_some _ e) ?_)
 rw [hu_]
 exact I4_3 _ _ _ _ rfl (K.new (Nat.le_refl _)) (IsRange.new _ _ _ _ _ _ _)
theorem fX_ (G:g.Good){m n c:Int}(hc:c≠0)(hp:Builtin.divisionGoesByPylong (n - m) c=false):Op g k X [.int m, .int n, .int c] (fun vs=>call (.type "range") vs) (.rng m n c):=oc3 fun A s E v u J _ O K j z C=>by
 rw [rd_int] at j z C
 obtain ⟨t,rfl⟩:=j
 obtain ⟨u,rfl⟩:=z
 obtain ⟨J,rfl⟩:=C
 refine call_range_3 hc (fun ht=>(I0_3 (O.keep G (fun b o e=>Heap.get?_push_of_some _ e) ht) (Kp.of fun b o e=>Heap.get?_push_of_some _ e) ?_)) (.inl hp)
 rw [hu_]
 exact I4_3 _ _ _ _ rfl (K.new (Nat.le_refl _)) (IsRange.new _ _ _ _ _ _ _)
theorem bO_ (G:g.Good){a:Int}:Op g k X [.int a] (fun vs=>unaryOp .USub (vs.getD 0 .none)) (.int (-a)):=op1 fun A s E v _ O _ j=>by
 rw [rd_int] at j
 obtain ⟨t,rfl⟩:=j
 exact neg_int fun ht=>(I0_3 (Ok.toks G O ht) Kp.refl (by simp))
theorem dV_ (G:g.Good){a b:Int}(B:IntMulOk a b):Op g k X [.int a, .int b] (fun vs=>binaryOp .Mult (vs.getD 0 .none) (vs.getD 1 .none)) (.int (a*b)):=op2 fun A s E v u _ O _ j z=>by
 rw [rd_int] at j z
 obtain ⟨t,rfl⟩:=j
 obtain ⟨u,rfl⟩:=z
 exact mul_int (fun ht=>(I0_3 (Ok.toks G O ht) Kp.refl (by simp))) B
theorem dU_ (G:g.Good){a n:Int}(h0:0≤n)(B:(Builtin.Int.intBits a:Int)*n≤2 ^ 27):Op g k X [.int a, .int n] (fun vs=>binaryOp .Pow (vs.getD 0 .none) (vs.getD 1 .none)) (.int (a ^ n.toNat)):=op2 fun A s E v u _ O _ j z=>by
 rw [rd_int] at j z
 obtain ⟨t,rfl⟩:=j
 obtain ⟨u,rfl⟩:=z
 exact pow_int h0 B fun ht=>(I0_3 (Ok.toks G O ht) Kp.refl (by simp))
theorem ko_ (G:g.Good){ns:List Int}(hr:∀n∈ns,0≤n∧n < 256)(hz:ns.length≤sizeLine):Op g k X [.lst (ns.map .int)] (fun vs=>call (.type "bytes") vs) (.bytes (byteArr ns)):=oc1 fun A s E v a O K j=>by
 rw [bb_] at j
 obtain ⟨b,vs,rfl,_,I,M⟩:=j
 have ia:∀{ns:List Int} {vs:List Value},RdL g X s.heap (ns.map .int) vs→IntsAre vs ns:=by
  intro ns
  induction ns with
  | nil => intro vs r; rw [List.map_nil,aG_] at r; subst r; exact .nil
  | cons n ns Y=>
   intro vs r
   rw [List.map_cons,am_] at r
   obtain ⟨v,t,rfl,N,R⟩:=r
   rw [rd_int] at N
   obtain ⟨u,rfl⟩:=N
   exact .cons n u (Y R)
 have D:=aH_ M
 simp only [List.length_map] at D
 refine call_bytes_ints (vs:=vs.toList) I (ia M) hr (by exact O10 D hz) a.1 fun h' t k S ht=>(I0_3 (O.keep G S ht) (Kp.of S) (by simp))
theorem fY_ {p:PV}{T:String}{c:Bool}(H:∀{A:Around} {E:Value→Shared→Prop} {s:Shared} {v:Value} {Q:Value→Shared→Prop},Rd g X s.heap p v→(∀k,Q (.bool c) {s with toks:=k})→wpAny (model g.prog g.w) A (call (.builtin "isinstance") [v, .type T]) Q E s)(G:g.Good):
  Op g k X [p, .typ T] (fun vs=>call (.builtin "isinstance") vs) (.bool c):=oc2 fun A s E v u _ O _ j z=>by
 rw [rd_typ] at z
 subst z
 exact H j fun k ht=>(I0_3 (Ok.toks G O ht) Kp.refl (by rfl))
theorem fe_ (G:g.Good){x:Str}:Op g k X [.str x, .typ "str"] (fun vs=>call (.builtin "isinstance") vs) (.bool true):=fY_ (fun {A E s v Q} j hq=>by
 rw [rd_str] at j
 obtain ⟨t,rfl⟩:=j
 exact IsiPair.str_str (hq s.toks)) G
theorem eq_ (G:g.Good){x:Array UInt8}:Op g k X [.bytes x, .typ "bytes"] (fun vs=>call (.builtin "isinstance") vs) (.bool true):=fY_ (fun {A E s v Q} j hq=>by
 rw [rd_bytes] at j
 obtain ⟨t,rfl⟩:=j
 exact call_isinstance (isinstance_true (Tx:= "bytes") F.isi_meta_bytes F.bm_sub) ⟨rfl,hq s.toks⟩) G
end
section
variable {g:GC}{k:Nat}{env:Env}{X:Addr→Prop}{σ σ':List (Str×PV)}{ω:List (Addr×OC)}{h h':Heap}
noncomputable def gU_ (x y:Str)(i j:Int):Int:=match Builtin.Str.occurrences x y (fromIndex x.length i) (min (fromIndex x.length j) x.length) 1 with | k::_=>(k:Int) | []=> -1
theorem gS_ (x y:Str)(i j:Int)(t u v v2:Tok):Gives (Builtin.«str.find» ⟨[.str x t, .str y u, .int i v, .int j v2],[]⟩) (.int (gU_ x y i j)):=by
 unfold gU_
 refine (?_:Gives (match Builtin.Str.occurrences x y (fromIndex x.length i) (min (fromIndex x.length j) x.length) 1 with | k::_=>retInt k | []=>(do rule "str.find.not-found"; retInt (-1))) _)
 cases Builtin.Str.occurrences x y (fromIndex x.length i) (min (fromIndex x.length j) x.length) 1 with
 | nil => exact .rule (.of_eq rfl)
 | cons k _ => exact .of_eq rfl
theorem kn_ (G:g.Good){x y:Str}{i j:Int}:Op g k X [.str x, .str y, .int i, .int j] (fun vs=>call (.builtin "str.find") vs) (.int (gU_ x y i j)):=fun A s E vs a O x r=>by
 rw [am_] at r
 obtain ⟨v,r1,rfl,H,r⟩:=r
 rw [am_] at r
 obtain ⟨u,r2,rfl,K,r⟩:=r
 rw [am_] at r
 obtain ⟨u2,r3,rfl,U,r⟩:=r
 rw [am_] at r
 obtain ⟨u3,r4,rfl,V,r⟩:=r
 rw [aG_] at r
 subst r
 rw [rd_str] at H K; rw [rd_int] at U V
 obtain ⟨t,rfl⟩:=H
 obtain ⟨u,rfl⟩:=K
 obtain ⟨u2,rfl⟩:=U
 obtain ⟨u3,rfl⟩:=V
 exact call_gives F.slot_str_find (typeIs_str _ _ _) F.entry_str_find (F.args_str_find_4 _ _ _ _) (gS_ _ _ _ _ _ _ _ _) fun ht=>(I0_3 (Ok.toks G O ht) Kp.refl (by simp))
theorem h7_ (G:g.Good){ob:Expr}{apos pos p1 p2:Pos}{n1 n2:Nat}{x y z:Str}(ac:Ev g k env X σ ω ob (.str x))(ab:(y==z)=false)(hb:x.length+(x.length+1)*z.length≤16777216)
  (hc:∃pl,eval (.Call (.Attribute ob "replace" apos) [.Constant (.str y) n1 p1, .Constant (.str z) n2 p2] [] pos) env=(do
     let ov ← eval ob env
     standAt apos.atName
     match ← holding [ov] (getMethod ov "replace" pl) with
      | (f, first) => callWith pos f first (backTo pos (starEach [.Constant (.str y) n1 p1, .Constant (.str z) n2 p2] env)) []):=by exact ⟨_,rfl⟩):
  Ev g k env X σ ω (.Call (.Attribute ob "replace" apos) [.Constant (.str y) n1 p1, .Constant (.str z) n2 p2] [] pos) (.str (Txt.replace x y z)):=eA_ fun A s E a O L=>by
 obtain ⟨pl,hc⟩:=hc
 refine MethodCall_ (pl:=pl) (ac.use a O L fun v q m o B C=> ?_) hc
 rw [rd_str] at C
 obtain ⟨t,rfl⟩:=C
 refine GM.replace ?_
 have h0:0 < q.toks:=m.tok
 refine callWith_of (by rfl) (bQ_ (g:=g)) (evalArgs_plain ?_)
 refine (?_:wpAny _ A (do let v ← eval (.Constant (.str y) n1 p1) env; let I ← pure [v]; return I++(← holding I (spliced (backTo pos (starEach [.Constant (.str z) n2 p2] env))))) _ _ q)
 refine wpAny_bind (wpAny_Constant_str (wpAny_bind (wpAny_pure (wpAny_bind (wpAny_holding ?_)))))
 refine (?_:wpAny _ A (do let v ← eval (.Constant (.str z) n2 p2) env; let I ← pure [v]; return I++(← holding I (spliced (backTo pos (starEach [] env))))) _ _ _)
 refine wpAny_bind (wpAny_Constant_str (wpAny_bind (wpAny_pure (wpAny_bind (wpAny_holding (wpAny_pure (wpAny_pure (wpAny_pure ⟨trivial, ?_⟩))))))))
 refine SC.replace (t:=t) (u:=q.toks) (v:=q.toks+1) (by refine (?_:q.toks≠0); exact Nat.ne_zero_of_lt h0) (by refine (?_:q.toks+1≠0); exact O18) (by refine (?_:q.toks≠q.toks+1); exact O19) ab hb fun t' k ht=>(I0_3 (Ok.toks G m ht) o (by simp))
def Tr (g:GC)(k:Nat)(X:Addr→Prop)(p:PV)(b:Bool):Prop:=∀A s E v,AOk k A→g.Ok s→XOk g X s.heap→Rd g X s.heap p v→
 wpAny (model g.prog g.w) A (truthy v) (fun c s'=>0 < s'.toks→g.Ok s'∧Kp g s.heap s'.heap∧c=b) E s
theorem lb_ (G:g.Good){x:Str}(M:(x.length:Int) < 2 ^ 63):Tr g k X (.str x) ((x.length:Int) !=0):=fun A s E v _ O _ H=>by
 rw [rd_str] at H; obtain ⟨t,rfl⟩:=H
 exact PyProof.Rows.SBL.truthy (by exact O20 M) fun ht=>(I0_3 (Ok.toks G O ht) Kp.refl rfl)
theorem ld_ (G:g.Good){l:List PV}(M:(l.length:Int) < 2 ^ 63):Tr g k X (.lst l) (!l.isEmpty):=fun A s E v _ O _ H=>by
 rw [bb_] at H; obtain ⟨a,vs,rfl,_,hl,hr⟩:=H
 have hn:=a4_ hr
 refine wpAny_truthy_list hl (by exact O14 M hn) fun ht=>⟨Ok.toks G O ht,Kp.refl, ?_⟩
 cases l with
 | nil => have:vs= #[]:=Array.eq_empty_of_size_eq_zero (by simpa using hn); subst this; rfl
 | cons p l=>
  cases h:vs.isEmpty with
  | false => rfl
  | true => rw [Array.isEmpty_iff] at h; subst h; simp at hn
theorem ch_ {b:Bool}:Tr g k X (.bool b) b:=fun A s E v _ O _ H=>by
 rw [rd_bool] at H; subst H
 exact wpAny_truthy_bool fun _=>⟨O,Kp.refl,rfl⟩
theorem by_ {e:Expr}{p:PV}{b:Bool}(Z:Ev g k env X σ ω e p)(ht:Tr g k X p b)(hp:autoParam (PySem.isTrue e env (eval e env)=(do let v ← eval e env; standAt e.pos; holding [v] (truthy v))) aQ6):EvT g k env X σ ω e b:= .mk fun A s E a O L=>
 isTrue_plain (Z.use a O L fun v q m o B C=>wpAny_with_toks (n:=1) m.tok (wpAny_mono (ht A q _ v a m B.xok C) (fun c D p ht=>by obtain ⟨p1,p2,p3⟩:=p ht; exact I0_3 p1 (o.trans p2) p3) fun _ _ x _=>x)) hp
theorem mL_ {x:Expr}{pos:Pos}{J:Sem Value}{b:Bool}(hx:EvT g k env X σ ω x b):∀A s E,AOk k A→g.Ok s→Loc g env X σ ω s.heap→wpAny (model g.prog g.w) A (PySem.isTrue (Expr.BoolOp .And [x] pos) env J) (fun c s'=>g.Ok s'∧Kp g s.heap s'.heap∧c=b) E s:=fun A s E a O L=>
 isTrue_and (hx.use a O L fun q m o B=>by
  cases b with
  | false => exact I0_3 m o rfl
  | true => exact wpAny_pure ⟨m,o,rfl⟩)
theorem lm_ {x:Expr}{pos:Pos}{J:Sem Value}{b:Bool}(hx:EvT g k env X σ ω x b):∀A s E,AOk k A→g.Ok s→Loc g env X σ ω s.heap→wpAny (model g.prog g.w) A (PySem.isTrue (Expr.BoolOp .Or [x] pos) env J) (fun c s'=>g.Ok s'∧Kp g s.heap s'.heap∧c=b) E s:=fun A s E a O L=>
 isTrue_or (hx.use a O L fun q m o B=>by
  cases b with
  | true => exact I0_3 m o rfl
  | false => exact wpAny_pure ⟨m,o,rfl⟩)
theorem b7_ {x y:Expr}{pos:Pos}{b c:Bool}(hx:EvT g k env X σ ω x b)(hy:b=true→EvT g k env X σ ω y c):EvT g k env X σ ω (.BoolOp .And [x,y] pos) (b && c):= .mk fun A s E a O L=>
 isTrue_and (hx.use a O L fun q m o B=>by
  cases b with
  | false => exact I0_3 m o rfl
  | true => exact wpAny_mono (mL_ (hy rfl) A q E a m B) (fun d D p=>(I0_3 p.1 (o.trans p.2.1) p.2.2)) fun _ _ x=>x)
theorem dr_ {x y:Expr}{pos:Pos}{b c:Bool}(hx:EvT g k env X σ ω x b)(hy:b=false→EvT g k env X σ ω y c):EvT g k env X σ ω (.BoolOp .Or [x,y] pos) (b || c):= .mk fun A s E a O L=>
 isTrue_or (hx.use a O L fun q m o B=>by
  cases b with
  | true => exact I0_3 m o rfl
  | false => exact wpAny_mono (lm_ (hy rfl) A q E a m B) (fun d D p=>(I0_3 p.1 (o.trans p.2.1) p.2.2)) fun _ _ x=>x)
theorem mp_ {x y z:Expr}{pos:Pos}{b c d:Bool}(hx:EvT g k env X σ ω x b)(hy:b=false→EvT g k env X σ ω y c)(hz:b=false→c=false→EvT g k env X σ ω z d):EvT g k env X σ ω (.BoolOp .Or [x,y,z] pos) (b || (c || d)):= .mk fun A s E a O L=>
 isTrue_or (hx.use a O L fun q m o B=>by
  cases b with
  | true => exact I0_3 m o rfl
  | false => exact isTrue_or ((hy rfl).use a m B fun D N S Y=>by
    cases c with
    | true => exact I0_3 N (o.trans S) rfl
    | false => exact wpAny_mono (lm_ (hz rfl rfl) A D E a N Y) (fun e ae p=>(I0_3 p.1 ((o.trans S).trans p.2.1) p.2.2)) fun _ _ x=>x))
theorem ds_ {t x y:Expr}{pos:Pos}{b:Bool}{p:PV}(ht:EvT g k env X σ ω t b)(hx:b=true→Ev g k env X σ ω x p)(hy:b=false→Ev g k env X σ ω y p):Ev g k env X σ ω (.IfExp t x y pos) p:= .mk fun A s E a O L=>
 IfExp_ (ht.use a O L fun q m o B=>by
  cases b with
  | true => exact wpAny_mono (((hx rfl).run) A q E a m B) (fun v D p=>(I0_3 p.1 (o.trans p.2.1) p.2.2)) fun _ _ x=>x
  | false => exact wpAny_mono (((hy rfl).run) A q E a m B) (fun v D p=>(I0_3 p.1 (o.trans p.2.1) p.2.2)) fun _ _ x=>x)
theorem cJ_ {x:Str}{b:Addr}:Op g k X [.str x, .ref b] (fun vs=>compareOp .IsNot (vs.getD 0 .none) (vs.getD 1 .none)) (.bool true):=op2 fun A s E v u _ O _ H K=>by
 rw [rd_str] at H; rw [rd_ref] at K
 obtain ⟨t,rfl⟩:=H
 subst K
 exact wpAny_isNot_other rfl (fun h=>nomatch h) fun _=>⟨O,Kp.refl,by rfl⟩
theorem hY_ {a:Addr}:Op g k X [.ref a, .ref a] (fun vs=>compareOp .Is (vs.getD 0 .none) (vs.getD 1 .none)) (.bool true):=op2 fun A s E v u _ O _ H K=>by
 rw [rd_ref] at H K
 subst H K
 exact wpAny_is_ref_self fun _=>⟨O,Kp.refl,by rfl⟩
theorem ct_ {a:Addr}:Op g k X [.ref a, .ref a] (fun vs=>compareOp .IsNot (vs.getD 0 .none) (vs.getD 1 .none)) (.bool false):=op2 fun A s E v u _ O _ H K=>by
 rw [rd_ref] at H K
 subst H K
 exact wpAny_isNot_ref_self fun _=>⟨O,Kp.refl,by rfl⟩
def Fs (g:GC)(k:Nat)(env:Env)(X:Addr→Prop)(σ:List (Str×PV))(ω:List (Addr×OC))(es:List Expr)(x:Str):Prop:=∀A s E out,AOk k A→g.Ok s→Loc g env X σ ω s.heap→out.length+x.length≤sizeLine→
 wpAny (model g.prog g.w) A (joinParts out (evalEach es env)) (fun v s'=>0 < s'.toks→g.Ok s'∧Kp g s.heap s'.heap∧Rd g X s'.heap (.str (out++x)) v) E s
theorem jo_ (G:g.Good):Fs g k env X σ ω [] ⟨#[]⟩:=fun A s E out a O L M=>joinParts_nil (fun ht=>⟨Ok.toks G O ht,Kp.refl,by
  have:out++(⟨#[]⟩:Str)=out:=by refine (?_:Str.mk (out.cps++ #[])=out); rfl
  refine sb this ?_; simp⟩) (by exact Nat.le_of_add_right_le M)
theorem ak_ (x y:Str):(x++y).length=x.length+y.length:=by refine (?_:(x.cps++y.cps).size=_); simp [Str.length]
theorem d1_ (x y z:Str):(x++y)++z=x++(y++z):=by refine (?_:Str.mk ((x.cps++y.cps)++z.cps)=Str.mk (x.cps++(y.cps++z.cps))); simp
theorem cv_ {e:Expr}{es:List Expr}{x y:Str}(Z:Ev g k env X σ ω e (.str x))(M:Fs g k env X σ ω es y):Fs g k env X σ ω (e::es) (x++y):=fun A s E out a O L T=>by
 rw [ak_] at T
 refine joinParts_cons (Z.use a O L fun v q m o B C=> ?_)
 rw [rd_str] at C
 obtain ⟨t,rfl⟩:=C
 refine ⟨by exact sb (ak_ ..) (O22 T), ?_⟩
 refine wpAny_mono (M A q E (out++x) a m B (by exact sb (ak_ ..) (O23 T))) (fun v D p ht=> ?_) fun _ _ x=>x
 obtain ⟨p1,p2,p3⟩:=p ht
 exact I0_3 p1 (o.trans p2) (by exact sy (d1_ ..) p3)
theorem g0_ {P Q:Expr}{R:List Expr}{pos:Pos}{x:Str}(h:Fs g k env X σ ω (P::Q::R) x)(M:x.length≤sizeLine):Ev g k env X σ ω (.JoinedStr (P::Q::R) pos) (.str x):=eA_ fun A s E a O L=>
 JoinedStr_many (wpAny_mono (h A s E Str.empty a O L (by refine (?_:(0:Nat)+_≤_); exact O24 M)) (fun v q p ht=>by
  have:Str.empty++x=x:=by refine (?_:Str.mk (#[]++x.cps)=x); simp
  rw [this] at p; exact p ht) fun _ _ x=>x)
theorem gZ_ (G:g.Good){e:Expr}{pos:Pos}{x:Str}(Z:Ev g k env X σ ω e (.str x))(M:x.length≤sizeLine):Ev g k env X σ ω (.FormattedValue e (-1) none pos) (.str x):=eA_ fun A s E a O L=>
 FormattedValue_plain (Z.use a O L fun v q m o B C=>by
  rw [rd_str] at C
  obtain ⟨t,rfl⟩:=C
  exact formatField_str (fun t' tk ht=>(I0_3 (Ok.toks G m ht) o (by simp))) M)
end
section
variable {g:GC}{k:Nat}{hF:Heap}{env:Env}{Xo:Addr→Prop}{F B:List Addr}{X:Addr→Prop}{σ σ' aE:List (Str×PV)}{ω:List (Addr×OC)}{s s':Shared}{h h':Heap}
theorem bL_ {h h':Heap}(e:Heap.ExtBut h.objs.size h h'):∀b o,h.get? b=some o→h'.get? b=some o:=fun b o q=>e b o (fun n=>absurd (n▸Heap.lt_size q) (Nat.lt_irrefl _)) q
theorem fC_ {b:Addr}:av Xo (B++F) [] b↔av Xo F B b:=by
 unfold av
 rw [List.mem_append]
 constructor
 ·rintro (h | (h | h) | h)
  ·exact .inl h
  ·exact .inr (.inr h)
  ·exact .inr (.inl h)
  ·cases h
 ·rintro (h | h | h)
  ·exact .inl h
  ·exact .inr (.inl (.inr h))
  ·exact .inr (.inl (.inl h))
theorem iI_ {p v}(r:Rd g (av Xo F B) h p v):Rd g (av Xo (B++F) []) h p v:=an_ ⟨fun b o _ e=>e,fun b o n _ q=>n (fC_.mp q)⟩ _ _ r
theorem ki_ {p v}(r:Rd g (av Xo (B++F) []) h p v):Rd g (av Xo F B) h p v:=an_ ⟨fun b o _ e=>e,fun b o n _ q=>n (fC_.mpr q)⟩ _ _ r
theorem LS.storeR (G:g.Good)(S:LS g hF env Xo F B σ ω s){x:Str}{pv:PV}{v:Value}(hk:Kd env x)(ae:(x==("__classdict__" :Str))=false)(hr:Rd g (av Xo F B) s.heap pv v)
  {A E} {Q:Unit→Shared→Prop} (c:∀s',LS g hF env Xo F B (upd x pv σ) ω s'→(∀q w,Rd g (av Xo F B) s.heap q w→Rd g (av Xo F B) s'.heap q w)→Q () s'):wpAny (model g.prog g.w) A (storeName env x v) Q E s:=
 S.rebase.store G hk ae (iI_ hr) fun s' S'=>c s' (S.chain S' fun a oc h=>S.oM a oc h) fun q w r=>ki_ (an_ ⟨fun b o n e=>S'.base b o (fun q=>n (q▸S.rebase.loc.ptX)) (fun q=>n (.inr (.inl q))) e,fun b o n _=>n⟩ _ _ (iI_ r))
theorem fD_ (G:g.Good){x y:Str}{px py tp:Pos}{kk:Nat}{p q:PV}(hx:Kd env x)(hy:Kd env y)(ak:autoParam ((x==("__classdict__" :Str))=false) aQ0)(aj:autoParam ((y==("__classdict__" :Str))=false) aQ0):
  Asg g k env (.Tuple [.Name x px, .Name y py] kk tp) (.tup [p,q]) σ (upd y q (upd x p σ)):=fun {hF Xo F B ω s A E v Q} a S r c=>by
 rw [ck_] at r
 obtain ⟨t,vs,rfl,_,ht,hr⟩:=r
 rw [am_] at hr
 obtain ⟨u,r1,e,hu,hr⟩:=hr
 rw [am_] at hr
 obtain ⟨w,r2,rfl,hw,hr⟩:=hr
 rw [aG_] at hr; subst hr
 have ai:vs.size=2:=by have:=congrArg List.length e; simpa using this
 refine wpAny_assign_Tuple a.1 ht (by refine sb ai ?_; rfl) rfl fun h' i=> ?_
 refine sb e ?_
 have S':LS g hF env Xo F B σ ω {s with heap:=h'}:=S.kp (S.ok.keep G (tk:=s.toks) (bL_ i) S.ok.tok) (Kp.of (bL_ i))
 have C:=S.loc.xok.carry (Kp.of (g:=g) (bL_ i))
 refine (?_:wpAny _ A (do holding [w] (assign (.Name x px) env u); assignInOrder [assign (.Name y py) env] [w]) _ _ _)
 refine wpAny_bind (wpAny_holding (wpAny_assign_Name (S'.storeR G hx ak (an_ C _ _ hu) fun M R K=> ?_)))
 refine (?_:wpAny _ A (do holding [] (assign (.Name y py) env w); assignInOrder [] []) _ _ _)
 exact wpAny_bind (wpAny_holding (wpAny_assign_Name (R.store G hy aj (K _ _ (an_ C _ _ hw)) fun N am=>wpAny_pure (c N am))))
theorem eL_ (G:g.Good){x y:Str}{px py tp:Pos}{kk:Nat}{p q:PV}(hx:env.kindOf x=some .local)(hy:env.kindOf y=some .local):
  AsgL g k env (.Tuple [.Name x px, .Name y py] kk tp) (.tup [p,q]) σ (upd y q (upd x p σ)):=fun {X s A E v Q} a O L hG r c=>by
 rw [ck_] at r
 obtain ⟨t,vs,rfl,_,ht,hr⟩:=r
 rw [am_] at hr
 obtain ⟨u,r1,e,hu,hr⟩:=hr
 rw [am_] at hr
 obtain ⟨w,r2,rfl,hw,hr⟩:=hr
 rw [aG_] at hr; subst hr
 have ai:vs.size=2:=by have:=congrArg List.length e; simpa using this
 refine wpAny_assign_Tuple a.1 ht (by refine sb ai ?_; rfl) rfl fun h' i=> ?_
 refine sb e ?_
 have O':g.Ok {s with heap:=h'}:=O.keep G (tk:=s.toks) (bL_ i) O.tok
 have L':Loc g env X σ [] h':=L.kp (Kp.of (bL_ i)) O'.pt
 have C:=L.xok.carry (Kp.of (g:=g) (bL_ i))
 refine (?_:wpAny _ A (do holding [w] (assign (.Name x px) env u); assignInOrder [assign (.Name y py) env] [w]) _ _ _)
 refine wpAny_bind (wpAny_holding (wpAny_assign_Name (L'.storeL G O' hG hx (an_ C _ _ hu) fun M V U ah=> ?_)))
 have C2:bE_ X X h' M.heap:=⟨fun b o n e=>ah.extBut b o (fun q=>n (q▸L.lX)) e,fun b o n _=>n⟩
 refine (?_:wpAny _ A (do holding [] (assign (.Name y py) env w); assignInOrder [] []) _ _ _)
 refine wpAny_bind (wpAny_holding (wpAny_assign_Name (U.storeL G V hG hy (an_ C2 _ _ (an_ C _ _ hw)) fun N P al aw=>wpAny_pure (c N P al fun b o _ n e=> ?_))))
 exact aw.extBut b o n (ah.extBut b o n (bL_ i b o e))
section
variable {A:Around}{E:Value→Shared→Prop}{Q:Flow→Shared→Prop}{I:List Stmt}
theorem it_ (G:g.Good){x y:Str}{px py tp pos:Pos}{kk:Nat}{e:Expr}{p q:PV}(S:LS g hF env Xo F B σ ω s)(a:AOk k A)(he:Ev g k env (av Xo F B) σ ω e (.tup [p,q]))(hx:Kd env x)(hy:Kd env y)
  (c:∀s',LS g hF env Xo F B (upd y q (upd x p σ)) ω s'→Wp g A env I Q E s') (ak:autoParam ((x==("__classdict__" :Str))=false) aQ0) (aj:autoParam ((y==("__classdict__" :Str))=false) aQ0)
  (hs:autoParam (swapsWithSole [.Tuple [.Name x px, .Name y py] kk tp] e pos.line env=pure false) aQ4) (hw:swappedStores [.Tuple [.Name x px, .Name y py] kk tp] e env=pure none:=by exact Eq.refl (pure none)):
  Wp g A env (.Assign [.Tuple [.Name x px, .Name y py] kk tp] e pos::I) Q E s:=
 b4_ (Assign_Tuple (he.use a S.ok S.loc fun v T j D aa J=>fD_ G hx hy ak aj a (S.kp j D) J fun M R=>c M R) hs hw)
theorem iu_ (G:g.Good){x y:Str}{px py tp pos:Pos}{kk:Nat}{e:Expr}{p q:PV}(S:LS g hF env Xo F B σ ω s)(a:AOk k A)(he:Ev g k env (av Xo F B) σ ω e (.tup [p,q]))(hx:Kd env x)(hy:Kd env y)
  (c:∀s',LS g hF env Xo F B (upd x p (upd y q σ)) ω s'→Wp g A env I Q E s') (ak:autoParam ((x==("__classdict__" :Str))=false) aQ0) (aj:autoParam ((y==("__classdict__" :Str))=false) aQ0)
  (hs:autoParam (swapsWithSole [.Tuple [.Name x px, .Name y py] kk tp] e pos.line env=pure false) aQ4) (hw:autoParam (swappedStores [.Tuple [.Name x px, .Name y py] kk tp] e env=pure (some [x,y])) aQ6):
  Wp g A env (.Assign [.Tuple [.Name x px, .Name y py] kk tp] e pos::I) Q E s:=by
 refine b4_ (Assign_Tuple_swapped (names:= [x,y]) (he.use a S.ok S.loc fun v T j D aa J=> ?_) hs hw)
 rw [ck_] at J
 obtain ⟨t,vs,rfl,_,ht,hr⟩:=J
 rw [am_] at hr
 obtain ⟨u,r1,e,hu,hr⟩:=hr
 rw [am_] at hr
 obtain ⟨w,r2,rfl,hw,hr⟩:=hr
 rw [aG_] at hr; subst hr
 have ai:vs.size=2:=by have:=congrArg List.length e; exact this
 refine (?_:wpAny _ A (unpackItems (.ref t) 2 none) _ _ _)
 refine sy ai ?_
 refine wpAny_unpackItems_tuple a.1 ht fun h' i=> ?_
 refine sb e ?_
 have H:=S.kp j D
 have S':LS g hF env Xo F B σ ω {T with heap:=h'}:=H.kp (H.ok.keep G (tk:=T.toks) (bL_ i) H.ok.tok) (Kp.of (bL_ i))
 have C:=H.loc.xok.carry (Kp.of (g:=g) (bL_ i))
 refine (?_:wpAny _ A (do holding [u] (bindName env y w); assignInOrder [fun v=>bindName env x v] [u]) _ _ _)
 refine wpAny_bind (wpAny_holding (bindName_ (S'.storeR G hy aj (an_ C _ _ hw) fun M R K=> ?_)))
 refine (?_:wpAny _ A (do holding [] (bindName env x u); assignInOrder [] []) _ _ _)
 exact wpAny_bind (wpAny_holding (bindName_ (R.store G hx ak (K _ _ (an_ C _ _ hu)) fun N am=>wpAny_pure (c N am))))
theorem cz_ (G:g.Good){x:Str}{px pos:Pos}{op:Operator}{e:Expr}{p q o:PV}(S:LS g hF env Xo F B σ ω s)(a:AOk k A)(hx:(x,p)∈σ)(he:Ev g k env (av Xo F B) σ ω e q)
  (ho:Op g k (av Xo F B) [p,q] (fun vs=>inplaceOp op (vs.getD 0 .none) (vs.getD 1 .none)) o) (hk:Kd env x)
  (c:∀s',LS g hF env Xo F B (upd x o σ) ω s'→Wp g A env I Q E s') (ae:autoParam ((x==("__classdict__" :Str))=false) aQ0) (hd:autoParam ((x==("__debug__" :Str))=false) aQ0)
  (hl:autoParam (∀ap,eval (.Name x ap) env=(do standAt ap; loadName env x)) aQ2):
  Wp g A env (.AugAssign (.Name x px) op e pos::I) Q E s:=by
 have au:∀A s E,AOk k A→g.Ok s→Loc g env (av Xo F B) σ ω s.heap→wpAny (model g.prog g.w) A (loadName env x) (fun v s'=>g.Ok s'∧Kp g s.heap s'.heap∧Rd g (av Xo F B) s'.heap p v) E s:=fun A s E a O L=>by
  rcases L.vars x p hx with hl | ⟨hk,ae,c,v,hc,hcell,hr⟩
  ·obtain ⟨m,hn,hv⟩:=L.ns
   obtain ⟨v,e,r⟩:=hv x p hx hl
   exact wpAny_loadName_local L.fn hl hn e ⟨O,Kp.refl,r⟩
  ·rcases hk with hk | hk
   ·exact wpAny_loadName_cell L.fn hk hc hcell ⟨O,Kp.refl,hr⟩
   ·exact wpAny_loadName_free L.fn hk hc hcell ⟨O,Kp.refl,hr⟩ ae
 refine b4_ (wpAny_AugAssign_Name (wpAny_mono (au A s E a S.ok S.loc) (fun v T p1=> ?_) fun _ _ x=>x))
 obtain ⟨j,D,J⟩:=p1
 have H:=S.kp j D
 refine he.use a j H.loc fun u M V Z U ac=> ?_
 have R:=H.kp V Z
 exact ho.use (vs:= [v,u]) a V U.xok (by rw [am_]; exact I2_3 v [u] rfl (dC_ H.loc.xok Z J) (bn_ ac)) fun z N P Y ab=>(R.kp P Y).store G hk ae ab c
theorem cj_ (G:g.Good){a b:Int}:Op g k X [.int a, .int b] (fun vs=>inplaceOp .Add (vs.getD 0 .none) (vs.getD 1 .none)) (.int (a+b)):=op2 fun A s E v u _ O _ hv hu=>by
 rw [rd_int] at hv hu
 obtain ⟨t,rfl⟩:=hv
 obtain ⟨u,rfl⟩:=hu
 exact iadd_int fun ht=>(I0_3 (Ok.toks G O ht) Kp.refl (by simp))
theorem ff_ (G:g.Good){x y:Str}(hs:x.length+y.length≤sizeLine):Op g k X [.str x, .str y] (fun vs=>inplaceOp .Add (vs.getD 0 .none) (vs.getD 1 .none)) (.str (x++y)):=op2 fun A s E v u _ O _ hv hu=>by
 rw [rd_str] at hv hu
 obtain ⟨t,rfl⟩:=hv
 obtain ⟨u,rfl⟩:=hu
 exact iadd_str (fun t' tk ht=>(I0_3 (Ok.toks G O ht) Kp.refl (by simp))) hs
theorem di_ {e:Expr}{pos:Pos}(S:LS g hF env Xo F B σ ω s)(a:AOk k A)(he:EvT g k env (av Xo F B) σ ω e true)(c:∀s',LS g hF env Xo F B σ ω s'→Wp g A env I Q E s'):
  Wp g A env (.Assert e none pos::I) Q E s:=
 b4_ (wpAny_Assert_new a.1 (he.use a S.ok S.loc fun T j D aa=>by exact sb (if_pos rfl) (c T (S.kp j D))))
end
theorem jr_ {l m r:Expr}{o1 o2:CmpOp}{pos:Pos}{p q q2:PV}{b c:Bool}(hl:Ev g k env X σ ω l p)(hm:Ev g k env X σ ω m q)(hr:Ev g k env X σ ω r q2)
  (h1:Op g k X [p,q] (fun vs=>compareOp o1 (vs.getD 0 .none) (vs.getD 1 .none)) (.bool b)) (h2:Op g k X [q,q2] (fun vs=>compareOp o2 (vs.getD 0 .none) (vs.getD 1 .none)) (.bool c))
  (hk:autoParam (lastMarks [o1,o2] [m,r]=false) aQ5):EvT g k env X σ ω (.Compare l [o1,o2] [m,r] pos) (b && c):= .mk fun A s E a O L=>by
 refine isTrue_chain (hl.use a O L fun v T j D aa J=> ?_) hk
 refine test_link (hm.use a j aa fun u M V Z U ac=>h1.use (vs:= [v,u]) a V U.xok (by rw [am_]; exact I2_3 v [u] rfl (dC_ aa.xok Z J) (bn_ ac)) fun z N P Y ab=> ?_)
 rw [rd_bool] at ab; subst ab
 refine wpAny_truthy_bool ?_
 have af:=(D.trans Z).trans Y
 have al:=U.kp Y P.pt
 cases b with
 | false => exact I0_3 P af rfl
 | true=>
  refine sb (if_pos rfl) ?_
  refine test_last (hr.use a P al fun w a9 a3 aq a5 a0=>h2.use (vs:= [u,w]) a a3 a5.xok (by rw [am_]; exact I2_3 u [w] rfl (dC_ U.xok (Y.trans aq) ac) (bn_ a0)) fun z aB a1 a6 ar=> ?_)
  rw [rd_bool] at ar; subst ar
  exact wpAny_truthy_bool (I0_3 a1 ((af.trans aq).trans a6) rfl)
end
noncomputable def bP_:PV:= .dct [⟨#[]⟩] []
theorem aK_ {g:GC}{X:Addr→Prop}{h:Heap}{v:Value}(r:Rd g X h bP_ v):False:=by
 unfold bP_ at r
 rw [fR_] at r
 refine X2_5 r fun a vs _ _ _ L B=> ?_
 rw [aG_] at B; subst B; contradiction
theorem fh_ {a b:Int}(h:Builtin.Int.intBits b≤shortFactorBits):IntMulOk a b:=by
 unfold IntMulOk
 refine sb (show decide (Builtin.Int.intBits b>shortFactorBits)=false from decide_eq_false (by exact O25 h)) ?_
 simp
theorem fi_ {a b:Int}(h:Builtin.Int.intBits a≤shortFactorBits):IntMulOk a b:=by
 unfold IntMulOk
 rw [show decide (Builtin.Int.intBits a>shortFactorBits)=false from decide_eq_false (by exact O25 h)]
 simp
theorem aF_ (a:Int){b:Int}(hb:0 < b):0≤Int.fmod a b∧Int.fmod a b < b:=⟨Int.fmod_nonneg_of_pos a hb,Int.fmod_lt_of_pos a hb⟩
noncomputable def six (x:Str)(i:Int):Str:=⟨#[x.cps.toList.getD (if i < 0 then i+x.length else i).toNat 0]⟩
noncomputable def lix {C:Type}(l:List C)(d:C)(i:Int):C:=l.getD (if i < 0 then i+l.length else i).toNat d
theorem dd_ (x:Str)(i:Int):(six x i).length=1:=rfl
theorem bw_ {i:Int}{n:Nat}(h: -(n:Int)≤i∧i < n):seqIndex? i n=some (if i < 0 then i+n else i).toNat:=by
 unfold seqIndex?
 dsimp only
 rw [if_pos]
 simp only [Bool.and_eq_true,decide_eq_true_eq]
 split <;>(first | exact O26 h ‹_› | exact O27 h ‹_›)
section
variable {g:GC}{k:Nat}{K:Heap}{env:Env}{Xo:Addr→Prop}{N J:List Addr}{X:Addr→Prop}{σ σ' M:List (Str×PV)}{ω:List (Addr×OC)}{s s':Shared}{h h':Heap}
theorem j4_ {x:Str}{i:Int}(hb: -(x.length:Int)≤i∧i < x.length):∃c,(seqIndex? i x.length).bind (x.cps[·]?)=some c∧six x i=⟨#[c]⟩:=by
 refine sb (bw_ hb ..) (sb (Option.bind_some ..) ?_)
 have u:(if i < 0 then i+(x.length:Int) else i).toNat < x.cps.size:=by
  have:x.length=x.cps.size:=rfl
  split <;>(first | exact O28 hb ‹_› this | exact O29 hb this)
 refine I1_2 (x.cps[(if i < 0 then i+(x.length:Int) else i).toNat]) (by simp [u]) ?_
 unfold six
 simp [List.getD,u]
theorem av_ (G:g.Good){j f:Expr}{pos:Pos}{x:Str}{i:Int}(E:Ev g k env X σ ω j (.str x))(hi:Ev g k env X σ ω f (.int i))
  (hb: -(x.length:Int)≤i∧i < x.length) (u:x.length < 2 ^ 63) (w:autoParam (∀o i,∃z,subscripted f false o i=operate z (getItem o i)) aQ3):
  Ev g k env X σ ω (.Subscript j f pos) (.str (six x i)):=by
 refine X1_2 (j4_ hb) fun c L B=> ?_
 refine sb B ?_
 exact gY_ G E hi (by exact O30 hb u) L w
theorem mK_ {ys:List Str}{i:Int}(hb: -(ys.length:Int)≤i∧i < ys.length):at? (txts ys) i=some (.str (lix ys ⟨#[]⟩ i)):=by
 delta at? lix
 refine sb (List.length_map ..) (sb (bw_ hb ..) (sb (Option.bind_some ..) ?_))
 have u:(if i < 0 then i+(ys.length:Int) else i).toNat < ys.length:=by split <;>(first | exact O31 hb ‹_› | exact O32 hb)
 simp [List.getD,u]
theorem a9_ {j f:Expr}{pos:Pos}{ys:List Str}{i:Int}(E:Ev g k env X σ ω j (.lst (txts ys)))(hi:Ev g k env X σ ω f (.int i))
  (hb: -(ys.length:Int)≤i∧i < ys.length) (u:ys.length < 2 ^ 63) (w:autoParam (∀o i,∃z,subscripted f false o i=operate z (getItem o i)) aQ3):
  Ev g k env X σ ω (.Subscript j f pos) (.str (lix ys ⟨#[]⟩ i)):=ay_ E hi (by exact O30 hb u) (mK_ hb) w
theorem cp_ {t x y:Expr}{pos:Pos}{b:Bool}{p q:Str}(ht:EvT g k env X σ ω t b)(hx:b=true→Ev g k env X σ ω x (.str p))(hy:b=false→Ev g k env X σ ω y (.str q)):Ev g k env X σ ω (.IfExp t x y pos) (.str (bif b then p else q)):=by
 cases b with
 | true => exact ds_ ht hx (fun h=>nomatch h)
 | false => exact ds_ ht (fun h=>nomatch h) hy
theorem f9_ {t x y:Expr}{pos:Pos}{b:Bool}{p q:Int}(ht:EvT g k env X σ ω t b)(hx:b=true→Ev g k env X σ ω x (.int p))(hy:b=false→Ev g k env X σ ω y (.int q)):Ev g k env X σ ω (.IfExp t x y pos) (.int (bif b then p else q)):=by
 cases b with
 | true => exact ds_ ht hx (fun h=>nomatch h)
 | false => exact ds_ ht (fun h=>nomatch h) hy
theorem e5_ {m:List (Str×PV)}:∀p∈([]:List (Str×PV)),p∈m:=fun _ h=>nomatch h
theorem aW_ {m l:List (Str×PV)}{q:Str×PV}(h:q∈m)(w:∀p∈l,p∈m):∀p∈q::l,p∈m:=fun p hp=>by
 rcases List.mem_cons.mp hp with rfl | hp
 ·exact h
 ·exact w p hp
noncomputable def lkS (m:List (Str×PV))(x:Str):Option PV:=List.rec (motive:=fun _=>Option PV) none (fun p _ r=>bif p.1==x then some p.2 else r) m
theorem nd_ {x:Str}{v:PV}{m:List (Str×PV)}:lkS m x=some v→(x,v)∈m:=by
 induction m with
 | nil => exact fun h=>nomatch h
 | cons p r I=>
  refine (?_:(bif p.1==x then some p.2 else lkS r x)=some v→_)
  cases e:p.1==x with
  | true => intro h; cases h; exact eq_of_beq e▸ .head _
  | false => exact fun h=> .tail _ (I h)
theorem sq {m l:List (Str×PV)}(h:l.map (fun p=>lkS m p.1)=l.map fun p=>some p.2:=by kernel_rfl):∀p∈l,p∈m:=by
 induction l with
 | nil => exact e5_
 | cons q l I => exact aW_ (nd_ (List.cons.inj h).1) (I (List.cons.inj h).2)
theorem aT_ (G:g.Good){A:List Expr}{pos:Pos}{ys:List Str}(H:EvL g k env X σ ω A (txts ys))(D:ys.length≤sizeLine):Ev g k env X σ ω (.List A pos) (.lst (txts ys)):=eB_ G H (by exact sb (List.length_map ..) D)
theorem aD_:EvL g k env X σ ω [] (txts []):=ag_
theorem aj_ {e:Expr}{A:List Expr}{y:Str}{ys:List Str}(H:Ev g k env X σ ω e (.str y))(w:EvL g k env X σ ω A (txts ys))
  (F:autoParam (nst e=true) aQ1):EvL g k env X σ ω (e::A) (txts (y::ys)):=ac_ H w F
theorem LS.as (S:LS g K env Xo N J σ ω s)(σ':List (Str×PV))(h:∀p∈σ',p∈σ):LS g K env Xo N J σ' ω s:=S.weak h (fun _ h=>h) S.once
end
section
variable {g:GC}{k:Nat}{hF:Heap}{env:Env}{Xo:Addr→Prop}{M0 T:List Addr}{X:Addr→Prop}{σ σ' ac:List (Str×PV)}{ω:List (Addr×OC)}{s s':Shared}{h h':Heap}
theorem c7_ {ob:Expr}{name:Str}{apos pos:Pos}{args:List Expr}(F:∀j,attributeBase ob name env j=j)(N:methodCallForm (args.length+0) (backTo pos (starEach args env)) (backToKw pos (keywordEach [] env))=true)(hp:(apos.endLine==pos.line)=true):
  eval (.Call (.Attribute ob name apos) args [] pos) env=(do
     let P ← eval ob env
     standAt apos.atName
     match ← holding [P] (getMethod P name (do return (← importBound ob env).getD true)) with
      | (f, first) => callWith pos f first (backTo pos (starEach args env)) []):=by
 show (do
  let P ← attributeBase ob name env (eval ob env)
  standAt apos.atName
  methodCall ob name apos pos env P (args.length+0) (backTo pos (starEach args env)) (backToKw pos (keywordEach [] env)))=_
 refine sb (F ..) ?_
 delta methodCall calleeOf methodCallPos
 refine sb N (sb hp ?_)
 rfl
theorem ce_ {ob e:Expr}{L:List Expr}{name:Str}{apos pos:Pos}{id:String}{p:PV}{ps:List PV}{o:PV}(I:Ev g k env X σ ω ob p)(hm:Mth g p X name id)(he:EvL g k env X σ ω (e::L) ps)
  (U:Op g k X (p::ps) (fun vs=>call (.builtin id) vs) o) (V:autoParam (∀pos,(backTo pos (starEach L env)).any (·.1)=false) aQ2) (O:autoParam (nst e=true) aQ1) (hn:starEach (e::L) env=(false,eval e env)::starEach L env:=bT_ O)
  (F:autoParam (∀j,attributeBase ob name env j=j) aQ9) (N:autoParam (methodCallForm ((e::L).length+0) (backTo pos (starEach (e::L) env)) (backToKw pos (keywordEach [] env))=true) aQ1) (hp:autoParam ((apos.endLine==pos.line)=true) aQ1):
  Ev g k env X σ ω (.Call (.Attribute ob name apos) (e::L) [] pos) o:=ms_ I hm he U V O hn ⟨_,c7_ F N hp⟩
theorem gV_ {ob:Expr}{name:Str}{apos pos:Pos}{id:String}{p:PV}{o:PV}(I:Ev g k env X σ ω ob p)(hm:Mth g p X name id)(U:Op g k X [p] (fun vs=>call (.builtin id) vs) o)
  (F:autoParam (∀j,attributeBase ob name env j=j) aQ9) (N:autoParam (methodCallForm (([]:List Expr).length+0) (backTo pos (starEach [] env)) (backToKw pos (keywordEach [] env))=true) aQ1) (hp:autoParam ((apos.endLine==pos.line)=true) aQ1):
  Ev g k env X σ ω (.Call (.Attribute ob name apos) [] [] pos) o:=kN_ I hm U ⟨_,c7_ F N hp⟩
theorem js_ (G:g.Good){ob:Expr}{apos pos p1 p2:Pos}{n1 n2:Nat}{x y z:Str}(I:Ev g k env X σ ω ob (.str x))(Y:(y==z)=false)(hb:x.length+(x.length+1)*z.length≤16777216)
  (F:autoParam (∀j,attributeBase ob "replace" env j=j) aQ9) (hp:autoParam ((apos.endLine==pos.line)=true) aQ1):
  Ev g k env X σ ω (.Call (.Attribute ob "replace" apos) [.Constant (.str y) n1 p1, .Constant (.str z) n2 p2] [] pos) (.str (Txt.replace x y z)):=h7_ G I Y hb ⟨_,c7_ F (by rfl) hp⟩
theorem fu_ {m:Type}{ι:m→PV}{κ:PV→m}(n:∀x,κ (ι x)=x)(b:m→Bool)(f:m→PV):∀l:List m,((l.map ι).filter (fun pv=>b (κ pv))).map (fun pv=>f (κ pv))=(l.filter b).map f
 | [] => rfl
 | x :: l => by
  refine sb (List.map_cons ..) (sb (List.filter_cons ..) (sb (List.filter_cons ..) (sb (n ..) ?_)))
  cases b x with
  | false => exact fu_ n b f l
  | true=>
   exact sb (if_pos rfl ..) (sb (if_pos rfl ..) (sb (List.map_cons ..) (sb (List.map_cons ..) (sb (n ..) (sb (fu_ n b f l ..) rfl)))))
structure gp_ (g:GC)(k:Nat)(env:Env)(σ:List (Str×PV))(t i:Expr)(u:List Expr)(scope:Scope)(cl:List (Str×Addr))(σc:List (Str×PV)){m:Type}(ι:m→PV)(l:List m)(σt:m→List (Str×PV))(b:m→Bool)(f:m→PV):Prop where
 hcl:∀x c,cl.lookup x=some c→env.cells.lookup x=some c
 hcell:∀y∈scope.names,y.2≠ .cell
 hkind:scope.kind= .function
 hnames:∀x∈scope.names,x.2= .local→scope.names.lookup x.1=some .local
 hcap:∀q∈σc,q∈σ∧env.kindOf q.1≠some .local∧(cl.lookup q.1).isSome=true∧∀C,(compEnvC scope cl C env).kindOf q.1=some .cell∨(compEnvC scope cl C env).kindOf q.1=some .free
 htgt:∀x∈l,∀C,AsgL g k (compEnvC scope cl C env) i (ι x) σc (σt x)
 hback:∀x∈l,∀q∈σc,q∈σt x
 htest:∀x∈l,∀X C,hk_ g k (compEnvC scope cl C env) X (σt x) u (b x)
 helt:∀x∈l,b x=true→∀X C,Ev g k (compEnvC scope cl C env) X (σt x) [] t (f x)
theorem hH_ (G:g.Good){t i iter:Expr}{u:List Expr}{scope:Scope}{pos:Pos}{cl:List (Str×Addr)}{p:PV}{m:Type}{ι:m→PV}(κ:PV→m){l:List m}{σc:List (Str×PV)}{σt:m→List (Str×PV)}{b:m→Bool}{f:m→PV}
  (n:∀x,κ (ι x)=x) (hi:Ev g k env X σ ω iter p) (v:∀X,Its g X p (l.map ι)) (D:l.length≤sizeLine) (r:closureFor scope env=pure cl)
  (H:gp_ g k env σ t i u scope cl σc ι l σt b f) (M:autoParam (∀x,foldedSetIterable iter env x=pure x) aQ2):
  Ev g k env X σ ω (.ListComp t [⟨i,iter,u,0⟩] scope pos) (.lst ((l.filter b).map f)):=by
 refine sy (fu_ n b f l) ?_
 refine mu_ G cl σc (fun pv=>σt (κ pv)) (fun pv=>b (κ pv)) (fun pv=>f (κ pv)) hi v (by exact sb (List.length_map ..) D) r H.hcl H.hcell H.hkind H.hnames H.hcap (fun pv hp C=> ?_) (fun pv hp=> ?_) (fun pv hp X C=> ?_) (fun pv hp hb X C=> ?_) M
 all_goals obtain ⟨x,hx,rfl⟩:=List.mem_map.mp hp
 ·rw [n]; exact H.htgt x hx C
 ·exact sb (n ..) (H.hback x hx)
 ·exact sb (n ..) (H.htest x hx X C)
 ·rw [n] at hb ⊢; exact H.helt x hx hb X C
section
variable {A:Around}{E:Value→Shared→Prop}{Q:Flow→Shared→Prop}{J:List Stmt}
theorem cZ_ (G:g.Good){y:Str}{py K:Pos}{t i iter:Expr}{u:List Expr}{scope:Scope}{pos:Pos}{cl:List (Str×Addr)}{p:PV}{m:Type}{ι:m→PV}(κ:PV→m){l:List m}{σc:List (Str×PV)}{σt:m→List (Str×PV)}{b:m→Bool}{f:m→PV}
  (S:LS g hF env Xo M0 T σ ω s) (a:AOk k A) (hp:Xo g.Pt) (n:∀x,κ (ι x)=x) (hi:Ev g k env (av Xo M0 T) σ ω iter p) (v:∀X,Its g X p (l.map ι)) (D:l.length≤sizeLine) (r:closureFor scope env=pure cl)
  (H:gp_ g k env σ t i u scope cl σc ι l σt b f)
  (c:∀s',LS g hF env Xo M0 T (upd y (.lst ((l.filter b).map f)) σ) ω s'→Wp g A env J Q E s')
  (Z:swapsWith (.ListComp t [⟨i,iter,u,0⟩] scope pos) (some (.Name y py)) K.line env=pure true:=by exact Eq.refl (pure true)) (hy:autoParam (env.kindOf y=some .local) aQ8)
  (R:autoParam ((y==("__classdict__" :Str))=false) aQ0) (M:autoParam (∀x,foldedSetIterable iter env x=pure x) aQ2):
  Wp g A env (.Assign [.Name y py] (.ListComp t [⟨i,iter,u,0⟩] scope pos) K::J) Q E s:=by
 rw [← fu_ n b f l] at c
 refine lG_ G cl σc (fun pv=>σt (κ pv)) (fun pv=>b (κ pv)) (fun pv=>f (κ pv)) S a hp hi v (by exact sb (List.length_map ..) D) Z hy r H.hcl H.hcell H.hkind H.hnames H.hcap (fun pv hp C=> ?_) (fun pv hp=> ?_) (fun pv hp X C=> ?_) (fun pv hp hb X C=> ?_) c R M
 all_goals obtain ⟨x,hx,rfl⟩:=List.mem_map.mp hp
 ·rw [n]; exact H.htgt x hx C
 ·exact sb (n ..) (H.hback x hx)
 ·exact sb (n ..) (H.htest x hx X C)
 ·rw [n] at hb ⊢; exact H.helt x hx hb X C
end
noncomputable abbrev chS (c:Nat):Str:=⟨#[c]⟩
noncomputable abbrev chP (c:Nat):PV:= .str (chS c)
noncomputable def chK:PV→Nat | .str x=>x.cps.getD 0 0 | _=>0
theorem dZ_ (c:Nat):chK (chP c)=c:=rfl
noncomputable def stK:PV→Str | .str x=>x | _=>⟨#[]⟩
theorem dS_ (x:Str):stK (.str x)=x:=rfl
noncomputable def inK:PV→Int | .int x=>x | _=>0
theorem nl_ (x:Int):inK (.int x)=x:=rfl
theorem cm_ (G:g.Good){x:Str}:∀X,Its g X (.str x) (x.cps.toList.map chP):=fun X=>dE_ G
theorem bZ_ (G:g.Good){ys:List Str}:∀X,Its g X (.lst (txts ys)) (ys.map .str):=fun X=>dF_ G
theorem d7_ {m:Type}(f:m→Str)(l:List m):l.map (fun x=>PV.str (f x))=txts (l.map f):=by simp only [txts,List.map_map]; rfl
theorem a5_ (G:g.Good){t i iter:Expr}{u:List Expr}{scope:Scope}{pos:Pos}{cl:List (Str×Addr)}{p:PV}{m:Type}{ι:m→PV}(κ:PV→m){l:List m}{σc:List (Str×PV)}{σt:m→List (Str×PV)}{b:m→Bool}{f:m→Str}
  (n:∀x,κ (ι x)=x) (hi:Ev g k env X σ ω iter p) (v:∀X,Its g X p (l.map ι)) (D:l.length≤sizeLine) (r:closureFor scope env=pure cl)
  (H:gp_ g k env σ t i u scope cl σc ι l σt b (fun x=> .str (f x))) (M:autoParam (∀x,foldedSetIterable iter env x=pure x) aQ2):
  Ev g k env X σ ω (.ListComp t [⟨i,iter,u,0⟩] scope pos) (.lst (txts ((l.filter b).map f))):=by
 refine sy (d7_ f ..) ?_
 exact hH_ G κ n hi v D r H M
theorem kP_ (G:g.Good){t i iter:Expr}{u:List Expr}{scope:Scope}{pos:Pos}{cl:List (Str×Addr)}{p:PV}{m:Type}{ι:m→PV}(κ:PV→m){l:List m}{σc:List (Str×PV)}{σt:m→List (Str×PV)}{b:m→Bool}{f:m→Int}
  (n:∀x,κ (ι x)=x) (hi:Ev g k env X σ ω iter p) (v:∀X,Its g X p (l.map ι)) (D:l.length≤sizeLine) (r:closureFor scope env=pure cl)
  (H:gp_ g k env σ t i u scope cl σc ι l σt b (fun x=> .int (f x))) (M:autoParam (∀x,foldedSetIterable iter env x=pure x) aQ2):
  Ev g k env X σ ω (.ListComp t [⟨i,iter,u,0⟩] scope pos) (.lst (((l.filter b).map f).map .int)):=by
 refine sb List.map_map ?_
 exact hH_ (f:=fun x=> .int (f x)) G κ n hi v D r H M
theorem ip_ {m:Type}{f:m→Nat}{B:Nat}:∀{l:List m},(∀x∈l,f x≤B)→(l.map f).sum≤l.length*B
 | [], _ => by exact Nat.le_of_ble_eq_true rfl
 | x :: l, h => by
  have h1:=h x mQ
  have h2:=ip_ (l:=l) fun y hy=>h y (tQ hy)
  simp only [List.map_cons,List.sum_cons,List.length_cons,Nat.succ_mul]
  exact O33 h1 h2
end
section
variable {g:GC}{k:Nat}{E:Heap}{env:Env}{Xo:Addr→Prop}{F D:List Addr}{X:Addr→Prop}{σ σ' w:List (Str×PV)}{ω:List (Addr×OC)}{s s':Shared}{h h':Heap}
structure Cap (env:Env)(scope:Scope)(cl:List (Str×Addr))(σ:List (Str×PV))(q:Str×PV):Prop where
 mem:q∈σ
 kd:env.kindOf q.1=some .cell∨env.kindOf q.1=some .free
 lk:(cl.lookup q.1).isSome=true
 kd':∀C,(compEnvC scope cl C env).kindOf q.1=some .cell∨(compEnvC scope cl C env).kindOf q.1=some .free
theorem aV_ {scope:Scope}{cl:List (Str×Addr)}:∀q∈([]:List (Str×PV)),Cap env scope cl σ q:=fun _ h=>nomatch h
theorem aN_ {scope:Scope}{cl:List (Str×Addr)}{x:Str}{pv:PV}{l:List (Str×PV)}(hm:(x,pv)∈σ)(t:∀q∈l,Cap env scope cl σ q)(kd:env.kindOf x=some .cell∨env.kindOf x=some .free:=by first | exact .inl rfl | exact .inr rfl)
  (lk:autoParam ((cl.lookup x).isSome=true) aQ1) (kd':∀C,(compEnvC scope cl C env).kindOf x=some .cell∨(compEnvC scope cl C env).kindOf x=some .free:=by intro C; first | exact .inl rfl | exact .inr rfl):∀q∈(x,pv)::l,Cap env scope cl σ q:=fun q hq=>by
 rcases List.mem_cons.mp hq with rfl | hq
 ·exact ⟨hm,kd,lk,kd'⟩
 ·exact t q hq
theorem bp_ {m i:Expr}{n:List Expr}{scope:Scope}{cl:List (Str×Addr)}{σc:List (Str×PV)}{j:Type}{ι:j→PV}{l:List j}{σt:j→List (Str×PV)}{b:j→Bool}{f:j→PV}
  (hcap:∀q∈σc,Cap env scope cl σ q) (htgt:∀x∈l,∀C,AsgL g k (compEnvC scope cl C env) i (ι x) σc (σt x)) (hback:∀x,∀q∈σc,q∈σt x)
  (htest:∀x∈l,∀X C,hk_ g k (compEnvC scope cl C env) X (σt x) n (b x)) (helt:∀x∈l,b x=true→∀X C,Ev g k (compEnvC scope cl C env) X (σt x) [] m (f x))
  (hcl:∀x c,cl.lookup x=some c→env.cells.lookup x=some c) (hcell:autoParam (∀y∈scope.names,y.2≠ .cell) aQ0) (hkind:autoParam (scope.kind= .function) aQ7) (hnames:autoParam (∀x∈scope.names,x.2= .local→scope.names.lookup x.1=some .local) aQ0):
  gp_ g k env σ m i n scope cl σc ι l σt b f where
 hcl:=hcl
 hcell:=hcell
 hkind:=hkind
 hnames:=hnames
 hcap:=fun q hq=>by
  have:=hcap q hq
  refine I0_4 this.mem (fun e=> ?_) this.lk this.kd'
  rcases this.kd with h | h <;>(rw [h] at e; contradiction)
 htgt:=htgt
 hback:=fun x _=>hback x
 htest:=htest
 helt:=helt
theorem cr_ {x:Str}{pv:PV}{σc:List (Str×PV)}(h:(σc.all fun q=>q.1 !=x)=true):∀q∈σc,q∈upd x pv σc:=fun q hq=> .tail _ (List.mem_filter.mpr ⟨hq,List.all_eq_true.mp h q hq⟩)
theorem mD_ {x y:Str}{p q:PV}{σc:List (Str×PV)}(h:(σc.all fun r=>r.1 !=x && r.1 !=y)=true):∀r∈σc,r∈upd y q (upd x p σc):=fun r hr=>by
 have:=List.all_eq_true.mp h r hr
 simp only [Bool.and_eq_true] at this
 exact .tail _ (List.mem_filter.mpr ⟨.tail _ (List.mem_filter.mpr ⟨hr,this.1⟩),this.2⟩)
theorem bH_ {ys:List Str}{sep:Str}(B N:Nat)(A:∀y∈ys,y.length≤B)(z:ys.length≤N)(t:N*B+N*sep.length≤16777216):(ys.map (fun x=>x.length)).sum+ys.length*sep.length≤16777216:=by
 have u:=ip_ (f:=fun y:Str=>y.length) A
 have v:ys.length*B≤N*B:=Nat.mul_le_mul_right _ z
 have h3:ys.length*sep.length≤N*sep.length:=Nat.mul_le_mul_right _ z
 exact O34 t u h3 v
theorem dX_ {j o:Type}(l:List j)(p:j→Bool)(f:j→o):((l.filter p).map f).length≤l.length:=by exact sb (List.length_map ..) (List.length_filter_le _ _)
theorem eY_ {j o:Type}{l:List j}{p:j→Bool}{f:j→o}{P:o→Prop}(h:∀x∈l,p x=true→P (f x)):∀y∈(l.filter p).map f,P y:=fun y hy=>by
 obtain ⟨x,hx,rfl⟩:=List.mem_map.mp hy
 obtain ⟨u,v⟩:=List.mem_filter.mp hx
 exact h x u v
theorem nW_ (x:Str):x.cps.toList.length=x.length:=rfl
end
structure Bl (g:GC)(x:Str)(id:String):Prop where
 no:g.mg x=none
 yes:g.mb x=some (.builtin id)
structure Ty (g:GC)(x:Str)(id:String):Prop where
 no:g.mg x=none
 yes:g.mb x=some (.type id)
structure GN (g:GC):Prop where
 len:Bl g "len" "len"
 ord:Bl g "ord" "ord"
 chr:Bl g "chr" "chr"
 max:Bl g "max" "max"
 isinstance:Bl g "isinstance" "isinstance"
 range:Ty g "range" "range"
 bytes:Ty g "bytes" "bytes"
 bytearray:Ty g "bytearray" "bytearray"
 str:Ty g "str" "str"
 enumerate:Ty g "enumerate" "enumerate"
 object:Ty g "object" "object"
theorem i5_ {b:Type}{l:List b}{d:b}{i:Int}(hb: -(l.length:Int)≤i∧i < l.length):lix l d i∈l:=by
 unfold lix
 have e:(if i < 0 then i+(l.length:Int) else i).toNat < l.length:=by split <;>(first | exact O31 hb ‹_› | exact O32 hb)
 simp [List.getD,e]
section
variable {g:GC}{k:Nat}{env:Env}{X:Addr→Prop}{σ:List (Str×PV)}{ω:List (Addr×OC)}
theorem df_ (G:g.Good){l:List Str}(c:(l.length:Int) < 2 ^ 63):Op g k X [.lst (txts l)] (fun vs=>call (.builtin "len") vs) (.int l.length):=by
 have:=c2_ (k:=k) (X:=X) (l:=txts l) G (by exact sb (List.length_map ..) c)
 rw [List.length_map] at this
 exact this
theorem bW_ (G:g.Good){x:Str}{id:String}{pos:Pos}(B:Bl g x id)(hk:autoParam (env.kindOf x=some .globalImplicit) aQ10)(hd:autoParam ((x==("__debug__" :Str))=false) aQ0):Ev g k env X σ ω (.Name x pos) (.blt id):=lw_ G hk B.no B.yes (fun _=>rd_blt.mpr rfl) hd
theorem dK_ (G:g.Good){x:Str}{id:String}{pos:Pos}(B:Ty g x id)(hk:autoParam (env.kindOf x=some .globalImplicit) aQ10)(hd:autoParam ((x==("__debug__" :Str))=false) aQ0):Ev g k env X σ ω (.Name x pos) (.typ id):=lw_ G hk B.no B.yes (fun _=>rd_typ.mpr rfl) hd
theorem bI_ (G:g.Good){x:Str}{a:Addr}{pos:Pos}(B:g.mg x=some (.ref a))(hk:autoParam (env.kindOf x=some .globalImplicit) aQ10)(hd:autoParam ((x==("__debug__" :Str))=false) aQ0):Ev g k env X σ ω (.Name x pos) (.ref a):=mt_ G hk B (fun _=>rd_ref.mpr rfl) hd
end
section
variable {g:GC}{k:Nat}{hF:Heap}{env:Env}{Xo:Addr→Prop}{M0 M1:List Addr}{X:Addr→Prop}{σ σ' a1:List (Str×PV)}{ω:List (Addr×OC)}{s s':Shared}{h h':Heap}
noncomputable abbrev dUD (p q:PV):PV:= .dct ["U","D"] [p,q]
theorem gH_ {p q o:PV}{x:Str}(hx:(x= "U"∧o=p)∨(x= "D"∧o=q))(G:g.Good):Op g k X [dUD p q, .str x] (fun vs=>getItem (vs.getD 0 .none) (vs.getD 1 .none)) o:=op2 fun A s E v u _ O xo B hu=>by
 refine gn fun P0 ai=> ?_
 rw [fR_] at B; rw [rd_str] at hu
 obtain ⟨a,vs,rfl,_,hd,hl,hr⟩:=B
 obtain ⟨t,rfl⟩:=hu
 rw [am_] at hr
 obtain ⟨v1,r1,rfl,N,hr⟩:=hr
 rw [am_] at hr
 obtain ⟨v2,r2,rfl,V,hr⟩:=hr
 rw [aG_] at hr; subst hr
 refine ai ?_
 rcases hx with ⟨rfl,rfl⟩ | ⟨rfl,rfl⟩
 ·exact wpAny_getItem_of (knd:=strKind g.prog g.w) (k:= "U") (strKind_is _ _ _ _) hd.mapOf (v:=v1) (by rfl) fun ht=>(I0_3 (Ok.toks G O ht) Kp.refl N)
 ·exact wpAny_getItem_of (knd:=strKind g.prog g.w) (k:= "D") (strKind_is _ _ _ _) hd.mapOf (v:=v2) (by rfl) fun ht=>(I0_3 (Ok.toks G O ht) Kp.refl V)
theorem aU_ (G:g.Good){I y:Expr}{pos:Pos}{p q o:PV}{x:Str}(B:Ev g k env X σ ω I (dUD p q))(hi:Ev g k env X σ ω y (.str x))(hx:(x= "U"∧o=p)∨(x= "D"∧o=q))
  (J:autoParam (∀o i,∃ay,subscripted y false o i=operate ay (getItem o i)) aQ3):Ev g k env X σ ω (.Subscript I y pos) o:=dY_ B hi (gH_ hx G) mT_ F.slot_dict_getitem.lookup J
theorem fs_ (G:g.Good){n1 n2:Nat}{p1 p2 pos:Pos}{e1 e2:Expr}{p q:PV}(N:∀X,Ev g k env X σ ω e1 p)(V:∀X,Ev g k env X σ ω e2 q):
  Ev g k env X σ ω (.Dict [some (.Constant (.str "U") n1 p1),some (.Constant (.str "D") n2 p2)] [e1,e2] pos) (dUD p q):=eA_ fun A s E a O L=>by
 have M:s.heap.objs.size≠g.Pt:=fun e=>by refine X1_1 O.pt fun o ho=> ?_; rw [← e] at ho; exact absurd (Heap.lt_size ho) (Nat.lt_irrefl _)
 have ax:¬X s.heap.objs.size:=L.xok.new (Nat.le_refl _)
 refine wpAny_Dict_walk (knd:=strKind g.prog g.w) rfl rfl (by simp) (by refine (?_:(2:Nat)≤15); decide) ?_
 have keep:∀b o,s.heap.get? b=some o→(s.heap.push {cls:= .type "dict",data:= .dict #[]}).get? b=some o:=fun b o e=>Heap.get?_push_of_some _ e
 have ag:g.Ok {s with heap:=s.heap.push {cls:= .type "dict",data:= .dict #[]}}:=O.keep G (tk:=s.toks) keep O.tok
 have Q:(s.heap.push {cls:= .type "dict",data:= .dict #[]}).DictOf (strKind g.prog g.w) s.heap.objs.size []:=Heap.DictOf.new _
 have ae:Loc g env (fun b=>X b∨b=s.heap.objs.size) σ ω (s.heap.push {cls:= .type "dict",data:= .dict #[]}):=L.carry2 ⟨fun b o _ e=>keep b o e,fun b o n e q=>by
   rcases q with q | rfl
   ·exact n q
   ·exact absurd (Heap.lt_size e) (Nat.lt_irrefl _)⟩ (fun _ h=> .inl h) (fun b hb=>by
   rcases hb with hb | rfl
   ·refine X1_1 (L.xs b hb) fun o e=> ?_; exact ⟨o,keep _ _ e⟩
   ·exact ⟨_,Heap.get?_push_size _ rfl⟩) (fun b o _ e=>keep b o e) (fun b hb=>hb.imp id fun q=>by exact sb q (O.none a8_))
 refine pairTrees_cons_walk (wpAny_Constant_str ?_)
 have ah:=Ok.toks G ag (tk:=s.toks+1) (Nat.succ_pos _)
 refine (N _).use a ah ae fun v1 aa Z ak R aj=> ?_
 refine pairTrees_cons_walk (wpAny_Constant_str ?_)
 have af:=Ok.toks G Z (tk:=aa.toks+1) (Nat.succ_pos _)
 refine (V _).use a af R fun v2 z f P a4 ad=> ?_
 refine pairTrees_nil_walk ?_
 have K:Kp g (s.heap.push {cls:= .type "dict",data:= .dict #[]}) z.heap:=Kp.trans ak P
 refine I1_3 [("U",v1),("D",v2)] (I0_5 (strKind_is _ _ _ _) rfl (strKind_is _ _ _ _) rfl trivial) ?_ (fun h' hd J ht=> ?_)
 ·refine X3_2 Q fun o es ep e r=> ?_
  exact I3_2 o es ep (K _ o M e) r
 ·have k':∀b o,b≠s.heap.objs.size→z.heap.get? b=some o→h'.get? b=some o:=fun b o n e=>J.extBut b o n e
  have au:=dC_ R.xok P aj
  have C:bE_ (fun b=>X b∨b=s.heap.objs.size) X z.heap h':=⟨fun b o n e=>k' b o (fun q=>n (.inr q)) e,fun b o n _ q=>n (.inl q)⟩
  obtain ⟨od,a7⟩:∃o,h'.get? s.heap.objs.size=some o:=by refine X3_2 hd fun o es ep e r=> ?_; exact ⟨o,e⟩
  have T:∃o,z.heap.get? s.heap.objs.size=some o∧bg_ o:=by
   refine X3_4 Q fun o es ep e _ r _=> ?_
   exact I1_2 o (K _ o M e) (fun vs Y=>by rw [r] at Y; contradiction)
  refine I0_3 ⟨fun b o n e=> ?_, ?_, ?_,f.gens,f.os,ht⟩ (fun b o n e=> ?_) ?_
  ·refine k' b o ?_ (f.gk b o n e)
   rintro rfl
   have:=O.gk _ o n e
   exact absurd (Heap.lt_size this) (Nat.lt_irrefl _)
  ·refine X1_1 f.pt fun o e=> ?_
   exact ⟨o,k' _ o (Ne.symm M) e⟩
  ·exact G.tabKeep _ _ s.heap.objs.size f.tab M (fun o e=>by refine X1_2 T fun o' Y q=> ?_; rw [e] at Y; cases Y; exact q) k'
  ·exact k' b o (fun q=>absurd (q▸Heap.lt_size e) (Nat.lt_irrefl _)) (K b o n (keep b o e))
  ·rw [fR_]
   refine I2_5 _ [v1,v2] rfl ax hd rfl ?_
   ·rw [am_]
    exact I2_3 v1 [v2] rfl (an_ C _ _ au) (bn_ (an_ C _ _ ad))
theorem my_ {a b:Bool}:Op g k X [.bool a, .bool b] (fun vs=>compareOp .Eq (vs.getD 0 .none) (vs.getD 1 .none)) (.bool (a==b)):=op2 fun A s E v u _ O _ B hu=>by
 rw [rd_bool] at B hu
 subst B hu
 exact PySem.SeqAt.RcAt.bool_bool a b g.prog g.w _ _ fun _=>⟨O,Kp.refl,by rfl⟩
theorem cf_:∀p∈([]:List (Str×Addr)),env.cells.lookup p.1=some p.2:=fun _ h=>nomatch h
theorem ba_ {x:Str}{c:Addr}{l:List (Str×Addr)}(h:env.cells.lookup x=some c)(J:∀p∈l,env.cells.lookup p.1=some p.2):∀p∈(x,c)::l,env.cells.lookup p.1=some p.2:=fun p hp=>by
 rcases List.mem_cons.mp hp with rfl | hp
 ·exact h
 ·exact J p hp
theorem du_ {cl:List (Str×Addr)}(h:∀p∈cl,env.cells.lookup p.1=some p.2):∀x c,cl.lookup x=some c→env.cells.lookup x=some c:=fun x c e=>h (x,c) (PySem.mem_of_lookup e)
theorem Loc.weakσ (L:Loc g env X σ ω h)(J:∀p∈σ',p∈σ):Loc g env X σ' ω h:= {L with
 ns:=(X1_2 L.ns fun m hm B=>⟨m,hm,fun x pv hx=>B x pv (J _ hx)⟩)
 vars:=fun x pv hx=>L.vars x pv (J _ hx)}
theorem EvT.weak {e:Expr}{b:Bool}(H:EvT g k env X σ' ω e b)(J:∀p∈σ',p∈σ):EvT g k env X σ ω e b:= .mk fun A s E a O L=>H.run A s E a O (L.weakσ J)
theorem hs_ {n i:Nat}{pv:PV}(h:(rngs 0 1 n)[i]? =some pv):i < n∧pv= .int i:=by
 unfold rngs at h
 rw [List.getElem?_map] at h
 by_cases hi:i < n
 ·rw [List.getElem?_range hi] at h
  cases h
  exact ⟨hi,by simp⟩
 ·rw [List.getElem?_eq_none (by simpa using hi)] at h
  contradiction
theorem c4_ (G:g.Good){n:Nat}(h:n < 2 ^ 62):∀X,Its g X (.rng 0 n 1) (rngs 0 1 n):=fun X=>gR_ G (by
 refine sb (rangeSize_one ..) ?_; split <;>(first | exact O35 | exact O36 ‹_›)) (small_one (by decide) (by decide) (by exact O37) (by exact Int.ofNat_lt.mpr (Nat.lt_of_succ_le h)))
theorem m5_ (G:g.Good){ns:List Int}{m:Int}(ap:0 < ns.length)(hm:m∈ns)(an:∀a∈ns,a≤m):Op g k X [.lst (ns.map .int)] (fun vs=>call (.builtin "max") vs) (.int m):=oc1 fun A s E v a O xo B=>by
 rw [bb_] at B
 (refine X2_4 B fun b vs q5 _ hl az=> ?_; subst q5)
 have ia:∀{ns:List Int} {vs:List Value},RdL g X s.heap (ns.map .int) vs→IntsAre vs ns:=by
  intro ns
  induction ns with
  | nil => intro vs r; rw [List.map_nil,aG_] at r; subst r; exact .nil
  | cons n ns ih=>
   intro vs r
   rw [List.map_cons,am_] at r
   (refine X2_3 r fun v t q6 N V=> ?_; subst q6)
   rw [rd_int] at N
   (refine X1_1 N fun u q7=> ?_; subst q7)
   exact .cons n u (ih V)
 have hi:=ia az
 refine X1_1 hi.allInts.items fun xs e=> ?_
 have S:ns=xs.toList.map (·.1):=by
  exact sy (hi.numsOf ..) (sy (nums_intItems ..) (sy (e ..) rfl))
 have ac:0 < xs.size:=by
  have h3:=ap; rw [S,List.length_map,Array.length_toList] at h3; exact h3
 have Y:vs=intItems xs:=by exact sy e rfl
 rw [Y] at hl
 refine max_intList a.1 hl ac fun v h' tk B hk ht=> ?_
 (refine X1_1 (intItems_at B) fun t q8=> ?_; subst q8)
 refine X0_2 (argBest_gt (numAt xs) (xs.size - 1)) fun N V=> ?_
 refine I0_3 (O.keep G hk ht) (Kp.of hk) ?_
 have aw:numAt xs (argBest (fun i j=>decide (numAt xs i>numAt xs j)) (xs.size - 1))∈ns:=by
  exact sb (S ..) (sb (numAt_eq ..) (getD_mem (by simp only [List.length_map,Array.length_toList]; exact Nat.lt_of_le_pred ac N)))
 have am:m≤numAt xs (argBest (fun i j=>decide (numAt xs i>numAt xs j)) (xs.size - 1)):=by
  rw [S] at hm
  (refine X1_2 (mem_getD hm) fun j hj q9=> ?_; subst q9)
  rw [List.length_map,Array.length_toList] at hj
  exact sy (numAt_eq ..) (V j (by exact Nat.le_sub_one_of_lt hj))
 rw [rd_int,Int.le_antisymm am (an _ aw)]
 exact ⟨_,rfl⟩
end
end Mine
end
section
namespace Mine
open AutoSeq1 in
theorem h5_ (l:Addr)(items:Array Value)(n:Nat)(b:Addr)(t:Array Value)(n2:Nat)(dd:Option Addr)(sl:Array (Option Value))(aU:¬(!items.isEmpty && Builtin.List.listTooLong (items.size+t.size))=true)(aA:items.size≤sizeLine)(aE:items.size+t.size≤sizeLine+1):
  Meets (Builtin.«list.extend» ⟨[.ref l, .ref b],[]⟩) (fun _ R s=>s.heap.get? l=some {cls:= .type "list",dict:=none,data:= .seq items n,slots:= #[]}∧s.heap.get? b=some {cls:= .type "list",dict:=dd,data:= .seq t n2,slots:=sl}∧R (.ok (.ret Value.none)) {s with heap:=s.heap.update l (Obj.mapSeq fun x=>x++t),toks:=s.toks}):=
 .of_wp fun prog w A R s h=>by
  obtain ⟨hp,g,d,tk,os⟩:=s; refine X0_3 h fun hl hb h=> ?_; have f1:=AutoSeq1.idx_int; have f2:=AutoSeq1.sub_tuple_tuple; have f3:=AutoSeq1.sub_list_list; have f4:=AutoSeq1.sub_tuple_list; have f5:=AutoSeq1.sub_list_tuple;
  have a8:(items++t).size≤sizeLine+1:=by exact sb Array.size_append aE
  wp_walk using (wpAny_updateSeq hl rfl (hz:=aA) (_hz':=a8)),wpAny_loadPart' hl,wpAny_loadPart' hb; exact I1_2 _ rfl h
section
variable {g:GC}{k:Nat}{Y:Heap}{env:Env}{Xo:Addr→Prop}{C z:List Addr}{X:Addr→Prop}{σ σ' aM:List (Str×PV)}{ω ω':List (Addr×OC)}{s s':Shared}{h h':Heap}
section
variable {A:Around}{E:Value→Shared→Prop}{Q:Flow→Shared→Prop}{i:List Stmt}
theorem ix_ (G:g.Good){x:Str}{px apos pos ai:Pos}{e:Expr}{a:Addr}{l:List PV}{ys:List Str}(S:LS g Y env Xo C z σ ω s)(A0:AOk k A)(hx:(x, .ref a)∈σ)(ha:(a, .lst l)∈ω)(V:dO_ ω σ σ' a)
  (he:Ev g k env (fun b=>av Xo C z b∧b≠a) σ' (ω.filter fun p=>p.1 !=a) e (.lst (txts ys))) (U:l.length+ys.length≤16777216)
  (c:∀s',LS g Y env Xo C z σ (setω a (.lst (l++txts ys)) ω) s'→Wp g A env i Q E s')
  (am:autoParam (nst e=true) aQ1) (hn:starEach [e] env=(false,eval e env)::starEach [] env:=bT_ am) (hd:autoParam ((x==("__debug__" :Str))=false) aQ0)
  (hf:autoParam (methodCallForm ([e].length+0) (backTo pos (starEach [e] env)) (backToKw pos (keywordEach [] env))=true) aQ1) (hp:autoParam ((apos.endLine==pos.line)=true) aQ1)
  (hi:autoParam (interactive env=false) aQ5) (aD:autoParam (swapsWith (.Call (.Attribute (.Name x px) "extend" apos) [e] [] pos) none ai.line env=pure false) aQ4):
  Wp g A env (.Expr (.Call (.Attribute (.Name x px) "extend" apos) [e] [] pos) ai::i) Q E s:=by
 refine b4_ (wpAny_Expr (MethodCall_ ((aa_ hx hd).use A0 S.ok S.loc fun v T ag ar a2 ah=> ?_) (c7_ (fun _=>rfl) hf hp)) hi aD)
 rw [rd_ref] at ah; subst ah
 have ad:=S.kp ag ar
 refine X2_2 (ad.loc.lst ha) fun vs n e1 hl=> ?_
 refine getMethod_list_of F.slot_list_extend F.type_list_extend ⟨_,e1,rfl,n,rfl⟩ ⟨_,e1,rfl⟩ ?_
 have a9:∀A s E,AOk k A→g.Ok s→Loc g env (av Xo C z) σ ω s.heap→wpAny (model g.prog g.w) A (eval e env) (fun v s'=>g.Ok s'∧Kp g s.heap s'.heap∧Rd g (fun b=>av Xo C z b∧b≠a) s'.heap (.lst (txts ys)) v) E s:=fun A s E A0 O L=>
  he.run A s E A0 O (L.view ha V (fun p hp=>by refine X0_2 (List.mem_filter.mp hp) fun h1 h2=> ?_; exact ⟨h1,by simpa using h2⟩) (L.once.filter _))
 refine sb hn ?_
 refine callWith_of (P:=fun _=>True) (by rfl) (bQ_ (g:=g)) (evalArgs_plain ?_)
 refine (?_:wpAny _ A (do let v ← eval e env; let af ← pure [v]; return af++(← holding af (spliced (backTo pos (starEach [] env))))) _ _ T)
 refine wpAny_bind (wpAny_mono (a9 A T E A0 ag a2) (fun v ac p=> ?_) fun _ _ x=>x)
 refine X0_3 p fun ap ax ae=> ?_
 refine wpAny_bind (wpAny_pure (wpAny_bind (wpAny_holding (wpAny_pure (wpAny_pure ⟨trivial, ?_⟩)))))
 refine gn fun P0 aw=> ?_
 have Z:=ad.kp ap ax
 refine X2_2 (Z.loc.lst ha) fun vs n e2 hl=> ?_
 rw [bb_] at ae
 (refine X2_4 ae fun b us q1 _ q2 hr=> ?_; subst q1; obtain ⟨⟨c2,dd,dt,sl⟩,hb,az,n2,aq⟩:=q2)
 refine aw ?_
 simp only at az aq
 subst az aq
 have h1:=a4_ hl
 have h2:=a4_ hr
 simp only [List.length_map] at h2
 refine (?_:wpAny _ A (call (.builtin "list.extend") [.ref a, .ref b]) _ _ _)
 refine call_meets F.slot_list_extend ⟨_,e2,rfl⟩ F.entry_list_extend (F.args_list_extend_2 _ _) (h5_ a vs n b us n2 dd sl ?_ (by simp only [sizeLine]; exact O41 h1 U) (by simp only [sizeLine]; exact O42 h1 h2 U)) ⟨e2,hb, ?_⟩
 ·intro q
  have q2:=(Bool.and_eq_true_iff.mp q).2
  have q3:vs.size+us.size>sizeLine:=of_decide_eq_true q2
  simp only [sizeLine] at q3
  exact O43 q3 U h1 h2
 ·refine c _ ?_
  have am:(ac.heap.update a (Obj.mapSeq fun x=>x++us)).get? a=some (Obj.mapSeq (fun x=>x++us) {cls:= .type "list",data:= .seq vs n}):=Heap.get?_update_self _ e2 rfl
  refine Z.upLst (l':=l++txts ys) (tk:=ac.toks) G ha (Heap.SameBut.update ..) (vs:=vs++us) (n:=if (vs++us).size==vs.size then n else n+1) ?_ Z.ok.tok ?_
  ·refine sb am ?_; rfl
  ·exact sb Array.toList_append (bG_ hl (lk_ (b3_ hr)))
theorem bK_ {b:Addr}{oc oc':OC}:setω b oc [(b,oc')]= [(b,oc)]:=by simp [setω]
theorem bd_ (l:List Str)(x:Str):txts l++ [PV.str x]=txts (l++ [x]):=by simp only [txts,txts,List.map_append]; rfl
theorem eW_ (G:g.Good){α:Type}{f:α→PV}{l:List α}(hs:(l.length:Int) < 2 ^ 63):Op g k X [.lst (l.map f)] (fun vs=>call (.builtin "len") vs) (.int l.length):=by
 have h0:=c2_ (k:=k) (X:=X) (l:=l.map f) G (by exact sb (List.length_map ..) hs)
 rw [List.length_map] at h0
 exact h0
theorem dp_ {ys:List Str}(B N:Nat)(hB:∀y∈ys,y.length≤B)(hN:ys.length≤N):(Txt.join "" ys).length≤N*B:=by
 have h1:=ip_ (f:=fun y:Str=>y.length) hB
 have h2:ys.length*B≤N*B:=Nat.mul_le_mul_right _ hN
 have h3:(Txt.join "" ys).length=(ys.map (fun y=>y.length)).sum+(ys.length - 1)*0:=PySem.size_glued "" ys
 exact O44 h3 h2 h1
theorem bm_ (x:Str)(l u:Option Int):(ssl x l u none).length≤x.length:=Txt.slice_le x l u
theorem br_ (G:g.Good){es:List Expr}{kk:Nat}{pos:Pos}{ys:List Str}(he:EvL g k env X σ ω es (txts ys))(U:ys.length≤sizeLine):Ev g k env X σ ω (.Tuple es kk pos) (.tup (txts ys)):=cd_ G he (by exact sb (List.length_map ..) U)
theorem jg_ (G:g.Good){ys:List Str}:∀X,Its g X (.tup (txts ys)) (ys.map .str):=fun X=>gQ_ G
theorem bt_ {a:Addr}:dO_ ω σ [] a:=fun _ _ h=>nomatch h
theorem bs_ {a:Addr}{x:Str}{l:List PV}{τ:List (Str×PV)}(m:(x, .ref a)∈σ)(ho:(a, .lst l)∈ω)(hs:dO_ ω σ τ a):dO_ ω σ ((x, .lst l)::τ) a:=fun y pv h=>by
 rcases List.mem_cons.mp h with h | h
 ·cases h; exact .inr ⟨l,rfl,m,ho⟩
 ·exact hs y pv h
theorem cX_ {a:Addr}{q:Str×PV}{τ:List (Str×PV)}(m:q∈σ)(hs:dO_ ω σ τ a):dO_ ω σ (q::τ) a:=fun y pv h=>by
 rcases List.mem_cons.mp h with h | h
 ·cases h; exact .inl m
 ·exact hs y pv h
theorem ei_ {J:Expr}{body K:List Stmt}{pos:Pos}{b:Bool}(I:Shared→Prop)(S:LS g Y env Xo C z σ ω s)(a:AOk k A)(ht:EvT g k env (av Xo C z) σ ω J b)
  (c1:b=true→∀s',LS g Y env Xo C z σ ω s'→(∀H,I H→Cont g A env i Q E .next H)→Wp g A env body (Cont g A env i Q E) E s')
  (c2:b=false→∀s',LS g Y env Xo C z σ ω s'→(∀H,I H→Cont g A env i Q E .next H)→Wp g A env K (Cont g A env i Q E) E s')
  (j:∀H,I H→Wp g A env i Q E H):Wp g A env (.If J body K pos::i) Q E s:=
 aX_ S a ht (fun h s' S'=>c1 h s' S' j) (fun h s' S'=>c2 h s' S' j)
theorem cD_ {D:Type}(I:Shared→Prop)(P:D→List (Str×PV)→List (Addr×OC)→Prop)(m:D→Nat)(tb:D→Bool)(B:List (Str×PV)→List (Addr×OC)→Prop)(o:PV){J:Expr}{body:List Stmt}{pos:Pos}
  (S:LS g Y env Xo C z σ ω s) (a:AOk k A) (d0:D) (h0:P d0 σ ω)
  (ht:∀d σ' ω',P d σ' ω'→∀X,EvT g k env X σ' ω' J (tb d))
  (a3:∀d σ' ω' hT a1 M s' E',P d σ' ω'→tb d=true→LS g hT env a1 M [] σ' ω' s'→Wp g A env body (eR_ g hT env a1 M (fun ak al=>∃d',m d' < m d∧P d' ak al) B o) E' s')
  (done:∀d σ' ω' s',P d σ' ω'→tb d=false→LS g Y env Xo C z σ' ω' s'→I s')
  (brk:∀σ' ω' s',B σ' ω'→LS g Y env Xo C z σ' ω' s'→I s')
  (ret:∀v σ' s',LS g Y env Xo C z σ' [] s'→Rd g (av Xo C z) s'.heap o v→Q (.ret v) s')
  (j:∀s',I s'→Wp g A env i Q E s'):
  Wp g A env (.While J body [] pos::i) Q E s:=
 d8_ P m tb B o S a d0 h0 ht a3 (fun d σ' ω' s' E' hP hb S'=>af_ (j s' (done d σ' ω' s' hP hb S'))) (fun σ' ω' s' hB S'=>j s' (brk σ' ω' s' hB S')) ret
theorem dc_ {e:Expr}{pos:Pos}{pv:PV}{b:Addr}{oc:OC}(S:LS g Y env Xo C z σ ω s)(a:AOk k A)(ha:(b,oc)∈ω)(V:dO_ ω σ σ' b)(he:Ev g k env (fun d=>av Xo C z d∧d≠b) σ' (ω.filter fun p=>p.1 !=b) e pv)
  (c:∀v s',LS g Y env Xo C z σ ω s'→Rd g (fun d=>av Xo C z d∧d≠b) s'.heap pv v→Q (.ret v) s'):Wp g A env (.Return (some e) pos::i) Q E s:=
 b4_ (wpAny_Return_some (wpAny_mono (he.run A s _ a S.ok (S.loc.view ha V (fun p hp=>by refine X0_2 (List.mem_filter.mp hp) fun h1 h2=> ?_; exact ⟨h1,by simpa using h2⟩) (S.loc.once.filter _))) (fun v T p=>c v T (S.kp p.1 p.2.1) p.2.2) fun _ _ x=>x))
end
theorem LS.outV {h₀:Heap}{M:List Addr}{o:PV}{v:Value}{b:Addr}(S:LS g h₀ env Xo [] M σ ω s)(hb:¬Xo b)(r:Rd g (fun d=>av Xo [] M d∧d≠b) s.heap o v):Out g h₀ Xo o (.ret v) s:=
 ⟨S.ok,fun b o n e=>S.base b o n (fun h=>nomatch h) e,an_ ⟨fun _ _ _ e=>e,fun c _ n _ q=>n ⟨.inl q,fun e=>hb (e▸q)⟩⟩ _ _ r⟩
end
end Mine
end
section
namespace Mine
section
variable {prog:Program}{w:World}{A:Around}{E:Value→Shared→Prop}{s:Shared}
theorem dD_ {it t:Addr}{i:Nat}{items:Array Value}{x:Value}{Q:Value→Shared→Prop}(Z:s.heap.IsTupleIter it t i)(ht:s.heap.IsTuple t items)(hx:items[i]? =some x)
  (hQ:∀h',h'.IsTupleIter it t (i+1)→Heap.SameBut it s.heap h'→Q x {s with heap:=h'}):wpAny (model prog w) A (Builtin.SmallTypes.nextOf (.ref it)) Q E s:=by
 refine X1_3 (id Z) fun o H hc hd=> ?_
 obtain ⟨ol,aC,_,nl,aD⟩:=ht
 unfold Builtin.SmallTypes.nextOf
 refine wpAny_bind (wpAny_callSpecial?_slot (name:=Str.ofString "__next__") Z.typeIs F.slot_tuple_iterator_next
  (wpAny_call_entry F.slot_tuple_iterator_next Z.typeIs F.entry_tuple_iterator_next ?_ (F.args_tuple_iterator_next_1 _)))
 refine (?_:wpAny _ _ (field (.ref it) 0>>=_) _ _ s)
 refine wpAny_bind (wpAny_field H hd (x:= .ref t) rfl ?_)
 refine (?_:wpAny _ _ (if (Value.ref t==Value.none)=true then _ else _) _ _ s)
 refine sb (if_neg (show ¬((Value.ref t==Value.none)=true) from Bool.false_ne_true)) ?_
 refine (?_:wpAny _ _ (field (.ref it) 1>>=_) _ _ s)
 refine wpAny_bind (wpAny_field H hd (x:= .int i 0) rfl ?_)
 refine (?_:wpAny _ _ (seqItems? (.ref t)>>=_) _ _ s)
 refine wpAny_bind (wpAny_seqItems aC aD ?_)
 simp only [Int.toNat_natCast,hx]
 refine wpAny_bind (wpAny_setField H hd (by exact Nat.le_of_ble_eq_true rfl) (wpAny_pure (I1_2 x rfl (wpAny_pure (hQ _ ?_ (Heap.SameBut.update ..))))))
 exact ⟨_,Heap.get?_update_self _ H (Obj.isFreed_of_fields (Obj.data_mapFields hd _)),(Obj.cls_mapFields ..).trans hc,by
  refine sb (Obj.data_mapFields hd ..) ?_; simp [rawInt]⟩
theorem d2_ {it t:Addr}{i:Nat}{items:Array Value}{Q:Value→Shared→Prop}(hh:A.handled=none)(Z:s.heap.IsTupleIter it t i)(ht:s.heap.IsTuple t items)(hx:items[i]? =none)
  (hE:∀h' e,Heap.ExtBut it s.heap h'→(∃o,h'.get? e=some o∧o.cls= .type "StopIteration")→E (.ref e) {s with heap:=h'}):wpAny (model prog w) A (Builtin.SmallTypes.nextOf (.ref it)) Q E s:=by
 refine X1_3 (id Z) fun o H hc hd=> ?_
 obtain ⟨ol,aC,_,nl,aD⟩:=ht
 unfold Builtin.SmallTypes.nextOf
 refine wpAny_bind (wpAny_callSpecial?_slot (name:=Str.ofString "__next__") Z.typeIs F.slot_tuple_iterator_next
  (wpAny_call_entry F.slot_tuple_iterator_next Z.typeIs F.entry_tuple_iterator_next ?_ (F.args_tuple_iterator_next_1 _)))
 refine (?_:wpAny _ _ (field (.ref it) 0>>=_) _ _ s)
 refine wpAny_bind (wpAny_field H hd (x:= .ref t) rfl ?_)
 refine (?_:wpAny _ _ (if (Value.ref t==Value.none)=true then _ else _) _ _ s)
 refine sb (if_neg (show ¬((Value.ref t==Value.none)=true) from Bool.false_ne_true)) ?_
 refine (?_:wpAny _ _ (field (.ref it) 1>>=_) _ _ s)
 refine wpAny_bind (wpAny_field H hd (x:= .int i 0) rfl ?_)
 refine (?_:wpAny _ _ (seqItems? (.ref t)>>=_) _ _ s)
 refine wpAny_bind (wpAny_seqItems aC aD ?_)
 simp only [Int.toNat_natCast,hx]
 refine wpAny_bind (wpAny_rule (wpAny_bind (wpAny_setField H hd (by exact Nat.le_of_ble_eq_true rfl) ?_)))
 refine (?_:wpAny _ _ (newExc (.type "StopIteration") []>>=_) _ _ _)
 refine wpAny_bind ?_
 simp only [newExc,newTuple]
 refine wpAny_bind (wpAny_newObj_type ?_ (by size_fits))
 refine wpAny_bind (m:=firstArgMember _ _) (wpAny_of_eq (a:=Value.none) (by first | rfl | (simp only [firstArgMember]; rfl)) ?_)
 refine wpAny_newObj_type ?_ (by size_fits)
 dsimp only [raiseNew]
 refine wpAny_bind (wpAny_handled ?_)
 first | refine sb (show A.in1.handled=none from hh) ?_ | rw [hh]
 refine wpAny_bind (wpAny_pure (wpAny_throw ?_))
 exact hE _ _ (((Heap.SameBut.update ..).extBut.push _).push _) ⟨_,Heap.get?_push_size _ rfl,rfl⟩
theorem g3_ (hh:A.handled=none)(it t:Addr)(bB:t≠it)(items:Array Value):
  Draws prog w A it [it,t] items.size (fun i v=>items[i]? =some v) (fun i h=>h.IsTupleIter it t i∧h.IsTuple t items) where
 live:=fun _ _ st=>let ⟨o,H,_⟩:=st.1; ⟨o,H⟩
 frame:=fun _ _ _ st hk=>⟨let ⟨o,H,r⟩:=st.1; ⟨o,hk it (by simp) o H,r⟩,let ⟨o,H,r⟩:=st.2; ⟨o,hk t (by simp) o H,r⟩⟩
 item:=fun i s Q E hi st hQ=>by
  refine dD_ st.1 st.2 (x:=items[i]) (by simp [hi]) fun h' aX aM=> ?_
  exact hQ _ h' s.toks (by simp [hi]) ⟨aX,st.2.extBut aM.extBut bB⟩ aM
 done:=fun s Q E st hE=>d2_ hh st.1 st.2 (by simp) hE
theorem nH_ {M:Model}{A:Around}{E:Value→Shared→Prop}{s:Shared}{Q:Bool→Shared→Prop}(h:∀b,Q b s){b:Bool}:wpAny M A (pure b) Q E s:=wpAny_pure (h b)
theorem kQ_ (l:Addr)(items:Array Value)(n:Nat)(dd:Option Addr)(sl:Array (Option Value)):
  Meets (Builtin.«enumerate.__new__» ⟨[.type "enumerate", .ref l],[]⟩) (fun _ R s=>s.heap.get? l=some {cls:= .type "tuple",dict:=dd,data:= .seq items n,slots:=sl}∧
   R (.ok (.ret (.ref (s.heap.push {cls:= .type "tuple_iterator",data:= .fields #[.ref l, .int 0 0]}).objs.size)))
    {s with heap:=(s.heap.push {cls:= .type "tuple_iterator",data:= .fields #[.ref l, .int 0 0]}).push {cls:= .type "enumerate",data:= .fields #[.none, .bool false, .ref s.heap.objs.size,rawInt 0, .none, .none]}}):=
 .of_wp fun prog w A R s h=>by
  obtain ⟨hp,g,d,tk,os⟩:=s; refine X0_2 h fun hl h=> ?_
  have bO:=sub_enumerate
  have hL:Heap.IsTuple (Shared.heap ⟨hp,g,d,tk,os⟩) l items:=⟨_,hl,rfl,n,rfl⟩
  wp_walk using AutoSeq1.wpAny_loadPart' hl
  refine wpAny_stack_any fun st=>nH_ fun b=> ?_
  cases b
  ·wp_walk using AutoSeq1.wpAny_loadPart' hl,wpAny_pyIter_tuple hL
   exact I1_2 _ rfl h
  ·wp_walk using AutoSeq1.wpAny_loadPart' hl,wpAny_pyIter_tuple hL
   exact I1_2 _ rfl h
end
section
variable {g:GC}{k:Nat}{hF:Heap}{env:Env}{Xo:Addr→Prop}{D z:List Addr}{X:Addr→Prop}{σ σ' bN:List (Str×PV)}{ω ω':List (Addr×OC)}{s s':Shared}{h h':Heap}
noncomputable abbrev XW (Xo W:Addr→Prop):Addr→Prop:=fun a=>Xo a∨W a
theorem k3_ {W:Addr→Prop}{b:Addr}(h:av (XW Xo W) D z b):av Xo D z b∨W b:=by
 rcases h with (h | h) | h
 ·exact .inl (.inl h)
 ·exact .inr h
 ·exact .inl (.inr h)
theorem go_ {W:Addr→Prop}{b:Addr}(h:av Xo D z b):av (XW Xo W) D z b:=by
 rcases h with h | h
 ·exact .inl (.inl h)
 ·exact .inr h
theorem LS.enterW (S:LS g hF env Xo D z σ ω s){W:Addr→Prop}{h':Heap}{tk:Nat}(O:g.Ok {s with heap:=h',toks:=tk})(j:∀b o,s.heap.get? b=some o→h'.get? b=some o)(hn:∀b,W b→s.heap.get? b=none)(he:∀b,W b→∃o,h'.get? b=some o):
  LS g hF env (XW Xo W) D z σ ω {s with heap:=h',toks:=tk} where
 ok:=O
 loc:=S.loc.carry2 ⟨fun b o _ e=>j b o e,fun b o n e q=>by
   rcases k3_ q with q | q
   ·exact n q
   ·rw [hn b q] at e; contradiction⟩ (fun a=>go_) (fun a ha=>by
   rcases k3_ ha with h | h
   ·refine X1_1 (S.loc.xs a h) fun o H=> ?_; exact ⟨o,j _ _ H⟩
   ·exact he a h) (fun b o _ e=>j b o e) (fun a ha=>(k3_ ha).imp id fun q=>S.ok.none (hn a q))
 base:=fun b o n m e=>j _ _ (S.base b o n m e)
 ex:=fun b o e=>let ⟨o',e'⟩:=S.ex b o e; ⟨o',j _ _ e'⟩
 new:=S.new
 gM:=S.gM
 lM:=S.lM
 cM:=S.cM
 oM:=S.oM
theorem LS.tickW (G:g.Good){W:Addr→Prop}(S:LS g hF env (XW Xo W) D z σ ω s){h':Heap}{tk:Nat}(hf:∀b,W b→hF.get? b=none∧g.hG.get? b=none∧b≠g.Pt∧¬av Xo D z b)(j:∀b o,¬W b→s.heap.get? b=some o→h'.get? b=some o)
  (hc:∀b o,W b→s.heap.get? b=some o→bg_ o) (he:∀b,W b→∃o,h'.get? b=some o) (ht:0 < tk):LS g hF env (XW Xo W) D z σ ω {s with heap:=h',toks:=tk} where
 ok:=⟨fun b o n e=>j _ _ (fun q=>by rw [(hf b q).2.1] at e; contradiction) (S.ok.gk b o n e),let ⟨o,e⟩:=S.ok.pt; ⟨o,j _ _ (fun q=>(hf _ q).2.2.1 rfl) e⟩,G.tabKeepW _ _ W S.ok.tab (fun q=>(hf _ q).2.2.1 rfl) (fun a o q e=>hc a o q e) j,S.ok.gens,S.ok.os,ht⟩
 loc:=by
  have C:bE_ (av (XW Xo W) D z) (av (XW Xo W) D z) s.heap h':=⟨fun b o n e=>j b o (fun q=>n (.inl (.inr q))) e,fun b o n _=>n⟩
  refine S.loc.carry2 C (fun _ h=>h) (fun a ha=> ?_) (fun b o hb e=> ?_)
  ·by_cases q:W a
   ·exact he a q
   ·refine X1_1 (S.loc.xs a ha) fun o H=> ?_; exact ⟨o,j _ _ q H⟩
  ·refine j _ _ (fun q=>(hf b q).2.2.2 (.inr ?_)) e
   rcases hb with rfl | ⟨x,hx⟩ | ⟨oc,H⟩
   ·exact S.lM
   ·exact S.cM x _ hx
   ·exact S.oM _ oc H
 base:=fun b o n m e=>j _ _ (fun q=>by rw [(hf b q).1] at e; contradiction) (S.base b o n m e)
 ex:=fun b o e=>let ⟨o',e'⟩:=S.ex b o e; ⟨o',j _ _ (fun q=>by rw [(hf b q).1] at e; contradiction) e'⟩
 new:=S.new
 gM:=S.gM
 lM:=S.lM
 cM:=S.cM
 oM:=S.oM
theorem LS.leaveW (G:g.Good){W:Addr→Prop}(S:LS g hF env (XW Xo W) D z σ ω s){h':Heap}{tk:Nat}(hf:∀b,W b→hF.get? b=none∧g.hG.get? b=none∧b≠g.Pt∧¬av Xo D z b)(hp:Xo g.Pt)(j:∀b o,¬W b→s.heap.get? b=some o→h'.get? b=some o)
  (hc:∀b o,W b→s.heap.get? b=some o→bg_ o) (ht:0 < tk):LS g hF env Xo D z σ ω {s with heap:=h',toks:=tk} where
 ok:=⟨fun b o n e=>j _ _ (fun q=>by rw [(hf b q).2.1] at e; contradiction) (S.ok.gk b o n e),let ⟨o,e⟩:=S.ok.pt; ⟨o,j _ _ (fun q=>(hf _ q).2.2.1 rfl) e⟩,G.tabKeepW _ _ W S.ok.tab (fun q=>(hf _ q).2.2.1 rfl) (fun a o q e=>hc a o q e) j,S.ok.gens,S.ok.os,ht⟩
 loc:=by
  have L':Loc g env (av Xo D z) σ ω s.heap:=S.loc.anti (fun a=>go_) (.inl hp) (.inr S.lM) (fun x c h=> .inr (S.cM x c h)) (fun a oc h=> .inr (S.oM a oc h))
  have C0:bE_ (av (XW Xo W) D z) (av Xo D z) s.heap h':=⟨fun b o n e=>j b o (fun q=>n (.inl (.inr q))) e,fun b o n _ q=>n (go_ q)⟩
  have ag:∀b o,(b=env.locals∨(∃x,env.cells.lookup x=some b)∨(∃oc,(b,oc)∈ω))→s.heap.get? b=some o→h'.get? b=some o:=fun b o hb e=>by
   refine j _ _ (fun q=>(hf b q).2.2.2 (.inr ?_)) e
   rcases hb with rfl | ⟨x,hx⟩ | ⟨oc,H⟩
   ·exact S.lM
   ·exact S.cM x _ hx
   ·exact S.oM _ oc H
  have L:=S.loc
  have a7:∀{x c ov},env.cells.lookup x=some c→s.heap.IsCell c ov→h'.IsCell c ov:=fun hc ⟨o,H,hd⟩=>⟨o,ag _ o (.inr (.inl ⟨_,hc⟩)) H,hd⟩
  refine {fn:=L.fn,gl:=L.gl,bl:=L.bl,xs:=fun a ha=> ?_,ptX:= .inl hp,gX:=fun a ha=>L.gX a (go_ ha),lX:= .inr S.lM,lP:=L.lP,cX:=fun x c hc=> ?_,inj:=L.inj,ns:= ?_,vars:=fun x pv b1=> ?_,own:=fun a oc ha=> ?_,once:=L.once}
  ·refine X1_1 (L'.xs a ha) fun o H=> ?_
   exact ⟨o,j a o (fun q=>(hf a q).2.2.2 ha) H⟩
  ·obtain ⟨h1,h2,h3,ov,h4⟩:=L'.cX x c hc
   exact ⟨h1,h2,h3,ov,a7 hc h4⟩
  ·(refine X1_2 L.ns fun m q1 hv=> ?_; obtain ⟨o,es,ep,H,r⟩:=q1)
   exact I1_2 m (I3_2 o es ep (ag _ o (.inl rfl) H) r) (fun x pv hx hk=>let ⟨v,e,r⟩:=hv x pv hx hk; ⟨v,e,an_ C0 _ _ r⟩)
  ·rcases L.vars x pv b1 with h1 | ⟨h1,h2,c,v,h3,h4,h5⟩
   ·exact .inl h1
   ·exact .inr ⟨h1,h2,c,v,h3,a7 h3 h4,an_ C0 _ _ h5⟩
  ·refine X0_5 (L.own a oc ha) fun h1 h2 h3 h4 h5=> ?_
   refine I0_5 (.inr (S.oM a oc ha)) h2 h3 h4 ?_
   cases oc with
   | lst l=>
    (refine X1_2 h5 fun vs q2 r=> ?_; obtain ⟨o,H,q⟩:=q2)
    exact I1_2 vs (I1_2 o (ag _ o (.inr (.inr ⟨_,ha⟩)) H) q) (aw_ C0 _ _ r)
   | ba b=>
    refine X2_2 h5 fun o n H q=> ?_
    exact I2_2 o n (ag _ o (.inr (.inr ⟨_,ha⟩)) H) q
 base:=fun b o n m e=>j _ _ (fun q=>by rw [(hf b q).1] at e; contradiction) (S.base b o n m e)
 ex:=fun b o e=>let ⟨o',e'⟩:=S.ex b o e; ⟨o',j _ _ (fun q=>by rw [(hf b q).1] at e; contradiction) e'⟩
 new:=S.new
 gM:=S.gM
 lM:=S.lM
 cM:=S.cM
 oM:=S.oM
theorem jB_ {A:Around}{E:Value→Shared→Prop}{l:Addr}{items:Array Value}{Q:Value→Shared→Prop}(hL:s.heap.IsTuple l items)
  (h:∀h',IsEnum h' (s.heap.objs.size+1) s.heap.objs.size 0 .none→h'.IsTupleIter s.heap.objs.size l 0→(∀b o,s.heap.get? b=some o→h'.get? b=some o)→Q (.ref (s.heap.objs.size+1)) {s with heap:=h'}):
  wpAny (model g.prog g.w) A (call (.type "enumerate") [.ref l]) Q E s:=by
 obtain ⟨⟨c,dct,dt,sl⟩,hl,hc,n,hd⟩:=hL
 replace hc:c= .type "tuple" :=hc
 replace hd:dt= .seq items n:=hd
 subst hc hd
 refine callType_new F.called_enumerate (by decide) (F.typeCall_enumerate_1 _) (F.newCall_enumerate_1 _) (fun b6=>F.args_object_init_2 b6 _) F.entry_enumerate_new (kQ_ l items n dct sl) ⟨hl, ?_⟩
 have hz:(s.heap.push {cls:= .type "tuple_iterator",data:= .fields #[.ref l, .int 0 0]}).objs.size=s.heap.objs.size+1:=Heap.size_push ..
 refine (?_:_∧_)
 refine sb hz ?_
 have he:IsEnum ((s.heap.push {cls:= .type "tuple_iterator",data:= .fields #[.ref l, .int 0 0]}).push
   {cls:= .type "enumerate",data:= .fields #[.none, .bool false, .ref s.heap.objs.size,rawInt 0, .none, .none]}) (s.heap.objs.size+1) s.heap.objs.size 0 .none:=by
  have:=Heap.get?_push_size (s.heap.push {cls:= .type "tuple_iterator",data:= .fields #[.ref l, .int 0 0]})
   (o:= {cls:= .type "enumerate",data:= .fields #[.none, .bool false, .ref s.heap.objs.size,rawInt 0, .none, .none]}) rfl
  rw [hz] at this; exact this
 exact ⟨⟨_,he,rfl⟩,h _ he ⟨_,Heap.get?_push_of_some _ (Heap.get?_push_size _ rfl),rfl,rfl⟩ fun b o x=>Heap.get?_push_of_some _ (Heap.get?_push_of_some _ x)⟩
theorem kO_ (G:g.Good){x:Str}{pos:Pos}{pv:PV}{v:Value}(hm:g.mg x=some v)(hr:Rd g (fun a=>a=g.Pt) g.hG pv v)(hk:autoParam (env.kindOf x=some .globalImplicit) aQ10)
  (hd:autoParam ((x==("__debug__" :Str))=false) aQ0):Ev g k env X σ ω (.Name x pos) pv:= .mk fun A s E _ O L=>
 Name_function_global L.fn hk (loadGlobal_global (by exact sb L.gl (O.main G)) hm ⟨O,Kp.refl,an_ ⟨fun b o n e=>O.gk b o n e,fun b o n e q=>by rw [L.gX b q n] at e; contradiction⟩ _ _ hr⟩) hd
section
variable {A:Around}{E:Value→Shared→Prop}{Q:Flow→Shared→Prop}{ao:List Stmt}
theorem lF_ (G:g.Good)(N:Ty g "enumerate" "enumerate"){x y:Str}{px py tp np cp pos:Pos}{kk:Nat}{e:Expr}{body ah:List Stmt}{l:List PV}(P:Nat→List (Str×PV)→List (Addr×OC)→Prop)(B:List (Str×PV)→List (Addr×OC)→Prop)(o:PV)
  (S:LS g hF env Xo D z σ ω s) (a:AOk k A) (hp:Xo g.Pt) (hi:Ev g k env (av Xo D z) σ ω e (.tup l)) (h0:P 0 σ ω) (hx:Kd env x) (hy:Kd env y) (bv:env.kindOf "enumerate" =some .globalImplicit) (hn:starEach [e] env=(false,eval e env)::starEach [] env)
  (aT:∀i pv σ' ω' hT aF M s' E',l[i]? =some pv→P i σ' ω'→aF g.Pt→LS g hT env aF M [] (upd y pv (upd x (.int i) σ')) ω' s'→Wp g A env body (eR_ g hT env aF M (P (i+1)) B o) E' s')
  (done:∀σ' ω' s' E',P l.length σ' ω'→LS g hF env Xo D z σ' ω' s'→Wp g A env ah (Cont g A env ao Q E) E' s')
  (brk:∀σ' ω' s',B σ' ω'→LS g hF env Xo D z σ' ω' s'→Wp g A env ao Q E s')
  (ret:∀v σ' s',LS g hF env Xo D z σ' [] s'→Rd g (av Xo D z) s'.heap o v→Q (.ret v) s')
  (bC:autoParam ((x==("__classdict__" :Str))=false) aQ0) (bG:autoParam ((y==("__classdict__" :Str))=false) aQ0):
  Wp g A env (.For (.Tuple [.Name x px, .Name y py] kk tp) (.Call (.Name "enumerate" np) [e] [] cp) body ah pos::ao) Q E s:=by
 refine b4_ (wpAny_For (Call_ ((dK_ (X:=av Xo D z) (σ:=σ) (ω:=ω) G N bv).use a S.ok S.loc fun v s₀ a1 bi aK a3=> ?_)) (by intro _; rfl))
 rw [rd_typ] at a3; subst a3
 refine bq_ (ps:= [.tup l]) (b8_ hi ag_ hn) dn_ rfl hn a a1 aK fun vs u aO aZ bR aB=>⟨trivial, ?_⟩
 rw [am_] at aB
 (refine X2_3 aB fun v r' q4 hv az=> ?_; subst q4)
 rw [aG_] at az; subst az
 have ab:=(S.kp a1 bi).kp aO aZ
 have bV:=hv
 rw [ck_] at hv
 (refine X2_4 hv fun t vs q5 aP ht hr=> ?_; subst q5)
 have aJ:=a4_ hr
 refine (?_:wpAny _ A (call (.type "enumerate") [.ref t]) _ _ _)
 refine jB_ ht fun h' ax Z j=>wpAny_pyIter_enum ax ?_
 obtain ⟨I,hI⟩:∃I,I=u.heap.objs.size+1:=⟨_,rfl⟩
 obtain ⟨J,hJ⟩:∃J,J=u.heap.objs.size:=⟨_,rfl⟩
 rw [← hI,← hJ] at ax
 rw [← hJ] at Z
 refine sy hI ?_
 have aU:u.heap.get? I=none:=by
  cases e:u.heap.get? I with
  | none => rfl
  | some o => have:=Heap.lt_size e; rw [hI] at this; exact absurd this (by refine (?_:¬@LT.lt Nat _ (u.heap.objs.size+1) u.heap.objs.size); exact Nat.not_succ_lt_self)
 have be:u.heap.get? J=none:=by exact sb hJ a8_
 have aW:I≠J:=by exact sb hI (sb hJ (Nat.succ_ne_self _))
 have b9:t≠J:=fun e=>by refine X1_2 ht fun o H _=> ?_; rw [e,be] at H; contradiction
 have bI:t≠I:=fun e=>by refine X1_2 ht fun o H _=> ?_; rw [e,aU] at H; contradiction
 have bD:h'.IsTuple t vs:=let ⟨o,H,r⟩:=ht; ⟨o,j _ _ H,r⟩
 obtain ⟨W,hW⟩:∃W:Addr→Prop,W=fun b=>b=I∨b=J:=⟨_,rfl⟩
 have ay:∀b,W b→u.heap.get? b=none:=fun b hb=>by rw [hW] at hb; rcases hb with rfl | rfl; exact aU; exact be
 have hf:∀b,W b→hF.get? b=none∧g.hG.get? b=none∧b≠g.Pt∧¬av Xo D z b:=fun b hb=>by
  have NI:=ab.notI (ay b hb)
  exact I0_4 NI.1 NI.2.1 NI.2.2.1 NI.2.2.2.1
 have aV:g.Ok {u with heap:=h'}:=ab.ok.keep G (tk:=u.toks) j ab.ok.tok
 have bh:LS g hF env (XW Xo W) D z σ ω {u with heap:=h'}:=ab.enterW (tk:=u.toks) aV j ay (fun b hb=>by
  rw [hW] at hb
  rcases hb with rfl | rfl
  ·exact ⟨_,ax⟩
  ·refine X1_2 Z fun o H _=> ?_; exact ⟨o,H⟩)
 have WA:WalksT g.prog g.w A I (I:: [J,t]) [I,J] vs.size (fun i a0=>∃t' x',vs[i]? =some x'∧a0= #[.int i t',x']) (fun i h=>(∃old,IsEnum h I J i old)∧(h.IsTupleIter J t i∧h.IsTuple t vs))
   (fun i T h=>(∃x',IsEnumOut h I J ((i:Int)+1) x' T)∧(h.IsTupleIter J t (i+1)∧h.IsTuple t vs)∧T≠I∧T≠J):=WalksT.enumerateD (g3_ (A:=A.in1) a.1 J t b9 vs) I aW (by simp [aW,Ne.symm bI]) (by simp)
 have bd:∀{ω':List (Addr×OC)},(∀a oc,(a,oc)∈ω'→a∈z++D)→∀a oc,(a,oc)∈ω'→a∈D∨a∈z:=fun h a oc q=>(List.mem_append.mp (h a oc q)).symm
 have an:∀{s' σ' ω'},LS g hF env (XW Xo W) D z σ' ω' s'→LS g hF env Xo D z σ' ω' s':=fun {s' σ' ω'} V=>⟨V.ok,V.loc.anti (fun a=>go_) (.inl hp) (.inr V.lM) (fun x c h=> .inr (V.cM x c h)) (fun a oc h=> .inr (V.oM a oc h)),V.base,V.ex,V.new,V.gM,V.lM,V.cM,V.oM⟩
 have ar:∀{b},b ∉ [I,J]↔¬W b:=fun {b}=>by refine sb hW ?_; simp
 refine codeAny_forLoop_any (fun n s'=>∃i σ' ω',n=l.length - i∧i≤l.length∧P i σ' ω'∧LS g hF env (XW Xo W) D z σ' ω' s'∧((∃old,IsEnum s'.heap I J i old)∧(s'.heap.IsTupleIter J t i∧s'.heap.IsTuple t vs))∧
   (∀b o,¬av Xo D z b→u.heap.get? b=some o→s'.heap.get? b=some o)) ?_ l.length ⟨0,σ,ω,rfl,Nat.zero_le _,h0,bh,⟨⟨_,ax⟩,Z,bD⟩,fun b o _ e=>j b o e⟩
 rintro n Y ⟨i,σ3,ω3,rfl,hle,hP,S3,hst3,hk3⟩
 have aY:∀{h:Heap} {i:Nat},((∃old,IsEnum h I J i old)∧(h.IsTupleIter J t i∧h.IsTuple t vs))→∀b o,W b→h.get? b=some o→bg_ o:=fun {h i} aq b o hb e=>by
  rw [hW] at hb
  rcases hb with rfl | rfl
  ·(refine X0_2 aq fun q6 _=> ?_; obtain ⟨old,he⟩:=q6)
   rw [he] at e; cases e
   intro us hu q t'
   cases hu
   nofun
  ·(refine X0_3 aq fun _ q7 _=> ?_; obtain ⟨o',aE,_,hd⟩:=q7)
   rw [aE] at e; cases e
   intro us hu q t'
   rw [hd] at hu; cases hu
   nofun
 have bK:∀{h:Heap} {i:Nat},((∃old,IsEnum h I J i old)∧(h.IsTupleIter J t i∧h.IsTuple t vs))→∀b,W b→∃o,h.get? b=some o:=fun {h i} aq b hb=>by
  rw [hW] at hb
  rcases hb with rfl | rfl
  ·(refine X0_2 aq fun q8 _=> ?_; obtain ⟨old,he⟩:=q8); exact ⟨_,he⟩
  ·(refine X0_3 aq fun _ q9 _=> ?_; obtain ⟨o',aE,_⟩:=q9); exact ⟨o',aE⟩
 by_cases ad:i < l.length
 ·refine wpAny_with_toks (n:=1) S3.ok.tok (WA.item i Y _ _ (by exact Nat.lt_of_lt_of_eq ad (id (Eq.symm aJ))) hst3 fun T a0 a8 ae b5 bE bs a4 ak ht=> ?_)
  dsimp only
  (refine X2_2 b5 fun t' x' bu bz=> ?_; subst bz)
  refine WA.go _ _ _ i T _ _ _ a4 fun K aj a6=> ?_
  dsimp only
  have bc:∀b o,¬W b→Y.heap.get? b=some o→K.get? b=some o:=fun b o n e=>a6 b o (ar.mpr n) (ak b o (ar.mpr n) e)
  have ai:LS g hF env (XW Xo W) D z σ3 ω3 {Y with heap:=K,toks:=ae}:=S3.tickW G hf bc (aY hst3) (bK aj) ht
  obtain ⟨pv,aS⟩:∃pv,l[i]? =some pv:=⟨l[i],by simp [ad]⟩
  have al:∀b o,¬av Xo D z b→u.heap.get? b=some o→K.get? b=some o:=fun b o n e=>bc b o (fun q=>by rw [ay b q] at e; contradiction) (hk3 b o n e)
  have bA:bE_ (av Xo D z) (av (XW Xo W) (z++D) []) u.heap K:=⟨al,fun b o n e q=>by
   rcases k3_ (fC_.mp q) with q | q
   ·exact n q
   ·rw [ay b q] at e; contradiction⟩
  have bL:Rd g (av (XW Xo W) (z++D) []) K pv x':=by
   refine X1_2 (cG_ hr aS) fun w' bx az=> ?_
   have:x'=w':=by
    have h2:vs.toList[i]? =some x':=by simpa using bu
    rw [bx] at h2; cases h2; rfl
   subst this
   exact an_ bA _ _ az
  have b4:Y.heap.get? T=none:=by
   cases e:Y.heap.get? T with
   | none => rfl
   | some o => exact absurd (Heap.lt_size e) (Nat.not_lt.mpr bE)
  have b8:¬av (XW Xo W) (z++D) [] T:=fun q=>by
   refine X1_1 (S3.loc.xs T (fC_.mp q)) fun o e=> ?_
   rw [b4] at e; contradiction
  have b0:IsTup K T #[.int i t',x']:=by
   refine X1_2 bs fun o e r=> ?_
   exact I1_2 o (a6 T o (WA.apart _ _ _ a4) e) r
  have b3:Rd g (av (XW Xo W) (z++D) []) K (.tup [.int i,pv]) (.ref T):=by
   rw [ck_]
   refine I2_4 T _ rfl b8 b0 ?_
   rw [am_]
   exact ⟨_,_,rfl,by simp,bn_ bL⟩
  refine fD_ G hx hy bC bG a ai.rebase b3 fun aN aR=> ?_
  refine wpAny_mono (aT i pv σ3 ω3 K (XW Xo W) (z++D) aN _ aS hP (.inl hp) aR).run (fun f U p=> ?_) fun _ _ x=>x
  have ap:∀{N σ' ω'},P (i+1) σ' ω'→LS g K env (XW Xo W) (z++D) N σ' ω' U→(∀a oc,(a,oc)∈ω'→a∈z++D)→∃m,m < l.length - i∧∃i' σ' ω',m=l.length - i'∧i'≤l.length∧P i' σ' ω'∧LS g hF env (XW Xo W) D z σ' ω' U∧((∃old,IsEnum U.heap I J i' old)∧(U.heap.IsTupleIter J t i'∧U.heap.IsTuple t vs))∧
    (∀b o,¬av Xo D z b→u.heap.get? b=some o→U.heap.get? b=some o):=fun {N σ' ω'} am V af=>by
   have aA:∀b,¬av Xo D z b→b ∉ z++D:=fun b n q=>n (.inr (List.mem_append.mp q).symm)
   refine ⟨l.length - (i+1),by exact O47 ad,i+1,σ',ω',rfl,ad,am,ai.chain V (bd af),WA.frame _ _ _ aj (fun b hb o e=> ?_),fun b o n e=>V.base b o (fun q=>n (q▸ab.loc.ptX)) (aA b n) (al b o n e)⟩
   have a5:b≠g.Pt∧¬av Xo D z b:=by
    rcases List.mem_cons.mp hb with rfl | hb
    ·have:=hf b (by exact sb hW (.inl rfl)); exact this.2.2
    ·rcases List.mem_cons.mp hb with rfl | hb
     ·have:=hf b (by exact sb hW (.inr rfl)); exact this.2.2
     ·rcases List.mem_cons.mp hb with rfl | hb
      ·exact ⟨fun q=>aP (q▸ab.loc.ptX),aP⟩
      ·exact (nomatch hb)
   exact V.base b o a5.1 (aA b a5.2) e
  cases f with
  | next => refine X3_3 p fun N σ' ω' am V af=> ?_; exact ap am V af
  | cont => refine X3_3 p fun N σ' ω' am V af=> ?_; exact ap am V af
  | brk => refine X3_3 p fun N σ' ω' hB V af=> ?_; exact brk σ' ω' U hB (an (ai.chain V (bd af)))
  | ret v=>
   refine X2_2 p fun N σ' V r=> ?_
   refine ret v σ' U (an (ai.chain V (fun _ _ h=>nomatch h))) (an_ ⟨fun b o _ e=>e,fun b o n _ q=>n ?_⟩ _ _ r)
   rcases q with q | q | q
   ·exact .inl (.inl q)
   ·exact .inr (.inl (List.mem_append.mpr (.inr q)))
   ·exact .inr (.inl (List.mem_append.mpr (.inl q)))
 ·have b7:i=l.length:=by exact O48 hle ad
  subst b7
  refine wpAny_with_toks (n:=1) S3.ok.tok (WA.done Y _ _ (aJ▸hst3) fun a8 ae ak ht=> ?_)
  have aQ:LS g hF env Xo D z σ3 ω3 {Y with heap:=a8,toks:=ae}:=S3.leaveW G hf hp (fun b o n e=>ak b o (ar.mpr n) e) (aY hst3) ht
  refine wpAny_mono (done σ3 ω3 _ _ hP aQ).run (fun f bM p=> ?_) fun _ _ x=>x
  cases f <;>exact p
end
end
noncomputable def cP_:List String:= ["bytearray.__contains__","bytearray.__mod__","bytearray.__rmod__","_struct.pack_into.held","bytearray.find.held"]++Builtin.Bytes.decodersThatHold
noncomputable def okc:Code→Bool
 | .builtin id _ => !(cP_.contains id)
 | _ => true
def NDb (l:List (Code×Pos)):Prop:=∀x∈l,okc x.1=true
def ND (b:Ctx):Prop:=okc b.code=true∧NDb b.below
def wpN {g:Type}(M:Model)(A:Around)(t:Sem g)(Q:g→Shared→Prop)(E:Value→Shared→Prop)(s:Shared):Prop:=
 ∀b p,b.In A→ND b→Sem.wp M b t (fun a _ s'=>Q a s') (fun e _ s'=>E e s') p s
def eE_ (M:Model)(A:Around)(c:Code)(R:Result→Shared→Prop)(s:Shared):Prop:=
 ∀b p,b.code=c→b.Below A→NDb b.below→wpCode M b R p s
section
variable {g K:Type}{M:Model}{A:Around}{E:Value→Shared→Prop}{s:Shared}
theorem fF_ {t:Sem g}{Q:g→Shared→Prop}(h:wpAny M A t Q E s):wpN M A t Q E s:=fun b p i _=>h b p i
theorem bJ_ {a:g}{Q:g→Shared→Prop}(h:Q a s):wpN M A (pure a) Q E s:=fun _ _ _ _=>h
theorem bC_ {t:Sem g}{Q U:g→Shared→Prop}{T:Value→Shared→Prop}(h:wpN M A t Q E s)(hQ:∀a s,Q a s→U a s)(Y:∀e s,E e s→T e s):wpN M A t U T s:=fun b p i n=>
 Sem.wp_mono M b t (fun a B s' h'=>hQ a s' h') (fun e B s' h'=>Y e s' h') p s (h b p i n)
theorem bX_ {m:Sem g}{f:g→Sem K}{Q:K→Shared→Prop}(h:wpN M A m (fun a s'=>wpN M A (f a) Q E s') E s):wpN M A (m>>=f) Q E s:=fun b p i n=>by
 refine sb (Sem.wp_bind' ..) ?_
 exact Sem.wp_mono M b m (fun a B s' h'=>h' b B i n) (fun _ _ _ h'=>h') p s (h b p i n)
theorem as_ {m:Sem g}{f:g→Sem K}{Q:K→Shared→Prop}(h:wpAny M A m (fun a s'=>wpN M A (f a) Q E s') E s):wpN M A (m>>=f) Q E s:=bX_ (fF_ h)
theorem gr_ {m:Sem g}{k:Value→Sem Unit}{Q:g→Shared→Prop}(h:wpN M A m Q (fun e s'=>wpN M A (k e) (fun _ q=>E e q) E s') s):wpN M A (m.onRaise k) Q E s:=fun b p i n=>by
 refine sb (Sem.wp_onRaise ..) ?_
 exact Sem.wp_mono M b m (fun _ _ _ h'=>h') (fun e B s' h'=>h' b B i n) p s (h b p i n)
theorem fE_ {c:Code}{Q:Value→Shared→Prop}(hc:eE_ M A c (fun r s'=>match r with | .ok (.ret v)=>Q v s' | .ok _=>False | .error e=>E e s') s):wpN M A (runValue c) Q E s:=fun b p i n=>by
 refine sb (Sem.wp_runValue ..) ?_
 refine hc _ p rfl (i.enter c none p (by intro x; contradiction)) ?_
 intro x hx
 rcases List.mem_cons.mp hx with rfl | hx
 ·exact n.1
 ·exact n.2 x hx
theorem d6_ {f:Value}{pos:List Value}{V:List (Str×Value)}{Q:Value→Shared→Prop}(hc:eE_ M A (.call f ⟨pos,V⟩) (fun r s'=>match r with | .ok (.ret v)=>Q v s' | .ok _=>False | .error e=>E e s') s):
  wpN M A (call f pos V) Q E s:=fE_ hc
theorem bD_ {c:Code}{R:Result→Shared→Prop}(O:okc c=true)
  (h:wpN M (A.under c) (M.den c) (fun C s'=>match C with | .done f=>R (.ok f) s' | .again H=>H.quiet=true∧eE_ M A H R s') (fun e s'=>R (.error e) s') s):eE_ M A c R s:=fun b p hc I X=>by
 rw [wpCode_iff_wp,hc]
 refine Sem.wp_mono M b _ (fun C B s' h'=> ?_) (fun _ _ _ h'=>h') p s (h b p (hc▸I.in) ⟨hc▸O,X⟩)
 cases C with
 | done f => exact h'
 | again H => exact ⟨h'.1,h'.2 (b.goto H) B rfl (I.goto H) X⟩
end
section
variable {prog:Program}{w:World}{A:Around}{s:Shared}{R:Result→Shared→Prop}
theorem e0_ {body:List Stmt}{env:Env}(h:wpN (model prog w) (A.deeper env) (execs body env) (fun f s'=>R (.ok (.ret (match f with | .ret v=>v | _=> .none))) s')
   (fun e s'=>wpAny (model prog w) (A.deeper env) (leaving env e) (fun _ q=>R (.error e) q) (fun Z q=>R (.error Z) q) s') s):eE_ (model prog w) A (.func body env) R s:=by
 refine bD_ rfl ?_
 refine (?_:wpN _ (A.deeper env) (do point; match ← (execs body env).onRaise (leaving env) with | .ret v=>ret v | _=>ret .none) _ _ s)
 refine as_ (wpAny_point (bX_ (gr_ (bC_ h (fun f s' h'=> ?_) fun _ _ h'=>fF_ h'))))
 cases f <;>exact bJ_ h'
theorem b9_ {a:Addr}{args:Args}{o:Obj}{fd:FuncData}{body:List Stmt}(D:A.depth < recursionLimit)(O:s.heap.get? a=some o)
  (hd':o.data= .func fd) (P:fd.scope.isCoroutine=false) (J:fd.scope.isGenerator=false) (F:fd.body= .stmts body) (L:s.heap.CodeRec fd.code fd.qualname)
  (h:wpAny (model prog w) A.in1 (bindArgs fd args) (fun u z=>
   wpAny (model prog w) A.in1 (newFunctionEnv fd.scope fd.globals fd.closure u (fd.qualname++ ".<locals>.") (some a) fd.code none fd.builtins)
    (fun env j=>j.heap.NoLimit∧eE_ (model prog w) A (.func body env) R j) (fun e s'=>R (.error e) s') z) (fun e s'=>R (.error e) s') s):
  eE_ (model prog w) A (.call (.ref a) args) R s:=by
 refine bD_ rfl ?_
 refine (?_:wpN _ A.in1 (callAny (.ref a) args) _ _ s)
 refine as_ (wpAny_load O ?_)
 refine X4_4 L fun c oc vs tq hc N S hq=> ?_
 refine sb hd' ?_
 refine (?_:wpN _ A.in1 (callFunction a fd args) _ _ s)
 rw [callFunction,P,J,F,hc]
 rw [hc] at h
 refine as_ (m:=field (.ref c) 1) (wpAny_field N S hq (bX_ (bJ_ ?_)))
 exact as_ (wpAny_mono h (fun u z G=>as_ (wpAny_mono G (fun env j y=>as_ (wpAny_enterFrame y.1 D
  (bJ_ (And.intro rfl y.2)))) fun _ _ h'=>h')) fun _ _ h'=>h')
end
section
variable {α β:Type}{M:Model}{A:Around}{E:Value→Shared→Prop}{s:Shared}{env:Env}
theorem ef_ {vs:List Value}{m:Sem α}{Q:α→Shared→Prop}(h:wpN M A m Q E s):wpN M A (holding vs m) Q E s:=fun Γ p i n=>by rw [Sem.wp_holding]; exact h Γ p i n
theorem jQ_ {vs:List Value}{m:Sem α}{Q:α→Shared→Prop}(h:wpN M A m Q E s):wpN M A (m.keep vs) Q E s:=fun Γ p i n=>by rw [Sem.wp_keep]; exact h Γ p i n
theorem cg_ {st:Stmt}{rest:List Stmt}{Q:Flow→Shared→Prop}(h:wpN M A (exec st env) (fun f s'=>match f with | .next=>wpN M A (execs rest env) Q E s' | f=>Q f s') E s):wpN M A (execs (st::rest) env) Q E s:=fun Γ p i n=>by
 rw [execs_cons,Sem.wp_bind']
 refine Sem.wp_mono M Γ _ (fun f p' s' h'=> ?_) (fun _ _ _ h'=>h') _ _ (h Γ p i n)
 cases f <;>first | exact h' Γ p' i n | exact h'
theorem cB_ {x:Str}{pos':Pos}{value:Expr}{pos:Pos}{Q:Flow→Shared→Prop}(h:wpN M A (eval value env) (fun v s1=>wpAny M A (storeName env x v) (fun _=>Q .next) E s1) E s)
  (hs:autoParam (swapsWith value (some (.Name x pos')) pos.line env=pure false) aQ4):wpN M A (exec (.Assign [.Name x pos'] value pos) env) Q E s:=fun Γ p i n=>by
 simp only [exec_Assign_Name env x pos' value pos hs,Sem.wp_bind',Sem.wp_cmd_standAt,Sem.wp_bindName,Sem.wp_pure']
 exact Sem.wp_mono M Γ _ (fun v _ s1 h1=>h1 Γ _ i) (fun _ _ _ h'=>h') _ _ (h Γ _ i n)
theorem dQ_ {pos:Pos}{f:Value}{first:List Value}{Q:Value→Shared→Prop}{P:Heap→Prop}{args:List (Bool×Sem Value)}{keywords:List (Option Str×Sem Value)}(hplain:(args.any (·.1) || keywords.any (·.1.isNone))=false)
  (hk:∀h,P h→∃k,(k=Keeper.frame∨k=Keeper.machine∨k=Keeper.boundFrame)∧Looks M h (keeperOf f) k)
  (h:wpAny M A (evalArgs f true args keywords) (fun a s1=>P s1.heap∧wpN M A (call f (first++a.pos) a.kw) Q E s1) E s):wpN M A (callWith pos f first args keywords) Q E s:=by
 unfold callWith
 refine as_ (wpAny_holding (wpAny_mono h (fun a s1 h1=>as_ (wpAny_standAt ?_)) fun _ _ x=>x))
 refine X1_2 (hk _ h1.1) fun k hk' L=> ?_
 refine sb hplain ?_
 refine as_ (L.here ?_)
 have tail:∀{t:Sem Value},wpN M A t Q E s1→wpN M A (t>>=fun r=>holding [r] point>>=fun _=>pure r) Q E s1:=
  fun ht=>bX_ (bC_ ht (fun r s2 hr=>as_ (wpAny_holding (wpAny_point (bJ_ hr)))) fun _ _ x=>x)
 have marked (mk:Value):wpN M A (callMarked mk f (first++a.pos) a.kw) Q E s1:=by unfold callMarked; exact jQ_ h1.2
 rcases hk' with rfl | rfl | rfl <;>dsimp only <;>first | exact tail h1.2 | (split <;>first | exact tail h1.2 | exact tail (marked _))
theorem hm_ {func:Expr}{args:List Expr}{pos:Pos}{Q:Value→Shared→Prop}(h:wpAny M A (eval func env) (fun f s1=>wpN M A (callWith pos f [] (backTo pos (starEach args env)) []) Q E s1) E s)
  (hc:autoParam (eval (.Call func args [] pos) env=(do callWith pos (← eval func env) [] (backTo pos (starEach args env)) (backToKw pos (keywordEach [] env)))) aQ6):wpN M A (eval (.Call func args [] pos) env) Q E s:=by
 rw [hc]
 exact as_ h
end
structure WpN (g:GC)(A:Around)(env:Env)(b:List Stmt)(Q:Flow→Shared→Prop)(E:Value→Shared→Prop)(s:Shared):Prop where
 run:wpN (model g.prog g.w) A (execs b env) Q E s
def jO_ (g:GC)(A:Around)(env:Env)(rest:List Stmt)(Q:Flow→Shared→Prop)(E:Value→Shared→Prop)(f:Flow)(s':Shared):Prop:=match f with
 | .next => WpN g A env rest Q E s'
 | f => Q f s'
def jP_ (g:GC)(k:Nat)(f:Addr)(ps:List PV)(o:PV):Prop:=∀A s X vs,AOk k A→g.Ok s→XOk g X s.heap→RdL g X s.heap ps vs→
 eE_ (model g.prog g.w) A (.call (.ref f) ⟨vs,[]⟩) (fun r s'=>∃v,r= .ok (.ret v)∧g.Ok s'∧Kp g s.heap s'.heap∧Rd g X s'.heap o v) s
section
variable {g:GC}{k:Nat}{hF:Heap}{env:Env}{Xo:Addr→Prop}{M0 M1:List Addr}{X:Addr→Prop}{σ σ':List (Str×PV)}{ω ω':List (Addr×OC)}{s s':Shared}
section
variable {A:Around}{E:Value→Shared→Prop}{Q:Flow→Shared→Prop}{rest:List Stmt}
theorem stN {st:Stmt}(h:Wp g A env [st] (jO_ g A env rest Q E) E s):WpN g A env (st::rest) Q E s:=⟨cg_ (by
 have h1:=h.run
 have h2:wpAny (model g.prog g.w) A (exec st env) (jO_ g A env rest Q E) E s:=fun Γ p i=>by
  have h3:=h1 Γ p i
  rw [execs_cons,Sem.wp_bind'] at h3
  refine Sem.wp_mono _ Γ _ (fun f p' s' h'=> ?_) (fun _ _ _ h'=>h') _ _ h3
  cases f with
  | next=>
   have h4:jO_ g A env rest Q E .next s':=by
    have:=h'
    simpa [execs_nil] using this
   exact h4
  | brk => exact h'
  | cont => exact h'
  | ret v => exact h'
 exact bC_ (fF_ h2) (fun f s' p=>by cases f <;>first | exact p.run | exact p) fun _ _ x=>x)⟩
theorem WpN.of (h:Wp g A env rest Q E s):WpN g A env rest Q E s:=⟨fF_ h.run⟩
end
end
theorem ib_ {g:GC}(G:g.Good){k:Nat}{f:Addr}{n:Nat}{pm cd doc:Value}{pvs:List PV}{o:PV}(F:FnAt g f n pm cd doc)(ps:List Str)(aD:ps.length=pvs.length)
  (aa:∀vs,vs.length=pvs.length→bindArgs (fdat n pm cd doc) ⟨vs,[]⟩=pure (ps.zip vs)) (al:ps.Nodup)
  (hkind:∀m,∀x∈ps,(fdef n).2.2.2.names.lookup x=some .local∨((fdef n).2.2.2.names.lookup x=some .cell∧((cellsFrom m (fdef n).2.2.2.names []).lookup x).isSome=true))
  (Z:∀x∈ps,(x==("__classdict__" :Str))=false)
  (H:∀A s₀ B Xo L M E,AOk k A→Xo g.Pt→LS g s₀ (cenv n pm cd doc L f) Xo [] M (ps.zip pvs) [] B→WpN g A (cenv n pm cd doc L f) (fdef n).2.2.1 (Out g s₀ Xo o) E B)
  (a3:autoParam ((fdef n).2.2.2.isCoroutine=false) aQ5) (ap:autoParam ((fdef n).2.2.2.isGenerator=false) aQ5) (hk:autoParam ((fdef n).2.2.2.kind= .function) aQ7):jP_ g (k+1) f pvs o:=fun A s X vs a O x r=>by
 refine X1_2 F.ob fun ob ho hd=> ?_
 have R: @LT.lt Nat _ g.Pt s.heap.objs.size:=(O.pt).elim fun o ho=>Heap.lt_size ho
 have a6:s.heap.CodeRec cd (fdef n).1:=by
  refine X4_5 F.code fun c oc a0 t h1 h2 h3 h4 h5=> ?_
  exact I4_4 c oc a0 t h1 (O.gk _ _ h2 h3) h4 h5
 have a9:=aH_ r
 have J:∀{x:Str×Value},x∈ps.zip vs→x.1∈ps:=fun h=>(List.of_mem_zip h).1
 refine b9_ (fd:=fdat n pm cd doc) (body:=(fdef n).2.2.1) a.room (O.gk _ _ F.fp ho) hd a3 ap rfl a6 ?_
 refine sb (aa vs a9) ?_
 refine wpAny_pure (wpAny_with_toks (n:=1) O.tok (wpAny_newFunctionEnv_cells hk (fun y hy=>hkind _ y.1 (J hy)) fun env he B I ht=> ?_))
 subst he
 have an:=I.toInCall.ns
 have l:=I.toInCall.keep
 refine X2_1 I.toInCall.same fun hh tk ab=> ?_
 subst ab
 have w:g.Ok {s with heap:=hh,toks:=tk}:=O.keep G l ht
 have C:∀(x:Str) (c:Nat),(cenv n pm cd doc s.heap.objs.size f).cells.lookup x=some c→@LT.lt Nat _ s.heap.objs.size c:=fun x c hc=>I.above x c (PySem.mem_of_lookup hc)
 have T:∀{b:Nat} {o},s.heap.get? b=some o→@LT.lt Nat _ b s.heap.objs.size:=fun e=>Heap.lt_size e
 have K:∀b:Nat,@LE.le Nat _ s.heap.objs.size b→s.heap.get? b=none:=fun b hb=>by
  cases e:s.heap.get? b with
  | none => rfl
  | some o => have:=T e; exact (O6 this hb).elim
 have XL:∀{b:Nat},X b→@LT.lt Nat _ b s.heap.objs.size:=fun hb=>by refine X1_1 (x.xs _ hb) fun o e=> ?_; exact T e
 let M:List Addr:=s.heap.objs.size::((cenv n pm cd doc s.heap.objs.size f).cells.map (·.1)).filterMap fun x=>(cenv n pm cd doc s.heap.objs.size f).cells.lookup x
 have ac:∀x c,(cenv n pm cd doc s.heap.objs.size f).cells.lookup x=some c→c∈M:=fun x c hc=> .tail _ (List.mem_filterMap.mpr ⟨x,List.mem_map.mpr ⟨(x,c),PySem.mem_of_lookup hc,rfl⟩,hc⟩)
 have Mof:∀{b},b∈M→b=s.heap.objs.size∨∃x,(cenv n pm cd doc s.heap.objs.size f).cells.lookup x=some b:=fun hb=>by
  rcases List.mem_cons.mp hb with h | hb
  ·exact .inl h
  ·refine X1_2 (List.mem_filterMap.mp hb) fun x _ hx=> ?_
   exact .inr ⟨x,hx⟩
 have Mge:∀b∈M,@LE.le Nat _ s.heap.objs.size b:=fun b hb=>by
  rcases Mof hb with rfl | ⟨x,hx⟩
  ·exact Nat.le_refl _
  ·exact Nat.le_of_lt (C x b hx)
 have Mex:∀b∈M,∃o,hh.get? b=some o:=fun b hb=>by
  rcases Mof hb with rfl | ⟨x,hx⟩
  ·exact Ns.ex an
  ·refine X1_2 (I.cell x b hx) fun o' e' _=> ?_
   exact ⟨o',e'⟩
 have Cr:bE_ X (av X [] M) s.heap hh:=⟨fun b o _ e=>l b o e,fun b o n e q=>by
  rcases q with q | q | q
  ·exact n q
  ·exact (nomatch q)
  ·have:=T e; have:=Mge _ q; exact O6 ‹_› this⟩
 have S:LS g s.heap (cenv n pm cd doc s.heap.objs.size f) X [] M (ps.zip pvs) [] {s with heap:=hh,toks:=tk}:=by
  refine ⟨w, ?_,fun b o _ _ e=>l b o e,fun b o e=>⟨o,l b o e⟩,fun b hb=>K _ (Mge b hb),fun b hb=> ?_, .inr mQ,fun x c hc=> .inr (ac x c hc),fun _ _ h=>nomatch h⟩
  ·have a7:∀z,av X [] M z→z≠g.Pt→g.hG.get? z=none:=fun z hz n=>by
    rcases hz with hz | hz | hz
    ·exact x.gX z hz n
    ·exact (nomatch hz)
    ·exact O.none (K z (Mge z hz))
   refine {fn:=hk,gl:=rfl,bl:=rfl,xs:=fun b hb=> ?_,ptX:= .inl x.ptX,gX:=a7,lX:= .inr (.inr mQ),lP:=nN (by refine (?_: @Ne Nat s.heap.objs.size g.Pt); exact O7 R),cX:=fun y c hc=> ?_,inj:=fun y z c h1 h2=>name_of_addr I.apart (PySem.mem_of_lookup h1) (PySem.mem_of_lookup h2),ns:=(I1_2 _ an (fun y pv hy a2=> ?_)),vars:=fun y pv hy=> ?_,own:=fun _ _ h=>(nomatch h),once:=List.Pairwise.nil}
   ·rcases hb with hb | hb | hb
    ·refine X1_1 (x.xs b hb) fun o e=> ?_; exact ⟨o,l _ _ e⟩
    ·exact (nomatch hb)
    ·exact Mex b hb
   ·have:=C y c hc
    exact ⟨.inr (.inr (ac y c hc)),nN (by exact Nat.ne_of_gt (Nat.lt_trans R this)),nN (by refine (?_: @Ne Nat c s.heap.objs.size); exact O7 this),_,I.cell y c hc⟩
   ·refine X1_2 (de_ r hy) fun v hv hr=> ?_
    exact I1_2 v (dv_ a2 ps vs _ al hv) (an_ Cr _ _ hr)
   ·refine X1_2 (de_ r hy) fun v hv hr=> ?_
    rcases hkind (s.heap.objs.size+1) y (J hv) with q | ⟨q1,q2⟩
    ·exact .inl q
    ·refine X1_1 (Option.isSome_iff_exists.mp q2) fun c hc=> ?_
     have au:(cenv n pm cd doc s.heap.objs.size f).cells.lookup y=some c:=hc
     have hcell:=I.cell y c au
     rw [dw_ (x:=y) (v:=v) (by refine (?_:(fdef n).2.2.2.names.lookup y≠_); refine sb q1 ?_; simp) ps vs _ al hv] at hcell
     exact .inr ⟨.inl q1,Z y (J hv),c,v,au,hcell,an_ Cr _ _ hr⟩
  ·rcases hb with hb | hb
   ·exact (nomatch hb)
   ·have:=Mge b hb
    refine ⟨?_,nN (by exact O9 R this)⟩
    cases e:g.hG.get? b with
    | none => rfl
    | some o => have:=T (O.gk b o (nN (by exact O9 R this)) e); exact (O6 this ‹_›).elim
 refine ⟨w.nolim G,e0_ ?_⟩
 exact bC_ (H (A.deeper (cenv n pm cd doc s.heap.objs.size f)) s.heap _ X _ M _ a.down x.ptX S).run (fun fl s' h=>⟨_,rfl,h⟩) fun _ _ h=>h
section
variable {g:GC}{k:Nat}{hF:Heap}{env:Env}{Xo:Addr→Prop}{M0 M1:List Addr}{X:Addr→Prop}{σ σ':List (Str×PV)}{ω ω':List (Addr×OC)}{s s':Shared}
section
variable {A:Around}{E:Value→Shared→Prop}{Q:Flow→Shared→Prop}{N:List Stmt}
theorem e7_ (G:g.Good){x:Str}{px pos cp:Pos}{u e:Expr}{P:List Expr}{f:Addr}{ps:List PV}{o:PV}(S:LS g hF env Xo M0 M1 σ ω s)(a:AOk k A)(hf:Ev g k env (av Xo M0 M1) σ ω u (.ref f))(a5:IsFn g f)(he:EvL g k env (av Xo M0 M1) σ ω (e::P) ps)
  (ho:jP_ g k f ps o) (hk:Kd env x) (c:∀s',LS g hF env Xo M0 M1 (upd x o σ) ω s'→WpN g A env N Q E s')
  (a1:autoParam (∀pos,(backTo pos (starEach P env)).any (·.1)=false) aQ2) (a8:autoParam (nst e=true) aQ1) (hn:starEach (e::P) env=(false,eval e env)::starEach P env:=bT_ a8)
  (hc:autoParam (eval (.Call u (e::P) [] cp) env=(do callWith cp (← eval u env) [] (backTo cp (starEach (e::P) env)) (backToKw cp (keywordEach [] env)))) aQ6)
  (Z:autoParam ((x==("__classdict__" :Str))=false) aQ0) (a4:autoParam (swapsWith (.Call u (e::P) [] cp) (some (Expr.Name x px)) pos.line env=pure false) aQ4):
  WpN g A env (.Assign [.Name x px] (.Call u (e::P) [] cp) pos::N) Q E s:=⟨cg_ (bC_ (Q:=jO_ g A env N Q E) (cB_ (hm_ (hf.use a S.ok S.loc fun v B w aj V Y=>by
  rw [rd_ref] at Y; subst Y
  have am:=fun A s E a O L=>he.run A s E a O L cp
  rw [hn] at am ⊢
  refine dQ_ (by refine (?_:((false || (backTo cp (starEach P env)).any (·.1)) || false)=false); refine sb (a1 ..) ?_; rfl) (hC_ (g:=g)) (evalArgs_plain (wpAny_mono (am A B _ a w V) (fun vs ad p=> ?_) fun _ _ x=>x))
  refine X0_3 p fun D U ak=> ?_
  have aq:=V.kp U D.pt
  refine ⟨?_, ?_⟩
  ·obtain ⟨hp,ob,fd,h1,h2⟩:=a5
   exact I2_2 ob fd (D.gk _ _ hp h1) h2
  ·refine d6_ (fun Γ p i j n=> ?_)
   have:=ho A ad _ vs a D aq.xok ak Γ p i j n
   refine wpCode_mono (fun r aB hr=> ?_) this
   (refine X1_4 hr fun v q1 ah ai af=> ?_; subst q1)
   exact (((S.kp w aj).kp D U).kp ah ai).store G hk Z af c) hc) a4) (fun f s' p=>by cases f <;>first | exact p.run | exact p) fun _ _ x=>x)⟩
end
end
end Mine
end
section
namespace Mine
theorem jA_:ND ⟨.builtin "claim.caller" {},none,none,[],none⟩:=⟨by decide+kernel,fun _ h=>nomatch h⟩
theorem fI_ {prog:Program}{w:World}{t:Sem Fin}{s:Shared}{R:Result→Shared→Prop}(hreg:s.asleep)
  (h:wpN (model prog w) callerA t (fun fin s'=>∃f,fin= .done f∧(R (.ok f) s'∧leftWithCleanup s'.gens=false)) (fun e s'=>R (.error e) s'∧leftWithCleanup s'.gens=false) s):
  ∃n r s' s'',runN (denote table) prog w n s ⟨t, .builtin "claim.caller" {},default,[]⟩= .halted (outcomeOf r) s'∧
   schedN (denote table) prog w n (.single s ⟨t, .builtin "claim.caller" {},default,[]⟩)= .halted (outcomeOf r) s'∧s'.forget=s''.forget∧R r s'':=by
 have h':Sem.wp (model prog w) ⟨.builtin "claim.caller" {},none,none,[],none⟩ t (Sem.finPost (model prog w) ⟨.builtin "claim.caller" {},none,none,[],none⟩ fun r s'=>R r s'∧leftWithCleanup s'.gens=false) (fun e _ s'=>R (.error e) s'∧leftWithCleanup s'.gens=false) default s:=by
  refine Sem.wp_mono (model prog w) _ t (fun fin p' s' h'=> ?_) (fun _ _ _ h'=>h') default s (h _ default caller_in jA_)
  (refine X1_2 h' fun f q1 hf=> ?_; subst q1)
  exact hf
 refine X4_4 (wp_halts_full (M:=model prog w) (R:=R) hreg h') fun n r s1 s2 hs hn hfo hR=> ?_
 exact I4_4 n r s2 s1 hn hs hfo hR
theorem ie_ {c:ClaimW}{tree:List Value→Sem Fin}{w:World}{s:Shared}{free:Addr→Prop}{gens:Prop}{kept:Heap→Prop}(hz:s.asleep)(hgens:s.gens= #[])
  (hspec:∀args,c.pre args=true→WData.layableAll args=true→
   ∀ord:List DictEntry→List DictEntry,(∀l,(ord l).Perm l)→
   ∃vs s1,layAllW c.records (classAt s.heap) w.params ord args s=some (vs,s1)∧
    wpN (model c.prog w) callerA (tree vs) (fun fin s'=>∃f,fin= .done f∧(c.Ends s args vs s1 (.ok f) s'∧s'.os=s.os∧AllBare s'.gens∧kept s'.heap))
     (fun e s'=>c.Ends s args vs s1 (.error e) s'∧s'.os=s.os∧AllBare s'.gens∧kept s'.heap) s1):
  c.CallFrom (fun vs=>⟨tree vs, .builtin "claim.caller" {},default,[]⟩) w free gens kept s:=by
 intro args hpre hlay ord hord
 refine gn fun P fin=> ?_
 refine X2_2 (hspec args hpre hlay ord hord) fun vs s1 hlaid hcode=> ?_
 have hal:=layAllW_rest _ _ _ hlaid
 obtain ⟨k,r,s',s'',hrun,hsched,hfo,hcase,hos,hkp⟩:=fI_ (prog:=c.prog) (w:=w) (t:=tree vs) (s:=s1)
  (R:=fun r s'=>c.Ends s args vs s1 r s'∧s'.os=s.os∧kept s'.heap)
  (Shared.asleep_of_life hal.2.2.2 hz)
  (bC_ hcode (by
   rintro fin s' ⟨f,e,h1,h2,h3,h4⟩
   exact I1_3 f e ⟨h1,h2,h4⟩ (leftWithCleanup_false_of_bare h3)) (by
   rintro e s' ⟨h1,h2,h3,h4⟩
   exact ⟨⟨h1,h2,h4⟩,leftWithCleanup_false_of_bare h3⟩))
 refine X0_5 (Shared.forget_eq hfo) fun eh _ _ eo _=> ?_
 have hcase:=hcase.congr eh
 have hkp:kept s'.heap:=by first | exact eh▸hkp | (rw [eh] at hkp; exact hkp) | (rw [← eh] at hkp; exact hkp)
 rw [← eo] at hos
 have hlife:s'.heap.life=s.heap.life:=(runN_life _ _ _ hrun).trans hal.2.2.2
 refine fin ?_
 refine I2_1 vs s1 ⟨hlaid,k,_,s',hsched, ?_,(fun _ i x hx=>by replace hx:=hgens▸hx; contradiction),hkp,by exact sb hlife rfl,Shared.rest_eq hos⟩
 rcases hcase with ⟨v,rfl,d1,d2,d3,d4,d5⟩ | ⟨e,ob,cls,rfl,d1,d2,d3,d4,d5⟩
 ·exact .inl (I1_6 v rfl d1 d2 d3 (fun b o y _=>d4 b o y) d5)
 ·exact .inr (I3_6 e ob cls rfl d1 d2 d3 d4 (fun b o y _=>d5 b o y))
theorem iO_ {r:RowW}{run:Value→List Value→Sem Value}{tree:List Value→Sem Fin}{q:Program}{loose defs kps:List Str}{writes:Bool}{Xt:Shared→Bool}{XP:(Str→Option Value)→Heap→Prop}{α:Type}{Yf:Shared→α}{Ya:World→α}{YP:World→Heap→Prop}{N:Nat}
  (left:LeftO r.prog q loose Xt Yf Ya N) (hY:∀w s,Yf s=Ya w→YP w s.heap) (hYk:∀w h h',YP w h→(∀b o,h.get? b=some o→h'.get? b=some o)→YP w h') (hX:∀s,Xt s=true→XP (s.heap.nsMap mainGlobals) s.heap) (hXk:∀mg h h',XP mg h→(∀b o,h.get? b=some o→h'.get? b=some o)→XP mg h')
  (hRf:∀s,Xt s=true→RecFacts r.records s.heap) (hwr:(!writes || r.records.isEmpty)=true) (ok:(chainsOk q && opensWell r.prog && (frees r && r.within.isEmpty))=true) (hb:r.prog.bare) (hw:r.promised)
  (ht:∀vs (w:World) (s:Shared) mg f (Q:Fin→Shared→Prop) (E:Value→Shared→Prop),s.heap.Ns mainGlobals mg→mg r.name=some f→wpN (model r.prog w) callerA (run f vs) (fun v s'=>Q (.done (.ret v)) s') E s→wpN (model r.prog w) callerA (tree vs) Q E s)
  (pin:∀w s,s.heap.isNs mainGlobals=true→Ground q loose [] XP w s (s.heap.nsMap mainGlobals) (s.heap.nsMap builtinsNs) s.heap→∀n∈defs,isTheDefsW r.prog s.heap n)
  (call:∀(w:World) (s₀ s1:Shared) (mg mb:Str→Option Value),Ground q loose r.records XP w s₀ mg mb s1.heap→YP w s1.heap→∀(args:List WData) (vs:List Value) (as:List Addr),
   r.claim.pre args=true→WData.layableAll args=true→Laid r.records w s₀ s1 args vs as→sysModules < s₀.heap.objs.size→∃f,mg r.name=some f∧
    wpN (model r.prog w) callerA (run f vs) (fun v s'=>GoodWG r.claim (classAt s₀.heap) (ExcName.means s₀.heap) args s1 (.ok (.ret v)) s')
     (fun e s'=>GoodWG r.claim (classAt s₀.heap) (ExcName.means s₀.heap) args s1 (.error e) s') s1):r.claim.HoldsOpenBy (fun vs=>⟨tree vs, .builtin "claim.caller" {},default,[]⟩) defs kps writes:=by
 refine gn fun P fin=> ?_
 refine X0_2 (Bool.and_eq_true_iff.mp ok) fun ok k5=> ?_
 refine X0_2 (Bool.and_eq_true_iff.mp ok) fun hch o1=> ?_
 refine X0_2 (Bool.and_eq_true_iff.mp k5) fun k5 k6=> ?_
 refine X0_5 (frees_parts k5) fun hsame hu ha hap hm=> ?_
 refine fin ?_
 refine I0_3 ⟨hb,o1,by refine (?_:r.makers.map _= []); refine sb hm ?_; rfl⟩ hw.witness (fun w=>⟨(left.behind hX hch w).1,fun s' hs'=> ?_⟩)
 refine gn fun P fin=> ?_
 obtain ⟨s₀,hf,hg0,s,hT,hz,hgens,hg,G00,y⟩:=(left.behind (XP:=fun mg h=>XP mg h∧RecFacts r.records h) (fun s hs=>⟨hX s hs,hRf s hs⟩) hch w).2 s' hs'
 have G0:Ground q loose [] XP w s (s.heap.nsMap mainGlobals) (s.heap.nsMap builtinsNs) s.heap:=⟨G00.T,G00.B,G00.D,G00.TE,G00.TD,G00.W,G00.X.1,G00.cls,G00.has,G00.apart,G00.once,G00.K⟩
 have RF:=G00.X.2
 have hT':=hT
 refine fin ?_
 refine ⟨s₀,hf,hg0,s,hT,pin w s hg G0,RF.1,RF.2.1, ?_⟩
 have hgens:s.gens= #[]:=Array.eq_empty_of_size_eq_zero (beq_iff_eq.mp hgens)
 have G:Ground q loose r.records XP w s _ _ s.heap:=RF.ground G0
 refine ie_ (c:=r.claim) hz hgens fun args hpre hlay ord hord=> ?_
 refine gn fun P fin=> ?_
 (refine X1_1 (Option.isSome_iff_exists.mp (layAllW_isSome (P:=w.params) (ord:=ord) G.has args r.args s (pre_splitW hpre).1)) fun q2 hlaid=> ?_; obtain ⟨vs,s1⟩:=q2)
 have keeps:=layAllW_keeps _ _ _ hlaid
 have hal:=layAllW_rest _ _ _ hlaid
 refine X1_3 (reads_layAllW hord _ _ _ hlaid hlay s1.heap (fun _ _ e=>e)) fun as hrd hin hold=> ?_
 have L:Laid r.records w s s1 args vs as:=⟨⟨ord,hord,hlaid⟩,hrd,hin,hold,keeps,hal.1.trans hgens,hal.2.2.1⟩
 have G1:=G.keeps hXk keeps
 refine X1_2 (call w s s1 _ _ G1 (hYk _ _ _ (hY w s y) keeps) args vs as hpre hlay L G.low) fun f hf h=> ?_
 have hi:=ident_freeW hu ha hap
 have hwi:r.claim.within= []:=List.isEmpty_iff.mp k6
 refine fin ?_
 exact I2_2 vs s1 hlaid (ht vs w s1 _ f _ _ G1.T.g hf (bC_ h (fun v s' g=>(I1_2 _ rfl (have z:=g.laid (c:=r.claim) hsame hwi hi L; ⟨z.1,z.2.1,z.2.2,fun q=>⟨namesKept_of hT' hg kps keeps g.2.1.old,noTable hwr q⟩⟩))) fun e s' g=>have z:=g.laid (c:=r.claim) hsame hwi hi L; ⟨z.1,z.2.1,z.2.2,fun q=>⟨namesKept_of hT' hg kps keeps g.2.1.old,noTable hwr q⟩⟩))
abbrev n4_ (q:Program)(loose:List Str)(XP:(Str→Option Value)→Heap→Prop)(YP:World→Heap→Prop)(r:RowW)(d:DefRec)(kwd:List (Str×Expr))(run:Value→List Value→Sem Value):Prop:=
 ∀(w:World) (s₀ s1:Shared) (mg mb:Str→Option Value),Ground q loose r.records XP w s₀ mg mb s1.heap→YP w s1.heap→∀(a:Addr) (o:Obj) (pm cd doc dV kV:Value),s1.heap.get? a=some o→
  o.data= .func {docDef d.name d.params d.body d.scope pm cd doc with defaults:=dV,kwdefaults:=kV}→s1.heap.CodeRec cd d.name→Dflts mg s1.heap d.params kwd dV kV→mg d.name=some (.ref a)→s1.gens= #[]→
  ∀(args:List WData) (vals:List Value) (as:List Addr),r.claim.pre args=true→WData.layableAll args=true→ReadsAllW r.records (classAt s₀.heap) s1.heap vals args as→WellAll w.params s1.heap vals args→(∀a∈as,(a==sysModules)=false)→
   wpN (model r.prog w) callerA (run (.ref a) vals) (fun v s'=>GoodWG r.claim (classAt s₀.heap) (ExcName.means s₀.heap) args s1 (.ok (.ret v)) s')
    (fun e s'=>GoodWG r.claim (classAt s₀.heap) (ExcName.means s₀.heap) args s1 (.error e) s') s1
end Mine
namespace Mine.PySem.W
theorem holds_open {r:OpenRow}{q:Program}{loose:List Str}{Xt:Shared→Bool}{XP:(Str→Option Value)→Heap→Prop}{α:Type}{Yf:Shared→α}{Ya:World→α}{YP:World→Heap→Prop}{d:DefRec}{kwd:List (Str×Expr)}{N:Nat}
  (left:LeftO r.prog q loose Xt Yf Ya N) (hY:∀w s,Yf s=Ya w→YP w s.heap) (hYk:∀w h h',YP w h→(∀b o,h.get? b=some o→h'.get? b=some o)→YP w h')
  (hX:∀s,Xt s=true→XP (s.heap.nsMap mainGlobals) s.heap) (hXk:∀mg h h',XP mg h→(∀b o,h.get? b=some o→h'.get? b=some o)→XP mg h')
  (hdef:defOf q r.name=some (d,kwd)) (hp:r.prog.theDef r.name=some (d.params,d.body,d.scope)) (hk:kwWritten? d.params.kwonlyargs d.params.kw_defaults=some kwd) (hRf:∀s,Xt s=true→RecFacts r.records s.heap) (hwr:(!r.writes || r.records.isEmpty)=true)
  (k1:r.wellSaid=true) (ok:(chainsOk q && opensWell r.prog && (frees r.toRowW && r.within.isEmpty))=true) (hb:r.prog.bare) (hw:r.toRowW.promised)
  (call:n4_ q loose XP YP r.toRowW d kwd fun f vs=>PySem.call f vs):r.Holds:=by
 refine ⟨k1,hw,iO_ (r:=r.toRowW) (run:=fun f vs=>PySem.call f vs) (tree:=fun vs=>do match ← nsGet mainNs r.name with
   | some f => do ret (← PySem.call f vs)
   | none => unsupported "claim.caller:no-such-global") left hY hYk hX hXk hRf hwr ok hb hw
  (fun vs w s mg f Q E hg hf h=>as_ (wpAny_nsGet hg (by rw [hf]; exact bX_ (bC_ h (fun _ _ x=>bJ_ x) fun _ _ x=>x))))
  (fun w s hg G n hn=> ?_) fun w s₀ s1 mg mb G Y args vs as hpre hlay L low=> ?_⟩
 ·obtain rfl:n=r.name:=by split at hn <;>simp_all
  exact pinned_of_view hg G hdef hp hk
 ·obtain ⟨a,o,pm,cd,doc,dV,kV,h1,h2,h3,h4,h5⟩:=G.fn hdef
  exact ⟨.ref a,h1,call w s₀ s1 mg mb G Y a o pm cd doc dV kV h2 h3 h4 h5 (defOf_name hdef▸h1) L.gens args vs as hpre hlay L.reads L.well (L.low low)⟩
end Mine.PySem.W
end
section
open PySem PySem.W PyProof.Rows
set_option maxHeartbeats 0
noncomputable def PySem.W.Fast.tw7250012664060256230:=()
noncomputable def PySem.W.Fast.tw6733733256287894996:=()
noncomputable def PySem.W.Fast.tw8075568018651887793:=()
noncomputable def PySem.W.Fast.tw14979626087600564940:=()
noncomputable def PySem.W.Fast.tw15947536311621767861:=()
noncomputable def PySem.W.Fast.tw15163492979423080397:=()
noncomputable def PySem.W.Fast.tw8376699189594788667:=()
noncomputable def PySem.W.Fast.tw2245006971878993143:=()
noncomputable def PySem.W.Fast.tw9589826289149064027:=()
noncomputable def PySem.W.Fast.tw7253563546036869354:=()
noncomputable def PySem.W.Fast.tw5200128776193632040:=()
noncomputable def PySem.W.Fast.tw5111356299099525756:=()
noncomputable def PySem.W.Fast.tw8901101332624060146:=()
noncomputable def PySem.W.Fast.tw8703263022893421829:=()
noncomputable def PySem.W.Fast.tw17000155066101142889:=()
noncomputable def PySem.W.Fast.tw10205541121877940668:=()
noncomputable def PySem.W.Fast.tw701097294156878152:=()
noncomputable def PySem.W.Fast.tw12945451867199242903:=()
noncomputable def PySem.W.Fast.tw17730448691065144110:=()
noncomputable def PySem.W.Fast.tw6434138532213402376:=()
noncomputable def PySem.W.Fast.tw10996506086634736982:=()
noncomputable def PySem.W.Fast.tw14326252917377295143:=()
noncomputable def PySem.W.Fast.tw9011979029575296479:=()
noncomputable def PySem.W.Fast.tw9862997608875712007:=()
noncomputable def PySem.W.Fast.tw8537084889766193716:=()
noncomputable def PySem.W.Fast.tw17070079461858475408:=()
noncomputable def PySem.W.Fast.tw9029142643779711378:=()
noncomputable def PySem.W.Fast.tw15236012663528867214:=()
noncomputable def PySem.W.Fast.tw9697512110049397445:=()
noncomputable def PySem.W.Fast.tw14676129246514791375:=()
noncomputable def PySem.W.Fast.tw4388067698380316889:=()
noncomputable def PySem.W.Fast.tw2921100012855380799:=()
noncomputable def PySem.W.Fast.tw4083366629787285363:=()
noncomputable def PySem.W.Fast.tw14204384831589138817:=()
noncomputable def PySem.W.Fast.tw16214148842636244229:=()
noncomputable def PySem.W.Fast.tw10323183001455561277:=()
noncomputable def PySem.W.Fast.tw11853533878840232495:=()
noncomputable def PySem.W.Fast.tw17964007177503468958:=()
noncomputable def PySem.W.Fast.tw4775785305629353868:=()
noncomputable def PySem.W.Fast.tw4658958612460137192:=()
noncomputable def PySem.W.Fast.tw17164873540382356111:=()
noncomputable def PySem.W.Fast.tw3577408171920636059:=()
noncomputable def PySem.W.Fast.tw392140993173905013:=()
noncomputable def PySem.W.Fast.tw4444965560193506482:=()
noncomputable def PySem.W.Fast.tw15480198773659482676:=()
noncomputable def PySem.W.Fast.tw5357591511691535388:=()
noncomputable def PySem.W.Fast.tw4636218855388986860:=()
noncomputable def PySem.W.Fast.tw3362959441861295915:=()
noncomputable def PySem.W.Fast.tw16804044748790271530:=()
noncomputable def PySem.W.Fast.tw17532440430192770315:=()
noncomputable def PySem.W.Fast.tw14376985748213822385:=()
noncomputable def PySem.W.Fast.tw13254397897704925713:=()
noncomputable def PySem.W.Fast.tw5591276700874282246:=()
noncomputable def PySem.W.Fast.tw11788150170368784547:=()
noncomputable def PySem.W.Fast.tw117213463901210413:=()
noncomputable def PySem.W.Fast.tw2664551874359636763:=()
noncomputable def PySem.W.Fast.tw9948023125614773506:=()
noncomputable def PySem.W.Fast.tw14847034805825309785:=()
noncomputable def PySem.W.Fast.tw1205011080872041891:=()
noncomputable def PySem.W.Fast.tw6654550962395885724:=()
noncomputable def PySem.W.Fast.tw15278061642289888581:=()
noncomputable def PySem.W.Fast.tw6679490504615227074:=()
noncomputable def PySem.W.Fast.tw1651231452613355621:=()
noncomputable def PySem.W.Fast.tw10253492065209306289:=()
noncomputable def PySem.W.Fast.tw9764882154061713095:=()
noncomputable def PySem.W.Fast.tw14126943448341045398:=()
noncomputable def PySem.W.Fast.tw11939915149646268982:=()
noncomputable def PySem.W.Fast.tw11270796479367742343:=()
noncomputable def PySem.W.Fast.tw4797165386629745026:=()
noncomputable def PySem.W.Fast.tw6817277305950994716:=()
noncomputable def PySem.W.Fast.tw10942035263794033107:=()
noncomputable def PySem.W.Fast.tw11420187438672877268:=()
noncomputable def PySem.W.Fast.tw17672482021469178181:=()
noncomputable def PySem.W.Fast.tw17279654841073493023:=()
noncomputable def PySem.W.Fast.tw3152983702415266003:=()
noncomputable def PySem.W.Fast.tw2452820758585089575:=()
noncomputable def PySem.W.Fast.tw17100903815162463580:=()
noncomputable def PySem.W.Fast.tw10227693086864044499:=()
noncomputable def PySem.W.Fast.tw9908251947323293946:=()
noncomputable def PySem.W.Fast.tw18416463498863911781:=()
noncomputable def PySem.W.Fast.tw16661375180360627877:=()
noncomputable def PySem.W.Fast.tw13036272033356848781:=()
noncomputable def PySem.W.Fast.tw2354135333415324597:=()
noncomputable def PySem.W.Fast.tw7892128664451923741:=()
noncomputable def PySem.W.Fast.tw17828083071136270317:=()
noncomputable def PySem.W.Fast.tw16018607276475445134:=()
noncomputable def PySem.W.Fast.tw3094477031063562474:=()
noncomputable def PySem.W.Fast.tw6380047634161181297:=()
noncomputable def PySem.W.Fast.tw17552769576498331613:=()
noncomputable def PySem.W.Fast.tw8789221427942488352:=()
noncomputable def PySem.W.Fast.tw9285146279643344392:=()
noncomputable def PySem.W.Fast.tw16145008321745377990:=()
noncomputable def PySem.W.Fast.tw11729385059970357855:=()
noncomputable def PySem.W.Fast.tw9529234661008812162:=()
noncomputable def PySem.W.Fast.tw947111536369973478:=()
noncomputable def PySem.W.Fast.tw4075660801711882420:=()
noncomputable def PySem.W.Fast.tw8860024209350480642:=()
noncomputable def PySem.W.Fast.tw2660918139993853925:=()
noncomputable def PySem.W.Fast.tw4622596211255666275:=()
noncomputable def PySem.W.Fast.tw3698559305507148144:=()
noncomputable def PySem.W.Fast.tw14213472795030965493:=()
noncomputable def PySem.W.Fast.tw14530364306720264245:=()
noncomputable def PySem.W.Fast.tw18056578402003937789:=()
noncomputable def PySem.W.Fast.tw16531745337717519161:=()
noncomputable def PySem.W.Fast.tw16049961110935095269:=()
noncomputable def PySem.W.Fast.tw18340240734955500558:=()
noncomputable def PySem.W.Fast.tw8719427161674164953:=()
noncomputable def PySem.W.Fast.tw13678640442995254988:=()
noncomputable def PySem.W.Fast.tw16414604833108395602:=()
noncomputable def PySem.W.Fast.tw14386061602966655976:=()
noncomputable def PySem.W.Fast.tw6929956602132211858:=()
noncomputable def PySem.W.Fast.tw4978915544186085027:=()
noncomputable def PySem.W.Fast.tw460243522976405022:=()
noncomputable def PySem.W.Fast.tw15894407043143930727:=()
noncomputable def PySem.W.Fast.tw10753579090125970612:=()
noncomputable def PySem.W.Fast.tw15066959818950650227:=()
noncomputable def PySem.W.Fast.tw15742981410569661332:=()
noncomputable def PySem.W.Fast.tw12290603225136948437:=()
noncomputable def PySem.W.Fast.tw18211773271919218964:=()
noncomputable def PySem.W.Fast.tw16350708796919097252:=()
noncomputable def PySem.W.Fast.tw1218959903707654005:=()
noncomputable def PySem.W.Fast.tw15007238320947547705:=()
noncomputable def PySem.W.Fast.tw13981391230805400906:=()
noncomputable def PySem.W.Fast.tw6004533443673955352:=()
noncomputable def PySem.W.Fast.tw13512673800721320934:=()
noncomputable def PySem.W.Fast.tw4679858250743294509:=()
noncomputable def PySem.W.Fast.tw2408619945344806742:=()
noncomputable def PySem.W.Fast.tw1402947280878808549:=()
noncomputable def PySem.W.Fast.tw2862820112641550484:=()
noncomputable def PySem.W.Fast.tw7721631327575515661:=()
noncomputable def PySem.W.Fast.tw2905824091091238844:=()
noncomputable def PySem.W.Fast.tw16643379632663270332:=()
noncomputable def PySem.W.Fast.tw13145125596335152023:=()
noncomputable def PySem.W.Fast.tw18345786424863182364:=()
noncomputable def PySem.W.Fast.tw18101931140130867144:=()
noncomputable def PySem.W.Fast.tw8595292554425487202:=()
noncomputable def PySem.W.Fast.tw10938465397075749097:=()
noncomputable def PySem.W.Fast.tw1829445100760108279:=()
noncomputable def PySem.W.Fast.tw8424611434330503625:=()
noncomputable def PySem.W.Fast.tw13559156169165276386:=()
noncomputable def PySem.W.Fast.tw14108194823987119177:=()
noncomputable def PySem.W.Fast.tw12635297910168745909:=()
noncomputable def PySem.W.Fast.tw2997306320072185856:=()
noncomputable def PySem.W.Fast.tw14023627001141898710:=()
noncomputable def PySem.W.Fast.tw10010936943081839664:=()
noncomputable def PySem.W.Fast.tw12233582284571471492:=()
noncomputable def PySem.W.Fast.tw11306939235166856333:=()
noncomputable def PySem.W.Fast.tw2670528217467546775:=()
noncomputable def PySem.W.Fast.tw5902227825499142635:=()
noncomputable def PySem.W.Fast.tw16916688483869632129:=()
noncomputable def PySem.W.Fast.tw13900631225919944168:=()
noncomputable def PySem.W.Fast.tw2283851925072248500:=()
noncomputable def PySem.W.Fast.tw7269565832213808900:=()
noncomputable def PySem.W.Fast.tw11985326045990495214:=()
noncomputable def PySem.W.Fast.tw3764465048917985505:=()
noncomputable def PySem.W.Fast.tw14834023430324568649:=()
noncomputable def PySem.W.Fast.tw1258299570235058372:=()
noncomputable def PySem.W.Fast.tw9501820088010722379:=()
noncomputable def PySem.W.Fast.tw4980102563643897964:=()
noncomputable def PySem.W.Fast.tw7275051467321613617:=()
noncomputable def PySem.W.Fast.tw219737044198020058:=()
noncomputable def PySem.W.Fast.tw10948738476641704880:=()
noncomputable def PySem.W.Fast.tw9346102686686178315:=()
noncomputable def PySem.W.Fast.tw7323676302269181137:=()
noncomputable def PySem.W.Fast.tw1962928258387122110:=()
noncomputable def PySem.W.Fast.tw11186114360453789277:=()
noncomputable def PySem.W.Fast.tw12866136484021002089:=()
noncomputable def PySem.W.Fast.tw10528696920762540405:=()
noncomputable def PySem.W.Fast.tw8376441433122354887:=()
noncomputable def PySem.W.Fast.tw8206430501311747189:=()
noncomputable def PySem.W.Fast.tw282004115355043989:=()
noncomputable def PySem.W.Fast.tw4090926877573551719:=()
noncomputable def PySem.W.Fast.tw14714103240675001986:=()
noncomputable def PySem.W.Fast.tw18220123701641295943:=()
noncomputable def PySem.W.Fast.tw13335737130258781183:=()
noncomputable def PySem.W.Fast.tw1414301608579184545:=()
noncomputable def PySem.W.Fast.tw1258717718454355964:=()
noncomputable def PySem.W.Fast.tw17888162413812561239:=()
noncomputable def PySem.W.Fast.tw10029231156530900338:=()
noncomputable def PySem.W.Fast.tw15263041282635125899:=()
noncomputable def PySem.W.Fast.tw14168537005229113720:=()
noncomputable def PySem.W.Fast.tw2478078296215019888:=()
noncomputable def PySem.W.Fast.tw11317593695737139937:=()
noncomputable def PySem.W.Fast.tw5268983451555188008:=()
noncomputable def PySem.W.Fast.tw4558998842232669794:=()
noncomputable def PySem.W.Fast.tw17497748084772794779:=()
noncomputable def PySem.W.Fast.tw4071324889030633612:=()
noncomputable def PySem.W.Fast.tw5349121933718820234:=()
noncomputable def PySem.W.Fast.tw16349804527192203551:=()
noncomputable def PySem.W.Fast.tw2627984346626558326:=()
noncomputable def PySem.W.Fast.tw5978237884098788730:=()
noncomputable def PySem.W.Fast.tw1377046205977697930:=()
noncomputable def PySem.W.Fast.tw3131671291697673992:=()
noncomputable def PySem.W.Fast.tw8693227569615203950:=()
noncomputable def PySem.W.Fast.tw16593013826814733010:=()
noncomputable def PySem.W.Fast.tw7232422423428716515:=()
noncomputable def PySem.W.Fast.tw18350330562280901221:=()
noncomputable def PySem.W.Fast.tw470574548607681690:=()
noncomputable def PySem.W.Fast.tw1092655722715705105:=()
noncomputable def PySem.W.Fast.tw1355338860687761863:=()
noncomputable def PySem.W.Fast.tw9407582987413476825:=()
noncomputable def PySem.W.Fast.tw6448080314894763839:=()
noncomputable def PySem.W.Fast.tw14223099787259518943:=()
noncomputable def PySem.W.Fast.tw4527066259768149269:=()
noncomputable def PySem.W.Fast.tw4552823106982906706:=()
noncomputable def PySem.W.Fast.tw136631920214876835:=()
noncomputable def PySem.W.Fast.tw1051571026272145596:=()
noncomputable def PySem.W.Fast.tw2180166888634067806:=()
noncomputable def PySem.W.Fast.tw8059936575790774395:=()
noncomputable def PySem.W.Fast.tw1339427327865710234:=()
noncomputable def PySem.W.Fast.tw6224834671499428021:=()
noncomputable def PySem.W.Fast.tw9518460778924858168:=()
noncomputable def PySem.W.Fast.tw1302811641713473902:=()
noncomputable def PySem.W.Fast.tw4251353427327788602:=()
noncomputable def PySem.W.Fast.tw9315938663221665524:=()
noncomputable def PySem.W.Fast.tw8753696776887207221:=()
noncomputable def PySem.W.Fast.tw3619232141914619222:=()
noncomputable def PySem.W.Fast.tw505943868828395459:=()
noncomputable def PySem.W.Fast.tw5770868932273138760:=()
noncomputable def PySem.W.Fast.tw4933834842325187142:=()
noncomputable def PySem.W.Fast.tw1537898542681612871:=()
noncomputable def PySem.W.Fast.tw662354867322794072:=()
noncomputable def PySem.W.Fast.tw704327219915372674:=()
noncomputable def PySem.W.Fast.tw15980859228951719591:=()
noncomputable def PySem.W.Fast.tw10706342367453228570:=()
noncomputable def PySem.W.Fast.tw387338674003428930:=()
noncomputable def PySem.W.Fast.tw5396446701170858492:=()
noncomputable def PySem.W.Fast.tw11313170107247368264:=()
noncomputable def PySem.W.Fast.tw15112985482279097393:=()
noncomputable def PySem.W.Fast.tw11452132507678324671:=()
noncomputable def PySem.W.Fast.tw14433975572909055671:=()
noncomputable def PySem.W.Fast.tw1620339239838986703:=()
noncomputable def PySem.W.Fast.tw11543547407058413889:=()
noncomputable def PySem.W.Fast.tw2039238271031011813:=()
noncomputable def PySem.W.Fast.tw6245536207120538393:=()
noncomputable def PySem.W.Fast.tw5529568453561195837:=()
noncomputable def PySem.W.Fast.tw1333364371103165705:=()
noncomputable def PySem.W.Fast.tw14884601019740666482:=()
noncomputable def PySem.W.Fast.tw12767683915131110723:=()
noncomputable def PySem.W.Fast.tw3891137856419664920:=()
noncomputable def PySem.W.Fast.tw951843321253372498:=()
noncomputable def PySem.W.Fast.tw3972328310683599613:=()
noncomputable def PySem.W.Fast.tw5032809538720368765:=()
noncomputable def PySem.W.Fast.tw11588390666370768167:=()
noncomputable def PySem.W.Fast.tw9564595351457756722:=()
noncomputable def PySem.W.Fast.tw3093977132361051618:=()
noncomputable def PySem.W.Fast.tw8119918657739134586:=()
noncomputable def PySem.W.Fast.tw2719445374943340272:=()
noncomputable def PySem.W.Fast.tw11333186260410459676:=()
noncomputable def PySem.W.Fast.tw15475462885187679331:=()
noncomputable def PySem.W.Fast.tw15490439104401381959:=()
noncomputable def PySem.W.Fast.tw5721027456603625697:=()
noncomputable def PySem.W.Fast.tw6589095468515690095:=()
noncomputable def PySem.W.Fast.tw682011567655089306:=()
noncomputable def PySem.W.Fast.tw10887116778572429059:=()
noncomputable def PySem.W.Fast.tw15168306246750427876:=()
noncomputable def PySem.W.Fast.tw8603108125212654177:=()
noncomputable def PySem.W.Fast.tw6122645084068987007:=()
noncomputable def PySem.W.Fast.tw14311459727803291754:=()
noncomputable def PySem.W.Fast.tw17532718790514356516:=()
noncomputable def PySem.W.Fast.tw14821650378409806113:=()
noncomputable def PySem.W.Fast.tw6683783046931543321:=()
noncomputable def PySem.W.Fast.tw7276740287692124622:=()
noncomputable def PySem.W.Fast.tw10424941004445345732:=()
noncomputable def PySem.W.Fast.tw9759809726879904816:=()
noncomputable def PySem.W.Fast.tw17018628822417861297:=()
noncomputable def PySem.W.Fast.tw2611137233208623240:=()
noncomputable def PySem.W.Fast.tw3778451253796500701:=()
noncomputable def PySem.W.Fast.tw6792406925840432001:=()
noncomputable def PySem.W.Fast.tw8579058602437062094:=()
namespace Mine
open_top hd for PySem.Challenge.rw_kt0027_01
end Mine
end
section
namespace Mine
theorem jG_:mroOf (.type "bytearray")=pure [.type "bytearray", .type "object"]:=by rw [mroOf_type]; kernel_rfl
theorem fA_:typeLookup (.type "bytearray") "__new__" =pure (some (.builtin "bytearray.__new__")):=by rw [typeLookup_type,builtinLookup_eq_fast]; kernel_rfl
theorem cU_:Slot "bytearray" "__init__" "bytearray.__init__" :=
 .of (owner:= "bytearray") (n:= "__init__") (by rw [typeLookup_type,builtinLookup_eq_fast]; kernel_rfl) (by decide+kernel) (by decide+kernel) (by decide+kernel)
  (by first | exact .inl (by decide+kernel) | exact .inr (by decide+kernel)) (by rw [isSubtype_type]; kernel_rfl)
theorem jH_:Bind.madeBy (.type "bytearray")=pure (some "bytearray.__new__"):=madeBy_type jG_ fA_ (by decide+kernel)
theorem hL_:isSubtype (.type "bytearray") (.type "bytearray")=pure true:=by rw [isSubtype_type]; kernel_rfl
theorem hb_ (a:Value):checkTypeCall "bytearray" ⟨[a],[]⟩=pure ():=by kernel_rfl
theorem ih_ (a:Value):checkBuiltinCall "bytearray.__new__" ⟨[.type "bytearray",a],[]⟩=pure ():=by kernel_rfl
theorem gj_:entryFor table "bytearray.__new__" =some Builtin.«list.__new__» :=entryFor_alias (id':= "list.__new__") (by kernel_rfl) (by decide+kernel) (by decide+kernel) (by kernel_rfl)
theorem fB_:entryFor table "bytearray.__init__" =some Builtin.«bytearray.__init__» :=entryFor_of_tree (by kernel_rfl)
theorem d0_:plainId "bytearray.__new__" =true:=by decide+kernel
theorem dx_:plainId "bytearray.__init__" =true:=by decide+kernel
theorem gl_ (a b:Value):argsOk "bytearray.__init__" ⟨[a,b],[]⟩:=by unfold argsOk; kernel_rfl
theorem gk_:TypeCalled "bytearray" "bytearray.__new__" "bytearray.__init__" :=
 ⟨by decide+kernel,by decide+kernel,⟨_,_,jG_⟩,jH_,by decide+kernel,by rw [isSubtype_type]; kernel_rfl,cU_⟩
end Mine
end
section
namespace Mine
set_option maxRecDepth 1000000 in
set_option maxHeartbeats 4000000 in
theorem kZ_:("bytearray.__new__".splitOn ".__new__").headD "" = "bytearray" :=by simp+decide [String.splitOn,String.splitOnAux]
section
variable {prog:Program}{w:World}{A:Around}{E:Value→Shared→Prop}{s:Shared}
theorem g6_ (a:Value){Q₁:Value→Shared→Prop}(h:Q₁ (.ref s.heap.objs.size) {s with heap:=s.heap.push {cls:= .type "bytearray",data:= .bytearray #[]}}):
  codeAny (model prog w) A (.call (.builtin "bytearray.__new__") ⟨[.type "bytearray",a],[]⟩) (wants Q₁ E) s:=by
 refine codeAny_of_tree ?_
 refine (?_:wpAny _ A.in1 (do checkBuiltinCall "bytearray.__new__" ⟨[.type "bytearray",a],[]⟩; again (.builtin "bytearray.__new__" ⟨[.type "bytearray",a],[]⟩)) _ _ s)
 refine wpAny_bind (wpAny_of_eq (ih_ a) (wpAny_pure ⟨plainId_quiet d0_ _,codeAny_builtin_stack gj_ rfl fun p st=> ?_⟩))
 refine sb (Around.under_plainId d0_ _) ?_
 have hsub:=hL_
 have hown:=kZ_
 obtain ⟨hp,g,d,tk,os⟩:=s
 simp only [hown]
 wp_walk
 exact h
theorem dt_ {id:String}{args:Args}{b:Builtin}{R:Result→Shared→Prop}(ho:cP_.contains id=false)(hb:entryFor table id=some b)
  (h:wpN (model prog w) (A.under (.builtin id args)) (b args) (fun fin s'=>match fin with | .done f=>R (.ok f) s' | .again c'=>c'.quiet=true∧eE_ (model prog w) A c' R s') (fun e s'=>R (.error e) s') s):
  eE_ (model prog w) A (.builtin id args) R s:=by
 refine bD_ (by refine (?_:(!(cP_.contains id))=true); refine sb ho ?_; rfl) ?_
 refine (?_:wpN _ _ (match entryFor table id with | some b=>b args | none=>unsupported ((withoutEnding? id "#data").getD id)) _ _ s)
 exact sb hb h
theorem mH_ {n:Int}{t:Tok}{Q:Value→Shared→Prop}
  (h:wpN (model prog w) A.in1.in1 (Builtin.«bytearray.__init__» ⟨[.ref s.heap.objs.size, .int n t],[]⟩)
    (fun fin s'=>match fin with | .done f=>wants (fun r s2=>r= .none∧Q (.ref s.heap.objs.size) s2) E (.ok f) s' | .again c'=>False)
    (fun e s'=>E e s') {s with heap:=s.heap.push {cls:= .type "bytearray",data:= .bytearray #[]}}):
  wpN (model prog w) A (call (.type "bytearray") [.int n t]) Q E s:=by
 refine d6_ (bD_ rfl ?_)
 refine (?_:wpN _ _ (callAny (.type "bytearray") _) _ _ _)
 refine bJ_ ⟨Code.quiet_builtin _ (by decide+kernel),dt_ (by decide+kernel) F.entry_type_call ?_⟩
 refine sb (Around.under_plain (weight_type_call_type "bytearray" [.int n t] []) rfl) ?_
 have h1:=gk_.notType
 have h2:=gk_.canCreate
 unfold Builtin.«type.__call__»
 dsimp only
 rw [if_neg (by refine sb h1 ?_; simp),if_neg (by refine sb h2 ?_; simp)]
 refine as_ (wpAny_of_eq (hb_ _) ?_)
 refine as_ (wpAny_of_eq jG_ ?_)
 rw [if_neg (by simp)]
 refine as_ (wpAny_of_eq jH_ ?_)
 refine as_ (wpAny_pure ?_)
 refine as_ (wpAny_holding (wpAny_call (g6_ _ ?_)))
 have hT:({s with heap:=s.heap.push {cls:= .type "bytearray",data:= .bytearray #[]}}:Shared).TypeIs (.ref s.heap.objs.size) "bytearray" :=⟨_,PySem.Heap.get?_push_size _ rfl,rfl⟩
 refine as_ (wpAny_isInstance hT hL_ ?_)
 rw [if_neg (by simp)]
 refine bX_ (ef_ ?_)
 dsimp only [callSpecial?]
 refine as_ (wpAny_specialOf hT cU_.lookup ?_)
 refine ef_ (as_ (wpAny_pure ?_))
 refine bX_ (d6_ (bD_ rfl ?_))
 refine (?_:wpN _ _ (do checkBuiltinCall "bytearray.__init__" ⟨[.ref s.heap.objs.size, .int n t],[]⟩; again (.builtin "bytearray.__init__" ⟨[.ref s.heap.objs.size, .int n t],[]⟩)) _ _ _)
 refine as_ (cU_.check _ _ _ _ _ _ _ _ hT (gl_ _ _) ?_)
 refine bJ_ ⟨plainId_quiet dx_ _,dt_ (by decide+kernel) fB_ ?_⟩
 refine sb (Around.under_plainId dx_ _) ?_
 refine bC_ h (fun fin s' hf=> ?_) (fun _ _ he=>he)
 cases fin with
 | again c' => exact hf.elim
 | done f=>
  cases f with
  | ret v=>
   obtain ⟨hv,hq⟩:=hf
   subst hv
   refine bJ_ ?_
   dsimp only
   rw [if_neg (by decide)]
   exact bJ_ hq
  | _ => exact hf.elim
end
end Mine
end
section
namespace Mine
section
variable {M:Model}{A:Around}{E:Value→Shared→Prop}{s:Shared}
theorem m7_ {id:String}{args:Args}(h:okc (.builtin id args)=true):cP_.contains id=false:=by
 have h':(!(cP_.contains id))=true:=h
 cases e:cP_.contains id with
 | false => rfl
 | true => rw [e] at h'; contradiction
theorem dn {c:Prop} [Decidable c] {x:c→Bool}{y:¬c→Bool}(h:¬c)(k:¬(y h=true)):¬(dite c x y=true):=by exact sb (dif_neg h) k
theorem jq_ {v:Value}{Q:Bool→Shared→Prop}(h:Q false s):wpN M A (Builtin.Bytes.exported v) Q E s:=fun Γ p i n=>by
 refine sb (Sem.wp_bind' ..) ?_
 refine (?_:Sem.wp M Γ (.stack .pure) _ _ p s)
 refine sb (Sem.wp_stack ..) ?_
 have hall:∀x∈(Γ.code,p)::Γ.below,okc x.1=true:=by
  intro x hx
  rcases List.mem_cons.mp hx with rfl | hx
  ·exact n.1
  ·exact n.2 x hx
 generalize (Γ.code,p)::Γ.below=l at hall
 refine sb (Sem.wp_pure ..) ?_
 have key:∀b,b=false→Q b s:=fun b hb=>by exact sb hb h
 refine key _ (List.any_eq_false.mpr fun x hx=> ?_)
 have hk:=hall x hx
 clear key hall hx h n i
 obtain ⟨c,p'⟩:=x
 cases c
 case builtin id args=>
  have hid:=m7_ hk
  have ne:∀y,cP_.contains y=true→¬id=y:=fun y hy e=>by rw [e,hy] at hid; contradiction
  have n1:=ne "bytearray.__contains__" (by decide+kernel)
  have n2:=ne "bytearray.__mod__" (by decide+kernel)
  have n3:=ne "bytearray.__rmod__" (by decide+kernel)
  have n4:=ne "_struct.pack_into.held" (by decide+kernel)
  have n5:=ne "bytearray.find.held" (by decide+kernel)
  have h1:=hid
  simp only [cP_,List.contains_append,Bool.or_eq_false_iff] at h1
  clear hid ne hk
  delta Builtin.Bytes.exported.match_1 Builtin.Bytes.exported._sparseCasesOn_1
  refine dn n1 ?_
  refine dn n2 ?_
  refine dn n3 ?_
  refine dn n4 ?_
  refine dn n5 ?_
  obtain ⟨pos,kw⟩:=args
  cases pos with
  | nil => exact Bool.false_ne_true
  | cons u t => exact fun e=>absurd (Bool.and_eq_true_iff.mp e).2 (by exact sb h1.2 Bool.false_ne_true)
 all_goals exact Bool.false_ne_true
end
section
variable {prog:Program}{w:World}{A:Around}{E:Value→Shared→Prop}{s:Shared}
theorem k1_ (v:Value):Builtin.Bytes.bindOptional "bytearray.__init__" "bytearray" ["source","encoding","errors"] [v] []=pure [some v,none,none]:=by kernel_rfl
theorem nw_:typeLookup (.type "bytearray") "__release_buffer__" =pure (some (.builtin "bytearray.__release_buffer__")):=by rw [typeLookup_type,builtinLookup_eq_fast]; kernel_rfl
theorem nz_:("bytearray.__release_buffer__".endsWith ("." ++ "__release_buffer__"))=true:=by decide+kernel
theorem mG_: "bytearray.__release_buffer__".dropRight ("__release_buffer__".length+1)= "bytearray" :=by decide+kernel
theorem gh_ {v:Value}{Q:Bool→Shared→Prop}(hT:s.TypeIs v "bytearray")(h:Q false s):wpAny (model prog w) A (Builtin.Bytes.ownRelease v) Q E s:=by
 delta Builtin.Bytes.ownRelease Builtin.Bytes.slotIsOwn
 refine wpAny_bind (wpAny_bind (wpAny_specialOf hT nw_ ?_))
 dsimp only
 refine sb (if_neg (by rw [nz_]; decide)) (sb mG_ ?_)
 refine wpAny_isInstance hT hL_ (wpAny_pure ?_)
 exact h
theorem ny_ {v:Value}{a:Addr}{o:Obj}{b:Array UInt8}{Q:Bool→Shared→Prop}(ha:v= .ref a)(ho:s.heap.get? a=some o)(hd:o.data= .bytearray b 0)(h:Q false s):
  wpN (model prog w) A (Builtin.Bytes.exported v <||>(do return (← Builtin.Bytes.exportsOf v)>0)) Q E s:=by
 subst ha
 refine bX_ (jq_ ?_)
 refine fF_ ?_
 refine (?_:wpAny _ _ (do let n ← Builtin.Bytes.exportsOf (.ref a); pure (decide (n>0))) _ _ _)
 refine wpAny_bind (wpAny_bind (wpAny_load ho ?_))
 refine sb hd ?_
 exact wpAny_pure (wpAny_pure h)
theorem fz_ {a:Addr}{c:Value}{d:Option Addr}{sl:Array (Option Value)}{b:Array UInt8}{e:Nat}{f:Array UInt8→Array UInt8}{Q:Unit→Shared→Prop}
  (ho:s.heap.get? a=some ⟨c,d, .bytearray b e,sl⟩) (hz:(Data.bytearray (f b) e).pastItsLine=none) (h:Q () {s with heap:=s.heap.update a (Obj.mapBytearray f)}):
  wpAny (model prog w) A (Builtin.Bytes.write (.ref a) f) Q E s:=by
 delta Builtin.Bytes.write updateBytearray
 refine wpAny_bind (wpAny_load ho ?_)
 refine wpAny_bind (wpAny_update ho ?_)
 exact wpAny_lookBehind (o:=Obj.mapBytearray f ⟨c,d, .bytearray b e,sl⟩) (Heap.get?_update_self _ ho rfl) hz h
theorem mE_ {n:Int}{t:Tok}{Q:Value→Shared→Prop}(hn:0 < n∧n < 2 ^ 20)(hz:(Data.bytearray (Array.replicate n.toNat 0) 0).pastItsLine=none)
  (hl:Builtin.Bytes.tooLong n.toNat=false)
  (h:Q .none {s with heap:=((s.heap.push {cls:= .type "bytearray",data:= .bytearray #[]}).update s.heap.objs.size (Obj.mapBytearray fun _=> #[])).update s.heap.objs.size (Obj.mapBytearray fun _=>Array.replicate n.toNat 0)}):
  wpN (model prog w) A (Builtin.«bytearray.__init__» ⟨[.ref s.heap.objs.size, .int n t],[]⟩)
    (fun fin s'=>match fin with | .done f=>wants Q E (.ok f) s' | .again c'=>False)
    (fun e s'=>E e s') {s with heap:=s.heap.push {cls:= .type "bytearray",data:= .bytearray #[]}}:=by
 unfold Builtin.«bytearray.__init__»
 have ho:(s.heap.push {cls:= .type "bytearray",data:= .bytearray #[]}).get? s.heap.objs.size=some {cls:= .type "bytearray",data:= .bytearray #[]}:=PySem.Heap.get?_push_size _ rfl
 have hT:({s with heap:=s.heap.push {cls:= .type "bytearray",data:= .bytearray #[]}}:Shared).TypeIs (.ref s.heap.objs.size) "bytearray" :=⟨_,ho,rfl⟩
 refine as_ (gh_ hT ?_)
 refine sb (if_neg (by simp)) ?_
 refine as_ (wpAny_of_eq (k1_ _) ?_)
 dsimp only
 refine as_ (wpAny_of_eq rfl ?_)
 refine as_ (wpAny_of_eq rfl ?_)
 refine bX_ (ny_ rfl ho rfl ?_)
 refine sb (if_neg (by simp)) ?_
 refine as_ (fz_ ho (by decide+kernel) ?_)
 have ho2:((s.heap.push {cls:= .type "bytearray",data:= .bytearray #[]}).update s.heap.objs.size (Obj.mapBytearray fun _=> #[])).get? s.heap.objs.size=some ⟨.type "bytearray",none, .bytearray #[] 0,#[]⟩:=Heap.get?_update_self _ ho rfl
 refine as_ (wpAny_of_eq rfl ?_)
 refine sb (if_neg (by simp)) ?_
 refine as_ (wpAny_of_eq (a:=()) rfl ?_)
 refine as_ (wpAny_specialOf (typeIs_int _ n t) F.slot_int_index.lookup ?_)
 refine sb (if_pos (show (some (Value.builtin "int.__index__")).isSome=true from rfl)) ?_
 refine as_ (wpAny_attempt (wpAny_of_eq (a:=n) rfl ?_))
 dsimp only
 refine sb (if_neg (by simp [Builtin.Bytes.fitsIndex]; exact O120 hn)) (sb (if_neg (by exact O121 hn)) (sb (if_neg (by simp; exact O122 hn)) (sb (if_neg (by refine sb hl ?_; decide)) ?_)))
 refine as_ (wpAny_rule ?_)
 refine sb (if_pos (by exact O123 hn)) ?_
 refine as_ (fz_ ho2 hz ?_)
 exact bJ_ h
end
theorem cx_ (h:Heap)(o:Obj)(f:Obj→Obj):(h.push o).update h.objs.size f=h.push (f o):=by
 simp only [Heap.push,Heap.update]
 congr 1
 refine Array.ext (by simp) fun i h1 h2=> ?_
 refine sb (Array.getElem_modify ..) ?_
 by_cases hi:h.objs.size=i
 ·subst hi; simp
 ·have N:i < h.objs.size:=by simp at h2; exact O124 h2 hi
  exact sb (if_neg hi) (sb (Array.getElem_push_lt N) (sb (Array.getElem_push_lt N) rfl))
section
variable {prog:Program}{w:World}{A:Around}{E:Value→Shared→Prop}{s:Shared}
theorem nx_ {n:Int}{t:Tok}{Q:Value→Shared→Prop}(R:0 < n∧n < 2 ^ 20)(hz:(Data.bytearray (Array.replicate n.toNat 0) 0).pastItsLine=none)
  (U:Builtin.Bytes.tooLong n.toNat=false)
  (h:Q (.ref s.heap.objs.size) {s with heap:=s.heap.push {cls:= .type "bytearray",data:= .bytearray (Array.replicate n.toNat 0)}}):
  wpN (model prog w) A (call (.type "bytearray") [.int n t]) Q E s:=by
 refine mH_ (mE_ R hz U ⟨rfl, ?_⟩)
 refine sb (cx_ ..) (sb (cx_ ..) ?_)
 exact h
end
section
variable {g:GC}{k:Nat}{Z:Heap}{env:Env}{Xo:Addr→Prop}{M y:List Addr}{X:Addr→Prop}{σ σ':List (Str×PV)}{ω ω':List (Addr×OC)}{s s':Shared}
variable {A:Around}{E:Value→Shared→Prop}{Q:Flow→Shared→Prop}{l:List Stmt}
theorem mY_ (G:g.Good){x:Str}{px pos cp:Pos}{j e:Expr}{n:Int}(S:LS g Z env Xo M y σ ω s)(a:AOk k A)(hf:Ev g k env (av Xo M y) σ ω j (.typ "bytearray"))(he:Ev g k env (av Xo M y) σ ω e (.int n))
  (h0:0 < n∧n < 2 ^ 20) (hz:(Data.bytearray (Array.replicate n.toNat 0) 0).pastItsLine=none) (U:Builtin.Bytes.tooLong n.toNat=false) (hk:Kd env x)
  (c:∀b s',¬av Xo M y b→LS g Z env Xo M (b::y) (upd x (.ref b) σ) ((b, .ba (Array.replicate n.toNat 0))::ω) s'→WpN g A env l Q E s')
  (Y:autoParam (nst e=true) aQ1) (R:starEach [e] env=(false,eval e env)::starEach [] env:=bT_ Y)
  (hc:autoParam (eval (.Call j [e] [] cp) env=(do callWith cp (← eval j env) [] (backTo cp (starEach [e] env)) (backToKw cp (keywordEach [] env)))) aQ6)
  (T:autoParam ((x==("__classdict__" :Str))=false) aQ0) (V:autoParam (swapsWith (.Call j [e] [] cp) (some (Expr.Name x px)) pos.line env=pure false) aQ4):
  WpN g A env (.Assign [.Name x px] (.Call j [e] [] cp) pos::l) Q E s:=⟨cg_ (bC_ (Q:=jO_ g A env l Q E) (cB_ (hm_ (hf.use a S.ok S.loc fun v K q C J u=>by
  rw [rd_typ] at u; subst u
  have I:=fun A s E a O L=>(b8_ he ag_ R).run A s E a O L cp
  rw [R] at I ⊢
  refine dQ_ (P:=fun _=>True) (by rfl) (dn_ (g:=g)) (evalArgs_plain (wpAny_mono (I A K _ a q J) (fun vs z p=> ?_) fun _ _ x=>x))
  obtain ⟨m,F,r⟩:=p
  have H:=(S.kp q C).kp m F
  refine ⟨trivial, ?_⟩
  rw [am_] at r
  obtain ⟨v,B,rfl,r3,r4⟩:=r
  obtain ⟨t,rfl⟩:=rd_int.mp r3
  have h4:=aH_ r4
  obtain rfl:B= []:=by cases B with
   | nil => rfl
   | cons _ _ => contradiction
  refine nx_ h0 hz U ?_
  obtain ⟨D,nx⟩:=H.alloc G (o:= {cls:= .type "bytearray",data:= .bytearray (Array.replicate n.toNat 0)}) (oc:= .ba (Array.replicate n.toNat 0)) (tk:=z.toks) rfl m.tok ⟨0,rfl⟩
  exact D.store G hk T (rd_ref.mpr rfl) fun s' S'=>c _ s' nx S') hc) V) (fun f s' p=>by cases f <;>first | exact p.run | exact p) fun _ _ x=>x)⟩
end
end Mine
end
section
namespace Mine
theorem eJ_:Slot "bytearray" "__setitem__" "bytearray.__setitem__" :=
 .of (owner:= "bytearray") (n:= "__setitem__") (by rw [typeLookup_type,builtinLookup_eq_fast]; kernel_rfl) (by decide+kernel) (by decide+kernel) (by decide+kernel)
  (by first | exact .inl (by decide+kernel) | exact .inr (by decide+kernel)) (by rw [isSubtype_type]; kernel_rfl)
theorem gi_:entryFor table "bytearray.__setitem__" =some Builtin.«bytearray.__setitem__» :=entryFor_of_tree (by kernel_rfl)
theorem he_ (a b c:Value):argsOk "bytearray.__setitem__" ⟨[a,b,c],[]⟩:=by unfold argsOk; kernel_rfl
section
variable {prog:Program}{w:World}{A:Around}{E:Value→Shared→Prop}{s:Shared}
theorem if_ {a:Addr}{sl:Array (Option Value)}{d:Option Addr}{b:Array UInt8}{e:Nat}{i x:Int}{t u:Tok}{k:Nat}{Q:Unit→Shared→Prop}(z:s.heap.get? a=some ⟨.type "bytearray",d, .bytearray b e,sl⟩)
  (P:Builtin.Bytes.fitsIndex i=true) (hk:seqIndex? i b.size=some k) (hx:0≤x∧x < 256) (hz:(Data.bytearray (b.setIfInBounds k x.toNat.toUInt8) e).pastItsLine=none)
  (h:Q () {s with heap:=s.heap.update a (Obj.mapBytearray fun b=>b.setIfInBounds k x.toNat.toUInt8)}):
  wpAny (model prog w) A (setItem (.ref a) (.int i t) (.int x u)) Q E s:=by
 have T:s.TypeIs (.ref a) "bytearray" :=⟨_,z,rfl⟩
 unfold setItem
 try with_reducible refine wpAny_holding ?_
 first | refine wpAny_bind (wpAny_pure ?_) | skip
 refine wpAny_bind (wpAny_sequenceKey T (by decide) ?_)
 refine wpAny_bind (wpAny_callSpecial?_slot (name:=Str.ofString "__setitem__") T eJ_
  (wpAny_call_entry eJ_ T gi_ ?_ (he_ _ _ _)))
 unfold Builtin.«bytearray.__setitem__»
 dsimp only
 refine sb (if_neg (by simp)) ?_
 refine wpAny_bind ?_
 refine wpAny_bind (wpAny_specialOf (typeIs_int s i t) F.slot_int_index.lookup ?_)
 refine (?_:wpAny _ _ (if (!Builtin.Bytes.fitsIndex i)=true then _ else pure (some i)) _ E s)
 refine sb P ?_
 refine wpAny_pure ?_
 refine wpAny_bind ?_
 refine wpAny_bind (wpAny_of_eq (a:=x) rfl ?_)
 refine sb (if_neg (by simp; exact hx)) ?_
 refine wpAny_pure ?_
 refine wpAny_bind ?_
 refine wpAny_bind (wpAny_bind (wpAny_load z ?_))
 refine wpAny_pure (wpAny_pure ?_)
 refine sb hk ?_
 refine wpAny_bind (fz_ z hz ?_)
 exact wpAny_pure (I1_2 _ rfl (wpAny_pure h))
end
section
variable {g:GC}{k:Nat}{hF:Heap}{env:Env}{Xo:Addr→Prop}{M B:List Addr}{X:Addr→Prop}{σ σ':List (Str×PV)}{ω ω':List (Addr×OC)}{s s':Shared}
variable {A:Around}{E:Value→Shared→Prop}{Q:Flow→Shared→Prop}{q:List Stmt}
theorem j2_ (G:g.Good){px pos:Pos}{U R Y:Expr}{O:Addr}{b:Array UInt8}{i x:Int}{j:Nat}(S:LS g hF env Xo M B σ ω s)(a:AOk k A)(hv:Ev g k env (av Xo M B) σ ω Y (.int x))(hb:Ev g k env (av Xo M B) σ ω U (.ref O))(hi:Ev g k env (av Xo M B) σ ω R (.int i))
  (C:(O, .ba b)∈ω) (P:Builtin.Bytes.fitsIndex i=true) (hj:seqIndex? i b.size=some j) (hx:0≤x∧x < 256) (hz:b.size≤sizeLine)
  (c:∀s',LS g hF env Xo M B σ ((O, .ba (b.setIfInBounds j x.toNat.toUInt8))::ω.filter fun p=>p.1 !=O) s'→Wp g A env q Q E s')
  (V:autoParam (swapsWith Y (some (Expr.Subscript U R px)) pos.line env=pure false) aQ4):
  Wp g A env (.Assign [.Subscript U R px] Y pos::q) Q E s:=
 b4_ (wpAny_Assign_Subscript (hv.use a S.ok S.loc fun v af m I K L=>hb.use a m K fun ad Z f J N y=>hi.use a f N fun ac ab l H ae D=>by
  (refine X1_1 (rd_int.mp L) fun t q1=> ?_; subst q1)
  (refine X1_1 (rd_int.mp D) fun u q2=> ?_; subst q2)
  rw [rd_ref] at y; subst y
  have r:=((S.kp m I).kp f J).kp l H
  refine X0_5 (r.loc.own _ _ C) fun hX hP hL hC hO=> ?_
  (refine X2_2 hO fun o n z q3=> ?_; subst q3)
  refine if_ z P hj hx (if_neg (by exact sb Array.size_setIfInBounds (Nat.not_lt_of_le hz))) ?_
  exact c _ (r.setOwn G (oc':= .ba (b.setIfInBounds j x.toNat.toUInt8)) C (Heap.SameBut.update ..) (Heap.get?_update_self _ z rfl) l.tok ⟨n,rfl⟩)) V)
end
end Mine
end
section
set_option linter.deprecated false
namespace Mine
theorem hd_:typeLookup (.type "bytearray") "__bytes__" =pure none:=by rw [typeLookup_type,builtinLookup_eq_fast]; kernel_rfl
theorem hc_:typeLookup (.type "bytearray") "__index__" =pure none:=by rw [typeLookup_type,builtinLookup_eq_fast]; kernel_rfl
theorem jJ_:typeLookup (.type "bytearray") "__buffer__" =pure (some (.builtin "bytearray.__buffer__")):=by rw [typeLookup_type,builtinLookup_eq_fast]; kernel_rfl
theorem mF_:("bytearray.__buffer__".endsWith ("." ++ "__buffer__"))=true:=by decide+kernel
theorem k0_: "bytearray.__buffer__".dropRight ("__buffer__".length+1)= "bytearray" :=by decide+kernel
section
variable {prog:Program}{w:World}{A:Around}{E:Value→Shared→Prop}{s:Shared}
theorem jF_ {v:Value}{Q:Bool→Shared→Prop}(l:s.TypeIs v "bytearray")(h:Q true s):wpAny (model prog w) A (Builtin.Bytes.slotIsOwn v "__buffer__") Q E s:=by
 unfold Builtin.Bytes.slotIsOwn
 refine wpAny_bind (wpAny_specialOf l jJ_ ?_)
 dsimp only
 refine sb (if_neg (by rw [mF_]; decide)) (sb k0_ ?_)
 exact wpAny_isInstance l hL_ h
theorem ig_ {a:Addr}{r:Array (Option Value)}{d:Option Addr}{b:Array UInt8}{e:Nat}{Q:Array UInt8→Shared→Prop}(i:s.heap.get? a=some ⟨.type "bytearray",d, .bytearray b e,r⟩)(h:Q b s):
  wpAny (model prog w) A (Builtin.Bytes.payload (.ref a)) Q E s:=by
 refine wpAny_bind (wpAny_bind (wpAny_load i ?_))
 exact wpAny_pure (wpAny_pure h)
theorem jI_ {a:Addr}{r:Array (Option Value)}{d:Option Addr}{b:Array UInt8}{e:Nat}{id:String}{D:Bool}{Q:Option (Array UInt8)→Shared→Prop}(i:s.heap.get? a=some ⟨.type "bytearray",d, .bytearray b e,r⟩)(h:Q (some b) s):
  wpAny (model prog w) A (Builtin.Bytes.buffer? id (.ref a) D) Q E s:=by
 have l:s.TypeIs (.ref a) "bytearray" :=⟨_,i,rfl⟩
 refine wpAny_bind (wpAny_specialOf l jJ_ ?_)
 refine wpAny_bind (jF_ l ?_)
 refine sb (if_neg (by simp)) ?_
 refine wpAny_bind (wpAny_specialOf l jJ_ ?_)
 refine wpAny_bind (gh_ l ?_)
 refine sb (if_neg (by simp)) ?_
 exact wpAny_bind (ig_ i (wpAny_pure h))
theorem gf_ {a:Addr}{r:Array (Option Value)}{d:Option Addr}{b:Array UInt8}{e:Nat}{Q:Value→Shared→Prop}(i:s.heap.get? a=some ⟨.type "bytearray",d, .bytearray b e,r⟩)
  (hz:b.size≤sizeLine) (J:∀t,Q (.bytes b t) {s with toks:=s.toks+1}):
  codeAny (model prog w) A (.call (.builtin "bytes.__new__") ⟨[.type "bytes", .ref a],[]⟩) (wants Q E) s:=by
 refine codeAny_of_tree ?_
 refine (?_:wpAny _ A.in1 (do checkBuiltinCall "bytes.__new__" ⟨[.type "bytes", .ref a],[]⟩; again (.builtin "bytes.__new__" ⟨[.type "bytes", .ref a],[]⟩)) _ _ s)
 refine wpAny_bind (wpAny_of_eq (F.bm_newCall _) (wpAny_pure ⟨plainId_quiet F.bm_plain _,codeAny_builtin F.bm_entry ?_⟩))
 refine sb (Around.under_plainId F.bm_plain _) ?_
 have l:s.TypeIs (.ref a) "bytearray" :=⟨_,i,rfl⟩
 refine wpAny_bind (wpAny_of_eq (a:=true) rfl ?_)
 refine bm_if_false rfl ?_
 refine wpAny_bind (wpAny_of_eq F.bm_sub ?_)
 refine bm_if_false rfl ?_
 refine wpAny_bind (wpAny_of_eq (F.bm_bind _) ?_)
 refine wpAny_bind (wpAny_of_eq (a:=()) rfl ?_)
 refine wpAny_bind (wpAny_of_eq (a:=()) rfl ?_)
 refine bm_if_false rfl ?_
 refine wpAny_bind (wpAny_specialOf l hd_ ?_)
 refine wpAny_bind (wpAny_bind ?_)
 refine (?_:wpAny _ _ (load a>>=_) _ _ _)
 refine wpAny_bind (wpAny_load i ?_)
 refine wpAny_pure (wpAny_pure ?_)
 refine bm_if_false rfl ?_
 refine wpAny_bind (wpAny_specialOf l hc_ ?_)
 refine bm_if_true rfl ?_
 first
  | show wpAny _ _ (Builtin.Bytes.buffer? "bytes.__new__" (.ref a) true>>=_) _ _ _
  | (refine wpAny_bind ?_; show wpAny _ _ (Builtin.Bytes.buffer? "bytes.__new__" (.ref a) true>>=_) _ _ _)
 refine wpAny_bind (jI_ i ?_)
 refine wpAny_bind (wpAny_rule ?_)
 refine wpAny_bind (wpAny_mkBytes ?_ hz)
 first
  | exact wpAny_pure (J _)
  | exact wpAny_bind (wpAny_pure (J _))
theorem fx_ {a:Addr}{r:Array (Option Value)}{d:Option Addr}{b:Array UInt8}{e:Nat}{Q:Value→Shared→Prop}(i:s.heap.get? a=some ⟨.type "bytearray",d, .bytearray b e,r⟩)
  (hz:b.size≤sizeLine) (J:∀t,Q (.bytes b t) {s with toks:=s.toks+1}):wpAny (model prog w) A (call (.type "bytes") [.ref a]) Q E s:=by
 refine callType_codes (Q₁:=fun m c=>c.TypeIs m "bytes"∧Q m c) F.bm_called (F.bm_typeCall _) F.entry_object_init
  (gf_ i hz fun t=>⟨PySem.W.typeIs_bytes _ _ _,J t⟩) fun m c j=> ?_
 exact I0_3 j.1 (F.args_object_init_2 m _) (object_init_meets F.bm_called.init.lookup F.bm_called.made (by decide) prog w A.in1 _ c ⟨j.1,rfl,j.2⟩)
end
section
variable {g:GC}{k:Nat}{env:Env}{X:Addr→Prop}{σ:List (Str×PV)}{ω:List (Addr×OC)}
theorem g1_ (G:g.Good){cp:Pos}{f u:Expr}{K:Addr}{b:Array UInt8}(T:Ev g k env X σ ω f (.typ "bytes"))(hb:Ev g k env X σ ω u (.ref K))(M:(K, .ba b)∈ω)(hz:b.size≤sizeLine)
  (N:autoParam (nst u=true) aQ1) (R:starEach [u] env=(false,eval u env)::starEach [] env:=bT_ N)
  (hc:autoParam (eval (.Call f [u] [] cp) env=(do callWith cp (← eval f env) [] (backTo cp (starEach [u] env)) (backToKw cp (keywordEach [] env)))) aQ6):
  Ev g k env X σ ω (.Call f [u] [] cp) (.bytes b):=⟨fun A s E a O L=>by
 refine sb hc ?_
 refine wpAny_bind (T.use a O L fun v c I H B q=> ?_)
 rw [rd_typ] at q; subst q
 refine bq_ (ps:= [.ref K]) (b8_ hb ag_ R) dn_ rfl R a I B fun vs P x y C p=>⟨trivial, ?_⟩
 rw [am_] at p
 (refine X2_3 p fun v z Z S Y=> ?_; subst Z)
 rw [rd_ref] at S; subst S
 have h4:=aH_ Y
 obtain rfl:z= []:=by cases z with
  | nil => rfl
  | cons _ _ => contradiction
 refine X0_5 (C.own _ _ M) fun hX hP hL hC V=> ?_
 (refine X2_2 V fun o n i U=> ?_; subst U)
 exact fx_ i hz fun t=>(I0_3 (x.keep G (fun _ _ e=>e) (Nat.succ_pos _)) (H.trans y) (by simp))⟩
end
end Mine
end
section
set_option linter.deprecated false
namespace Mine
section
variable {g:GC}{k:Nat}{env:Env}{X:Addr→Prop}{σ:List (Str×PV)}{ω:List (Addr×OC)}{h:Heap}
theorem cI_ (G:g.Good){x:Array UInt8}(e:x.size≤1099511627776):Op g k X [.bytes x] (fun vs=>call (.builtin "len") vs) (.int x.size):=oc1 fun A s E v _ O _ c=>by
 rw [rd_bytes] at c
 obtain ⟨t,rfl⟩:=c
 exact len_bytes e fun ht=>(I0_3 (Ok.toks G O ht) Kp.refl (by simp))
theorem fd_ (G:g.Good){l:List UInt8}{i:Int}(e:l.length≤1099511627776)(m:0≤i)(f:i < l.length):
  Op g k X [.bytes l.toArray, .int i] (fun vs=>getItem (vs.getD 0 .none) (vs.getD 1 .none)) (.int (l.getD i.toNat 0).toNat):=op2 fun A s E v u _ O _ c p=>by
 rw [rd_bytes] at c; rw [rd_int] at p
 obtain ⟨t,rfl⟩:=c
 obtain ⟨u,rfl⟩:=p
 exact getItem_bytes e m f fun ht=>(I0_3 (Ok.toks G O ht) Kp.refl (by simp))
theorem gW_ (G:g.Good){b a:Expr}{pos:Pos}{l:List UInt8}{i:Int}(c:Ev g k env X σ ω b (.bytes l.toArray))(hi:Ev g k env X σ ω a (.int i))
  (e:l.length≤1099511627776) (m:0≤i) (f:i < l.length) (j:autoParam (∀o i,∃n,subscripted a false o i=operate n (getItem o i)) aQ3):
  Ev g k env X σ ω (.Subscript b a pos) (.int (l.getD i.toNat 0).toNat):=dY_ c hi (fd_ G e m f) hn_ FB.slot_bytes_getitem.lookup j
end
end Mine
end
section
namespace Mine
section
variable {prog:Program}{w:World}{A:Around}{E:Value→Shared→Prop}{s:Shared}
theorem lf_ {d:Addr}{f}{c:Nat}{y:Str}{t:Tok}{Q:Builtin.Str.Mapped→Shared→Prop}(hm:s.heap.IntMap d f)(i:f c=some (.str y t))(h:∀tk,Q (.text y) {s with toks:=tk}):
  wpAny (model prog w) A (Builtin.Str.tableLookup (.ref d) c) Q E s:=by
 unfold Builtin.Str.tableLookup
 refine wpAny_bind (wpAny_attempt (wpAny_bind (wpAny_mkInt (wpAny_getItem_intMap (s:= {s with toks:=s.toks+1}) hm i ?_))))
 refine wpAny_bind (wpAny_of_eq (a:=none) rfl ?_)
 refine wpAny_bind (wpAny_of_eq (a:=some y) rfl ?_)
 exact wpAny_pure (h _)
theorem ni_:isSubtype (.type "KeyError") (.type "LookupError")=pure true:=by rw [isSubtype_type]; kernel_rfl
theorem lB_ {d:Addr}{f}{c:Nat}{Q:Builtin.Str.Mapped→Shared→Prop}(hm:s.heap.MapOf (intKind prog w) d f)(hd:(d==sysModules)=false)(D:A.handled=none)(i:f c=none)(h:∀h' tk,(∀b o,s.heap.get? b=some o→h'.get? b=some o)→Q .keep {s with heap:=h',toks:=tk}):
  wpAny (model prog w) A (Builtin.Str.tableLookup (.ref d) c) Q E s:=by
 unfold Builtin.Str.tableLookup
 refine wpAny_bind (wpAny_attempt (wpAny_bind (wpAny_mkInt (wpAny_getItem_missing_of (s:= {s with toks:=s.toks+1}) (intKind_is _ _ _ _) hd D hm i fun h' e X=> ?_))))
 dsimp only
 refine wpAny_bind (wpAny_isInstance (T:= "KeyError") ?_ ni_ ?_)
 ·obtain ⟨ob,t,V,hc,_⟩:=X.there
  exact I1_2 ob V hc
 ·refine sb (if_pos rfl) ?_
  exact wpAny_bind (wpAny_rule (wpAny_pure (h _ _ X.keeps)))
theorem eQ_ {d:Addr}{f}{c:Nat}{t:Tok}{Q:Value→Shared→Prop}(hm:s.heap.MapOf (intKind prog w) d f)(hd:(d==sysModules)=false)(D:A.handled=none)(hc:c < 128)
  (i:f c=none∨∃y j,f c=some (.str y j)∧y.length=2)
  (h:∀h' j tk,(∀b o,s.heap.get? b=some o→h'.get? b=some o)→Q (.str (match f c with | some (.str y _)=>y | _=>⟨#[c]⟩) j) {s with heap:=h',toks:=tk}):
  wpAny (model prog w) A (call (.builtin "str.translate") [.str ⟨#[c]⟩ t, .ref d]) Q E s:=by
 refine wpAny_call_entry F.slot_str_translate (typeIs_str _ _ _) F.entry_str_translate ?_ (F.args_str_translate_2 _ _)
 refine wpAny_bind (wpAny_of_eq (a:=(.str ⟨#[c]⟩ t,⟨#[c]⟩, .ref d)) rfl ?_)
 dsimp only
 refine KFB.if_not (by simp [Str.length]) ?_
 have e1:(#[c]:Array Nat).all (fun x=>decide (x < 128))=true:=by simp [hc]
 simp only [e1]
 refine sy Array.forIn_toList ?_
 have e2:(#[c]:Array Nat).toList= [c]:=rfl
 have B:∀n:Nat,n≤2→Builtin.Str.tooLong n=false:=fun n hn=>by simp only [Builtin.Str.tooLong,sizeLine]; simp; exact Nat.le_trans hn (Nat.le_of_ble_eq_true rfl)
 refine sb (e2 ..) (sb (List.forIn_cons ..) ?_)
 dsimp only
 refine wpAny_bind (wpAny_bind ?_)
 refine KFB.if_not (by exact sb (B 0 (Nat.zero_le _)) rfl) ?_
 refine sb (if_pos rfl) ?_
 simp only [List.lookup_nil]
 rcases i with i | ⟨y,u,i,hy⟩
 ·refine wpAny_bind (lB_ hm hd D i fun h' tk hk=> ?_)
  refine wpAny_bind (wpAny_pure ?_)
  refine wpAny_pure ?_
  rw [i] at h
  refine wpAny_pure ?_
  refine KFB.if_not (by exact sb (B _ (by exact Nat.le.step Nat.le.refl)) rfl) ?_
  refine wpAny_bind (wpAny_mkStr (wpAny_pure ⟨_,rfl, ?_⟩) (by refine (?_:(1:Nat)≤sizeLine); decide))
  exact h h' _ _ hk
 ·have l:s.heap.IntMap d f:=hm.intMap
  rw [i] at h
  have e4:(y.length==1 && y.cps.all fun x=>decide (x < 128))=false:=by refine sb hy ?_; rfl
  refine wpAny_bind (lf_ l i fun tk=> ?_)
  dsimp only
  refine sb e4 ?_
  simp only [Bool.false_eq_true,if_false]
  refine wpAny_bind (wpAny_pure ?_)
  refine wpAny_bind (wpAny_rule ?_)
  refine wpAny_bind (lf_ (s:= {s with toks:=tk}) l i fun tk=> ?_)
  refine wpAny_pure ?_
  refine wpAny_pure ?_
  refine KFB.if_not (by exact sb hy (sb (B _ (by exact Nat.le.refl)) rfl)) ?_
  have R:(⟨List.foldl (fun acc p=>acc++p.cps) #[] [y].reverse⟩:Str)=y:=by simp
  refine sb R ?_
  refine wpAny_bind (wpAny_mkStr (wpAny_pure ⟨_,rfl, ?_⟩) (by refine sb hy ?_; decide))
  exact h s.heap _ _ fun _ _ e=>e
end
section
variable {g:GC}{k:Nat}{X:Addr→Prop}
noncomputable def escF (f:Int→Option Value)(c:Nat):Str:=match f c with | some (.str y _)=>y | _=>⟨#[c]⟩
structure jN_ (g:GC)(d:Addr)(f:Int→Option Value):Prop where
 map:g.hG.MapOf (intKind g.prog g.w) d f
 np:d≠g.Pt
 ns:(d==sysModules)=false
theorem fU_ (G:g.Good){d:Addr}{f}(T:jN_ g d f){c:Nat}(hc:c < 128)(i:f c=none∨∃y j,f c=some (.str y j)∧y.length=2):
  Op g k X [.str ⟨#[c]⟩, .ref d] (fun vs=>call (.builtin "str.translate") vs) (.str (escF f c)):=oc2 fun A s E v u a O xo z J=>by
 rw [rd_str] at z; rw [rd_ref] at J
 obtain ⟨t,rfl⟩:=z
 subst J
 have hm:s.heap.MapOf (intKind g.prog g.w) d f:=X3_2 T.map fun o Z ep e r=>I3_2 o Z ep (O.gk _ _ T.np e) r
 exact eQ_ hm T.ns a.1 hc i fun h' j tk hk ht=>(I0_3 (O.keep G hk ht) (Kp.of hk) (by rw [rd_str]; exact ⟨j,rfl⟩))
theorem g2_ (G:g.Good)(N:GN g){I:Addr}{pm cd doc:Value}(F:FnAt g I 6 pm cd doc){d:Addr}{f}(Y:g.mg "_special_chars_map" =some (.ref d))(T:jN_ g d f){c:Nat}(hc:c < 128)(i:f c=none∨∃y j,f c=some (.str y j)∧y.length=2):
  aC_ g (k+1) I [.str ⟨#[c]⟩] (.str (escF f c)):=by
 refine aP_ G F ["pattern"] rfl (fun vs C=> ?_) (by decide) (fun m x hx=> ?_) (by decide) (fun A s₀ K Xo L M E a hp S=> ?_)
 ·exact v1 (P:=fun vs=>bindArgs _ ⟨vs,[]⟩=pure (List.zip _ vs)) (fun v=>rfl) vs C
 ·rcases List.mem_cons.mp hx with rfl | hx
  ·exact .inl rfl
  ·cases hx
 ·conv=>arg 4; whnf
  refine aX_ (b:=true) S a (by_ (ar_ (bW_ G N.isinstance) (ac_ (aa_ mQ) (ac_ (dK_ G N.str) ag_)) (fe_ G)) ch_) (fun _ H q=> ?_) (fun h=>nomatch h)
  exact aO_ q a (ce_ (aa_ mQ) (bi_ PySem.F.slot_str_translate PySem.F.type_str_translate) (ac_ (bI_ G Y) ag_) (fU_ G T hc i)) (fun v s' U r=>U.out r)
end
noncomputable def gt_ (C:Addr)(fp B:List Addr)(c:Nat)(F:Nat→Value→Prop):Protocol:=fun m s₀ v s a1=>
 F (c - 1 - m) v∧GenSince C B s₀ s∧∀q:Shared,0 < q.toks→(∀b∈C::fp,∀o,s.heap.get? b=some o→q.heap.get? b=some o)→a1 (.send .none) q
section
variable {prog:Program}{w:World}{A:Around}
noncomputable abbrev cy_ (p iter:Expr) (x:Str) (px:Pos) (scope:Scope) (pos:Pos):Expr:= .GeneratorExp p [⟨.Name x px,iter,[],0⟩] scope pos
structure mO_ (prog:Program)(w:World)(cenv:Env)(x:Str)(p:Expr)(P:Nat→Value→Prop)(F:Nat→Value→Prop):Prop where
 run:∀(A':Around) E' i v (J:Shared) m2,A'.handled=none→P i v→J.heap.Ns cenv.locals m2→m2 x=some v→0 < J.toks→wpAny (model prog w) A' (eval p cenv) (fun y aw=>F i y∧Keeps J aw) E' J
theorem lD_ {p iter:Expr}{x:Str}{px:Pos}{scope:Scope}{pos:Pos}{I:Addr}{fp B:List Addr}{c:Nat}{P:Nat→Value→Prop}{u:Nat→Heap→Prop}{cenv:Env}
  (Y:A.handled=none) (z:∀A':Around,A'.handled=none→Walks prog w A' I fp B c P u) (F:Nat→Value→Prop)
  (hx:cenv.kindOf x=some .local) (hp:(cenv.scope.kind== .class || (cenv.scope.kind== .module && cenv.locals !=cenv.globals))=false)
  (am:cenv.scope.isCoroutine=false) (Z:cenv.locals ∉ fp) (hq:mO_ prog w cenv x p P F):
  ∀(k i:Nat) (s₀ s:Shared) (m:Str→Option Value),c - i=k→i≤c→u i s.heap→s.heap.Ns cenv.locals m→GenSince cenv.locals B s₀ s→0 < s.toks→
   Seg (model prog w) A (fun n s₀ r f=>r= .ok .next∧(n=0∧GenSince cenv.locals B s₀ f)) (gt_ cenv.locals fp B c F) (c - i) s₀
    (.compLoop (cy_ p iter x px scope pos) 0 (.ref I) .none cenv) ((model prog w).den (.compLoop (cy_ p iter x px scope pos) 0 (.ref I) .none cenv)) [] s:=by
 have U:(A.over (.compLoop (cy_ p iter x px scope pos) 0 (.ref I) .none cenv) []).handled=none:=Y
 have aH:cenv.locals ∉ B:=fun h=>Z ((z A Y).sub _ h)
 intro k
 induction k with
 | zero=>
  intro i s₀ s m hk hi L hn t ht
  obtain rfl:i=c:=by exact O358 hi hk
  refine (?_:Seg _ A _ _ _ s₀ _ ((compTurn (cy_ p iter x px scope pos) 0 (.ref I) .none cenv).onRaise (leaving cenv)) [] s)
  refine sb (compTurn_gen ..) (sb (Sem.onRaise_eq_wrap ..) ?_)
  refine seg_bind_wrap (wpAny_standAt ?_)
  refine seg_bind_wrap ((z _ U).done s _ _ L fun h' tk aC=> ?_)
  exact seg_end (.ok .next) (I0_3 rfl (by exact O359) (t.step fun b o _ hw e=>aC b o hw e))
 | succ k ih=>
  intro i s₀ s m hk hi L hn t ht
  have ad:i < c:=by exact Nat.lt_of_sub_eq_succ hk
  refine (?_:Seg _ A _ _ _ s₀ _ ((compTurn (cy_ p iter x px scope pos) 0 (.ref I) .none cenv).onRaise (leaving cenv)) [] s)
  refine sb (compTurn_gen ..) (sb (Sem.onRaise_eq_wrap ..) ?_)
  refine seg_bind_wrap (wpAny_standAt ?_)
  refine seg_bind_wrap (wpAny_with_toks (n:=1) ht ((z _ U).item i s _ _ ad L fun v ae S a5 ac l ar=> ?_))
  refine seg_bind_wrap (wpAny_of_eq (rfl:letOwnedTupleGo (.Name x px) (.ref I) v=pure ()) ?_)
  refine seg_bind_wrap (wpAny_with_toks (n:=1) ar (wpAny_assign_Name (wpAny_storeName_local hx (hn.at' fun o e=>l _ o aH e) (fun af O N al=> ?_) hp)))
  have ap:∀b o,b≠cenv.locals→b ∉ B→s.heap.get? b=some o→af.get? b=some o:=fun b o an ak e=>N.extBut b o an (l b o ak e)
  have ab:u (i+1) af:=(z A Y).frame _ _ _ ac fun b hb o e=>N.extBut b o (fun h=>Z (h▸hb)) e
  refine seg_bind_wrap (wpAny_tests_nil ?_)
  have hy:∀v,yieldOut cenv v=yieldValue v:=fun v=>by simp only [yieldOut,am,Bool.false_eq_true,if_false]
  simp only [hy]
  refine sb (Sem.bind_eq_wrap' ..) (sb (Sem.bind_eq_wrap' ..) (sb (Sem.wrap_wrap ..) (sb (Sem.wrap_wrap ..) ?_)))
  refine seg_wrap (wpAny_mono (hq.run _ _ i v _ _ U a5 O (by simp) al) (fun y aI ai=> ?_) fun _ _ e=>e)
  obtain ⟨a3,ai,a7,rfl,H⟩:=ai
  have a2:c - i=(c - (i+1))+1:=by exact (Nat.sub_add_cancel (Nat.sub_pos_of_lt ad)).symm
  have T:c - 1 - (c - (i+1))=i:=by exact O361 ad
  refine sb a2 ?_
  refine seg_at (seg_yield rfl rfl rfl (I0_3 (by exact sb T a3) (t.step fun b o an ak e=>H b o (ap b o an ak e)) (fun q au K=> ?_)))
  refine seg_again rfl (ih (i+1) q q _ (by exact congrArg (· - 1) hk) ad ((z A Y).frame _ _ _ ab fun b hb o e=>K b (List.mem_cons_of_mem _ hb) o (H b o e))
    ((O.keeps H).at' fun o e=>K _ (List.mem_cons_self ..) o e) (GenSince.refl _ _ _) au)
theorem jU_ {p iter:Expr}{x:Str}{px:Pos}{scope:Scope}{pos:Pos}{I:Addr}{fp B:List Addr}{c:Nat}{P:Nat→Value→Prop}{u:Nat→Heap→Prop}{cenv:Env}
  (Y:A.handled=none) (z:∀A':Around,A'.handled=none→Walks prog w A' I fp B c P u) (F:Nat→Value→Prop)
  (hx:cenv.kindOf x=some .local) (hp:(cenv.scope.kind== .class || (cenv.scope.kind== .module && cenv.locals !=cenv.globals))=false)
  (am:cenv.scope.isCoroutine=false) (Z:cenv.locals ∉ fp) (hq:mO_ prog w cenv x p P F)
  (s₀ s:Shared) (m:Str→Option Value) (L:u 0 s.heap) (hn:s.heap.Ns cenv.locals m) (t:GenSince cenv.locals B s₀ s) (ht:0 < s.toks):
  Seg (model prog w) A (fun n s₀ r f=>r= .ok .next∧(n=0∧GenSince cenv.locals B s₀ f)) (gt_ cenv.locals fp B c F) c s₀
   (.compStart (cy_ p iter x px scope pos) 0 (.ref I) .none cenv) ((model prog w).den (.compStart (cy_ p iter x px scope pos) 0 (.ref I) .none cenv)) [] s:=by
 have U:(A.over (.compStart (cy_ p iter x px scope pos) 0 (.ref I) .none cenv) []).handled=none:=Y
 have V:=lD_ (iter:=iter) (px:=px) (scope:=scope) (pos:=pos) Y z F hx hp am Z hq c 0 s₀ s m (Nat.sub_zero _) (Nat.zero_le _) L hn t ht
 simp only [Nat.sub_zero] at V
 refine (?_:Seg _ A _ _ _ s₀ _ ((compStart (cy_ p iter x px scope pos) 0 (.ref I) .none cenv).onRaise (leaving cenv)) [] s)
 refine sb (Sem.onRaise_eq_wrap ..) ?_
 refine (?_:Seg _ A _ _ _ s₀ _ ((ask>>=_).wrap _ _ _ _) [] s)
 refine seg_bind_wrap (wpAny_askSetting ?_)
 split
 ·exact seg_again rfl V
 ·refine seg_bind_wrap (wpAny_rule ?_)
  refine (?_:Seg _ A _ _ _ s₀ _ ((standAt iter.pos>>=_).wrap _ _ _ _) [] s)
  exact seg_bind_wrap (wpAny_standAt (seg_bind_wrap ((z _ U).self 0 s _ _ L (seg_again rfl V))))
def tkAt (prog:Program)(w:World)(A:Around)(a:Addr)(g:Nat)(C:Addr)(fp B:List Addr)(c:Nat)(F:Nat→Value→Prop)(j:Nat)(s:Shared):Prop:=
 0 < s.toks∧s.heap.IsGen a g∧s.heap.NoLimit∧∃gs,s.gens[g]? =some gs∧∀q:Shared,0 < q.toks→(∀b∈C::fp,∀o,s.heap.get? b=some o→q.heap.get? b=some o)→
  gs.Goes (model prog w) A.in1 (fun n s₀ r f=>r= .ok .next∧(n=0∧GenSince C B s₀ f)) (gt_ C fp B c F) (c - j) (.send .none) q
theorem jT_ (Y:A.handled=none)(a:Addr)(g:Nat)(C:Addr)(fp B:List Addr)(c:Nat)(F:Nat→Value→Prop)(aA:a≠C)(aG:a ∉ fp)(ag:∀b∈B,b∈fp)
  (R:A.depth < recursionLimit) (a6:cStatics∈fp) (aF:cStatics≠C) (a9:cStatics ∉ B):
  WalksS prog w A a (a::C::fp) (C::B) (GenOnlyQ g) c F (tkAt prog w A a g C fp B c F) where
 sub:=fun b hb=>by
  rcases List.mem_cons.mp hb with rfl | hb
  ·simp
  ·exact List.mem_cons_of_mem _ (List.mem_cons_of_mem _ (ag b hb))
 grefl:=fun _=> .inl rfl
 gtrans:=fun _ _ _ x y=>x.trans y
 frame:=fun j s h' tk st M hk=>by
  obtain ⟨s0,s1,s2,gs,D,G⟩:=st
  refine ⟨Nat.lt_of_lt_of_le s0 M, ?_, ?_,gs,D,fun q ht K=>G q ht fun b hb o e=>K b hb o (hk b (List.mem_cons_of_mem _ hb) o e)⟩
  ·refine X3_2 s1 fun o nm qn ho r=> ?_
   exact I3_2 o nm qn (hk a (List.mem_cons_self ..) o ho) r
  ·refine X1_2 s2 fun mc ao aq=> ?_
   exact I1_2 mc (ao.at' fun o e=>hk cStatics (List.mem_cons_of_mem _ (List.mem_cons_of_mem _ a6)) o e) aq
 item:=fun j s Q E hj st hQ=>by
  obtain ⟨aa,hg,hl,gs,D,G⟩:=st
  obtain ⟨m,hm⟩:∃m,c - j=m+1:=⟨c - j - 1,by exact (Nat.sub_add_cancel (Nat.sub_pos_of_lt hj)).symm⟩
  rw [hm] at G
  refine wpAny_with_toks (Nat.le_refl s.toks) ?_
  refine wpAny_pyNext_genexpQ (P:=fun n s₀ f=>n=0∧GenSince C B s₀ f) Y hl R hg D (G _ aa fun _ _ _ e=>e) (fun v f aj hb hv=> ?_) (fun f hp h' hk=> ?_)
  ·(refine X0_3 hv fun hF q2 X=> ?_; obtain ⟨ae,S,rfl,l⟩:=q2)
   have T:c - 1 - (m+1 - 1)=j:=by exact O364 hm
   rw [T] at hF
   have aB:a ∉ B:=fun h=>aG (ag a h)
   intro M
   refine hQ v _ hF ⟨Nat.lt_of_lt_of_le aa M, ?_, ?_,aj,setGen_self (gs:= .running) (setGen_self D),fun q ht K=> ?_⟩
    ⟨fun b o hb e=>l b o (fun h=>hb (h▸List.mem_cons_self ..)) (fun h=>hb (List.mem_cons_of_mem _ h)) e,GenOnlyQ.of ((GenOnly.setGen s g .running).trans (GenOnly.setGen _ g aj)) (setGen_self (gs:= .running) (setGen_self D)) hb,rfl,rfl,M⟩
   ·refine X3_2 hg fun o nm qn ho r=> ?_
    exact I3_2 o nm qn (l a o aA aB ho) r
   ·refine X1_2 hl fun mc ao aq=> ?_
    exact I1_2 mc (ao.at' fun o e=>l cStatics o aF a9 e) aq
   ·have e:c - (j+1)=m:=by exact congrArg (· - 1) hm
    refine sb e ?_
    exact X q ht K
  ·exact absurd hp.1 (Nat.succ_ne_zero m)
 done:=fun s Q E st hQ=>by
  obtain ⟨aa,hg,hl,gs,D,G⟩:=st
  rw [Nat.sub_self] at G
  refine wpAny_with_toks (Nat.le_refl s.toks) ?_
  refine wpAny_pyNext_genexpQ (P:=fun n s₀ f=>n=0∧GenSince C B s₀ f) Y hl R hg D (G _ aa fun _ _ _ e=>e) (fun v f aj hb hv=> ?_) (fun f hp h' hk=> ?_)
  ·refine X0_3 hv fun _ _ X=> ?_
   exact False.elim (X {f with toks:=1} (Nat.succ_pos 0) fun _ _ _ e=>e)
  ·obtain ⟨_,ae,S,rfl,l⟩:=hp
   intro M
   exact hQ _ ⟨fun b o hb e=>hk b o (l b o (fun h=>hb (h▸List.mem_cons_self ..)) (fun h=>hb (List.mem_cons_of_mem _ h)) e),GenOnlyQ.of ((GenOnly.setGen s g .running).trans (GenOnly.setGen _ g .finished)) (setGen_self (gs:= .running) (setGen_self D)) rfl,rfl,rfl,M⟩
 self:=fun _ _ _ _ st hQ=>wpAny_pyIter_gen st.2.1 hQ
end
def k6_ (P:Addr)(pl:Pos)(q:Str)(h:Heap):Prop:=∃ps,h.get? P=some (tabObj ps)∧TriplesOk ps.toList∧∀k,codeAmong pl ps.toList=some k→h.CodeRec k q
structure TabG (g:GC)(c:Addr)(pl:Pos)(q:Str):Prop where
 hd:CodeHd g.hG c g.Pt
 bm:g.hG.BuiltinsAt g.mg g.Pt
 is:∀h,g.TabOk h↔k6_ g.Pt pl q h
theorem hj_ {pl:Pos}{a b:Int}{c:Value}(V:¬(a=pl.line∧b=pl.col)):∀(l:List Value),TriplesOk l→codeAmong pl (l++ [rawInt a,rawInt b,c])=codeAmong pl l:=fun l h=>by
 fun_induction TriplesOk l with
 | case1 => simp [codeAmong,rawInt]; intro F J; exact (V ⟨F,J⟩).elim
 | case2 a' t b' u x ac ih=>
  simp only [List.cons_append,codeAmong]
  split
  ·rfl
  ·exact ih h
 | case3 l F J => exact h.elim
theorem eT_ {ps:Array Value}(h:TriplesOk ps.toList){q:Str}{t:Tok}:ps[1]? ≠some (.str q t):=by
 obtain ⟨l⟩:=ps
 intro e
 rcases l with _ | ⟨x,_ | ⟨y,r⟩⟩
 ·contradiction
 ·contradiction
 ·cases e
  cases x <;>exact h
section
variable {g:GC}{c:Addr}{pl:Pos}{q:Str}
theorem CodeRec.extP {h h':Heap}{P:Addr}{ps:Array Value}{k:Value}(x:h.CodeRec k q)(hP:h.get? P=some (tabObj ps))(ht:TriplesOk ps.toList)(hx:Heap.ExtBut P h h'):h'.CodeRec k q:=by
 refine X4_4 x fun c o vs t S Q R e4=> ?_
 refine I4_4 c o vs t S (hx c o ?_ Q) R e4
 rintro rfl
 rw [hP] at Q; cases Q; cases R
 exact eT_ ht e4
theorem TabG.hd' (T:TabG g c pl q){s:Shared}(O:g.Ok s):CodeHd s.heap c g.Pt:=by
 obtain ⟨o,vs,K,tf,D,tg,U,text,tt,e,r⟩:=T.hd
 exact I6_1 o vs K tf D tg (I3_2 U text tt (O.gk _ _ r.2.2.2.2.2.2.2.2 e) r)
theorem TabG.bm' (T:TabG g c pl q){s:Shared}(O:g.Ok s):s.heap.BuiltinsAt g.mg g.Pt:=by
 refine X2_6 T.bm fun bm o F J h3 h4 h5 r=> ?_
 exact I2_6 bm o F J h3 h4 (O.gk _ _ h4 h5) r
theorem TabG.grow (T:TabG g c pl q)(G:g.Good){s:Shared}(O:g.Ok s){h':Heap}{tk:Nat}(hx:Heap.ExtBut g.Pt s.heap h')(ht:0 < tk)
  (N:∀ps,s.heap.get? g.Pt=some (tabObj ps)→TriplesOk ps.toList→∃B,h'.get? g.Pt=some (tabObj B)∧TriplesOk B.toList∧∀k,codeAmong pl B.toList=some k→(codeAmong pl ps.toList=some k)∨h'.CodeRec k q):
  g.Ok {s with heap:=h',toks:=tk}∧Kp g s.heap h':=by
 refine X1_3 ((T.is _).mp O.tab) fun ps F J h3=> ?_
 refine X1_3 (N ps F J) fun B S Q R=> ?_
 refine ⟨⟨fun b o n e=>hx b o n (O.gk b o n e),⟨_,S⟩,(T.is _).mpr ⟨B,S,Q,fun k hc=> ?_⟩,O.gens,O.os,ht⟩,fun b o n e=>hx b o n e⟩
 rcases R k hc with e | e
 ·exact CodeRec.extP (h3 k e) F J hx
 ·exact e
end
section
variable {prog:Program}{w:World}
structure TkEv (prog:Program)(w:World)(cenv:Env)(x:Str)(a:Str)(e:Expr)(o:Str):Prop where
 run:∀(A':Around) E' t (j:Shared) m2,j.heap.Ns cenv.locals m2→m2 x=some (.str a t)→0 < j.toks→wpAny (model prog w) A' (eval e cenv) (fun y L=>(∃X,y= .str o X)∧Keeps j L) E' j
theorem Keeps.refl' (s:Shared):Keeps s s:=⟨s.heap,s.toks,rfl,fun _ _ e=>e⟩
theorem lC_ {cenv:Env}{x a:Str}{pos:Pos}(hk:autoParam (cenv.scope.kind= .function) aQ7)(hl:autoParam (cenv.scope.names.lookup x=some .local) aQ8)(hd:autoParam ((x==("__debug__" :Str))=false) aQ0):TkEv prog w cenv x a (.Name x pos) a:= .mk fun A E t s m N hm _=>
 ldG N hm ⟨⟨t,rfl⟩,Keeps.refl' s⟩ hk hl hd
theorem eS_ {cenv:Env}{v a:Str}{ob:Expr}{apos pos p1 p2:Pos}{n1 n2:Nat}{x y z:Str}(Z:TkEv prog w cenv v a ob x)(Y:(y==z)=false)(hb:x.length+(x.length+1)*z.length≤16777216)
  (aa:autoParam (∀C,attributeBase ob "replace" cenv C=C) aQ9) (hp:autoParam ((apos.endLine==pos.line)=true) aQ1):
  TkEv prog w cenv v a (.Call (.Attribute ob "replace" apos) [.Constant (.str y) n1 p1, .Constant (.str z) n2 p2] [] pos) (Txt.replace x y z):= .mk fun A E t s m N hm ht=>by
 refine MethodCall_ (wpAny_with_toks (n:=1) ht (wpAny_mono (Z.run A _ t s m N hm ht) (fun u ae p I=> ?_) fun _ _ e _=>e)) (c7_ aa (by rfl) hp)
 obtain ⟨⟨X,rfl⟩,p,f,rfl,H⟩:=p
 have h0:0 < f:=I
 refine GM.replace ?_
 refine callWith_of (M:=model prog w) (P:=fun _=>True) (by rfl) (fun h _=>(I1_2 .machine (.inr (.inl rfl)) Looks.now)) (evalArgs_plain ?_)
 refine (?_:wpAny _ A (do let v ← eval (.Constant (.str y) n1 p1) cenv; let i ← pure [v]; return i++(← holding i (spliced (backTo pos (starEach [.Constant (.str z) n2 p2] cenv))))) _ _ _)
 refine wpAny_bind (wpAny_Constant_str (wpAny_bind (wpAny_pure (wpAny_bind (wpAny_holding ?_)))))
 refine (?_:wpAny _ A (do let v ← eval (.Constant (.str z) n2 p2) cenv; let i ← pure [v]; return i++(← holding i (spliced (backTo pos (starEach [] cenv))))) _ _ _)
 refine wpAny_bind (wpAny_Constant_str (wpAny_bind (wpAny_pure (wpAny_bind (wpAny_holding (wpAny_pure (wpAny_pure (wpAny_pure ⟨trivial, ?_⟩))))))))
 exact SC.replace (t:=X) (u:=f) (v:=f+1) (show f≠0 by exact Nat.ne_zero_of_lt h0) (show f+1≠0 by exact O18) (show f≠f+1 by exact O19) Y hb fun t2 k2=>⟨⟨t2,rfl⟩,p,k2,rfl,H⟩
end
section
variable {g:GC}{k:Nat}{env:Env}{X:Addr→Prop}{σ:List (Str×PV)}{ω:List (Addr×OC)}{c:Addr}{pl:Pos}{q:Str}
theorem h4_ (G:g.Good)(T:TabG g c pl q)(Y:env.code= .ref c){A:Around}{E:Value→Shared→Prop}{s:Shared}{z:Pos}{aM:Str}{scope:Scope}{Q:Value→Shared→Prop}(O:g.Ok s)
  (a7:¬(((z.line:Nat):Int)=pl.line∧((z.col:Nat):Int)=pl.col))
  (h:∀code h' tk,g.Ok {s with heap:=h',toks:=tk}→Kp g s.heap h'→Heap.ExtBut g.Pt s.heap h'→s.heap.objs.size≤h'.objs.size→Q code {s with heap:=h',toks:=tk}):
  wpAny (model g.prog g.w) A (genexprCode env z aM scope) Q E s:=by
 refine X1_3 ((T.is _).mp O.tab) fun ps h1 h2 h3=> ?_
 have C:=T.hd' O
 cases hf:codeAmong z ps.toList with
 | some cv => exact wpAny_codeAt_hit Y (C.code h1 h2) hf (h cv s.heap s.toks O Kp.refl (Heap.ExtBut.refl _ _) (Nat.le_refl _))
 | none=>
  refine wpAny_with_toks (n:=1) O.tok (wpAny_genexprCodeX Y (C.code h1 h2) (C.tab h1) hf fun c' h' tk hx bb aj bH bp aU _ ht=> ?_)
  obtain ⟨O',K'⟩:=T.grow G O (h':=h') (tk:=tk) hx ht fun ps₀ e1 e2=>by
   rw [h1] at e1
   obtain rfl:ps=ps₀:=by injection e1 with e1; injection e1 with _ _ e1; injection e1
   refine I1_3 _ aU.2 ?_ (fun cv hc=> .inl ?_)
   ·simpa using TriplesOk_snoc _ _ _ _ e2
   ·have:=hj_ (c:= .ref c') a7 _ e2
    refine sy this ?_
    simpa using hc
  exact h _ h' tk O' K' hx (Nat.le_trans bb (Nat.le_of_lt aj))
theorem h8_ (G:g.Good)(T:TabG g c pl q)(Y:env.code= .ref c){n:Nat}{p0 apos pos z px:Pos}{scope:Scope}{x:Str}{U iter:Expr}{sep:Str}{ys:List Str}{f:Str→Str}
  (hi:Ev g k env X σ ω iter (.lst (txts ys))) (a7:¬(((z.line:Nat):Int)=pl.line∧((z.col:Nat):Int)=pl.col))
  (aY:∀C code a,a∈ys→TkEv g.prog g.w (genEnv scope [] C code builtinsNs env) x a U (f a))
  (bk:JoinOk sep (ys.map f)=true) (ak:ys.length≤sizeLine)
  (a4:autoParam (closureFor scope env=pure []) aQ6) (aN:autoParam (scope.isCoroutine=false) aQ5) (hcell:autoParam (∀y∈scope.names,y.2≠ .cell) aQ0) (h0:autoParam (scope.names.lookup (".0" :Str)=some NameKind.local) aQ6)
  (hx:autoParam (scope.names.lookup x=some .local) aQ8) (hkind:autoParam (scope.kind= .function) aQ7) (hs:autoParam (∀x,genFold iter env x=pure x) aQ2) 
  (hp:autoParam ((apos.endLine==pos.line)=true) aQ1)
  (hf:autoParam (methodCallForm ([Expr.GeneratorExp U [⟨.Name x px,iter,[],0⟩] scope z].length+0) (backTo pos (starEach [Expr.GeneratorExp U [⟨.Name x px,iter,[],0⟩] scope z] env)) (backToKw pos (keywordEach [] env))=true) aQ1):
  Ev g k env X σ ω (.Call (.Attribute (.Constant (.str sep) n p0) "join" apos) [.GeneratorExp U [⟨.Name x px,iter,[],0⟩] scope z] [] pos) (.str (Txt.join sep (ys.map f))):=eA_ fun A s E a O L=>by
 have hc:=c7_ (env:=env) (ob:= .Constant (.str sep) n p0) (name:= "join") (apos:=apos) (pos:=pos) (args:= [Expr.GeneratorExp U [⟨.Name x px,iter,[],0⟩] scope z]) (fun _=>rfl) hf hp
 refine MethodCall_ ?_ hc
 refine wpAny_Constant_str ?_
 have aF:=Ok.toks G O (tk:=s.toks+1) (Nat.succ_pos _)
 have aE:Loc g env X σ ω ({s with toks:=s.toks+1}:Shared).heap:=L
 refine bi_ (g:=g) (X:=X) (x:=sep) F.slot_str_join F.type_str_join _ _ _ _ _ _ (rd_str.mpr ⟨_,rfl⟩) ?_
 refine callWith_of (P:=fun _=>True) (by rfl) (bQ_ (g:=g)) (evalArgs_plain ?_)
 refine (?_:wpAny _ A (do let v ← eval (.GeneratorExp U [⟨.Name x px,iter,[],0⟩] scope z) env; let ap ← pure [v]; return ap++(← holding ap (spliced (backTo pos (starEach [] env))))) _ _ _)
 refine wpAny_bind (wpAny_GeneratorExp_make aN a4 hcell h0 hkind a.room (hi.use a aF aE fun v p S aR ay az=> ?_) hs)
 rw [bb_] at az
 (refine X2_4 az fun l vs q1 bh hl hr=> ?_; subst q1)
 have hh:A.handled=none:=a.1
 have ae:g.Pt < p.heap.objs.size:=(S.pt).elim fun o ho=>Heap.lt_size ho
 have af:l < p.heap.objs.size:=by refine X1_2 hl fun o ho _=> ?_; exact Heap.lt_size ho
 obtain ⟨I,hI⟩:∃I,I=p.heap.objs.size:=⟨_,rfl⟩
 have R:∀b o,p.heap.get? b=some o→(p.heap.push {cls:= .type "list_iterator",data:= .fields #[.ref l, .int 0 0]}).get? b=some o:=fun b o e=>Heap.get?_push_of_some _ e
 have aP:g.Ok {p with heap:=p.heap.push {cls:= .type "list_iterator",data:= .fields #[.ref l, .int 0 0]}}:=S.keep G (tk:=p.toks) R S.tok
 refine wpAny_pyIter_list hl ⟨(S.nolim G).push _,h4_ G T Y aP a7 fun code M J K bt a5 am=> ?_⟩
 have an:(p.heap.push {cls:= .type "list_iterator",data:= .fields #[.ref l, .int 0 0]}).IsListIter I l 0:=⟨_,hI▸Heap.get?_push_size _ rfl,rfl,rfl⟩
 generalize hH:p.heap.push {cls:= .type "list_iterator",data:= .fields #[.ref l, .int 0 0]}=H at*
 have aZ:H.objs.size=I+1:=by exact sy (hH ..) (sb (Heap.size_push ..) (sb (hI ..) rfl))
 have a2:H.IsList l vs:=(X1_2 hl fun o ho r=>⟨o,R _ _ ho,r⟩)
 refine X2_8 (T.bm' K) fun bm ob b1 b2 b3 b4 b5 b6 b7 b8=> ?_
 refine wpAny_builtinsFor (by exact sb ay.gl (K.main G)) b1 b2 b5 b6 b7 b8 ?_
 intro h' ao al
 dsimp only at ao al ⊢
 obtain ⟨C,hC⟩:∃C,C=M.objs.size:=⟨_,rfl⟩
 rw [← hC] at ao al ⊢
 have aw:h'.objs.size=C+1:=by exact sb (al.1 ..) (sb (Heap.size_push ..) (sb (hC ..) rfl))
 have a6:∀b o,M.get? b=some o→h'.get? b=some o:=fun b o e=>al.extBut b o (by
  have h1:=Heap.lt_size e
  rintro rfl
  rw [hC] at h1; exact absurd h1 (Nat.lt_irrefl _)) (Heap.get?_push_of_some _ e)
 obtain ⟨oG,ag⟩:∃oG:Obj,oG= {cls:= .type "generator",data:= .fields #[.int p.gens.size 0, .str "<genexpr>" (J+1), .str (env.qual++ "<genexpr>") (J+1+1)]}:=⟨_,rfl⟩
 obtain ⟨D,N⟩:∃D,D=h'.push oG:=⟨_,rfl⟩
 have B:∀b o,M.get? b=some o→D.get? b=some o:=fun b o e=>N▸Heap.get?_push_of_some _ (a6 b o e)
 obtain ⟨V,Z⟩:∃V,V=h'.objs.size:=⟨_,rfl⟩
 have lC: @LT.lt Nat _ I C:=by refine sb hC ?_; exact Nat.lt_of_lt_of_le (by exact sb aZ (Nat.lt_succ_self _)) am
 have a9: @Eq Nat V (C+1):=by exact sb Z aw
 have ba:∀{b o},M.get? b=some o→@LT.lt Nat _ b C:=fun e=>hC▸Heap.lt_size e
 have ab:g.Ok {p with gens:=p.gens.push (.fresh (.compStart (cy_ U iter x px scope z) 0 (.ref I) .none (genEnv scope [] C code builtinsNs env))),heap:=D,toks:=J+1+1+1}:=
  ⟨(K.keep G (tk:=1) B (by decide)).gk,(K.keep G (tk:=1) B (by decide)).pt,(K.keep G (tk:=1) B (by decide)).tab,S.gens.push rfl,K.os,Nat.succ_pos _⟩
 refine wpAny_bind (wpAny_pure (wpAny_bind (wpAny_holding (wpAny_pure (wpAny_pure ⟨trivial, ?_⟩)))))
 refine (?_:wpAny _ A (call (.builtin "str.join") [.str sep s.toks, .ref h'.objs.size]) _ E {p with gens:=p.gens.push (.fresh (.compStart (cy_ U iter x px scope z) 0 (.ref p.heap.objs.size) .none (genEnv scope [] C code builtinsNs env))),heap:=h'.push {cls:= .type "generator",data:= .fields #[.int p.gens.size 0, .str "<genexpr>" (J+1), .str (env.qual++ "<genexpr>") (J+1+1)]},toks:=J+1+1+1})
 refine sy hI (sy ag (sy N (sy Z ?_)))
 have aX:l≠I:=fun e=>by rw [e,hI] at af; exact Nat.lt_irrefl _ af
 have ad:vs.size=ys.length:=by have:=a4_ hr; simpa using this
 have bj:=b3_ hr
 have Kptn:g.Pt≠I:=fun e=>by rw [e,hI] at ae; exact Nat.lt_irrefl _ ae
 have aG:l≠g.Pt:=fun e=>bh (e▸ay.ptX)
 have bM:cStatics≠g.Pt:=G.ptSta
 have a3: @LT.lt Nat _ cStatics M.objs.size:=by refine X1_2 (K.nolim G) fun _ hn _=> ?_; exact hn.lt
 have ar: @LT.lt Nat _ cStatics p.heap.objs.size:=by refine X1_2 (S.nolim G) fun _ hn _=> ?_; exact hn.lt
 have mf:∀b∈[I,l],b∈List.range M.objs.size:=fun b hb=>by
  rcases List.mem_cons.mp hb with rfl | hb
  ·exact List.mem_range.mpr (hC▸lC)
  ·rcases List.mem_cons.mp hb with rfl | hb
   ·exact List.mem_range.mpr (Nat.lt_trans (hI▸af: @LT.lt Nat _ b I) (hC▸lC))
   ·exact (nomatch hb)
 have a0:∀A':Around,A'.handled=none→Walks g.prog g.w A' I (List.range M.objs.size) [I] vs.size (fun i v=>vs[i]? =some v) (fun i h=>h.IsListIter I l i∧h.IsList l vs):=fun A' hA=>(Walks.list hA I l aX vs).mono_fp mf
 have aa:D.IsListIter I l 0:=(X1_2 an fun o ho r=>⟨o,B _ _ (a5 _ _ Kptn.symm ho),r⟩)
 have a1:D.IsList l vs:=(X1_2 a2 fun o ho r=>⟨o,B _ _ (a5 _ _ aG ho),r⟩)
 have bd:mO_ g.prog g.w (genEnv scope [] C code builtinsNs env) x U (fun i v=>vs[i]? =some v) (fun i y=>∃t,y= .str (f (ys.getD i "")) t):= .mk fun A' E' i v aC aL _ hP hn hm ht=>by
  have aQ:vs.toList[i]? =some v:=by simpa using hP
  have aj:i < ys.length:=by
   have:=(List.getElem?_eq_some_iff.mp aQ).1
   simp only [Array.length_toList,ad] at this; exact this
  refine X1_1 (StrsAre.get bj i ys[i] (List.getElem?_eq_getElem aj)) fun t aT=> ?_
  rw [aQ] at aT; cases aT
  have e:ys.getD i "" =ys[i]:=by simp [List.getD,aj]
  rw [e]
  exact (aY C code ys[i] (List.getElem_mem aj)).run A' E' t aC aL hn hm ht
 have Wg:=jT_ (prog:=g.prog) (w:=g.w) (A:=A.in1.in1) hh V p.gens.size C (List.range M.objs.size) [I] vs.size (fun i y=>∃t,y= .str (f (ys.getD i "")) t)
  (by rw [a9]; exact Nat.succ_ne_self _) (fun hm=>by have:=List.mem_range.mp hm; rw [a9,hC] at this; exact absurd this (by exact Nat.not_succ_lt_self)) (fun b hb=>mf b (by
   rcases List.mem_cons.mp hb with rfl | hb
   ·exact .head _
   ·cases hb)) a.room (List.mem_range.mpr a3) (fun e=>by rw [e,hC] at a3; exact Nat.lt_irrefl _ a3) (fun hm=>by
   rcases List.mem_cons.mp hm with e | hm
   ·rw [e,hI] at ar; exact Nat.lt_irrefl _ ar
   ·cases hm)
 have bn:tkAt g.prog g.w A.in1.in1 V p.gens.size C (List.range M.objs.size) [I] vs.size (fun i y=>∃t,y= .str (f (ys.getD i "")) t) 0
   {p with gens:=p.gens.push (.fresh (.compStart (cy_ U iter x px scope z) 0 (.ref I) .none (genEnv scope [] C code builtinsNs env))),heap:=D,toks:=J+1+1+1}:=by
  refine ⟨Nat.succ_pos _,⟨oG,_,_, ?_,by rw [ag],by rw [ag],by rw [ag]⟩,((K.nolim G).keeps B),_,Array.getElem?_push_size ..,fun a8 ht aI=>⟨rfl, ?_⟩⟩
  ·show D.get? V=some oG
   rw [N,Z]; exact Heap.get?_push_size _ (by rw [ag]; rfl)
  ·refine jU_ (A:=A.in1.in1.in1) (cenv:=genEnv scope [] C code builtinsNs env) hh a0 _ hx (by simp [genEnv,hkind]) aN (fun hm=>by have:=List.mem_range.mp hm; rw [show (genEnv scope [] C code builtinsNs env).locals=C from rfl,hC] at this; exact Nat.lt_irrefl _ this) bd a8 a8 (fun y=>if y= ".0" then some (.ref p.heap.objs.size) else none) ?_ ?_ (GenSince.refl _ _ _) ht
   ·exact (a0 A hh).frame 0 D a8.heap ⟨aa,a1⟩ fun b hb o e=>aI b (List.mem_cons_of_mem _ hb) o e
   ·exact Heap.Ns.at' (m:=fun y=>if y= ".0" then some (.ref p.heap.objs.size) else none) (h:=D) (by rw [N]; exact ao.push _) fun o e=>aI C (List.mem_cons_self ..) o e
 refine SC.joinGen Wg (fun i s' st=>st.2.1.typeIs) bn (fun b hb=> ?_) (List.mem_cons_self ..) (fun i v hv=>(X1_1 hv fun t e=>⟨_,t,e⟩)) (fun s' lt hm au=> ?_) (by rw [ad]; exact ak)
 ·show @LT.lt Nat _ b D.objs.size
  have e5:D.objs.size=C+2:=by rw [N,Heap.size_push,aw]
  rw [e5]
  rcases List.mem_cons.mp hb with rfl | hb
  ·rw [a9]; exact O365
  ·rcases List.mem_cons.mp hb with rfl | hb
   ·exact Nat.le.step Nat.le.refl
   ·have:=List.mem_range.mp hb; rw [← hC] at this; exact Nat.lt_add_right 2 this
 ·have bi:lt.map (·.1)=ys.map f:=by
   apply List.ext_getElem?
   intro j
   have ak:lt.length=vs.size:=by simpa [strValues] using au.1
   by_cases hj:j < lt.length
   ·refine X1_1 (au.2 j (.str lt[j].1 lt[j].2) (by simp [strValues,List.getElem?_eq_getElem hj])) fun u hv=> ?_
    injection hv with h1 _
    have bf:j < ys.length:=by exact ad▸Nat.lt_of_lt_of_eq hj ak
    simp [List.getElem?_eq_getElem hj,List.getElem?_eq_getElem bf,h1,List.getD]
   ·rw [List.getElem?_eq_none (by simpa using Nat.le_of_not_lt hj),List.getElem?_eq_none (by simpa [← ad,← ak] using Nat.le_of_not_lt hj)]
  rw [bi]
  refine ⟨bk,fun t' kk ht=> ?_⟩
  have aK:g.Pt≠C:=fun e=>by refine X1_1 K.pt fun o ho=> ?_; have:=ba ho; rw [e] at this; exact Nat.lt_irrefl _ this
  have mv:∀b o,b≠C→b≠I→D.get? b=some o→s'.heap.get? b=some o:=fun b o n1 n2 e=>hm.heap b o (fun hb=>by
   rcases List.mem_cons.mp hb with hb | hb
   ·exact n1 hb
   ·rcases List.mem_cons.mp hb with hb | hb
    ·exact n2 hb
    ·cases hb) e
  have aq:∀{b o},p.heap.get? b=some o→b≠C∧b≠I:=fun {b o} e=>by
   have h1: @LT.lt Nat _ b I:=by rw [hI]; exact Heap.lt_size e
   exact ⟨fun q=>by rw [q] at h1; exact absurd h1 (by exact Nat.not_lt_of_gt lC),fun q=>by rw [q] at h1; exact Nat.lt_irrefl _ h1⟩
  have aD:∀b o,b≠g.Pt→p.heap.get? b=some o→s'.heap.get? b=some o:=fun b o n e=>mv b o (aq e).1 (aq e).2 (B b o (a5 b o n (R b o e)))
  refine ⟨⟨fun b o n e=>aD b o n (S.gk b o n e), ?_, ?_,AllBare.moved ab.gens hm.gens,hm.os.trans ab.os,ht⟩,fun b o n e=>aD b o n (aR b o n e),by rw [rd_str]; exact ⟨t',rfl⟩⟩
  ·refine X1_1 ab.pt fun o e=> ?_
   exact ⟨o,mv _ o aK Kptn e⟩
  ·refine G.tabKeepW D s'.heap (fun b=>b=C∨b=I) ab.tab (fun q=>q.elim aK Kptn) (fun b o q e=> ?_) (fun b o q e=>mv b o (fun h=>q (.inl h)) (fun h=>q (.inr h)) e)
   rcases q with rfl | rfl
   ·have aJ:=ao.push oG
    rw [← N] at aJ
    exact Ns.noFields aJ o e
   ·refine X1_3 aa fun o' bg _ hd=> ?_
    rw [bg] at e; cases e
    intro us hu q t
    rw [hd] at hu; cases hu
    simp
end
end Mine
end
section
namespace Mine
open PySem.Sre
noncomputable def aR_:Array Nat:= #[14,14,4,1,1,9,0,64,0,1342177280,0,0,0,0,0,17,0,13,11,9,0,64,0,1342177280,0,0,0,0,0,17,1,1]
noncomputable def isSp (c:Nat):Bool:=decide (c < 256) && (aR_.getD (5+(1+c / 32)) 0).testBit (c % 32)
theorem nk_ (c:Nat)(n:Nat)(seen:Sre.Seen):∃o,inSet aR_ c (n+2) 5 true seen= .ok (isSp c,o):=by
 refine ⟨if isSp c=true then seen.add 9 else (seen.add 9).add 0, ?_⟩
 refine (?_:(if (decide (c < 256) && (aR_.getD (5+(1+c / 32)) 0).testBit (c % 32))=true then Except.ok (true,seen.add 9) else inSet aR_ c (n+1) (5+9) true (seen.add 9))=_)
 change (if isSp c=true then _ else _)=_
 cases isSp c with
 | true => rfl
 | false => rfl
theorem mi_ (c:Nat)(n:Nat)(seen:Sre.Seen)(h:isSp c=true):inSet aR_ c (n+1) 19 true seen= .ok (true,seen.add 9):=by
 refine (?_:(if (decide (c < 256) && (aR_.getD (19+(1+c / 32)) 0).testBit (c % 32))=true then Except.ok (true,seen.add 9) else inSet aR_ c n (19+9) true (seen.add 9))=_)
 have e:(decide (c < 256) && (aR_.getD (19+(1+c / 32)) 0).testBit (c % 32))=true:=by
  unfold isSp at h
  simp only [Bool.and_eq_true,decide_eq_true_eq] at h ⊢
  refine ⟨h.1, ?_⟩
  have h8:c / 32 < 8:=by omega
  have N:aR_.getD (19+(1+c / 32)) 0=aR_.getD (5+(1+c / 32)) 0:=by
   have J:∀q,q < 8→aR_.getD (19+(1+q)) 0=aR_.getD (5+(1+q)) 0:=by decide+kernel
   exact J _ h8
  exact sb N h.2
 exact sb (if_pos e) rfl
noncomputable def bx_ (text:Array Nat)(lim:Nat):Nat→Nat→Option Nat
 | 0, _ => none
 | n + 1, s => if s≥lim then none else if isSp (text.getD s 0)=true then some s else bx_ text lim n (s+1)
theorem cQ_:bx_ text lim (n+1) s=if s≥lim then none else if isSp (text.getD s 0)=true then some s else bx_ text lim n (s+1):=rfl
theorem dH_ {text:Array Nat}{lim:Nat}:∀{n s p:Nat},bx_ text lim n s=some p→p < lim∧isSp (text.getD p 0)=true
 | 0, s, p, h => nomatch h
 | n + 1, s, p, h => by
  simp only [cQ_] at h
  by_cases r:s≥lim
  ·rw [if_pos r] at h; contradiction
  ·rw [if_neg r] at h
   by_cases v:isSp (text.getD s 0)=true
   ·rw [if_pos v] at h; cases h; exact ⟨by exact Nat.lt_of_not_le r,v⟩
   ·rw [if_neg v] at h; exact dH_ h
theorem eM_ (m:M)(hc:m.code=aR_):∀n s seen,∃o,M.admitted m n s seen= .ok (bx_ m.text m.lim n s,o)
 | 0, s, seen => ⟨seen,rfl⟩
 | n + 1, s, seen => by
  dsimp only [M.admitted,cQ_]
  by_cases h:s≥m.lim
  ·exact sb (if_pos h) (sb (if_pos h) ⟨seen,rfl⟩)
  ·refine sb (if_neg h) (sb (if_neg h) (sb hc ?_))
   refine X1_1 (nk_ (m.text.getD s 0) 30 seen) fun C e1=> ?_
   have O:inSet aR_ (m.text.getD s 0) aR_.size 5 true seen= .ok (isSp (m.text.getD s 0),C):=e1
   refine sb O ?_
   cases D:isSp (m.text.getD s 0) with
   | true => exact ⟨C,by rfl⟩
   | false=>
    refine X1_1 (eM_ m hc n (s+1) C) fun F N=> ?_
    exact ⟨F,by simp [N]⟩
noncomputable def mB (text:Array Nat)(p k:Nat)(ma:Bool)(seen:Sre.Seen)(pc pos handed w:Nat)(marks:Array (Option Nat))(lm X:Int)(L:Option Bool)(V:List Sre.Frame)(oc:Option Sre.Outcome):M:=
 {code:=aR_,text,lim:=text.size,start:=p,lastStart:=k,mustAdvance:=ma,pc,pos,handed,outermost:=true,marks,lastmark:=lm,lastindex:=X,frames:=V,weight:=w,answer:=L,seen,outcome:=oc}
noncomputable def fr0 (p:Nat):Sre.Frame:= {wait:= .nextStart,pc:=15,pos:=p,outermost:=true}
theorem ec_ (m:M)(n:Nat):M.runFor (n+1) m=if m.outcome.isSome then m else M.runFor n m.step:=rfl
theorem el_ (m:M):∀a b,M.runFor (a+b) m=M.runFor b (M.runFor a m)
 | 0, b => by refine sb (Nat.zero_add ..) ?_; rfl
 | a + 1, b => by
  simp only [show a+1+b=(a+b)+1 by exact O371,ec_,ec_]
  by_cases h:m.outcome.isSome
  ·refine sb (if_pos h) (sb (if_pos h) ?_)
   cases b with
   | zero => rfl
   | succ b => exact sb (ec_ ..) (sb (if_pos h ..) rfl)
  ·refine sb (if_neg h) (sb (if_neg h) ?_)
   have:M.runFor (a+b) m.step=M.runFor b (M.runFor a m.step):=by
    clear h
    generalize m.step=m'
    exact el_ m' a b
   exact this
theorem ek_ (m:M)(h:m.outcome=none):M.runFor 1 m=m.step:=by refine sb (ec_ ..) (sb (if_neg (by refine sb h ?_; simp) ..) ?_); rfl
theorem iS_ (text:Array Nat)(p k:Nat)(seen:Sre.Seen)(hp:p < text.size)(D:isSp (text.getD p 0)=true):
  ∃C F,M.runFor 4 (mB text p k false seen 15 p p 1 #[none,none] (-1) (-1) none [fr0 p] none)=mB text p k false C 31 (p+1) (p+1) 1 #[some p,some (p+1)] 1 1 (some true) [fr0 p] none∧
   M.runFor 4 (mB text p k false C 31 (p+1) (p+1) 1 #[some p,some (p+1)] 1 1 (some true) [fr0 p] none)=mB text p k false F 15 p (p+1) 0 #[some p,some (p+1)] 1 1 (some true) [] (some .matched):=by
 have r:M.step (mB text p k false seen 15 p p 1 #[none,none] (-1) (-1) none [fr0 p] none)=mB text p k false (seen.add 17) 17 p p 1 #[some p,none] 0 (-1) none [fr0 p] none:=by rfl
 have v:M.step (mB text p k false (seen.add 17) 17 p p 1 #[some p,none] 0 (-1) none [fr0 p] none)=mB text p k false (((seen.add 17).add 13).add 9) 29 (p+1) p 1 #[some p,none] 0 (-1) none [fr0 p] none:=by
  have e:=mi_ (text.getD p 0) 31 ((seen.add 17).add 13) D
  refine (?_:(if p≥text.size then _ else match inSet aR_ (text.getD p 0) 32 19 true ((seen.add 17).add 13) with | .error ab=>_ | .ok (false,s)=>_ | .ok (true,s)=>_)=_)
  refine sb (if_neg (by exact Nat.not_le_of_lt hp)) (sb e ?_)
  rfl
 have h3:M.step (mB text p k false (((seen.add 17).add 13).add 9) 29 (p+1) p 1 #[some p,none] 0 (-1) none [fr0 p] none)=mB text p k false ((((seen.add 17).add 13).add 9).add 17) 31 (p+1) p 1 #[some p,some (p+1)] 1 1 none [fr0 p] none:=by
  refine (?_:M.mark (mB text p k false ((((seen.add 17).add 13).add 9).add 17) 29 (p+1) p 1 #[some p,none] 0 (-1) none [fr0 p] none) 1=_)
  delta M.mark mB
  rfl
 have Z:M.step (mB text p k false ((((seen.add 17).add 13).add 9).add 17) 31 (p+1) p 1 #[some p,some (p+1)] 1 1 none [fr0 p] none)=mB text p k false (((((seen.add 17).add 13).add 9).add 17).add 1) 31 (p+1) (p+1) 1 #[some p,some (p+1)] 1 1 (some true) [fr0 p] none:=by rfl
 refine I2_2 (((((seen.add 17).add 13).add 9).add 17).add 1) (((((seen.add 17).add 13).add 9).add 17).add 1) ?_ ?_
 ·simp only [show 4=1+1+1+1 from rfl,el_ _ (1+1+1),el_ _ (1+1),el_ _ 1,ek_ (mB text p k false seen 15 p p 1 #[none,none] (-1) (-1) none [fr0 p] none) rfl,r,ek_ (mB _ _ _ _ _ _ _ _ _ _ _ _ _ _ _) rfl,v,ek_ (mB _ _ _ _ _ _ _ _ _ _ _ _ _ _ _) rfl,h3,ek_ (mB _ _ _ _ _ _ _ _ _ _ _ _ _ _ _) rfl,Z]
 ·rfl
theorem hG_ (m:M)(ha:m.answer=some false)(y:m.frames= [])(R:m.outcome=none):(M.runFor 4 m).outcome=some .failed:=by
 simp only [show 4=1+3 from rfl,el_,ek_ m R]
 have r:m.step= {m with outcome:=some .failed}:=by
  unfold M.step
  refine sb (if_neg (by refine sb R ?_; simp)) (sb ha (sb y ?_))
  rfl
 refine sb r ?_
 rfl
section
variable {prog:Program}{w:World}{A:Around}{E:Value→Shared→Prop}{s:Shared}
open PySem.Builtin.Re
theorem dL_ {n:Nat}{m:M}{Q:M→Shared→Prop}(h:(m.runFor 4).outcome.isSome=true)(hq:Q (m.runFor 4) s):wpAny (model prog w) A (reDrive (n+1) m) Q E s:=by
 refine (?_:wpAny _ A (if (m.runFor 4).outcome.isSome=true then pure (m.runFor 4) else do rule "sre.turn"; reDrive n (m.runFor 4)) _ _ s)
 exact sb (if_pos h) (wpAny_pure hq)
theorem kR_ {n:Nat}{m:M}{Q:M→Shared→Prop}(h:(m.runFor 4).outcome.isSome=false)(hq:wpAny (model prog w) A (reDrive n (m.runFor 4)) Q E s):wpAny (model prog w) A (reDrive (n+1) m) Q E s:=by
 refine (?_:wpAny _ A (if (m.runFor 4).outcome.isSome=true then pure (m.runFor 4) else do rule "sre.turn"; reDrive n (m.runFor 4)) _ _ s)
 refine sb (if_neg (by refine sb h ?_; simp)) ?_; exact wpAny_bind (wpAny_rule hq)
theorem fM_ {f:Nat→Bool}{g:Nat→String}:∀(l:List Nat) {Q:PUnit→Shared→Prop},Q ⟨⟩ s→wpAny (model prog w) A (forIn l PUnit.unit fun i _=>if f i=true then do rule (g i); pure (ForInStep.yield PUnit.unit) else pure (ForInStep.yield PUnit.unit)) Q E s
 | [], Q, h => wpAny_pure h
 | i :: l, Q, h => by
  refine sb (List.forIn_cons ..) ?_
  have U:=fM_ (f:=f) (g:=g) l (Q:=Q) h
  refine wpAny_bind ?_
  cases f i with
  | true => exact sb (if_pos rfl) (wpAny_bind (wpAny_rule (wpAny_pure U)))
  | false => exact sb (if_neg (by simp)) (wpAny_pure U)
theorem gy_ {m:M}{Q:Option M→Shared→Prop}{m':M}(hd:∀{Q:M→Shared→Prop},Q m' s→wpAny (model prog w) A (reDrive (2 ^ 64) m) Q E s)
  (h:(m'.outcome=some .failed∧Q none s)∨(m'.outcome=some .matched∧Q (some m') s)):wpAny (model prog w) A (reRunToEnd m) Q E s:=by
 unfold reRunToEnd
 refine wpAny_bind (hd ?_)
 refine wpAny_bind (fM_ _ ?_)
 rcases h with ⟨e,h⟩ | ⟨e,h⟩
 ·exact sb e (wpAny_pure h)
 ·exact sb e (wpAny_pure h)
theorem d4_ (m:M){p q:Nat}{first:Bool}{u:Sre.Seen}(r:m.hasFirstSet=true)(v:M.admitted m (m.lim+1 - p) p m.seen= .ok (some q,u)):
  m.attemptFrom p first=M.attemptAt {m with mustAdvance:=false,seen:=u} q first:=by
 unfold M.attemptFrom
 refine sb r (sb v ?_)
 rfl
theorem d5_ (m:M){p:Nat}{first:Bool}{u:Sre.Seen}(r:m.hasFirstSet=true)(v:M.admitted m (m.lim+1 - p) p m.seen= .ok (none,u)):
  m.attemptFrom p first=M.say {m with seen:=u} false:=by
 unfold M.attemptFrom
 refine sb r (sb v ?_)
 rfl
theorem h0_ {t:ReTarget}{start:Nat}{j:Bool}{Q:Option M→Shared→Prop}(hc:t.code=aR_)(S:t.groups=1)(K:t.lim=t.text.size)
  (h:match bx_ t.text t.lim (t.lim+1 - start) start with
   | none => Q none s
   | some p => p < t.text.size→isSp (t.text.getD p 0)=true→∀m:M,m.start=p→m.handed=p+1→m.marks= #[some p,some (p+1)]→m.lastmark=1→m.lastindex=1→Q (some m) s):
  wpAny (model prog w) A (reNextFound t start j) Q E s:=by
 unfold reNextFound
 refine sb hc (sb S (sb K ?_))
 replace h:=K▸h
 obtain ⟨Y,str,code,text,T,I,pos,lim⟩:=t
 dsimp only at hc S K h ⊢
 have z:(2:Nat) ^ 64=18446744073709551614+1+1:=by decide+kernel
 by_cases D:start>text.size∨text.size - start < 1
 ·have e:forSearch aR_ text 1 start text.size j=M.say {code:=aR_,text,lim:=text.size,start:=start,pc:=15,pos:=start,handed:=start,marks:= #[none,none],mustAdvance:=j,seen:=({}:Sre.Seen).add 14} false:=by
   unfold forSearch
   have:(decide (start>text.size) || decide (text.size - start < (header aR_).1))=true:=by
    refine sb (show (header aR_).1=1 from rfl) ?_
    rcases D with q | q <;>simp [q]
   refine sb (if_pos this) ?_
   rfl
  have x:bx_ text text.size (text.size+1 - start) start=none:=by
   have:text.size≤start:=by exact O373 D
   cases text.size+1 - start with
   | zero => rfl
   | succ n => exact sb cQ_ (sb (if_pos this) rfl)
  rw [x] at h
  refine sb e ?_
  have y:=hG_ (M.say {code:=aR_,text,lim:=text.size,start:=start,pc:=15,pos:=start,handed:=start,marks:= #[none,none],mustAdvance:=j,seen:=({}:Sre.Seen).add 14} false) rfl rfl rfl
  refine gy_ (fun {Q} hq=> ?_) (.inl ⟨y,h⟩)
  refine sb z ?_
  exact dL_ (by refine sb y ?_; rfl) hq
 ·refine X1_1 (eM_ {code:=aR_,text,lim:=text.size,start:=start,lastStart:=text.size,pc:=15,pos:=start,handed:=start,marks:= #[none,none],mustAdvance:=j,seen:=({}:Sre.Seen).add 14} rfl (text.size+1 - start) start (({}:Sre.Seen).add 14)) fun u H=> ?_
  dsimp only at H
  have e:forSearch aR_ text 1 start text.size j=M.attemptFrom {code:=aR_,text,lim:=text.size,start:=start,lastStart:=text.size,pc:=15,pos:=start,handed:=start,marks:= #[none,none],mustAdvance:=j,seen:=({}:Sre.Seen).add 14} start true:=by
   unfold forSearch
   have:¬(decide (start>text.size) || decide (text.size - start < (header aR_).1))=true:=by
    refine sb (show (header aR_).1=1 from rfl) ?_
    simp only [Bool.or_eq_true,decide_eq_true_eq]
    exact D
   refine sb (if_neg this) ?_
   rfl
  refine sb e ?_
  cases B:bx_ text text.size (text.size+1 - start) start with
  | none=>
   rw [B] at h H
   refine sb (d5_ _ rfl H) ?_
   dsimp only
   have y:=hG_ (M.say {code:=aR_,text,lim:=text.size,start:=start,lastStart:=text.size,pc:=15,pos:=start,handed:=start,marks:= #[none,none],mustAdvance:=j,seen:=u} false) rfl rfl rfl
   refine gy_ (fun {Q} hq=> ?_) (.inl ⟨y,h⟩)
   refine sb z ?_
   exact dL_ (by refine sb y ?_; rfl) hq
  | some p=>
   rw [B] at h H
   refine sb (d4_ _ rfl H) ?_
   dsimp only at h ⊢
   refine X0_2 (dH_ B) fun hp G=> ?_
   refine X2_2 (iS_ text p text.size u hp G) fun C F P r2=> ?_
   refine gy_ (m:=mB text p text.size false u 15 p p 1 #[none,none] (-1) (-1) none [fr0 p] none) (m':=mB text p text.size false F 15 p (p+1) 0 #[some p,some (p+1)] 1 1 (some true) [] (some .matched)) (fun {Q} hq=> ?_) (.inr ⟨rfl,h hp G _ rfl rfl rfl rfl rfl⟩)
   refine sb z ?_
   refine kR_ (by refine sb P ?_; rfl) ?_
   refine sb P ?_
   exact dL_ (by refine sb r2 ?_; rfl) (by exact sb r2 hq)
end
end Mine
end
section
namespace Mine
open PySem.Builtin.Re
theorem cY_:plainId "re.Pattern.sub.loop" =true:=by decide+kernel
theorem hQ_:entryFor table "re.Pattern.sub.loop" =some Builtin.«re.Pattern.sub.loop» :=entryFor_of_tree (by kernel_rfl)
theorem ir_:entryFor table "re.Pattern.sub" =some Builtin.«re.Pattern.sub» :=entryFor_of_tree (by kernel_rfl)
theorem hp_:Slot "re.Pattern" "sub" "re.Pattern.sub" :=
 .of (owner:= "re.Pattern") (n:= "sub") (by rw [typeLookup_type,builtinLookup_eq_fast]; kernel_rfl) (by decide+kernel) (by decide+kernel) (by decide+kernel)
  (by first | exact .inl (by decide+kernel) | exact .inr (by decide+kernel)) (by rw [isSubtype_type]; kernel_rfl)
theorem jW_:typeOf (.builtin "re.Pattern.sub")=pure (.type "method_descriptor"):=by show builtinType _=_; rw [builtinType_eq_fast]; kernel_rfl
theorem jZ_ (a b c:Value):argsOk "re.Pattern.sub" ⟨[a,b,c],[]⟩:=by unfold argsOk; kernel_rfl
theorem jm_:entryFor table "re.Match.group" =some Builtin.«re.Match.group» :=entryFor_of_tree (by kernel_rfl)
theorem hF_:Slot "re.Match" "group" "re.Match.group" :=
 .of (owner:= "re.Match") (n:= "group") (by rw [typeLookup_type,builtinLookup_eq_fast]; kernel_rfl) (by decide+kernel) (by decide+kernel) (by decide+kernel)
  (by first | exact .inl (by decide+kernel) | exact .inr (by decide+kernel)) (by rw [isSubtype_type]; kernel_rfl)
theorem kI_:typeOf (.builtin "re.Match.group")=pure (.type "method_descriptor"):=by show builtinType _=_; rw [builtinType_eq_fast]; kernel_rfl
theorem kJ_ (a b:Value):argsOk "re.Match.group" ⟨[a,b],[]⟩:=by unfold argsOk; kernel_rfl
theorem mn_:typeLookup (.type "function") "__call__" =pure (some (.builtin "function.__call__")):=by rw [typeLookup_type,builtinLookup_eq_fast]; kernel_rfl
end Mine
end
section
namespace Mine
open PySem.Builtin.Re
theorem iM_:PlainAttrs "re.Pattern" :=⟨⟨"object.__getattribute__",by rw [typeLookup_type,builtinLookup_eq_fast]; kernel_rfl,by decide+kernel⟩,by rw [typeLookup_type,builtinLookup_eq_fast]; kernel_rfl⟩
theorem gM_:PlainAttrs "re.Match" :=⟨⟨"object.__getattribute__",by rw [typeLookup_type,builtinLookup_eq_fast]; kernel_rfl,by decide+kernel⟩,by rw [typeLookup_type,builtinLookup_eq_fast]; kernel_rfl⟩
def hl_ (h:Heap)(pa:Addr):Prop:=∃o i f j its n,h.get? pa=some o∧o.cls= .type "re.Pattern"∧o.dict=none∧o.data= .fields i∧reRawNat (i.getD 6 .none)=0∧reRawNat (i.getD 2 .none)=1∧i.getD 5 .none= .ref f∧
 h.get? f=some j∧j.data= .seq its n∧(its.map reRawOf).map (·.toNat)=aR_
theorem hl_.keeps {h h':Heap}{pa:Addr}(x:hl_ h pa)(k:∀b o,h.get? b=some o→h'.get? b=some o):hl_ h' pa:=
 X6_1 x fun o i f j its n r=>I6_1 o i f j its n (r.imp (k _ _) (And.imp_right (And.imp_right (And.imp_right (And.imp_right (And.imp_right (And.imp_right (And.imp_left (k _ _)))))))))
def dh_ (h:Heap)(c:Addr)(x:Str)(p:Nat):Prop:=∃t v1 v2 v3 v4 f,h.get? c=some {cls:= .type "re.Match",data:= .fields #[.str x t,v1,v2,v3,v4, .ref f]}∧
 h.get? f=some {cls:= .type "tuple",data:= .seq #[rawInt p,rawInt (p+1:Nat),rawInt p,rawInt (p+1:Nat)]}
theorem dh_.keeps {h h':Heap}{c:Addr}{x:Str}{p:Nat}(m:dh_ h c x p)(k:∀b o,h.get? b=some o→h'.get? b=some o):dh_ h' c x p:=
 X6_1 m fun t v1 v2 v3 v4 f r=>I6_1 t v1 v2 v3 v4 f (r.imp (k _ _) (k _ _))
section
variable {prog:Program}{w:World}{A:Around}{E:Value→Shared→Prop}{s:Shared}
theorem dR_ {pa:Addr}{x:Str}{t:Tok}{Q:ReTarget→Shared→Prop}(P:hl_ s.heap pa)(h:∀T:ReTarget,T.code=aR_→T.text=x.cps→T.kind=0→T.groups=1→T.lim=x.cps.size→Q T s):
  wpAny (model prog w) A (reWholeTarget (.ref pa) (.str x t)) Q E s:=by
 obtain ⟨o,i,f,j,its,n,q,z,N,D,B,K,C,I,G,y⟩:=P
 refine wpAny_bind (wpAny_fieldsOf q D ?_)
 refine wpAny_bind (wpAny_of_eq (a:=(x.cps,0)) rfl ?_)
 refine sb B (sb K (sb C ?_))
 refine KFB.if_not (by decide) ?_
 refine KFB.if_not (by decide) ?_
 refine wpAny_bind (wpAny_of_eq (a:=()) rfl ?_)
 refine wpAny_bind ?_
 refine wpAny_bind (wpAny_seqItems I G ?_)
 refine wpAny_pure (wpAny_pure (h _ y rfl rfl rfl rfl))
theorem f1_ {pa:Addr}{x:Str}{t:Tok}{m:Sre.M}{p lim:Nat}{Q:Value→Shared→Prop}(l:m.start=p)(J:m.handed=p+1)(h3:m.marks= #[some p,some (p+1)])(H:m.lastmark=1)(F:m.lastindex=1)
  (h:∀c h',dh_ h' c x p→(∀b o,s.heap.get? b=some o→h'.get? b=some o)→s.heap.get? c=none→Q (.ref c) {s with heap:=h'}):
  wpAny (model prog w) A (reNewMatch (.ref pa) (.str x t) 1 0 lim m) Q E s:=by
 unfold reNewMatch
 refine sb l (sb J (sb h3 (sb H (sb F ?_))))
 refine KFB.if_not ?_ ?_
 ·have:decide (p+1 < p)=false:=decide_eq_false (by exact Nat.not_succ_lt_self)
  simp [List.range,List.range.loop]
 ·have v:(s.heap.push {cls:= .type "tuple",data:= .seq [rawInt p,rawInt (p+1:Nat),rawInt p,rawInt (p+1:Nat)].toArray}).objs.size=s.heap.objs.size+1:=Heap.size_push ..
  refine wpAny_bind (wpAny_newTuple (wpAny_newObj_type ?_ (by size_fits)) (by refine (?_:(4:Nat)≤sizeLine); decide))
  refine h _ _ (I6_2 t _ _ _ _ _ (Heap.get?_push_size _ rfl) (Heap.get?_push_of_some _ (Heap.get?_push_size _ rfl))) (fun b o e=>Heap.get?_push_of_some _ (Heap.get?_push_of_some _ e)) ?_
  cases e:s.heap.get? (s.heap.push {cls:= .type "tuple",data:= .seq [rawInt p,rawInt (p+1:Nat),rawInt p,rawInt (p+1:Nat)].toArray}).objs.size with
  | none => exact e
  | some o=>
   have l:=Heap.lt_size e
   rw [v] at l
   exact absurd l (Nat.not_lt.mpr (Nat.le_succ _))
theorem ic_ {c:Addr}{x:Str}{p:Nat}{u:Tok}{Q:Value→Shared→Prop}(M:dh_ s.heap c x p)(hp:p < x.cps.size)(h:∀L,Q (.str ⟨x.cps.extract p (p+1)⟩ L) {s with toks:=s.toks+1}):
  wpAny (model prog w) A (call (.builtin "re.Match.group") [.ref c, .int 1 u]) Q E s:=by
 refine X6_2 M fun t v1 v2 v3 v4 f q z=> ?_
 refine wpAny_call_entry hF_ (⟨_,q,rfl⟩) jm_ ?_ (kJ_ _ _)
 refine wpAny_bind (wpAny_of_eq (a:=()) rfl ?_)
 dsimp only
 refine wpAny_bind ?_
 refine wpAny_bind (wpAny_fieldsOf q rfl ?_)
 refine wpAny_bind ?_
 refine wpAny_bind (wpAny_seqItems z rfl ?_)
 refine wpAny_pure (wpAny_pure ?_)
 have g:Array.map reRawOf ((some #[rawInt p,rawInt (p+1:Nat),rawInt p,rawInt (p+1:Nat)]).getD #[])= #[(p:Int),((p+1:Nat):Int),(p:Int),((p+1:Nat):Int)]:=by simp [reRawOf,rawInt]
 refine sb g ?_
 refine wpAny_bind (wpAny_of_eq (a:=1) ?_ ?_)
 ·skip
  rfl
 refine wpAny_bind ?_
 unfold reGroupText
 refine (?_:wpAny _ _ (if (decide ((p:Int) < 0) || decide (((p+1:Nat):Int) < 0))=true then pure Value.none else _) _ _ _)
 refine KFB.if_not (by simp; exact O232) ?_
 refine wpAny_bind (wpAny_of_eq (a:=(x.cps,0)) rfl ?_)
 refine (?_:wpAny _ _ (mkStr ⟨x.cps.extract p (p+1)⟩) _ _ _)
 refine wpAny_mkStr (wpAny_pure ⟨_,rfl,h _⟩) ?_
 refine (?_:(x.cps.extract p (p+1)).size≤sizeLine)
 refine sb Array.size_extract ?_
 simp only [sizeLine]
 exact O374
end
end Mine
end
section
namespace Mine
noncomputable abbrev bU_ (n1 n2 n3:Nat) (p1 p2 p3 p4 p5 p6 p7 p8:Pos):Expr:= .BinOp (.Constant (.str "\\") n1 p1) .Add (.BoolOp .Or [.Call (.Attribute (.Name "_m" p2) "group" p3) [.Constant (.int 1) n2 p4] [] p5, .Constant (.str "") n3 p6] p7) p8
noncomputable abbrev bc_:Scope:= {kind:= .function,names:= [("_m", .local)],isGenerator:=false,isCoroutine:=false}
noncomputable abbrev a0_ (pa:Pos):Arguments:= {posonlyargs:= [],args:= [{arg:= "_m",annotation:=none,pos:=pa}],vararg:=none,kwonlyargs:= [],kw_defaults:= [],kwarg:=none,defaults:= []}
section
variable {prog:Program}{w:World}{A:Around}{E:Value→Shared→Prop}{s:Shared}
theorem h3_ {M:Model}{id:String}:∀h,(fun _:Heap=>True) h→∃kp,(kp=Keeper.frame∨kp=Keeper.machine∨kp=Keeper.boundFrame)∧Looks M h (keeperOf (.builtin id)) kp:=fun h _=>⟨.machine, .inr (.inl rfl),Looks.now⟩
theorem kD_ {env:Env}{n1 n2 n3:Nat}{p1 p2 p3 p4 p5 p6 p7 p8:Pos}{m:Str→Option Value}{g:Addr}{x:Str}{p:Nat}(J:s.heap.Ns env.locals m)(hm:m "_m" =some (.ref g))(M:dh_ s.heap g x p)(hp:p < x.cps.size)
  (hk:env.scope.kind= .function) (H:env.scope.names.lookup ("_m" :Str)=some NameKind.local) (k:autoParam ((p3.endLine==p5.line)=true) aQ1):
  wpAny (model prog w) A (eval (bU_ n1 n2 n3 p1 p2 p3 p4 p5 p6 p7 p8) env) (fun v s'=>(∃t,v= .str ("\\" ++ ⟨x.cps.extract p (p+1)⟩) t)∧Keeps s s') E s:=by
 have i:(x.cps.extract p (p+1)).size=1:=by exact sb Array.size_extract (O375 hp)
 refine wpAny_BinOp (wpAny_Constant_str ?_)
 refine BoolOp_or (MethodCall_ (ldG (m:=m) J hm ?_ hk H) (c7_ (fun _=>rfl) (by rfl) k))
 refine getMethod_builtin (T:= "re.Match") (X6_2 M fun t v1 v2 v3 v4 I r _=>I1_2 _ r rfl) gM_ hF_ kI_ (fun a e=>by
  cases e; refine X6_2 M fun t v1 v2 v3 v4 I r _=> ?_; exact I1_2 _ r rfl) ?_
 refine callWith_of (P:=fun _=>True) (by rfl) h3_ (evalArgs_plain ?_)
 refine (?_:wpAny _ A (do let v ← eval (.Constant (.int 1) n2 p4) env; let c ← pure [v]; return c++(← holding c (spliced (backTo p5 (starEach [] env))))) _ _ _)
 refine wpAny_bind (wpAny_Constant_int (wpAny_bind (wpAny_pure (wpAny_bind (wpAny_holding (wpAny_pure (wpAny_pure ⟨trivial, ?_⟩)))))))
 refine ic_ (x:=x) (p:=p) M hp fun K=> ?_
 refine PyProof.Rows.SBL.truthy (by refine (?_:((x.cps.extract p (p+1)).size:Int) < _); refine sb i ?_; decide) ?_
 have r:(((⟨x.cps.extract p (p+1)⟩:Str).length:Int) !=0)=true:=by refine (?_:(((x.cps.extract p (p+1)).size:Int) !=0)=true); refine sb i ?_; rfl
 refine sb r (sb (if_pos rfl) ?_)
 refine PyProof.Rows.add_str (fun G tk=>⟨⟨G,rfl⟩,s.heap,tk,rfl,fun _ _ e=>e⟩) ?_
 refine (?_:(1:Nat)+(x.cps.extract p (p+1)).size≤sizeLine)
 refine sb i ?_; decide
noncomputable abbrev i9_ (q:Str) (pa:Pos) (body:Expr) (pm n z:Value):FuncData:=kla_fn "<lambda>" q (a0_ pa) body bc_ [] pm n z
theorem hB_ {q:Str}{pa:Pos}{n1 n2 n3:Nat}{p1 p2 p3 p4 p5 p6 p7 p8:Pos}{pm n z:Value}{f g:Addr}{x:Str}{p:Nat}(j:A.depth < recursionLimit)
  (F:s.heap.get? f=some {cls:= .type "function",data:= .func (i9_ q pa (bU_ n1 n2 n3 p1 p2 p3 p4 p5 p6 p7 p8) pm n z)}) (hc:s.heap.CodeRec n q) (M:dh_ s.heap g x p) (hp:p < x.cps.size) (u:s.heap.NoLimit)
  (k:(p3.endLine==p5.line)=true):
  wpAny (model prog w) A (call (.ref f) [.ref g]) (fun v s'=>(∃t,v= .str ("\\" ++ ⟨x.cps.extract p (p+1)⟩) t)∧Keeps s s') E s:=by
 refine wpAny_call (kla_callFunE j F rfl rfl rfl rfl hc ?_)
 have hb:bindArgs (i9_ q pa (bU_ n1 n2 n3 p1 p2 p3 p4 p5 p6 p7 p8) pm n z) ⟨[.ref g],[]⟩=(pure [(("_m" :Str),Value.ref g)]:Sem (List (Str×Value))):=rfl
 refine sb hb ?_
 refine wpAny_pure (wpAny_newFunctionEnv (show ∀x∈bc_.names,x.2≠ .cell by decide) (fun y hy=>by
  rcases List.mem_cons.mp hy with rfl | hy
  ·rfl
  ·exact (nomatch hy)) (fun l D B=> ?_) rfl)
 have keep:∀b o,s.heap.get? b=some o→l.get? b=some o:=fun b o e=>B.extBut b o (by rintro rfl; exact absurd (Heap.lt_size e) (Nat.lt_irrefl _)) (Heap.get?_push_of_some _ e)
 refine ⟨u.keeps keep,kla_codeExpr (wpAny_mono (kD_ (m:=fun y=> [(("_m" :Str),Value.ref g)].reverse.lookup y) D rfl (M.keeps keep) hp rfl rfl k) (fun v s' h=> ?_) fun _ _ h=>h)⟩
 obtain ⟨⟨t,rfl⟩,h',C,rfl,hk⟩:=h
 exact ⟨⟨t,rfl⟩,h',C,rfl,fun b o e=>hk b o (keep b o e)⟩
end
end Mine
end
section
namespace Mine
open PySem.Builtin.Re
noncomputable def subP (text:Array Nat):Nat→Nat→List Str
 | 0, _ => []
 | n + 1, i => (bx_ text text.size (text.size+1 - i) i).elim (if i < text.size then [⟨text.extract i text.size⟩] else []) fun p=>(if i < p then [⟨text.extract i p⟩] else [])++(("\\" ++(⟨text.extract p (p+1)⟩:Str))::subP text n (p+1))
theorem is_ {text:Array Nat}:subP text (n+1) i=(bx_ text text.size (text.size+1 - i) i).elim (if i < text.size then [⟨text.extract i text.size⟩] else []) fun p=>(if i < p then [⟨text.extract i p⟩] else [])++(("\\" ++(⟨text.extract p (p+1)⟩:Str))::subP text n (p+1)):=rfl
noncomputable def subF (x:Str):Str:=Txt.join "" (subP x.cps (x.length+1) 0)
theorem dG_ {text:Array Nat}{lim:Nat}:∀{n s p:Nat},bx_ text lim n s=some p→s≤p
 | 0, s, p, h => nomatch h
 | n + 1, s, p, h => by
  simp only [cQ_] at h
  by_cases h1:s≥lim
  ·rw [if_pos h1] at h; contradiction
  ·rw [if_neg h1] at h
   by_cases h2:isSp (text.getD s 0)=true
   ·rw [if_pos h2] at h; cases h; exact Nat.le_refl _
   ·rw [if_neg h2] at h; have:=dG_ h; exact Nat.le_of_succ_le this
theorem fL_ {y:Str}{t:Tok}{vs:List Value}{ps:List Str}(hs:StrsAre vs ps):StrsAre (vs++ [.str y t]) (ps++ [y]):=by
 induction hs with
 | nil => exact .cons y t .nil
 | cons z u r ih => exact .cons z u ih
section
variable {prog:Program}{w:World}{A:Around}{E:Value→Shared→Prop}{s:Shared}
structure eN_ (h₀:Heap)(D:Addr)(s₀ s:Shared)(ps:List Str):Prop where
 old:∀b o,h₀.get? b=some o→s.heap.get? b=some o
 ob:∃vs n,s.heap.get? D=some {cls:= .type "list",data:= .seq vs n}∧StrsAre vs.toList ps
 gens:s.gens=s₀.gens
 os:s.os=s₀.os
theorem eN_.push {h₀:Heap}{D:Addr}{s₀:Shared}{ps:List Str}{y:Str}{t:Tok}(S:eN_ h₀ D s₀ s ps)(hD:h₀.get? D=none)(a2:ps.length≤10000){Q:Unit→Shared→Prop}
  (h:∀s',eN_ h₀ D s₀ s' (ps++ [y])→s.toks≤s'.toks→Q () s'):wpAny (model prog w) A (updateSeq D (·.push (.str y t))) Q E s:=by
 refine X2_2 S.ob fun vs n H hr=> ?_
 have hl:vs.size≤sizeLine:=by
  have:=StrsAre.length hr
  simp at this
  simp only [sizeLine]; exact O377 this a2
 refine wpAny_updateSeq H rfl (h _ ⟨fun b o e=> ?_,⟨vs.push (.str y t),n+1, ?_, ?_⟩,S.gens,S.os⟩ (Nat.le_refl _)) hl (by exact sb (Array.size_push ..) (Nat.add_le_add_right hl 1))
 ·exact (Heap.SameBut.update ..).extBut b o (by rintro rfl; rw [hD] at e; contradiction) (S.old b o e)
 ·refine (?_:(s.heap.update D (Obj.mapSeq fun x=>x.push (.str y t))).get? D=_)
  exact sb (Heap.get?_update_self _ H (by refine sb (mapSeq_push ..) ?_; rfl) ..) (sb (mapSeq_push ..) rfl)
 ·exact sb Array.toList_push (fL_ hr)
theorem c0_ {text:Array Nat}{a b:Nat}{Q:Value→Shared→Prop}(hs:text.size≤1000)(h:Q (.str ⟨text.extract a b⟩ s.toks) {s with toks:=s.toks+1}):wpAny (model prog w) A (reSlice text 0 a b) Q E s:=by
 refine (?_:wpAny _ A (mkStr ⟨text.extract a b⟩) _ _ _)
 refine wpAny_mkStr h ?_
 refine (?_:(text.extract a b).size≤sizeLine)
 refine sb Array.size_extract ?_
 simp only [sizeLine]
 exact O379 hs
theorem jX_ {pa f D:Addr}{x:Str}{t:Tok}{q:Str}{ppa:Pos}{n1 n2 n3:Nat}{p1 p2 p3 p4 p5 p6 p7 p8:Pos}{pm cv ct:Value}{h₀:Heap}{s₀:Shared}{R:Result→Shared→Prop}
  (hx:x.cps.size≤1000) (hh:A.handled=none) (O:A.depth < recursionLimit) (P:hl_ h₀ pa) (hf:h₀.get? f=some {cls:= .type "function",data:= .func (i9_ q ppa (bU_ n1 n2 n3 p1 p2 p3 p4 p5 p6 p7 p8) pm cv ct)}) (hc:h₀.CodeRec cv q)
  (ad:h₀.NoLimit) (ax:(p3.endLine==p5.line)=true) (hD:h₀.get? D=none):
  ∀(n i:Nat) (s:Shared) (ps:List Str) (N:Bool) (k:Int),x.cps.size+1≤n+i→eN_ h₀ D s₀ s ps→ps.length≤2*i→i≤x.cps.size→(∀y∈ps,y.length≤1001)→
   (∀s' t',eN_ h₀ D s₀ s' (ps++subP x.cps n i)→R (.ok (.ret (.str (Txt.join "" (ps++subP x.cps n i)) t'))) s')→
   codeAny (model prog w) A (.builtin "re.Pattern.sub.loop" ⟨[.ref pa, .str x t, .ref f,rawInt 1,rawInt 0,rawInt k,rawInt (i:Nat),rawInt (i:Nat), .bool N, .ref D, .bool false],[]⟩) R s:=by
 intro n
 induction n with
 | zero => intro i s ps N k hn _ _ hi; exact (O99 hn hi).elim
 | succ n ih=>
  intro i s ps N k hn S I hi L C
  refine codeAny_builtin hQ_ ?_
  refine sb (Around.under_plainId cY_ ..) ?_
  refine wpAny_bind (dR_ (P.keeps S.old) fun T a6 aw ab ag am=> ?_)
  refine KFB.if_not (by decide) ?_
  refine wpAny_bind (KFB.if_not (by rfl) ?_)
  have ei:((i:Nat):Int).toNat=i:=by rfl
  refine sb ei ?_
  refine h0_ a6 ag (by exact sb am (sb aw rfl)) ?_
  refine sb aw (sb am ?_)
  cases ae:bx_ x.cps x.cps.size (x.cps.size+1 - i) i with
  | some p=>
   dsimp only
   intro hp _ m ah aa au an ap
   have af:=dG_ ae
   have j:subP x.cps (n+1) i=(if i < p then [⟨x.cps.extract i p⟩] else [])++(("\\" ++(⟨x.cps.extract p (p+1)⟩:Str))::subP x.cps n (p+1)):=by
    refine sb is_ ?_
    exact sb ae rfl
   refine sb ah ?_
   by_cases B:i < p
   ·refine sb (if_pos B) ?_
    refine wpAny_bind ?_
    refine sb ab ?_
    refine c0_ hx ?_
    have U:eN_ h₀ D s₀ {s with toks:=s.toks+1} ps:=⟨S.old,S.ob,S.gens,S.os⟩
    refine wpAny_bind (U.push hD (by exact O380 I hx hi) fun sX SX _=> ?_)
    rw [if_pos B] at j
    have l:∀y∈ps++ [⟨x.cps.extract i p⟩],y.length≤1001:=fun y hy=>by
     rcases List.mem_append.mp hy with hy | hy
     ·exact L y hy
     ·rcases List.mem_cons.mp hy with rfl | hy
      ·refine (?_:(x.cps.extract i p).size≤1001)
       exact sb Array.size_extract (O381 hx)
      ·exact (nomatch hy)
    have X:(ps++ [(⟨x.cps.extract i p⟩:Str)]).length=ps.length+1:=by refine sb List.length_append ?_; rfl
    refine KFB.if_not (by decide) ?_
    refine wpAny_bind ?_
    refine sb ag ?_
    refine f1_ ah aa au an ap (fun ma h' hM hk a3=> ?_)
    have g:eN_ h₀ D s₀ {sX with heap:=h'} (ps++ [⟨x.cps.extract i p⟩]):=⟨fun b o e=>hk b o (SX.old b o e),((X2_2 SX.ob fun vs n H hr=>⟨vs,n,hk _ _ H,hr⟩)),SX.gens,SX.os⟩
    refine wpAny_bind (wpAny_holding ?_)
    refine KFB.if_so (by first | decide | rfl) ?_
    refine wpAny_mono (hB_ (q:=q) (pa:=ppa) (x:=x) (p:=p) O (g.old _ _ hf) (hc.keeps g.old) hM hp (ad.keeps g.old) ax) (fun v ao G=> ?_) (fun _ _ x=>x)
    obtain ⟨⟨aq,rfl⟩,G,J,rfl,F⟩:=G
    have V:eN_ h₀ D s₀ {({sX with heap:=h'}:Shared) with heap:=G,toks:=J} (ps++ [⟨x.cps.extract i p⟩]):=⟨fun b o e=>F b o (g.old b o e),((X2_2 g.ob fun vs n H hr=>⟨vs,n,F _ _ H,hr⟩)),g.gens,g.os⟩
    refine KFB.if_so (by first | decide | rfl) ?_
    refine wpAny_bind (V.push hD (by exact O382 X hp B hx I) fun M Z _=>wpAny_pure ⟨plainId_quiet cY_ _, ?_⟩)
    refine sb aa ?_
    refine ih (p+1) M _ _ _ (by exact O383 hn B) Z (by refine sb List.length_append ?_; simp only [List.length_cons,List.length_nil]; exact O384 X B I) hp (fun y hy=> ?_) (fun s' t' S'=>by
     have c:=C
     replace c:=j▸c
     have e:=c s' t' (by exact sb (show ps++([⟨x.cps.extract i p⟩]++(("\\" ++(⟨x.cps.extract p (p+1)⟩:Str))::subP x.cps n (p+1)))=(ps++ [⟨x.cps.extract i p⟩])++ [("\\" ++(⟨x.cps.extract p (p+1)⟩:Str))]++subP x.cps n (p+1) by simp) S')
     rw [show ps++([⟨x.cps.extract i p⟩]++(("\\" ++(⟨x.cps.extract p (p+1)⟩:Str))::subP x.cps n (p+1)))=(ps++ [⟨x.cps.extract i p⟩])++ [("\\" ++(⟨x.cps.extract p (p+1)⟩:Str))]++subP x.cps n (p+1) by simp] at e
     exact e)
    rcases List.mem_append.mp hy with hy | hy
    ·exact l y hy
    ·rcases List.mem_cons.mp hy with rfl | hy
     ·refine (?_:(("\\" :Str).cps++x.cps.extract p (p+1)).size≤1001)
      refine sb Array.size_append (sb Array.size_extract ?_)
      have:("\\" :Str).cps.size=1:=by decide
      exact O385 this
     ·exact (nomatch hy)
   ·refine sb (if_neg B) ?_
    rw [if_neg B] at j
    have SX:=S
    have l:=L
    have X:ps.length=ps.length:=rfl
    refine KFB.if_not (by decide) ?_
    refine wpAny_bind ?_
    refine sb ag ?_
    refine f1_ ah aa au an ap (fun ma h' hM hk a3=> ?_)
    have g:eN_ h₀ D s₀ {s with heap:=h'} ps:=⟨fun b o e=>hk b o (SX.old b o e),((X2_2 SX.ob fun vs n H hr=>⟨vs,n,hk _ _ H,hr⟩)),SX.gens,SX.os⟩
    refine wpAny_bind (wpAny_holding ?_)
    refine KFB.if_so (by first | decide | rfl) ?_
    refine wpAny_mono (hB_ (q:=q) (pa:=ppa) (x:=x) (p:=p) O (g.old _ _ hf) (hc.keeps g.old) hM hp (ad.keeps g.old) ax) (fun v ao G=> ?_) (fun _ _ x=>x)
    obtain ⟨⟨aq,rfl⟩,G,J,rfl,F⟩:=G
    have V:eN_ h₀ D s₀ {({s with heap:=h'}:Shared) with heap:=G,toks:=J} ps:=⟨fun b o e=>F b o (g.old b o e),((X2_2 g.ob fun vs n H hr=>⟨vs,n,F _ _ H,hr⟩)),g.gens,g.os⟩
    refine KFB.if_so (by first | decide | rfl) ?_
    refine wpAny_bind (V.push hD (by exact O386 I hp hx af) fun M Z _=>wpAny_pure ⟨plainId_quiet cY_ _, ?_⟩)
    refine sb aa ?_
    refine ih (p+1) M _ _ _ (by exact O104 hn af) Z (by refine sb List.length_append ?_; simp only [List.length_cons,List.length_nil]; exact O387 I af) hp (fun y hy=> ?_) (fun s' t' S'=>by
     have c:=C
     replace c:=j▸c
     have e:=c s' t' (by exact sb (show ps++([]++(("\\" ++(⟨x.cps.extract p (p+1)⟩:Str))::subP x.cps n (p+1)))=ps++ [("\\" ++(⟨x.cps.extract p (p+1)⟩:Str))]++subP x.cps n (p+1) by simp) S')
     replace e:=(show ps++([]++(("\\" ++(⟨x.cps.extract p (p+1)⟩:Str))::subP x.cps n (p+1)))=ps++ [("\\" ++(⟨x.cps.extract p (p+1)⟩:Str))]++subP x.cps n (p+1) by simp)▸e
     exact e)
    rcases List.mem_append.mp hy with hy | hy
    ·exact l y hy
    ·rcases List.mem_cons.mp hy with rfl | hy
     ·refine (?_:(("\\" :Str).cps++x.cps.extract p (p+1)).size≤1001)
      refine sb Array.size_append (sb Array.size_extract ?_)
      have:("\\" :Str).cps.size=1:=by decide
      exact O385 this
     ·cases hy
  | none=>
   dsimp only
   have j:subP x.cps (n+1) i=(if i < x.cps.size then [⟨x.cps.extract i x.cps.size⟩] else []):=by
    refine sb is_ ?_
    exact sb ae rfl
   by_cases B:i < x.cps.size
   ·refine sb (if_pos B) ?_
    refine wpAny_bind ?_
    refine sb ab ?_
    refine c0_ hx ?_
    have U:eN_ h₀ D s₀ {s with toks:=s.toks+1} ps:=⟨S.old,S.ob,S.gens,S.os⟩
    refine wpAny_bind (U.push hD (by exact O388 I B hx) fun sX SX _=> ?_)
    rw [if_pos B] at j
    have l:∀y∈ps++ [⟨x.cps.extract i x.cps.size⟩],y.length≤1001:=fun y hy=>by
     rcases List.mem_append.mp hy with hy | hy
     ·exact L y hy
     ·rcases List.mem_cons.mp hy with rfl | hy
      ·refine (?_:(x.cps.extract i x.cps.size).size≤1001)
       exact sb Array.size_extract (O389 hx)
      ·exact (nomatch hy)
    have X:(ps++ [(⟨x.cps.extract i x.cps.size⟩:Str)]).length=ps.length+1:=by refine sb List.length_append ?_; rfl
    refine wpAny_bind ?_
    try rw [ab]
    refine c0_ hx ?_
    refine X2_2 SX.ob fun vs nn H hr=> ?_
    refine wpAny_bind (wpAny_seqItems (s:= {sX with toks:=sX.toks+1}) H rfl ?_)
    have e0:(⟨x.cps.extract 0 0⟩:Str)= "" :=by
     have:x.cps.extract 0 0= #[]:=Array.eq_empty_of_size_eq_zero (by exact sb Array.size_extract O390)
     refine sb this ?_; rfl
    refine sb e0 ?_
    by_cases K:vs.isEmpty=true
    ·refine KFB.if_so K ?_
     have Y:(ps++ [⟨x.cps.extract i x.cps.size⟩])= []:=by
      have h1:=StrsAre.length hr
      have h2:vs= #[]:=by simpa using K
      rw [h2] at h1
      exact List.length_eq_zero_iff.mp h1.symm
     refine wpAny_bind (wpAny_pure ?_)
     refine KFB.if_not (by decide) ?_
     refine wpAny_pure ?_
     have c:=C
     replace c:=j▸c
     rw [Y] at c SX
     exact c _ _ ⟨SX.old,SX.ob,SX.gens,SX.os⟩
    ·refine KFB.if_not (by simpa using K) ?_
     refine wpAny_bind ?_
     refine join_list (x:= "") (ys:=(ps++ [⟨x.cps.extract i x.cps.size⟩])) (items:=vs) ⟨_,H,rfl,nn,rfl⟩ hr (bH_ 1001 4000 l (by exact O391 X B hx I) (by decide)) fun t' kk=> ?_
     refine KFB.if_not (by decide) ?_
     refine wpAny_pure ?_
     have c:=C
     replace c:=j▸c
     exact c _ _ ⟨SX.old,⟨vs,nn,H,hr⟩,SX.gens,SX.os⟩
   ·refine sb (if_neg B) ?_
    rw [if_neg B] at j
    rw [j,List.append_nil] at C
    have SX:=S
    have l:=L
    refine wpAny_bind ?_
    try refine sb ab ?_
    refine c0_ hx ?_
    refine X2_2 SX.ob fun vs nn H hr=> ?_
    refine wpAny_bind (wpAny_seqItems (s:= {s with toks:=s.toks+1}) H rfl ?_)
    have e0:(⟨x.cps.extract 0 0⟩:Str)= "" :=by
     have:x.cps.extract 0 0= #[]:=Array.eq_empty_of_size_eq_zero (by exact sb Array.size_extract O390)
     refine sb this ?_; rfl
    refine sb e0 ?_
    by_cases K:vs.isEmpty=true
    ·refine KFB.if_so K ?_
     have Y:ps= []:=by
      have h1:=StrsAre.length hr
      have h2:vs= #[]:=by simpa using K
      rw [h2] at h1
      exact List.length_eq_zero_iff.mp h1.symm
     refine wpAny_bind (wpAny_pure ?_)
     refine KFB.if_not (by decide) ?_
     refine wpAny_pure ?_
     have c:=C
     rw [Y] at c SX
     exact c _ _ ⟨SX.old,SX.ob,SX.gens,SX.os⟩
    ·refine KFB.if_not (by simpa using K) ?_
     refine wpAny_bind ?_
     refine join_list (x:= "") (ys:=ps) (items:=vs) ⟨_,H,rfl,nn,rfl⟩ hr (bH_ 1001 4000 l (by exact O392 I hx hi) (by decide)) fun t' kk=> ?_
     refine KFB.if_not (by decide) ?_
     refine wpAny_pure ?_
     have c:=C
     exact c _ _ ⟨SX.old,⟨vs,nn,H,hr⟩,SX.gens,SX.os⟩
end
end Mine
end
section
namespace Mine
open PySem.Builtin.Re
theorem iq_:plainId "re.Pattern.sub" =true:=by decide+kernel
theorem j1_:isSubtype (.type "str") (.type "bytearray")=pure false:=by rw [isSubtype_type]; kernel_rfl
section
variable {prog:Program}{w:World}{A:Around}{E:Value→Shared→Prop}{s:Shared}
theorem jY_ {pa f:Addr}{x:Str}{t:Tok}{q:Str}{ppa:Pos}{n1 n2 n3:Nat}{p1 p2 p3 p4 p5 p6 p7 p8:Pos}{pm m ct:Value}{Q:Value→Shared→Prop}
  (hx:x.cps.size≤1000) (hh:A.handled=none) (ac:A.depth < recursionLimit) (P:hl_ s.heap pa) (D:s.heap.get? f=some {cls:= .type "function",data:= .func (i9_ q ppa (bU_ n1 n2 n3 p1 p2 p3 p4 p5 p6 p7 p8) pm m ct)}) (hc:s.heap.CodeRec m q)
  (ap:s.heap.NoLimit) (ag:(p3.endLine==p5.line)=true)
  (h:∀s' t',(∀b o,s.heap.get? b=some o→s'.heap.get? b=some o)→s'.gens=s.gens→s'.os=s.os→Q (.str (subF x) t') s'):
  wpAny (model prog w) A (call (.builtin "re.Pattern.sub") [.ref pa, .ref f, .str x t]) Q E s:=by
 have aw:s.TypeIs (.ref pa) "re.Pattern" :=by refine X6_3 P fun o F U ot its n l p _=> ?_; exact I1_2 o l p
 have a7:s.TypeIs (.ref f) "function" :=⟨_,D,rfl⟩
 refine wpAny_call (codeAny_call_builtin iq_ ir_ (hp_.check _ _ _ _ _ _ _ _ aw (jZ_ _ _ _) ?_))
 refine wpAny_bind (wpAny_of_eq (a:= [some (.ref f),some (.str x t),none]) (by rfl) ?_)
 refine wpAny_bind (wpAny_pure ?_)
 refine wpAny_bind (wpAny_specialOf a7 mn_ ?_)
 refine wpAny_bind (wpAny_pure ?_)
 refine wpAny_bind (wpAny_pure ?_)
 dsimp only
 refine wpAny_bind (wpAny_holding (dR_ P fun T _ _ _ _ _=> ?_))
 refine KFB.if_so (by decide) ?_
 refine wpAny_bind ?_
 refine wpAny_bind (wpAny_isInstance (typeIs_str _ _ _) j1_ ?_)
 refine KFB.if_not rfl ?_
 refine wpAny_pure ?_
 refine wpAny_bind (wpAny_newObj_type ?_ (by size_fits))
 refine wpAny_pure ⟨plainId_quiet cY_ _, ?_⟩
 have nD:s.heap.get? s.heap.objs.size=none:=a8_
 exact jX_ (h₀:=s.heap) (s₀:=s) hx hh ac P D hc ap ag nD (x.length+1) 0 _ [] false 0 (Nat.le_refl _)
  ⟨fun b o e=>Heap.get?_push_of_some _ e,⟨#[],0,Heap.get?_push_size _ rfl, .nil⟩,rfl,rfl⟩ (Nat.zero_le _) (Nat.zero_le _) (fun _ h=>nomatch h) (fun s' t' S=>h s' t' S.old S.gens S.os)
end
section
variable {g:GC}{k:Nat}{env:Env}{X:Addr→Prop}{σ:List (Str×PV)}{ω:List (Addr×OC)}{c:Addr}{pl:Pos}{q:Str}
theorem CodeRec.kp {m:Value}{s:Shared}{h':Heap}(T:TabG g c pl q)(O:g.Ok s)(x:s.heap.CodeRec m q)(K:Kp g s.heap h'):h'.CodeRec m q:=by
 refine X1_3 ((T.is _).mp O.tab) fun ps h1 h2 h3=> ?_
 refine X4_4 x fun c o vs t l p N e4=> ?_
 refine I4_4 c o vs t l (K c o ?_ p) N e4
 rintro rfl
 rw [h1] at p; cases p; cases N
 exact eT_ h2 e4
theorem kC_ (G:g.Good)(T:TabG g c pl q)(j:env.code= .ref c)(hq:env.qual++ "<lambda>" =q)(ao:env.globals=mainGlobals)(hcl:closureFor bc_ env=pure []){A:Around}{E:Value→Shared→Prop}{s:Shared}{ppa:Pos}{body:Expr}{Q:Value→Shared→Prop}(O:g.Ok s)
  (h:∀f pm m ct s',g.Ok s'→Kp g s.heap s'.heap→s'.heap.get? f=some {cls:= .type "function",data:= .func (i9_ q ppa body pm m ct)}→s'.heap.CodeRec m q→f≠g.Pt→Q (.ref f) s'):
  wpAny (model g.prog g.w) A (eval (.Lambda (a0_ ppa) body bc_ pl) env) Q E s:=by
 refine X1_3 ((T.is _).mp O.tab) fun ps h1 h2 h3=> ?_
 have C:=T.hd' O
 have H: @LT.lt Nat _ g.Pt s.heap.objs.size:=Heap.lt_size h1
 refine kla_eval rfl ?_
 refine sb hq ?_
 cases D:codeAmong pl ps.toList with
 | some m=>
  refine wpAny_with_toks (n:=1) O.tok (kla_makeFunctionHit (mg:=g.mg) hcl ao (O.main G) j C h1 h2 D (T.bm' O) fun z h' tk hk ax ht=> ?_)
  have ae:∀b o,s.heap.get? b=some o→(h'.push {cls:= .type "function",data:= .func (kla_fn "<lambda>" q (a0_ ppa) body bc_ [] ((g.mg "__name__").getD .none) m z)}).get? b=some o:=fun b o e=>Heap.get?_push_of_some _ (hk b o e)
  refine h h'.objs.size ((g.mg "__name__").getD .none) m z _ (O.keep G ae ht) (Kp.of ae) (Heap.get?_push_size _ rfl) (Heap.CodeRec.keeps (h3 m D) ae) (fun e=> ?_)
  rw [← e] at H
  exact absurd H (Nat.not_lt.mpr ax)
 | none=>
  refine wpAny_with_toks (n:=1) O.tok (kla_makeFunction (mg:=g.mg) hcl ao (O.main G) j C h1 h2 D G.ptMain (T.bm' O) fun c' z h' tk hx a0 a8 R an ht=> ?_)
  obtain ⟨O',K'⟩:=T.grow G O (h':=h'.push (kla_obj "<lambda>" q (a0_ ppa) body bc_ [] ((g.mg "__name__").getD .none) c' z)) (tk:=tk) (fun b o n e=>Heap.get?_push_of_some _ (hx b o n e)) ht fun ps₀ l p=>by
   rw [h1] at l
   obtain rfl:ps=ps₀:=by injection l with l; injection l with _ _ l; injection l
   refine I1_3 _ (Heap.get?_push_of_some _ an) ?_ (fun m hc=> .inr ?_)
   ·simpa using TriplesOk_snoc _ _ _ _ p
   ·have N:=codeAmong_snoc (c:= .ref c') ps.toList h2 D
    have e4:(ps++ #[rawInt pl.line,rawInt pl.col,Value.ref c']).toList=ps.toList++ [rawInt pl.line,rawInt pl.col,Value.ref c']:=by simp
    rw [e4,N] at hc
    cases hc
    exact R.push _
  refine h h'.objs.size ((g.mg "__name__").getD .none) (.ref c') z _ O' K' (Heap.get?_push_size _ rfl) (R.push _) (fun e=> ?_)
  have h5: @LT.lt Nat _ s.heap.objs.size h'.objs.size:=Nat.lt_of_le_of_lt a0 a8
  rw [← e] at H
  exact absurd H (Nat.not_lt.mpr (Nat.le_of_lt h5))
structure PatG (g:GC)(pa:Addr):Prop where
 at_:∃o F U ot its n,g.hG.get? pa=some o∧o.cls= .type "re.Pattern"∧o.dict=none∧o.data= .fields F∧reRawNat (F.getD 6 .none)=0∧reRawNat (F.getD 2 .none)=1∧F.getD 5 .none= .ref U∧
  g.hG.get? U=some ot∧ot.data= .seq its n∧(its.map reRawOf).map (·.toNat)=aR_∧U≠g.Pt
 np:pa≠g.Pt
theorem PatG.at' {pa:Addr}(P:PatG g pa){s:Shared}(O:g.Ok s):hl_ s.heap pa:=by
 obtain ⟨o,F,U,ot,its,n,l,p,N,e4,e5,e6,e7,e8,e9,a2,az⟩:=P.at_
 exact ⟨o,F,U,ot,its,n,O.gk _ _ P.np l,p,N,e4,e5,e6,e7,O.gk _ _ az e8,e9,a2⟩
theorem h6_ (G:g.Good)(T:TabG g c pl q){pa:Addr}(P:PatG g pa)(j:env.code= .ref c)(hq:env.qual++ "<lambda>" =q)(hcl:closureFor bc_ env=pure []){ob e:Expr}{apos pos ppa:Pos}{n1 n2 n3:Nat}{p1 p2 p3 p4 p5 p6 p7 p8:Pos}{x:Str}
  (a4:Ev g k env X σ ω ob (.ref pa)) (he:Ev g k env X σ ω e (.str x)) (hx:x.cps.size≤1000) (ag:(p3.endLine==p5.line)=true) (hp:(apos.endLine==pos.line)=true)
  (a6:∀B,attributeBase ob "sub" env B=B) (hn:starEach [e] env=(false,eval e env)::starEach [] env)
  (D:methodCallForm ([Expr.Lambda (a0_ ppa) (bU_ n1 n2 n3 p1 p2 p3 p4 p5 p6 p7 p8) bc_ pl,e].length+0) (backTo pos (starEach [Expr.Lambda (a0_ ppa) (bU_ n1 n2 n3 p1 p2 p3 p4 p5 p6 p7 p8) bc_ pl,e] env)) (backToKw pos (keywordEach [] env))=true) 
  (ay:(backTo pos (starEach [e] env)).any (·.1)=false):
  Ev g k env X σ ω (.Call (.Attribute ob "sub" apos) [.Lambda (a0_ ppa) (bU_ n1 n2 n3 p1 p2 p3 p4 p5 p6 p7 p8) bc_ pl,e] [] pos) (.str (subF x)):=eA_ fun A s E a O L=>by
 have hc:=c7_ (env:=env) (ob:=ob) (name:= "sub") (apos:=apos) (pos:=pos) (args:= [Expr.Lambda (a0_ ppa) (bU_ n1 n2 n3 p1 p2 p3 p4 p5 p6 p7 p8) bc_ pl,e]) a6 D hp
 refine MethodCall_ (a4.use a O L fun v aC V al Z aa=> ?_) hc
 rw [rd_ref] at aa; subst aa
 have Pa:=P.at' V
 refine getMethod_builtin (T:= "re.Pattern") (by refine X6_3 Pa fun o F U ot its n l p _=> ?_; exact I1_2 o l p) iM_ hp_ jW_ (fun a e=>by
  cases e; refine X6_4 Pa fun o F U ot its n l p N _=> ?_; exact I1_2 o l N) ?_
 refine callWith_of (P:=fun _=>True) (by refine (?_:((false || (backTo pos (starEach [e] env)).any (·.1)) || false)=false); refine sb ay ?_; rfl) (bQ_ (g:=g)) (evalArgs_plain ?_)
 refine (?_:wpAny _ A (do let v ← eval (.Lambda (a0_ ppa) (bU_ n1 n2 n3 p1 p2 p3 p4 p5 p6 p7 p8) bc_ pl) env; let M ← pure [v]; return M++(← holding M (spliced (backTo pos (starEach [e] env))))) _ _ _)
 refine wpAny_bind (kC_ G T j hq Z.gl hcl V fun f pm m ct a9 u Y ad af a1=> ?_)
 have aq:=Z.kp Y u.pt
 refine wpAny_bind (wpAny_pure (wpAny_bind (wpAny_holding ((b8_ he ag_ hn).use a u aq fun vs aA i y aB J=>wpAny_pure ⟨trivial, ?_⟩))))
 rw [am_] at J
 (refine X2_3 J fun v r q1 hv hr=> ?_; subst q1)
 rw [aG_] at hr; subst hr
 rw [rd_str] at hv
 (refine X1_1 hv fun t q2=> ?_; subst q2)
 refine (?_:wpAny _ A (call (.builtin "re.Pattern.sub") [.ref pa, .ref f, .str x t]) _ _ _)
 refine wpAny_with_toks (n:=1) i.tok (jY_ hx a.1 a.room (P.at' i) (y f _ a1 ad) (CodeRec.kp T u af y) (i.nolim G) ag fun I aj hk hg a5 ht _=> ?_)
 have ak:g.Ok I:=⟨fun b o n e=>hk b o (i.gk b o n e),let ⟨o,e⟩:=i.pt; ⟨o,hk _ _ e⟩,(i.keep G (h':=I.heap) (tk:=1) hk (by decide)).tab,hg▸i.gens,a5.trans i.os,ht⟩
 exact I0_3 ak (((al.trans Y).trans y).trans (Kp.of hk)) (by rw [rd_str]; exact ⟨aj,rfl⟩)
end
end Mine
end
section
namespace Mine
section
variable {prog:Program}{w:World}{A:Around}{E:Value→Shared→Prop}{s:Shared}
theorem jp_ {k:Int}(h: -2 ^ 63≤k∧k < 2 ^ 63):Builtin.List.listFitsIndex k=true:=by
 unfold Builtin.List.listFitsIndex
 simp only [Bool.and_eq_true,decide_eq_true_eq]
 exact h
theorem cF_ {j n:Nat}(h:j < n):seqIndex? (j:Int) n=some j:=by
 refine sb (bw_ (by exact O203 h)) (sb (if_neg (by exact O69)) ?_); rfl
theorem lh_ {l:Addr}{its:Array Value}{n:Nat}{k:Int}{t:Tok}{v:Value}{j:Nat}{Q:Unit→Shared→Prop}(H:s.heap.get? l=some {cls:= .type "list",data:= .seq its n})
  (hb: -2 ^ 63≤k∧k < 2 ^ 63) (N:seqIndex? k its.size=some j)
  (hQ:∀h',Heap.SameBut l s.heap h'→h'.get? l=some {cls:= .type "list",data:= .seq (its.setIfInBounds j v) n}→Q () {s with heap:=h'}):
  wpAny (model prog w) A (setItem (.ref l) (.int k t) v) Q E s:=by
 have hT:s.TypeIs (.ref l) "list" :=⟨_,H,rfl⟩
 have a2:j < its.size:=(cs_ N).1
 unfold setItem
 try with_reducible refine wpAny_holding ?_
 first | refine wpAny_bind (wpAny_pure ?_) | skip
 refine wpAny_bind (wpAny_sequenceKey hT (by decide) ?_)
 refine wpAny_bind (wpAny_callSpecial?_slot (name:=Str.ofString "__setitem__") hT slot_list_setitem
  (wpAny_call_entry slot_list_setitem hT entry_list_setitem ?_ (args_list_setitem _ _ _)))
 refine (?_:wpAny _ _ (Builtin.List.listSubscript? (.int k t)>>=_) _ _ s)
 refine wpAny_bind (wpAny_listSubscript_int (jp_ hb) ?_)
 have ad:∀h',h'=s.heap.update l (Obj.mapSeq (·.setIfInBounds j v))→Q () {s with heap:=h'}:=fun h' e=>by
  subst e
  refine hQ _ (Heap.SameBut.update ..) ?_
  have e1:Obj.mapSeq (·.setIfInBounds j v) {cls:= .type "list",data:= .seq its n}= {cls:= .type "list",data:= .seq (its.setIfInBounds j v) n}:=by
   simp [Obj.mapSeq]
  exact sb (Heap.get?_update_self _ H (by refine sb e1 ?_; rfl)) (sb e1 rfl)
 cases k with
 | ofNat m=>
  have hm:m=j:=by
   have h1:=cs_ N
   have h2:=cF_ (j:=m) (n:=its.size) (by have:=h1.2.2; simp at this; exact this)
   have h3:seqIndex? (Int.ofNat m) its.size=some m:=h2
   rw [h3] at N; cases N; rfl
  subst hm
  refine (?_:wpAny _ _ ((seqItemAt l m>>=fun r=>pure (r.map (m,·)))>>=_) _ _ s)
  refine wpAny_bind (wpAny_bind (wpAny_seqItemAt H rfl (wpAny_pure ?_)))
  refine sb (Array.getElem?_eq_getElem a2) ?_
  refine (?_:wpAny _ _ (setSeqItemAt l m v>>=_) _ _ s)
  refine wpAny_bind (wpAny_setSeqItemAt H rfl ?_)
  first
   | exact wpAny_bind (wpAny_pure (wpAny_pure ⟨.none,rfl,wpAny_pure (ad _ rfl)⟩))
   | exact wpAny_pure ⟨.none,rfl,wpAny_pure (ad _ rfl)⟩
 | negSucc m=>
  refine (?_:wpAny _ _ ((Builtin.List.listItems (.ref l)>>=fun xs=>pure ((seqIndex? (Int.negSucc m) xs.size).bind fun i=>xs[i]?.map (i,·)))>>=_) _ _ s)
  refine wpAny_bind (wpAny_bind ?_)
  refine (?_:wpAny _ _ (seqItems? (.ref l)>>=_) _ _ s)
  refine wpAny_bind (wpAny_seqItems H rfl (wpAny_pure (wpAny_pure ?_)))
  refine sb N ?_
  simp only [Option.bind_some,Array.getElem?_eq_getElem a2,Option.map_some]
  show wpAny _ _ (setSeqItemAt l j v>>=_) _ _ s
  refine wpAny_bind (wpAny_setSeqItemAt H rfl ?_)
  first
   | exact wpAny_bind (wpAny_pure (wpAny_pure ⟨.none,rfl,wpAny_pure (ad _ rfl)⟩))
   | exact wpAny_pure ⟨.none,rfl,wpAny_pure (ad _ rfl)⟩
end
section
variable {g:GC}{k:Nat}{hF:Heap}{env:Env}{Xo:Addr→Prop}{P O:List Addr}{X:Addr→Prop}{σ σ':List (Str×PV)}{ω ω':List (Addr×OC)}{s s':Shared}{h:Heap}
theorem gB_ {p:PV}{v:Value}(hv:Rd g X h p v):∀{l:List PV} {vs:List Value} (j:Nat),RdL g X h l vs→RdL g X h (l.set j p) (vs.set j v)
 | [], vs, j, r => by rw [aG_] at r; subst r; rw [List.set_nil,List.set_nil,aG_]
 | q :: l, vs, 0, r => by
  rw [am_] at r
  (refine X2_3 r fun u t q1 h1 h2=> ?_; subst q1)
  rw [List.set_cons_zero,List.set_cons_zero,am_]
  exact ⟨v,t,rfl,hv,h2⟩
 | q :: l, vs, j + 1, r => by
  rw [am_] at r
  (refine X2_3 r fun u t q2 h1 h2=> ?_; subst q2)
  rw [List.set_cons_succ,List.set_cons_succ,am_]
  exact ⟨u,_,rfl,h1,gB_ hv j h2⟩
theorem fP_:∀{l:List PV} {vs:List Value} (j:Nat),RdL g X h l vs→RdL g X h (l.eraseIdx j) (vs.eraseIdx j)
 | [], vs, j, r => by rw [aG_] at r; subst r; rw [List.eraseIdx_nil,List.eraseIdx_nil,aG_]
 | q :: l, vs, 0, r => by
  (refine X2_3 r fun u t q3 h1 h2=> ?_; subst q3)
  exact h2
 | q :: l, vs, j + 1, r => by
  (refine X2_3 r fun u t q4 h1 h2=> ?_; subst q4)
  exact I2_3 u _ rfl h1 (fP_ j h2)
section
variable {A:Around}{E:Value→Shared→Prop}{Q:Flow→Shared→Prop}{B:List Stmt}
theorem iv_ (G:g.Good){x:Str}{px sp pos:Pos}{ie ve:Expr}{a:Addr}{l:List PV}{p:PV}{i:Int}{j:Nat}(S:LS g hF env Xo P O σ ω s)(V:AOk k A)(hx:(x, .ref a)∈σ)(ha:(a, .lst l)∈ω)(hv:Ev g k env (av Xo P O) σ ω ve p)
  (hi:Ev g k env (av Xo P O) σ ω ie (.int i)) (hb: -2 ^ 63≤i∧i < 2 ^ 63) (N:seqIndex? i l.length=some j)
  (c:∀s',LS g hF env Xo P O σ (setω a (.lst (l.set j p)) ω) s'→Wp g A env B Q E s') (hd:autoParam ((x==("__debug__" :Str))=false) aQ0)
  (aE:autoParam (swapsWith ve (some (Expr.Subscript (.Name x px) ie sp)) pos.line env=pure false) aQ4):
  Wp g A env (.Assign [.Subscript (.Name x px) ie sp] ve pos::B) Q E s:=
 b4_ (wpAny_Assign_Subscript (hv.use V S.ok S.loc fun v a5 F R L M=>(aa_ hx hd).use V F L fun ag I b C o f=>hi.use V b o fun a1 J D K T Y=>by
  (refine X1_1 (rd_int.mp Y) fun u q5=> ?_; subst q5)
  rw [rd_ref] at f; subst f
  have U:=((S.kp F R).kp b C).kp D K
  refine X2_2 (T.lst ha) fun vs n H hr=> ?_
  have hn:=a4_ hr
  refine lh_ H hb (by exact sb hn N) fun h' hs Z=>c _ ?_
  refine U.upLst (l':=l.set j p) (tk:=J.toks) G ha hs Z D.tok ?_
  refine sb Array.toList_setIfInBounds ?_
  exact gB_ (dC_ o.xok K (dC_ L.xok C M)) j hr) aE)
theorem iz_ (G:g.Good){x:Str}{px sp pos:Pos}{ie ve:Expr}{a:Addr}{l:List PV}{y z:Str}{i:Int}{j:Nat}(S:LS g hF env Xo P O σ ω s)(V:AOk k A)(hx:(x, .ref a)∈σ)(ha:(a, .lst l)∈ω)
  (hi:Ev g k env (av Xo P O) σ ω ie (.int i)) (hv:Ev g k env (av Xo P O) σ ω ve (.str z)) (hb: -2 ^ 63≤i∧i < 2 ^ 63) (N:seqIndex? i l.length=some j) (hy:l[j]? =some (.str y)) (aj:y.length+z.length≤sizeLine)
  (c:∀s',LS g hF env Xo P O σ (setω a (.lst (l.set j (.str (y++z)))) ω) s'→Wp g A env B Q E s') (hd:autoParam ((x==("__debug__" :Str))=false) aQ0)
  (aD:∀ov iv new,augStore ie ov iv new=(do holding [new,ov,iv] (setItem ov iv new); release [new,ov,iv] []; pure .next):=by intros; rfl):
  Wp g A env (.AugAssign (.Subscript (.Name x px) ie sp) .Add ve pos::B) Q E s:=
 b4_ (wpAny_AugAssign_SubscriptAny ((aa_ hx hd).use V S.ok S.loc fun aH a5 F R L M=>hi.use V F L fun ag I b C o f=>by
  (refine X1_1 (rd_int.mp f) fun u q6=> ?_; subst q6)
  rw [rd_ref] at M; subst M
  refine X2_2 (o.lst ha) fun vs n H hr=> ?_
  have hn:=a4_ hr
  refine X1_2 (cG_ hr hy) fun w hw aF=> ?_
  (refine X1_1 (rd_str.mp aF) fun tw q7=> ?_; subst q7)
  have ax:vs[j]? =some (.str y tw):=by simpa using hw
  have az:wpAny (model g.prog g.w) A (getItem (.ref a) (.int i u)) (fun v s'=>v= .str y tw∧s'=I) (fun e s'=>E e s') I:=by
   have ak:=cs_ N
   have ae:j=(if i < 0 then i+l.length else i).toNat:=by
    have:=bw_ (n:=l.length) (i:=i) ⟨ak.2.1,ak.2.2⟩
    rw [N] at this; cases this; rfl
   by_cases h0:i < 0
   ·rw [if_pos h0] at ae
    exact wpAny_getItem_list_neg ⟨_,H,rfl,n,rfl⟩ h0 (by exact sb hn ak.2.1) hb.1 (x:= .str y tw) (by exact sb hn (sy ae ax)) ⟨rfl,rfl⟩
   ·rw [if_neg h0] at ae
    exact wpAny_getItem_list ⟨_,H,rfl,n,rfl⟩ (by exact O53 h0) hb.2 (x:= .str y tw) (by exact sy ae ax) ⟨rfl,rfl⟩
  refine wpAny_mono az (fun v J e=> ?_) fun _ _ x=>x
  (refine X0_2 e fun q8 q9=> ?_; subst q8; subst q9)
  refine hv.use V b o fun a3 aG ah a0 a4 au=> ?_
  refine (ff_ (g:=g) (k:=k) (X:=av Xo P O) G aj).use (vs:= [.str y tw,a3]) V ah a4.xok (by rw [am_]; exact (I2_3 _ _ rfl (by simp) (bn_ au))) fun aJ ar af a6 a7=> ?_
  have ai:=(((S.kp F R).kp b C).kp ah a0).kp af a6
  refine X2_2 (ai.loc.lst ha) fun vs n H hr=> ?_
  have hn:=a4_ hr
  refine lh_ H hb (by exact sb hn N) fun h' hs Z=>c _ ?_
  refine ai.upLst (l':=l.set j (.str (y++z))) (tk:=ar.toks) G ha hs Z af.tok ?_
  refine sb Array.toList_setIfInBounds ?_
  exact gB_ a7 j hr) aD)
theorem iy_ (G:g.Good){x:Str}{px sp pos:Pos}{ie:Expr}{a:Addr}{l:List PV}{i:Int}{j:Nat}(S:LS g hF env Xo P O σ ω s)(V:AOk k A)(hx:(x, .ref a)∈σ)(ha:(a, .lst l)∈ω)
  (hi:Ev g k env (av Xo P O) σ ω ie (.int i)) (hb: -2 ^ 63≤i∧i < 2 ^ 63) (N:seqIndex? i l.length=some j) (aj:l.length≤sizeLine)
  (c:∀s',LS g hF env Xo P O σ (setω a (.lst (l.eraseIdx j)) ω) s'→Wp g A env B Q E s') (hd:autoParam ((x==("__debug__" :Str))=false) aQ0):
  Wp g A env (.Delete [.Subscript (.Name x px) ie sp] pos::B) Q E s:=
 b4_ (wpAny_Delete (wpAny_deleteEach_cons (wpAny_delete_Subscript ((aa_ hx hd).use V S.ok S.loc fun ag I b C o f=>hi.use V b o fun a1 J D K T Y=>by
  (refine X1_1 (rd_int.mp Y) fun u aC=> ?_; subst aC)
  rw [rd_ref] at f; subst f
  have U:=(S.kp b C).kp D K
  refine X2_2 (T.lst ha) fun vs n H hr=> ?_
  have hn:=a4_ hr
  refine delItem_at H (jp_ hb) (by exact sb hn N) (fun h' hs Z=>wpAny_deleteEach_nil (c _ ?_)) (by exact sb hn aj)
  refine U.upLst (l':=l.eraseIdx j) (tk:=J.toks) G ha hs Z D.tok ?_
  exact fP_ j hr))))
end
end
noncomputable abbrev lS (l:List Nat):Str:=⟨l.toArray⟩
theorem ao_ (l:List Nat):(lS l).length=l.length:=by simp [Str.length]
theorem a3_ (l:List Nat):(lS l).cps.toList=l:=by rfl
theorem n6_ (x:Str):lS x.cps.toList=x:=rfl
theorem aL_ (a b:List Nat):lS a++lS b=lS (a++b):=by refine (?_:Str.mk (a.toArray++b.toArray)=_); simp
theorem nh_ {a b:List Nat}(h:lS a=lS b):a=b:=by have:=congrArg (fun x:Str=>x.cps.toList) h; simpa using this
theorem cM_ (a b:List Nat):(lS a==lS b)=(a==b):=by
 rw [Bool.eq_iff_iff,beq_iff_eq,beq_iff_eq]
 exact ⟨nh_,congrArg lS⟩
theorem bS_ (x:Str)(n:Nat):six x (n:Int)=chS (x.cps.toList.getD n 0):=by unfold six; refine sb (if_neg (by exact O69)) ?_; rfl
theorem gw_ (x:Str){a b:Nat}(F:a≤b)(hb:b≤x.length):ssl x (some (a:Int)) (some (b:Int)) none=lS ((x.cps.toList.drop a).take (b - a)):=StrLaws.sliceText_nat x F hb
theorem ea_ (x:Str){a:Nat}(ha:a≤x.length):ssl x (some (a:Int)) none none=lS (x.cps.toList.drop a):=by
 have h:=StrLaws.sliceText_from (x:=x) (i:=(a:Int)) ⟨by exact O70,by have:x.cps.toList.length=x.length:=rfl; exact O71 ha this⟩
 have e:ssl x (some (a:Int)) none none=StrLaws.sliceText x (some (a:Int)) none:=rfl
 refine sb e (sb h ?_)
 have H:(x.cps.toList.drop ((a:Int)).toNat).take ((x.cps.toList.length:Int) - (a:Int)).toNat=x.cps.toList.drop a:=by
  have h3:((a:Int)).toNat=a:=by exact O72
  refine sb h3 ?_
  apply List.take_of_length_le
  refine sb List.length_drop ?_
  exact O73
 exact sb H rfl
theorem j3_ (x:Str)(h:1≤x.length):ssl x none (some (-1)) none=lS x.cps.toList.dropLast:=by
 have g:=StrLaws.sliceText_to_neg (x:=x) (j:=(-1)) (by decide) (by exact O74 h)
 have e:ssl x none (some (-1)) none=StrLaws.sliceText x none (some (-1)):=rfl
 refine sb e (sb g ?_)
 have H:(-1+(x.length:Int) - 0).toNat=x.length - 1:=by exact O75
 refine sb H (sb List.drop_zero ?_)
 refine sb List.dropLast_eq_take ?_
 have:x.cps.toList.length=x.length:=rfl
 exact sb this rfl
noncomputable def repL (c:Nat)(z:List Nat)(l:List Nat):List Nat:=l.flatMap fun a=>if a=c then z else [a]
theorem ht_ (c:Nat)(z a b:List Nat):repL c z (a++b)=repL c z a++repL c z b:=by simp [repL]
theorem em_ (c:Nat)(z:List Nat):∀l:List Nat,c ∉ l→repL c z l=l
 | [], _ => rfl
 | k :: r, h => by
  have g:¬k=c:=fun e=>h (e▸List.mem_cons_self ..)
  have f:=em_ c z r fun m=>h (List.mem_cons_of_mem _ m)
  unfold repL at f ⊢
  refine sb List.flatMap_cons (sb (if_neg g) (sb f ?_)); rfl
theorem fN_ (c:Nat)(z:Str):∀s:List Str,(∀p∈s,c ∉ p.cps.toList)→repL c z.cps.toList (Str.join ⟨#[c]⟩ s).cps.toList=(Str.join z s).cps.toList
 | [], _ => rfl
 | [p], h => em_ c _ _ (h p (List.mem_singleton.mpr rfl))
 | p :: q :: r, h => by
  have C:=fN_ c z (q::r) fun a ha=>h a (List.mem_cons_of_mem _ ha)
  refine (?_:repL c z.cps.toList (p++ ⟨#[c]⟩++Str.join ⟨#[c]⟩ (q::r)).cps.toList=(p++z++Str.join z (q::r)).cps.toList)
  simp only [Str.cps_append,Array.toList_append]
  simp only [ht_,ht_,C,em_ c _ _ (h p (List.mem_cons_self ..))]
  have:repL c z.cps.toList [c]=z.cps.toList:=by simp [repL]
  exact sb this rfl
theorem b1_ (c:Nat)(z l:List Nat):Txt.replace (lS l) (lS [c]) (lS z)=lS (repL c z l):=by
 have h:=StrLaws.replace_one (lS l) (lS z) c
 have e:(lS [c]:Str)=⟨#[c]⟩:=rfl
 refine sb e (sb h ?_)
 have f:=fN_ c (lS z) (Txt.split (lS l) ⟨#[c]⟩) (StrLaws.split_free _ c)
 rw [StrLaws.join_split] at f
 apply Str.ext'
 apply Array.toList_inj.mp
 exact sy f rfl
noncomputable def je_ (z:List Nat):List (List Nat)→List Nat
 | [] => []
 | [x] => x
 | x :: y :: r => x++z++je_ z (y::r)
theorem fk_ (z:List Nat)(w:List (List Nat)):Txt.join (lS z) (w.map lS)=lS (je_ z w):=by
 refine (?_:Builtin.Str.glued (lS z) (w.map lS)=_)
 refine sb (StrLaws.glued_eq_join ..) ?_
 induction w with
 | nil => rfl
 | cons x r C=>
  cases r with
  | nil => rfl
  | cons y r=>
   refine (?_:lS x++lS z++Str.join (lS z) ((y::r).map lS)=_)
   simp only [C,aL_,aL_]
   rfl
theorem f4_ (w:List (List Nat)):je_ [] w=w.flatten:=by
 induction w with
 | nil => rfl
 | cons x r C=>
  cases r with
  | nil => exact (List.append_nil x).symm
  | cons y r => refine (?_:x++ []++je_ [] (y::r)=_); refine sb C ?_; simp
theorem jk_ (c:Nat)(l:List Nat):inS (lS [c]) (lS l)=decide (c∈l):=by
 have:=StrLaws.found_one (lS l) c
 exact this
noncomputable def fnd (c:Nat):List Nat→Nat→Option Nat
 | [], _ => none
 | a :: l, 0 => if a=c then some 0 else (fnd c l 0).map (· +1)
 | a :: l, k + 1 => (fnd c l k).map (· +1)
theorem nq_:fnd c (a::l) 0=if a=c then some 0 else (fnd c l 0).map (· +1):=rfl
theorem np_:fnd c (a::l) (k+1)=(fnd c l k).map (· +1):=rfl
theorem dq_ {c:Nat}:∀{l:List Nat} {k r:Nat},fnd c l k=some r→k≤r∧l[r]? =some c∧∀i,k≤i→i < r→l[i]? ≠some c
 | [], _, _, h => nomatch h
 | a :: l, 0, r, h => by
  simp only [nq_] at h
  by_cases e:a=c
  ·rw [if_pos e] at h; cases h; exact I0_3 (Nat.le_refl _) (by simp [e]) (fun i _ hi=>by exact (O76 hi).elim)
  ·rw [if_neg e] at h
   (refine X1_2 (Option.map_eq_some_iff.mp h) fun q hq S=> ?_; subst S)
   refine X0_3 (dq_ hq) fun _ f h3=> ?_
   refine I0_3 (Nat.zero_le _) (by exact f) (fun i _ hi=> ?_)
   cases i with
   | zero => simpa using e
   | succ i => exact h3 i (Nat.zero_le _) (by exact O77 hi)
 | a :: l, k + 1, r, h => by
  simp only [np_] at h
  (refine X1_2 (Option.map_eq_some_iff.mp h) fun q hq P=> ?_; subst P)
  refine X0_3 (dq_ hq) fun g f h3=> ?_
  refine I0_3 (by exact O66 g) (by exact f) (fun i hk hi=> ?_)
  cases i with
  | zero => exact (O78 hk).elim
  | succ i => exact h3 i (by exact Nat.le_of_lt_succ hk) (by exact O77 hi)
theorem fl_ {c:Nat}:∀{l:List Nat} {k:Nat},fnd c l k=none→∀i,k≤i→l[i]? ≠some c
 | [], _, _, i, _ => by simp
 | a :: l, 0, h, i, hi => by
  simp only [nq_] at h
  by_cases e:a=c
  ·rw [if_pos e] at h; contradiction
  ·rw [if_neg e] at h
   have f:=fl_ (Option.map_eq_none_iff.mp h)
   cases i with
   | zero => simpa using e
   | succ i => exact f i (Nat.zero_le _)
 | a :: l, k + 1, h, i, hi => by
  simp only [np_] at h
  have f:=fl_ (Option.map_eq_none_iff.mp h)
  cases i with
  | zero => exact (O78 hi).elim
  | succ i => exact f i (by exact Nat.le_of_lt_succ hi)
theorem jK_ (x:Str)(c i hi:Nat)(Q:hi≤x.length):StrLaws.At x ⟨#[c]⟩ hi i↔i < hi∧x.cps.toList[i]? =some c:=by
 have h:=StrLaws.subAt_one x c i
 have e:(⟨#[c]⟩:Str).length=1:=rfl
 unfold StrLaws.At
 rw [e] at h ⊢
 constructor
 ·rintro ⟨g,f⟩
  exact ⟨by exact Nat.lt_of_succ_le g,h.mp ⟨by exact Nat.le_trans g Q,f⟩⟩
 ·rintro ⟨g,f⟩
  exact ⟨by exact Nat.succ_le_of_lt g,(h.mpr f).2⟩
theorem hw_ (x y:Str)(lo hi:Nat):
  (Builtin.Str.occurrences x y lo hi 1= []∧∀i,lo≤i→¬StrLaws.At x y hi i)∨
  ∃i r,Builtin.Str.occurrences x y lo hi 1=i::r∧lo≤i∧StrLaws.At x y hi i∧∀k,lo≤k→k < i→¬StrLaws.At x y hi k:=by
 refine sb (StrLaws.occ_eq ..) ?_
 rcases StrLaws.occ_first x y hi 1 (Nat.le_refl _) (List.range' lo (hi+1 - lo)) lo (fun i hi=>by have:=List.mem_range'_1.mp hi; exact O83 this) with ⟨v,A⟩ | ⟨N,a,I,e,v,ha,A⟩
 ·refine .inl ⟨by exact sb v rfl,fun i u hi=> ?_⟩
  exact A i (by have:=hi.1; rw [List.mem_range'_1]; exact O84 u this) hi
 ·have K:=StrLaws.range'_split_from e
  generalize (forIn (List.range' lo (hi+1 - lo)) ((#[]:Array Nat),lo) (StrLaws.occBody x y hi 1)).run.fst=arr at v
  have g:arr.toList[0]? =some a:=by simpa using v
  cases M:arr.toList with
  | nil => rw [M] at g; cases g
  | cons b t=>
   rw [M] at g
   simp at g
   subst g
   exact .inr (I2_4 b t rfl K.1 ha (fun k G hk=>A k (K.2 k G hk)))
theorem kL_ {x:Str}{c o m k:Nat}{B:List Nat}(E:o+m≤x.length)(L:B.length=m)(hw:∀i,i < m→x.cps.toList[o+i]? =B[i]?):
  gU_ x (lS [c]) ((o+k:Nat):Int) ((o+m:Nat):Int)=match fnd c B k with | none=> -1 | some r=>((o+r:Nat):Int):=by
 unfold gU_
 have O:fromIndex x.length ((o+k:Nat):Int)=o+k:=by unfold fromIndex; exact sb (if_neg (by exact O85)) O86
 have R:fromIndex x.length ((o+m:Nat):Int)=o+m:=by unfold fromIndex; exact sb (if_neg (by exact O85)) O86
 refine sb O (sb R (sb (Nat.min_eq_left E) ?_))
 have e:(lS [c]:Str)=⟨#[c]⟩:=rfl
 refine sb e ?_
 rcases hw_ x ⟨#[c]⟩ (o+k) (o+m) with ⟨v,A⟩ | ⟨i,r,v,u,ha,A⟩
 ·refine sb v ?_
  cases D:fnd c B k with
  | none => rfl
  | some r=>
   refine X0_3 (dq_ D) fun g f _=> ?_
   have hr:r < m:=by refine sy L ?_; exact (List.getElem?_eq_some_iff.mp f).1
   exact absurd ((jK_ x c (o+r) (o+m) E).mpr ⟨by exact O87 hr,by exact sb (hw r hr) f⟩) (A _ (by exact O88 g))
 ·refine sb v ?_
  refine X0_2 ((jK_ x c i (o+m) E).mp ha) fun hi hc=> ?_
  obtain ⟨j,rfl⟩:∃j,i=o+j:=⟨i - o,by exact O89 u⟩
  have J:B[j]? =some c:=by exact sy (hw j (by exact Nat.lt_of_add_lt_add_left hi)) hc
  cases D:fnd c B k with
  | none => exact absurd J (fl_ D j (by exact O91 u))
  | some r=>
   refine X0_3 (dq_ D) fun g f h3=> ?_
   have hr:r < m:=by refine sy L ?_; exact (List.getElem?_eq_some_iff.mp f).1
   have:r=j:=by
    rcases Nat.lt_trichotomy r j with q | q | q
    ·exact absurd ((jK_ x c (o+r) (o+m) E).mpr ⟨by exact O87 hr,by exact sb (hw r hr) f⟩) (A _ (by exact O88 g) (by exact O87 q))
    ·exact q
    ·exact absurd J (h3 j (by exact O91 u) q)
   subst this
   rfl
noncomputable def subL (l:List Nat):List Nat:=l.flatMap fun c=>if isSp c=true then [92,c] else [c]
theorem j0_ (a b:List Nat):subL (a++b)=subL a++subL b:=by simp [subL]
theorem eh_:∀l:List Nat,(∀c∈l,isSp c=false)→subL l=l
 | [], _ => rfl
 | k :: r, h => by
  have t:=h k mQ
  have m:=eh_ r fun c hc=>h c (tQ hc)
  unfold subL at m ⊢
  refine sb List.flatMap_cons (sb t (sb m ?_)); rfl
theorem ez_ {text:Array Nat}{lim:Nat}:∀{n s:Nat},lim≤n+s→(match bx_ text lim n s with
  | none => ∀j,s≤j→j < lim→isSp (text.getD j 0)=false
  | some p => ∀j,s≤j→j < p→isSp (text.getD j 0)=false)
 | 0, s, h => by intro j t m; exact (O92 m h t).elim
 | n + 1, s, h => by
  rw [cQ_]
  by_cases t:s≥lim
  ·rw [if_pos t]; intro j m h3; exact (O93 h3 m t).elim
  ·rw [if_neg t]
   by_cases m:isSp (text.getD s 0)=true
   ·rw [if_pos m]; intro j h3 w; exact (O6 w h3).elim
   ·rw [if_neg m]
    have x:=ez_ (text:=text) (lim:=lim) (n:=n) (s:=s+1) (by exact O94 h)
    have F:isSp (text.getD s 0)=false:=by simpa using m
    cases v:bx_ text lim n (s+1) with
    | none=>
     rw [v] at x
     intro j h3 w
     rcases Nat.eq_or_lt_of_le h3 with rfl | h3
     ·exact F
     ·exact x j h3 w
    | some p=>
     rw [v] at x
     intro j h3 w
     rcases Nat.eq_or_lt_of_le h3 with rfl | h3
     ·exact F
     ·exact x j h3 w
theorem dI_ (a:Array Nat)(i j:Nat):(a.extract i j).toList=(a.toList.drop i).take (j - i):=by simp
theorem f7_ {text:Array Nat}{i p:Nat}(hp:p≤text.size)(h:∀j,i≤j→j < p→isSp (text.getD j 0)=false):∀c∈(text.toList.drop i).take (p - i),isSp c=false:=fun c hc=>by
 obtain ⟨k,hk,rfl⟩:=List.mem_iff_getElem.mp hc
 rw [List.length_take,List.length_drop,Array.length_toList] at hk
 have:=h (i+k) (by exact O95) (by exact O96 hk)
 refine sb List.getElem_take (sb List.getElem_drop ?_)
 have hik:i+k < text.toList.length:=by simp only [Array.length_toList]; exact O97 hk
 have e:text.getD (i+k) 0=text.toList[i+k]'hik:=by
  refine sb (Array.getD_eq_getD_getElem?) (sb (Array.getElem?_eq_getElem (by omega)) ?_); rfl
 rw [e] at this
 exact this
theorem fJ_ (text:Array Nat):∀n i,text.size+1≤n+i→i≤text.size→((subP text n i).map fun y=>y.cps.toList).flatten=subL (text.toList.drop i)
 | 0, i, h, hi => by exact (O99 h hi).elim
 | n + 1, i, h, hi => by
  have hm:=ez_ (text:=text) (lim:=text.size) (n:=text.size+1 - i) (s:=i) (by exact O100)
  simp only [is_]
  cases v:bx_ text text.size (text.size+1 - i) i with
  | none=>
   rw [v] at hm
   dsimp only [Option.elim_none] at hm ⊢
   have g:=f7_ (Nat.le_refl _) hm
   have e:(text.toList.drop i).take (text.size - i)=text.toList.drop i:=List.take_of_length_le (by simp only [List.length_drop,Array.length_toList]; exact Nat.le.refl)
   rw [e] at g
   refine sb (eh_ _ g) ?_
   by_cases o:i < text.size
   ·refine sb (if_pos o) ?_
    refine (?_:([(text.extract i text.size).toList]).flatten=_)
    refine sb (dI_ ..) (sb (e ..) ?_); simp
   ·refine sb (if_neg o) (sb (List.drop_of_length_le (by simp only [Array.length_toList]; exact Nat.le_of_not_lt o)) ?_); rfl
  | some p=>
   rw [v] at hm
   dsimp only [Option.elim_some] at hm ⊢
   obtain ⟨hp,C⟩:=dH_ v
   have B:=dG_ v
   have g:=f7_ (Nat.le_of_lt hp) hm
   have z:text.toList.drop i=(text.toList.drop i).take (p - i)++text.toList.drop p:=by
    have t:=List.take_append_drop (p - i) (text.toList.drop i)
    rw [List.drop_drop,show i+(p - i)=p by exact Nat.add_sub_of_le B] at t
    exact t.symm
   have D:p < text.toList.length:=by simp only [Array.length_toList]; exact hp
   have u:text.toList.drop p=text.toList[p]::text.toList.drop (p+1):=List.drop_eq_getElem_cons D
   have E:text.getD p 0=text.toList[p]:=by
    refine sb (Array.getD_eq_getD_getElem?) (sb (Array.getElem?_eq_getElem hp) ?_); rfl
   have x:=fJ_ text n (p+1) (by exact O104 h B) (by exact Nat.succ_le_of_lt hp)
   refine sb (z ..) (sb (j0_ ..) (sb (eh_ _ g ..) (sb (u ..) ?_)))
   have A:subL (text.toList[p]::text.toList.drop (p+1))=92::text.toList[p]::subL (text.toList.drop (p+1)):=by
    rw [E] at C
    unfold subL
    refine sb List.flatMap_cons (sb (if_pos C) ?_); rfl
   refine sb A (sy x ?_)
   have q:(("\\" ++(⟨text.extract p (p+1)⟩:Str)):Str).cps.toList= [92,text.toList[p]]:=by
    refine (?_:(("\\" :Str).cps++text.extract p (p+1)).toList=_)
    refine sb (Array.toList_append ..) (sb (dI_ ..) (sb (u ..) ?_))
    have:("\\" :Str).cps.toList= [92]:=by decide
    refine sb this (sb (show p+1 - p=1 by exact O105) ?_); rfl
   by_cases o:i < p
   ·refine sb (if_pos o) ?_
    have m:=List.map_cons (f:=fun y:Str=>y.cps.toList) (a:=(("\\" ++(⟨text.extract p (p+1)⟩:Str)):Str)) (l:=subP text n (p+1))
    simp only [List.map_append,List.flatten_append,m,List.flatten_cons,q]
    refine (?_:([(text.extract i p).toList]).flatten++_=_)
    refine sb (dI_ ..) ?_; simp
   ·refine sb (if_neg o) ?_
    have:p - i=0:=by exact Nat.sub_eq_zero_of_le (Nat.le_of_not_lt o)
    refine sb this ?_
    simp only [List.map_append,List.flatten_append,List.map_cons,List.flatten_cons,q]
    rfl
theorem lE_ (l:List Nat):subF (lS l)=lS (subL l):=by
 unfold subF
 have t:=fJ_ (lS l).cps ((lS l).length+1) 0 (Nat.le_refl _) (Nat.zero_le _)
 have m:=fk_ [] ((subP (lS l).cps ((lS l).length+1) 0).map fun y=>y.cps.toList)
 rw [List.map_map] at m
 have h3:(lS ∘ fun y:Str=>y.cps.toList)=id:=by funext y; rfl
 rw [h3,List.map_id,f4_,t] at m
 have w:(lS []:Str)= "" :=rfl
 rw [w] at m
 refine sb m ?_
 rfl
end Mine
end
section
namespace Mine
noncomputable def bK0 (B:List Nat):Nat:=if B.getD 0 0=33 then 2 else 1
noncomputable def ia_ (B:List Nat):Nat→List (List Nat)→Nat→Nat→List (List Nat)×Nat
 | 0, acc, i, _ => (acc,i)
 | n + 1, acc, i, k => (fnd 45 B k).elim (acc,i) fun r=>ia_ B n (acc++ [(B.drop i).take (r - i)]) (r+1) (r+3)
theorem jz_:ia_ B (n+1) acc i k=(fnd 45 B k).elim (acc,i) fun r=>ia_ B n (acc++ [(B.drop i).take (r - i)]) (r+1) (r+3):=rfl
noncomputable def chR (B:List Nat):List (List Nat)×Nat:=ia_ B (B.length+1) [] 0 (bK0 B)
noncomputable def bR_ (B:List Nat):List (List Nat):=
 if (B.drop (chR B).2).isEmpty then (chR B).1.set ((chR B).1.length - 1) ((chR B).1.getD ((chR B).1.length - 1) []++ [45]) else (chR B).1++ [B.drop (chR B).2]
noncomputable def mgT (l:List (List Nat))(k:Nat):Bool:=decide ((l.getD k []).getD 0 0 < (l.getD (k - 1) []).getLastD 0)
noncomputable def es_ (l:List (List Nat))(k:Nat):List (List Nat):=
 if mgT l k=true then (l.set (k - 1) ((l.getD (k - 1) []).dropLast++(l.getD k []).drop 1)).eraseIdx k else l
noncomputable def mgN (l:List (List Nat)):Nat→List (List Nat)
 | 0 => l
 | i + 1 => es_ (mgN l i) (l.length - 1 - i)
noncomputable def nO_ (l:List (List Nat)):List (List Nat):=mgN l (l.length - 1)
noncomputable def okMg (l:List (List Nat)):Bool:=(List.range (l.length - 1)).all fun i=>
 decide (l.length - 1 - i < (mgN l i).length) && (!((mgN l i).getD (l.length - 1 - i - 1) []).isEmpty && !((mgN l i).getD (l.length - 1 - i) []).isEmpty)
noncomputable def esc2 (c:List Nat):List Nat:=repL 45 [92,45] (repL 92 [92,92] c)
noncomputable def dy_ (B:List Nat):List Nat:=if 45∈B then je_ [45] ((nO_ (bR_ B)).map esc2) else repL 92 [92,92] B
noncomputable def aS_ (B:List Nat):List Nat:=subL (dy_ B)
noncomputable def dN_ (s:List Nat):List Nat:=if s.getD 0 0=33 then 94::s.drop 1 else if s.getD 0 0=94∨s.getD 0 0=91 then 92::s else s
noncomputable def outB (B:List Nat):List Nat:=if (aS_ B).isEmpty then [40,63,33,41] else if aS_ B= [33] then [46] else 91::(dN_ (aS_ B)++ [93])
noncomputable def bJ1 (B:List Nat):Nat:=if (B++ [93]).getD 0 0=33 then 1 else 0
noncomputable def bJ2 (B:List Nat):Nat:=if (B++ [93]).getD (bJ1 B) 0=93 then bJ1 B+1 else bJ1 B
noncomputable def okB (B:List Nat):Bool:=((decide (1≤B.length) && decide (B.length≤60)) && (decide ((dy_ B).length≤900) && decide ((aS_ B).length≤900))) && ((decide (bJ2 B≤B.length) && (B.drop (bJ2 B)).all fun c=>c !=93) &&
 (!decide (45∈B) || ((decide ((chR B).2≤B.length) && (!(B.drop (chR B).2).isEmpty || !(chR B).1.isEmpty)) && (okMg (bR_ B) && ((List.range ((bR_ B).length)).all fun i=>(mgN (bR_ B) i).all fun c=>decide (c.length≤200))))))
set_option genCtorIdx true in
inductive It where
 | star | quest | one (c:Nat) | brk (B:List Nat)
noncomputable def It.txt:It→List Nat
 | .star => [42] | .quest=> [63] | .one c=> [c] | .brk B=>91::(B++ [93])
noncomputable def It.out (esc:Nat→List Nat):It→Option (List Nat)
 | .star => none | .quest=>some [46] | .one c=>some (esc c) | .brk B=>some (outB B)
noncomputable def trO (esc:Nat→List Nat):List It→List (Option (List Nat))→List (Option (List Nat))
 | [], acc => acc
 | .star :: r, acc => trO esc r (if acc.getLast? =some none then acc else acc++ [none])
 | it :: r, acc => trO esc r (acc++ [it.out esc])
theorem mV_:trO esc (.star::r) acc=trO esc r (if acc.getLast? =some none then acc else acc++ [none]):=rfl
noncomputable def aA_ (its:List It):List Nat:=its.flatMap It.txt
structure OkB (B:List Nat):Prop where
 l1:1≤B.length
 l60:B.length≤60
 b1:(dy_ B).length≤900
 b2:(aS_ B).length≤900
 j2:bJ2 B≤B.length
 cl:∀i,bJ2 B≤i→i < B.length→B.getD i 0≠93
 r2:45∈B→(chR B).2≤B.length
 ne:45∈B→B.drop (chR B).2= []→(chR B).1≠[]
 mg:45∈B→∀i,i < (bR_ B).length - 1→(bR_ B).length - 1 - i < (mgN (bR_ B) i).length∧(mgN (bR_ B) i).getD ((bR_ B).length - 1 - i - 1) []≠[]∧(mgN (bR_ B) i).getD ((bR_ B).length - 1 - i) []≠[]
 ln:45∈B→∀i,i < (bR_ B).length→∀c∈mgN (bR_ B) i,c.length≤200
theorem OkB.of {B:List Nat}(h:okB B=true):OkB B:=by
 unfold okB at h
 simp only [Bool.and_eq_true,decide_eq_true_eq] at h
 obtain ⟨⟨⟨E,I⟩,h3,F⟩,⟨C,J⟩,u⟩:=h
 have p:45∈B→((chR B).2≤B.length∧(B.drop (chR B).2= []→(chR B).1≠[]))∧okMg (bR_ B)=true∧((List.range ((bR_ B).length)).all fun i=>(mgN (bR_ B) i).all fun c=>decide (c.length≤200))=true:=fun hm=>by
  rw [decide_eq_true hm] at u
  simp only [Bool.not_true,Bool.false_or,Bool.and_eq_true,decide_eq_true_eq] at u
  refine I0_3 ⟨u.1.1,fun e q=> ?_⟩ u.2.1 u.2.2
  have:=u.1.2
  rw [e,q] at this
  exact absurd this (by decide)
 refine ⟨E,I,h3,F,C,fun i hi y e=> ?_,fun hm=>(p hm).1.1,fun hm=>(p hm).1.2,fun hm i hi=> ?_,fun hm i hi c hc=> ?_⟩
 ·have w:=List.all_eq_true.mp J 93 (by
   rw [List.mem_iff_getElem]
   refine ⟨i - bJ2 B,by exact sb List.length_drop (Nat.sub_lt_sub_right hi y), ?_⟩
   refine sb List.getElem_drop ?_
   have G:bJ2 B+(i - bJ2 B)=i:=by exact Nat.add_sub_of_le hi
   simp only [G]
   rw [List.getD_eq_getElem?_getD,List.getElem?_eq_getElem y] at e
   exact e)
  exact absurd w (by decide)
 ·have w:=List.all_eq_true.mp (p hm).2.1 i (List.mem_range.mpr hi)
  simp only [Bool.and_eq_true,decide_eq_true_eq,Bool.not_eq_true',List.isEmpty_eq_false_iff] at w
  exact w
 ·have w:=List.all_eq_true.mp (p hm).2.2 i (List.mem_range.mpr hi)
  exact of_decide_eq_true (List.all_eq_true.mp w c hc)
structure Win (f:Str)(o:Nat)(B:List Nat):Prop where
 len:o+1+B.length+1≤f.length
 get:∀i,i≤B.length→f.cps.toList[o+1+i]? =(B++ [93])[i]?
theorem Win.of {f:Str}{t B x:List Nat}(h:f.cps.toList=t++((91::(B++ [93]))++x)):Win f t.length B where
 len:=by
  have:f.length=f.cps.toList.length:=rfl
  refine sb this (sb h ?_); simp; exact O108
 get:=fun i hi=>by
  exact sb h (sb (List.getElem?_append_right (by exact O109)) (sb (show t.length+1+i - t.length=i+1 by exact O110) (sb List.cons_append (sb (List.getElem?_cons_succ) (sb (List.getElem?_append_left (by simp; exact Nat.lt_succ_of_le hi)) rfl)))))
theorem Win.at_ {f:Str}{o:Nat}{B:List Nat}(W:Win f o B){i:Nat}(hi:i≤B.length):six f ((o+1+i:Nat):Int)=chS ((B++ [93]).getD i 0):=by
 exact sb (bS_ ..) (sb (List.getD_eq_getElem?_getD ..) (sb (W.get i hi ..) (sb (List.getD_eq_getElem?_getD ..) rfl)))
theorem Win.sub {f:Str}{o:Nat}{B:List Nat}(W:Win f o B){a b:Nat}(z:a≤b)(hb:b≤B.length):ssl f (some ((o+1+a:Nat):Int)) (some ((o+1+b:Nat):Int)) none=lS ((B.drop a).take (b - a)):=by
 have y:=W.len
 refine sb (gw_ f (by exact (fun {m k n}=>Nat.add_le_add_iff_left.mpr) z) (by exact O113 y hb)) ?_
 apply congrArg lS
 refine sb (show o+1+b - (o+1+a)=b - a by exact O114) ?_
 apply List.ext_getElem?
 intro j
 refine sb (List.getElem?_take) (sb (List.getElem?_take) ?_)
 by_cases v:j < b - a
 ·exact sb (if_pos v) (sb (if_pos v) (sb (List.getElem?_drop) (sb (List.getElem?_drop) (sb (show o+1+a+j=o+1+(a+j) by exact O115) (sb (W.get (a+j) (by exact O116 v hb)) (sb (List.getElem?_append_left (by exact O117 v hb)) rfl))))))
 ·exact sb (if_neg v) (sb (if_neg v) rfl)
theorem Win.find {f:Str}{o:Nat}{B:List Nat}(W:Win f o B)(k:Nat):gU_ f (lS [45]) ((o+1+k:Nat):Int) ((o+1+B.length:Nat):Int)=match fnd 45 B k with | none=> -1 | some r=>((o+1+r:Nat):Int):=
 kL_ (by have:=W.len; exact Nat.le_of_succ_le this) rfl fun i hi=>by exact sb (W.get i (by exact Nat.le_of_succ_le hi)) (sb (List.getElem?_append_left hi) rfl)
theorem LS.hp {g:GC}{D:Heap}{env:Env}{Xo:Addr→Prop}{H A:List Addr}{σ:List (Str×PV)}{ω:List (Addr×OC)}{s:Shared}(S:LS g D env Xo H A σ ω s):Xo g.Pt:=by
 rcases S.loc.ptX with h | h
 ·exact h
 ·exact absurd rfl (S.gM _ h).2
end Mine
end
section
namespace Mine
noncomputable def tkP (st:Addr):Option Str→PV | none=> .ref st | some x=> .str x
noncomputable def tkS:List (Option Str)→Bool | some _::_=>true | _=>false
noncomputable def bf_:List (Option Str)→List Str | some x::r=>x::bf_ r | _=> []
theorem gP_:bf_ (some x::r)=x::bf_ r:=rfl
noncomputable def bV_:List (Option Str)→List (Option Str) | some x::r=>bV_ r | r=>r
noncomputable def cN_ (fx:Str):Str:= "(?>.*?" ++(fx++(")" ++(⟨#[]⟩:Str)))
noncomputable def ew_:Nat→List (Option Str)→List Str→Option (List Str)
 | 0, _, _ => none
 | n + 1, z, acc => match z with
  | [] => some acc
  | some _ :: _ => none
  | none :: [] => some (acc++ [(".*" :Str)])
  | none :: none :: _ => none
  | none :: some x :: r => ew_ n (bV_ (some x::r)) (if bV_ (some x::r)= [] then (acc++ [(".*" :Str)])++ [Txt.join "" (bf_ (some x::r))] else acc++ [cN_ (Txt.join "" (bf_ (some x::r)))])
noncomputable def jOut (R:List Str):Str:= "(?s:" ++(Txt.join "" R++(")\\Z" ++(⟨#[]⟩:Str)))
theorem eK_ {α:Type}{l z:List α}{i:Nat}(h:z=l.drop i){x:α}{r:List α}(e:z=x::r):l[i]? =some x∧r=l.drop (i+1)∧i < l.length:=by
 have h1:l.drop i=x::r:=by exact sy h (sb e rfl)
 have hi:i < l.length:=by
  rcases Nat.lt_or_ge i l.length with q | q
  ·exact q
  ·rw [List.drop_of_length_le q] at h1; contradiction
 rw [List.drop_eq_getElem_cons hi] at h1
 injection h1 with h2 h3
 exact I0_3 (by refine sy h2 ?_; simp [hi]) h3.symm hi
theorem ii_ {l:List (Option Str)}{st:Addr}{i:Nat}{x:Option Str}(h:l[i]? =some x):at? (l.map (tkP st)) (i:Int)=some (tkP st x):=by
 have hi:=(List.getElem?_eq_some_iff.mp h).1
 unfold at?
 simp only [List.length_map,bw_ (by exact O203 hi),Option.bind_some]
 have:(if ((i:Int) < 0) then (i:Int)+(l.length:Int) else i).toNat=i:=by refine sb (if_neg (by exact O69)) ?_; rfl
 refine sb this (sb (List.getElem?_map) (sb h ?_))
 rfl
theorem jHT:∀l:List (Option Str),l=(bf_ l).map some++bV_ l
 | [] => rfl
 | none :: r => rfl
 | some x :: r => congrArg (some x:: ·) (jHT r)
theorem mg_ {acc:List Str}:ew_ (n+1) (none::some x::r) acc=ew_ n (bV_ (some x::r)) (if bV_ (some x::r)= [] then (acc++ [(".*" :Str)])++ [Txt.join "" (bf_ (some x::r))] else acc++ [cN_ (Txt.join "" (bf_ (some x::r)))]):=rfl
noncomputable abbrev jS (l:List (Option Str)) (st b:Addr) (i:Nat):List (Str×PV):= [("inp", .lst (l.map (tkP st))),("STAR", .ref st),("res", .ref b),("add", .mth "list.append" b),("i", .int i),("n", .int l.length)]
section
variable {g:GC}{k:Nat}{env:Env}{X:Addr→Prop}{σ:List (Str×PV)}{ω:List (Addr×OC)}
theorem ex_ {x:Str}:∀{l:List (Option Str)},x∈bf_ l→some x∈l
 | [], h => nomatch h
 | none :: r, h => nomatch h
 | some y :: r, h => by
  simp only [gP_] at h
  rcases List.mem_cons.mp h with rfl | h
  ·exact .head _
  ·exact .tail _ (ex_ h)
theorem f5_:∀l:List (Option Str),(bf_ l).length≤l.length
 | [] => Nat.le_refl _
 | none :: r => Nat.zero_le _
 | some y :: r => by simp only [gP_,List.length_cons,List.length_cons]; have:=f5_ r; exact O66 this
theorem io_ (G:g.Good){pm cd doc:Value}{L f:Addr}{l d:List (Option Str)}{st b:Addr}{i:Nat}{p1 p2 p3 p4 p5 p6 p7 p8 p9:Pos}(V:l.length≤60)(hd:d=l.drop i)(hi:i≤l.length)(bm:∀p∈jS l st b i,p∈σ):
  EvT g k (cenv 9 pm cd doc L f) X σ ω (.BoolOp .And [.Compare (.Name "i" p1) [.Lt] [.Name "n" p2] p3, .Compare (.Subscript (.Name "inp" p4) (.Name "i" p5) p6) [.IsNot] [.Name "STAR" p7] p8] p9) (tkS d):=by
 refine EvT.weak (σ':=jS l st b i) ?_ bm
 cases d with
 | nil=>
  have aE:l.length≤i:=List.drop_eq_nil_iff.mp hd.symm
  have e:tkS []=(decide ((i:Int) < l.length) && false):=(Bool.and_false _).symm
  refine sb e ?_
  exact b7_ (ai_ (aa_ (iX 4 rfl)) (aa_ (iX 5 rfl)) cq_) (fun h=>by have:=of_decide_eq_true h; exact (O243 this aE).elim)
 | cons x r=>
  obtain ⟨h1,h2,h3⟩:=eK_ hd rfl
  have aW:decide ((i:Int) < l.length)=true:=decide_eq_true (by exact O145 h3)
  cases x with
  | none=>
   have e:tkS (none::r)=(decide ((i:Int) < l.length) && false):=by refine sb aW ?_; rfl
   refine sb e ?_
   exact b7_ (ai_ (aa_ (iX 4 rfl)) (aa_ (iX 5 rfl)) cq_) (fun _=>ai_ (ay_ (aa_ (iX 0 rfl)) (aa_ (iX 4 rfl)) (by exact O244 h3 V) (ii_ h1)) (aa_ (iX 1 rfl)) ct_)
  | some x=>
   have e:tkS (some x::r)=(decide ((i:Int) < l.length) && true):=by refine sb aW ?_; rfl
   refine sb e ?_
   exact b7_ (ai_ (aa_ (iX 4 rfl)) (aa_ (iX 5 rfl)) cq_) (fun _=>ai_ (ay_ (aa_ (iX 0 rfl)) (aa_ (iX 4 rfl)) (by exact O244 h3 V) (ii_ h1)) (aa_ (iX 1 rfl)) cJ_)
theorem jd_ (G:g.Good)(N:GN g){f:Addr}{pm cd doc:Value}(F:FnAt g f 9 pm cd doc){l:List (Option Str)}{st:Addr}{R:List Str}(V:l.length≤60)(hx:∀x,some x∈l→x.length≤1100)(hR:ew_ (l.length+1) (bV_ l) (bf_ l)=some R):
  aC_ g (k+1) f [.lst (l.map (tkP st)), .ref st] (.str (jOut R)):=by
 refine aP_ G F ["inp","STAR"] rfl (fun vs bn=> ?_) (by decide) (fun m x hx=> ?_) (by decide) (fun A s₀ bv Xo L M E a hp S=> ?_)
 ·exact v2 (P:=fun vs=>bindArgs _ ⟨vs,[]⟩=pure (List.zip _ vs)) (fun v u=>rfl) vs bn
 ·rcases List.mem_cons.mp hx with rfl | hx
  ·exact .inl rfl
  ·rcases List.mem_cons.mp hx with rfl | hx
   ·exact .inl rfl
   ·exact (nomatch hx)
 ·conv=>arg 4; whnf
  refine bA_ (pvs:=txts []) G S a ag_ kL (fun b am hb w=> ?_) (by decide)
  refine eU_ G w a ab_ mQ kL (fun a2 K=> ?_)
  refine iu_ (p:= .int ((0:Nat):Int)) (q:= .int (l.length:Int)) G K a (cd_ G (ac_ (ad_ G) (ac_ (ar_ (bW_ G N.len) (ac_ (aa_ (uQ (uQ (iX 0 rfl)))) ag_) (eW_ G (by exact O245 V))) ag_)) (by refine (?_:(2:Nat)≤sizeLine); decide)) kL kL (fun bs aw=> ?_)
  have au:=aw.as (jS l st b 0) sq
  refine cD_ (D:=List (Option Str)) (I:=fun s'=>∃i,i≤l.length∧bV_ l=l.drop i∧(bf_ l).length≤i∧LS g s₀ (cenv 9 pm cd doc L f) Xo [] (b::M) (jS l st b i) [(b, .lst (txts (bf_ l)))] s')
   (P:=fun d σ ω=>∃i acc,ω= [(b, .lst (txts acc))]∧d=l.drop i∧i≤l.length∧acc++bf_ d=bf_ l∧bV_ d=bV_ l∧acc.length≤i∧(∀p∈jS l st b i,p∈σ))
   (m:=fun d=>d.length) (tb:=tkS) (B:=fun _ _=>False) (o:=bP_) au a l ⟨0,[],rfl,rfl,Nat.zero_le _,rfl,rfl,Nat.le_refl _,fun _ h=>h⟩
   (fun d c t O X=> ?_) (fun d c t ap Y ah a1 bj O T H=> ?_) (fun d c t a1 O T H=> ?_) (fun _ _ _ h=>h.elim) (fun v σ' s' S' r=>(aK_ r).elim) (fun aQ hI=> ?_)
  ·obtain ⟨i,acc,rfl,hd,hi,h3,U,h5,h6⟩:=O
   exact io_ G V hd hi h6
  ·obtain ⟨i,acc,rfl,hd,hi,h3,U,h5,h6⟩:=O
   match d,T with
   | some x::r,_=>
   obtain ⟨q1,q2,q3⟩:=eK_ hd rfl
   have af:=H.as _ h6
   refine wpQ fun Q hQ=> ?_
   refine cE_ (p:= .str x) G af a (iX 3 rfl) mQ (ay_ (aa_ (iX 0 rfl)) (aa_ (iX 4 rfl)) (by exact O244 q3 V) (ii_ q1)) (by refine sb (List.length_map ..) ?_; simp only [sizeLine]; exact O246 h5 q3 V) (fun am w=> ?_)
   rw [bK_,bd_] at w
   refine cz_ (o:= .int ((i+1:Nat):Int)) G w a (iX 4 rfl) (ad_ G) (cj_ G) kL (fun a2 K=> ?_)
   refine af_ (hQ _ _ (I3_3 [] _ _ ⟨r,by refine (?_:r.length < r.length+1); exact O212,i+1,acc++ [x],rfl,q2,q3,by exact sb (List.append_assoc ..) h3,U,by refine sb List.length_append ?_; refine (?_:acc.length+1≤_); exact O66 h5,sq⟩ K (fun d oc hd=> ?_)))
   rcases List.mem_cons.mp hd with hd | hd
   ·cases hd
    rcases K.oM b _ mQ with h | h
    ·exact h
    ·exact (nomatch h)
   ·exact (nomatch hd)
  ·obtain ⟨i,acc,rfl,hd,hi,h3,U,h5,h6⟩:=O
   have e1:bf_ d= []:=by
    cases d with
    | nil => rfl
    | cons x r => cases x with | none=>rfl | some x=>contradiction
   have e2:bV_ d=d:=by
    cases d with
    | nil => rfl
    | cons x r => cases x with | none=>rfl | some x=>contradiction
   rw [e1,List.append_nil] at h3
   rw [e2] at U
   subst h3
   exact I1_4 i hi (by exact sy U hd) h5 (H.as _ h6)
  ·obtain ⟨aR,aA,aC,a7,ax⟩:=hI
   have aJ:∀{y:Str},some y∈l→y.length≤1100:=fun {y} h=>hx y h
   refine cD_ (D:=Nat×List (Option Str)×List Str) (I:=fun s'=>R.length≤60∧(∀y∈R,y.length≤70000)∧LS g s₀ (cenv 9 pm cd doc L f) Xo [] (b::M) (jS l st b l.length) [(b, .lst (txts R))] s')
    (P:=fun d σ ω=>∃i,ω= [(b, .lst (txts d.2.2))]∧d.2.1=l.drop i∧i≤l.length∧ew_ d.1 d.2.1 d.2.2=some R∧d.2.2.length≤i∧(∀y∈d.2.2,y.length≤70000)∧(∀p∈jS l st b i,p∈σ))
    (m:=fun d=>d.1) (tb:=fun d=> !d.2.1.isEmpty) (B:=fun σ ω=>ω= [(b, .lst (txts R))]∧R.length≤60∧(∀y∈R,y.length≤70000)∧(∀p∈jS l st b l.length,p∈σ)) (o:=bP_) ax a (l.length+1,bV_ l,bf_ l)
    ⟨aR,rfl,aC,aA,hR,a7,fun y hy=>by have:=aJ (ex_ hy); exact Nat.le_trans this (Nat.le_of_ble_eq_true rfl),fun _ h=>h⟩
    (fun d c t O X=> ?_) (fun d c t ap Y ah a1 bj O T H=> ?_) (fun d c t a1 O T H=> ?_) (fun c t a1 hB H=> ?_) (fun v σ' s' S' r=>(aK_ r).elim) (fun aV hI=> ?_)
   ·obtain ⟨i,rfl,hd,hi,h3,U,h5,h6⟩:=O
    have e:(!d.2.1.isEmpty)=decide ((i:Int) < l.length):=by
     refine sb hd ?_
     by_cases q:i < l.length
     ·refine sb (decide_eq_true (by exact O145 q)) (sb (List.drop_eq_getElem_cons q) ?_); rfl
     ·refine sb (decide_eq_false (by exact O248 q)) (sb (List.drop_of_length_le (by exact Nat.le_of_not_lt q)) ?_); rfl
    refine sb e ?_
    exact EvT.weak (σ':=jS l st b i) (ai_ (aa_ (iX 4 rfl)) (aa_ (iX 5 rfl)) cq_) h6
   ·obtain ⟨n,z,acc⟩:=d
    obtain ⟨i,rfl,hd,hi,h3,U,h5,h6⟩:=O
    dsimp only at hd h3 U h5 T H
    cases n with
    | zero => cases h3
    | succ n=>
    rcases z with _ | ⟨_ | x,r⟩
    ·contradiction
    rotate_left
    ·cases h3
    obtain ⟨q1,q2,q3⟩:=eK_ hd rfl
    have af:=H.as _ h6
    have aD:b∈ah:=by rcases af.oM b _ mQ with h | h; exact h; exact (nomatch h)
    refine wpQ fun Q hQ=> ?_
    refine di_ af a (ai_ (ay_ (aa_ (iX 0 rfl)) (aa_ (iX 4 rfl)) (by exact O244 q3 V) (ii_ q1)) (aa_ (iX 1 rfl)) hY_) (fun am w=> ?_)
    refine cz_ (o:= .int ((i+1:Nat):Int)) G w a (iX 4 rfl) (ad_ G) (cj_ G) kL (fun a2 K=> ?_)
    have aw:=K.as (jS l st b (i+1)) sq
    refine aX_ (b:=(((i+1:Nat):Int)==(l.length:Int))) aw a (ai_ (aa_ (iX 4 rfl)) (aa_ (iX 5 rfl)) ca_) (fun a0 s' S'=> ?_) (fun a0 bt au=> ?_)
    ·have hn:i+1=l.length:=by have h0:(((i+1:Nat):Int))=(l.length:Int):=eq_of_beq a0; exact (fun {m n}=>Int.ofNat_inj.mp) h0
     have hr:r= []:=by exact sb q2 (List.drop_of_length_le (by exact Nat.le_of_eq (id (Eq.symm hn))))
     subst hr
     cases h3
     refine cE_ (p:= .str ".*") G S' a (iX 3 rfl) mQ (ah_ G) (by refine sb (List.length_map ..) ?_; simp only [sizeLine]; exact O251 U hn V) (fun am w=> ?_)
     rw [bK_,bd_] at w
     refine d9_ (hQ _ _ (I3_3 [] _ _ ⟨rfl,by refine sb List.length_append ?_; refine (?_:acc.length+1≤_); exact O252 U hn V,fun y hy=> ?_,by exact sy hn (fun _ h=>h)⟩ w (fun d oc hd=> ?_)))
     ·rcases List.mem_append.mp hy with hy | hy
      ·exact h5 y hy
      ·rcases List.mem_cons.mp hy with rfl | hy
       ·decide
       ·exact (nomatch hy)
     ·rcases List.mem_cons.mp hd with hd | hd
      ·cases hd; exact aD
      ·exact (nomatch hd)
    ·have hn:i+1≠l.length:=fun e=>by rw [e] at a0; simp at a0
     refine af_ ?_
     rcases r with _ | ⟨_ | x,r'⟩
     ·have:=congrArg List.length q2
      rw [List.length_drop] at this
      simp at this
      exact (O253 this hn q3).elim
     ·cases h3
     obtain ⟨C,aq⟩:∃C,C=some x::r':=⟨_,rfl⟩
     obtain ⟨p1,p2,p3⟩:=eK_ q2 rfl
     have aT:(bf_ C).length≤60:=by
      have h1:=f5_ C
      have h2:=congrArg List.length q2
      rw [← aq,List.length_drop] at h2
      exact Nat.le_trans h1 (h2▸Nat.le_trans (Nat.sub_le _ _) V)
     have a_:∀y∈bf_ C,y.length≤1100:=fun y hy=>aJ (by
      have h1:=ex_ hy
      rw [aq,q2] at h1
      exact List.mem_of_mem_drop h1)
     rw [mg_,← aq] at h3
     refine di_ au a (ai_ (ay_ (aa_ (iX 0 rfl)) (aa_ (iX 4 rfl)) (by exact O255 p3 V) (ii_ p1)) (aa_ (iX 1 rfl)) cJ_) (fun aQ ax=> ?_)
     refine bA_ (pvs:=txts []) G ax a ag_ kL (fun b2 aV bc ay=> ?_) (by decide)
     have bi:b≠b2:=fun e=>bc (.inr (.inl (e▸aD)))
     have ac:∀{oc oc' oc2:OC},setω b2 oc [(b2,oc'),(b,oc2)]= [(b2,oc),(b,oc2)]:=by intro oc oc' oc2; simp [setω,bi]
     refine cD_ (D:=List (Option Str)) (I:=fun s'=>LS g ap (cenv 9 pm cd doc L f) Y ah [b2] (("fixed", .ref b2)::jS l st b (i+1+(bf_ C).length)) [(b2, .lst (txts (bf_ C))),(b, .lst (txts acc))] s'∧bV_ C=l.drop (i+1+(bf_ C).length)∧i+1+(bf_ C).length≤l.length)
      (P:=fun d σ ω=>∃fa,ω= [(b2, .lst (txts fa)),(b, .lst (txts acc))]∧d=l.drop (i+1+fa.length)∧i+1+fa.length≤l.length∧fa++bf_ d=bf_ C∧bV_ d=bV_ C∧(∀p∈(("fixed" :Str),PV.ref b2)::jS l st b (i+1+fa.length),p∈σ))
      (m:=fun d=>d.length) (tb:=tkS) (B:=fun _ _=>False) (o:=bP_) ay a C ⟨[],rfl,by exact sb aq q2,by refine (?_:i+1+0≤_); exact Nat.le_of_succ_le p3,rfl,rfl,sq⟩
      (fun d c t O X=> ?_) (fun d c t b0 bA M3 s3 E3 O T S3=> ?_) (fun d c t s3 O T S3=> ?_) (fun _ _ _ h=>h.elim) (fun v σ' s' S' r=>(aK_ r).elim) (fun aS hI=> ?_)
     ·obtain ⟨fa,rfl,hd,hi,h3,U,h6⟩:=O
      exact io_ G V hd hi (fun p hp=>h6 p (tQ hp))
     ·obtain ⟨fa,rfl,hd,hi,h7,h8,h6⟩:=O
      match d,T with
      | some y::r2,_=>
      obtain ⟨z1,z2,z3⟩:=eK_ hd rfl
      have S1:=S3.as _ h6
      have aM:b2∈M3:=by rcases S1.oM b2 _ mQ with h | h; exact h; exact (nomatch h)
      have aN:b∈M3:=by rcases S1.oM b _ (iX 1 rfl) with h | h; exact h; exact (nomatch h)
      refine wpQ fun Q be=> ?_
      refine bM_ (p:= .str y) G S1 a mQ mQ (ay_ (aa_ (iX 1 rfl)) (aa_ (iX 5 rfl)) (by exact O257 z3 V) (ii_ z1)) (by refine sb (List.length_map ..) ?_; simp only [sizeLine]; exact O258 z3 V) (fun s2 S2=> ?_) (hc:=⟨_,c7_ (fun _=>rfl) (by rfl) (by rfl)⟩)
      rw [ac,bd_] at S2
      have e:i+1+(fa++ [y]).length=i+1+fa.length+1:=by refine sb List.length_append ?_; rfl
      refine cz_ (o:= .int ((i+1+fa.length+1:Nat):Int)) G S2 a (iX 5 rfl) (ad_ G) (cj_ G) kL (fun s4 S4=> ?_)
      refine af_ (be _ _ (I3_3 [] _ _ ⟨r2,by refine (?_:r2.length < r2.length+1); exact O212,fa++ [y],rfl,by exact sb e z2,by exact sb e z3,by exact sb (List.append_assoc ..) h7,h8,by exact sb e sq⟩ S4 (fun d oc hd=> ?_)))
      rcases List.mem_cons.mp hd with hd | hd
      ·cases hd; exact aM
      ·rcases List.mem_cons.mp hd with hd | hd
       ·cases hd; exact aN
       ·exact (nomatch hd)
     ·obtain ⟨fa,rfl,hd,hi,h7,h8,h6⟩:=O
      have e1:bf_ d= []:=by
       cases d with
       | nil => rfl
       | cons x r => cases x with | none=>rfl | some x=>contradiction
      have e2:bV_ d=d:=by
       cases d with
       | nil => rfl
       | cons x r => cases x with | none=>rfl | some x=>contradiction
      rw [e1,List.append_nil] at h7
      rw [e2] at h8
      refine sy h7 (sy h8 ?_)
      exact I0_3 (S3.as _ h6) hd hi
     ·obtain ⟨ag,ht,hj⟩:=hI
      have bd:(bf_ C).length≥1:=by simp only [aq,gP_,List.length_cons]; exact O259
      obtain ⟨j,ao⟩:∃j,j=i+1+(bf_ C).length:=⟨_,rfl⟩
      rw [← ao] at ag ht hj
      have ab:(Txt.join "" (bf_ C)).length≤66000:=dp_ 1100 60 a_ aT
      refine al_ (pv:= .str (Txt.join "" (bf_ C))) G ag a (dJ_ (oc:= .lst (txts (bf_ C))) mQ (bs_ mQ mQ bt_) trivial (ce_ (ah_ G) (bi_ PySem.F.slot_str_join PySem.F.type_str_join) (ac_ (aa_ (iX 0 rfl)) ag_) (b5_ G (bH_ 1100 60 a_ aT (by decide))))) kL (fun a4 an=> ?_)
      have ar:LS g ap (cenv 9 pm cd doc L f) Y ah [b2] (("fixed", .str (Txt.join "" (bf_ C)))::jS l st b j) [(b, .lst (txts acc))] a4:=an.weak sq (fun p hp=> .tail _ hp) (List.pairwise_singleton _ _)
      generalize Txt.join "" (bf_ C)=J at*
      have aZ:∀{s':Shared} {ad:List Str},LS g ap (cenv 9 pm cd doc L f) Y ah [b2] (("fixed", .str J)::jS l st b j) [(b, .lst (txts ad))] s'→ad=(if bV_ C= [] then (acc++ [(".*" :Str)])++ [J] else acc++ [cN_ J])→
        eR_ g ap (cenv 9 pm cd doc L f) Y ah (fun aB aF=>∃d':Nat×List (Option Str)×List Str,d'.1 < n+1∧∃i,aF= [(b, .lst (txts d'.2.2))]∧d'.2.1=l.drop i∧i≤l.length∧ew_ d'.1 d'.2.1 d'.2.2=some R∧d'.2.2.length≤i∧(∀y∈d'.2.2,y.length≤70000)∧(∀p∈jS l st b i,p∈aB)) (fun σ ω=>ω= [(b, .lst (txts R))]∧R.length≤60∧(∀y∈R,y.length≤70000)∧(∀p∈jS l st b l.length,p∈σ)) bP_ .next s':=fun {s' ad} S' e=>by
       rw [← e] at h3
       refine I3_3 [b2] _ _ ⟨(n,bV_ C,ad),Nat.lt_succ_self _,j,rfl,ht,hj,h3, ?_, ?_,fun p hp=> .tail _ hp⟩ S' (fun d oc hd=> ?_)
       ·refine sb e ?_; split <;>simp only [List.length_append,List.length_cons,List.length_nil] <;>(first | exact O260 U ao bd | exact O261 U ao)
       ·refine sb e ?_
        intro y hy
        have O:(cN_ J).length≤70000:=by
         unfold cN_
         simp only [ak_]
         have l1:("(?>.*?" :Str).length=6:=by decide
         have l2:(")" :Str).length=1:=by decide
         have l3:(⟨#[]⟩:Str).length=0:=by decide
         exact O262 l1 ab l2 l3
        have l4:(".*" :Str).length=2:=by decide
        split at hy
        ·simp only [List.mem_append,List.mem_cons,List.not_mem_nil,or_false] at hy
         rcases hy with (hy | rfl) | rfl
         ·exact h5 y hy
         ·exact Eq.symm l4▸Nat.le_of_ble_eq_true rfl
         ·exact Nat.le_trans ab (Nat.le_of_ble_eq_true rfl)
        ·simp only [List.mem_append,List.mem_cons,List.not_mem_nil,or_false] at hy
         rcases hy with hy | rfl
         ·exact h5 y hy
         ·exact O
       ·rcases List.mem_cons.mp hd with hd | hd
        ·cases hd; exact aD
        ·exact (nomatch hd)
      refine aX_ (b:=((j:Int)==(l.length:Int))) ar a (ai_ (aa_ (iX 5 rfl)) (aa_ (iX 6 rfl)) ca_) (fun az s' S'=> ?_) (fun az s' S'=> ?_)
      ·have hn:j=l.length:=by have h0:((j:Int))=(l.length:Int):=eq_of_beq az; exact O241 h0
       have a8:bV_ C= []:=by exact sb ht (List.drop_of_length_le (by exact Nat.le_of_eq (id (Eq.symm hn))))
       refine cE_ (p:= .str ".*") G S' a (iX 4 rfl) mQ (ah_ G) (by refine sb (List.length_map ..) ?_; simp only [sizeLine]; exact O266 U ao hn V) (fun s2 S2=> ?_)
       rw [bK_,bd_] at S2
       refine cE_ (p:= .str J) G S2 a (iX 4 rfl) mQ (aa_ (iX 0 rfl)) (by refine sb (List.length_map ..) (sb (List.length_append ..) ?_); simp only [sizeLine]; refine (?_:acc.length+1≤_); exact O267 U ao hn V) (fun s3 S3=> ?_)
       rw [bK_,bd_] at S3
       exact af_ (af_ (hQ _ _ (aZ S3 (by exact sb (if_pos a8) rfl))))
      ·have hn:j≠l.length:=fun e=>by rw [e] at az; simp at az
       have a8:bV_ C≠[]:=fun e=>by
        have:=congrArg List.length ht
        rw [e,List.length_drop] at this
        simp at this
        exact O268 this hn hj
       have l1:("(?>.*?" :Str).length=6:=by decide
       have l2:(")" :Str).length=1:=by decide
       have l3:(⟨#[]⟩:Str).length=0:=by decide
       refine cE_ (p:= .str (cN_ J)) G S' a (iX 4 rfl) mQ (g0_ (cv_ (ah_ G) (cv_ (gZ_ G (aa_ (iX 0 rfl)) (by simp only [sizeLine]; exact Nat.le_trans ab (Nat.le_of_ble_eq_true rfl))) (cv_ (ah_ G) (jo_ G)))) (by show (cN_ J).length≤_; unfold cN_; simp only [ak_,sizeLine]; exact O270 l1 ab l2 l3)) (by refine sb (List.length_map ..) ?_; simp only [sizeLine]; exact O271 U p3 V) (fun s2 S2=> ?_)
       rw [bK_,bd_] at S2
       exact af_ (af_ (hQ _ _ (aZ S2 (by exact sb (if_neg a8) rfl))))
   ·refine gn fun P0 aU=> ?_
    obtain ⟨n,z,acc⟩:=d
    obtain ⟨i,rfl,hd,hi,h3,U,h5,h6⟩:=O
    dsimp only at hd h3 U h5 T H
    refine aU ?_
    rcases z with _ | ⟨x,r⟩
    rotate_left
    ·contradiction
    have aE:l.length≤i:=List.drop_eq_nil_iff.mp hd.symm
    have bh:i=l.length:=by exact Nat.le_antisymm hi aE
    subst bh
    cases n with
    | zero => cases h3
    | succ n=>
     cases h3
     exact I0_3 (by exact Nat.le_trans U V) h5 (H.as _ h6)
   ·obtain ⟨rfl,h1,h2,h3⟩:=hB
    exact I0_3 h1 h2 (H.as _ h3)
   ·obtain ⟨aI,aO,ay⟩:=hI
    refine di_ ay a (by
                 have h0:((l.length:Int)==(l.length:Int))=true:=by simp
                 exact sy h0 (ai_ (aa_ (iX 4 rfl)) (aa_ (iX 5 rfl)) ca_)) (fun aS ag=> ?_)
    refine al_ (pv:= .str (Txt.join "" R)) G ag a (dJ_ (oc:= .lst (txts R)) mQ (bs_ (iX 2 rfl) mQ bt_) trivial (ce_ (ah_ G) (bi_ PySem.F.slot_str_join PySem.F.type_str_join) (ac_ (aa_ (iX 0 rfl)) ag_) (b5_ G (bH_ 70000 60 aO aI (by decide))))) kL (fun a4 an=> ?_)
    have ab:(Txt.join "" R).length≤4200000:=dp_ 70000 60 aO aI
    have l1:("(?s:" :Str).length=4:=by decide
    have l2:(")\\Z" :Str).length=3:=by decide
    have l3:(⟨#[]⟩:Str).length=0:=by decide
    exact aO_ (an.as [("res", .str (Txt.join "" R))] sq) a (g0_ (cv_ (ah_ G) (cv_ (gZ_ G (aa_ (iX 0 rfl)) (by simp only [sizeLine]; exact Nat.le_trans ab (Nat.le_of_ble_eq_true rfl))) (cv_ (ah_ G) (jo_ G)))) (by refine (?_:(jOut R).length≤_); unfold jOut; simp only [ak_,sizeLine]; exact O275 l1 ab l2 l3)) (fun v s' S' r=>S'.out r)
end
noncomputable def hW_:Pos:=⟨63,39,63,76⟩
noncomputable def qLam:Str:= "_translate.<locals>.<lambda>"
section
variable {g:GC}{k:Nat}{X:Addr→Prop}{σ:List (Str×PV)}{ω:List (Addr×OC)}
theorem kK_ {env:Env}{pa pl pos:Pos}{body e:Expr}{scope:Scope}(l:starEach [e] env=(false,eval e env)::starEach [] env):
  methodCallForm ([Expr.Lambda (a0_ pa) body scope pl,e].length+0) (backTo pos (starEach [Expr.Lambda (a0_ pa) body scope pl,e] env)) (backToKw pos (keywordEach [] env))=true:=by
 have h:starEach [Expr.Lambda (a0_ pa) body scope pl,e] env=(false,eval (Expr.Lambda (a0_ pa) body scope pl) env)::starEach [e] env:=rfl
 refine sb h (sb l ?_)
 rfl
theorem mq_ (G:g.Good){c:Addr}{b a:Value}{L f:Addr}(T:TabG g c hW_ qLam){pa:Addr}(P:PatG g pa)(hpa:g.mg "_twin_re_1" =some (.ref pa)){n apos pos ppa ps:Pos}{n1 n2 n3:Nat}{p1 p2 p3 p4 p5 p6 p7 p8:Pos}{x:Str}
  (o:(("stuff" :Str),PV.str x)∈σ) (hx:x.length≤1000) (m:(p3.endLine==p5.line)=true) (hp:(apos.endLine==pos.line)=true):
  Ev g k (cenv 8 b (.ref c) a L f) X σ ω (.Call (.Attribute (.Name "_twin_re_1" n) "sub" apos) [.Lambda (a0_ ppa) (bU_ n1 n2 n3 p1 p2 p3 p4 p5 p6 p7 p8) bc_ hW_, .Name "stuff" ps] [] pos) (.str (subF x)):=by
 have j:(cenv 8 b (.ref c) a L f).code= .ref c:=rfl
 have hq:(cenv 8 b (.ref c) a L f).qual++ "<lambda>" =qLam:=by
  refine (?_:((fdef 8).1++ ".<locals>.")++ "<lambda>" =qLam)
  decide+kernel
 have hcl:closureFor bc_ (cenv 8 b (.ref c) a L f)=pure []:=rfl
 have l:starEach [.Name "stuff" ps] (cenv 8 b (.ref c) a L f)=(false,eval (.Name "stuff" ps) (cenv 8 b (.ref c) a L f))::starEach [] (cenv 8 b (.ref c) a L f):=rfl
 have hk:(cenv 8 b (.ref c) a L f).kindOf "_twin_re_1" =some .globalImplicit:=by
  refine (?_:(fdef 8).2.2.2.names.lookup ("_twin_re_1" :Str)=_)
  rfl
 have q:Ev g k (cenv 8 b (.ref c) a L f) X σ ω (.Name "_twin_re_1" n) (.ref pa):=bI_ G hpa hk
 have s:Ev g k (cenv 8 b (.ref c) a L f) X σ ω (.Name "stuff" ps) (.str x):=aa_ o
 have h3:∀i,attributeBase (.Name "_twin_re_1" n) "sub" (cenv 8 b (.ref c) a L f) i=i:=by intro _; rfl
 have r:=kK_ (pos:=pos) (pa:=ppa) (pl:=hW_) (body:=bU_ n1 n2 n3 p1 p2 p3 p4 p5 p6 p7 p8) (scope:=bc_) l
 have p:(backTo pos (starEach [.Name "stuff" ps] (cenv 8 b (.ref c) a L f))).any (·.1)=false:=rfl
 exact h6_ (pos:=pos) (apos:=apos) (ppa:=ppa) (n1:=n1) (n2:=n2) (n3:=n3) (p1:=p1) (p2:=p2) (p3:=p3) (p4:=p4) (p5:=p5) (p6:=p6) (p7:=p7) (p8:=p8) G T P j hq hcl q s hx m hp h3 l r p
end
noncomputable def bsIn (l:List UInt8)(w q:Nat)(b:Array UInt8):Nat→Array UInt8
 | 0 => b
 | j + 1 => (bsIn l w q b j).setIfInBounds (q*w+w - 1 - j) (l.getD (q*w+j) 0)
noncomputable def cT_ (l:List UInt8)(w:Nat):Nat→Array UInt8
 | 0 => Array.replicate l.length 0
 | q + 1 => bsIn l w q (cT_ l w q) w
theorem eI_ (l:List UInt8)(w q:Nat)(b:Array UInt8):∀j,(bsIn l w q b j).size=b.size
 | 0 => rfl
 | j + 1 => Array.size_setIfInBounds.trans (eI_ l w q b j)
theorem c5_ (l:List UInt8)(w:Nat):∀q,(cT_ l w q).size=l.length
 | 0 => Array.size_replicate
 | q + 1 => (eI_ l w q _ w).trans (c5_ l w q)
theorem fa_ {a c:Int}{n i:Nat}{pv:PV}(h:(rngs a c n)[i]? =some pv):i < n∧pv= .int (a+(i:Int)*c):=by
 unfold rngs at h
 rw [List.getElem?_map] at h
 cases e:(List.range n)[i]? with
 | none => rw [e] at h; cases h
 | some j=>
  rw [e] at h; cases h
  obtain ⟨h1,h2⟩:=List.getElem?_eq_some_iff.mp e
  rw [List.length_range] at h1
  rw [List.getElem_range] at h2
  subst h2
  exact ⟨h1,rfl⟩
section
variable {g:GC}{k:Nat}
theorem fy_ (G:g.Good)(N:GN g){f:Addr}{pm cd doc:Value}(F:FnAt g f 34 pm cd doc){l:List UInt8}{w:Nat}(hw:w=4∨w=5∨w=6)(C:l.length=2*w):
  jP_ g (k+1) f [.bytes l.toArray, .int w] (.bytes (cT_ l w 2)):=by
 refine ib_ G F ["data","width"] rfl (fun vs af=> ?_) (by decide) (fun m x hx=> ?_) (by decide) (fun A s₀ aq Xo L M E a hp S=> ?_)
 ·exact v2 (P:=fun vs=>bindArgs _ ⟨vs,[]⟩=pure (List.zip _ vs)) (fun v u=>rfl) vs af
 ·rcases List.mem_cons.mp hx with rfl | hx
  ·exact .inl rfl
  ·rcases List.mem_cons.mp hx with rfl | hx
   ·exact .inl rfl
   ·exact (nomatch hx)
 ·conv=>arg 4; whnf
  have t:(l.toArray).size=l.length:=by rfl
  refine mY_ (n:=((l.toArray).size:Int)) G S a (dK_ G N.bytearray) (ar_ (bW_ G N.len) (ac_ (aa_ mQ) ag_) (cI_ G (by exact O131 hw t C))) ?n0 ?nz ?nl kL (fun b an nb H=> ?_)
  case n0=>constructor <;>lia
  case nz=>exact if_neg (by simp [sizeLine]; exact O134 hw C)
  case nl=>simp only [Builtin.Bytes.tooLong,sizeLine]; simp; exact O134 hw C
  refine WpN.of ?_
  have e0:((l.toArray).size:Int).toNat=l.length:=by rfl
  rw [e0] at H
  have T:∀q,(cT_ l w q).size=l.length:=c5_ l w
  refine da_ G (P:=fun i σ ω=>ω= [(b, .ba (cT_ l w i))]∧(∀p∈[(("data" :Str),PV.bytes l.toArray),("width", .int w),("swapped_data", .ref b)],p∈σ)) (B:=fun _ _=>False) (o:=bP_) H a hp
   (p:= .rng 0 ((l.toArray).size:Int) w) (items:=rngs 0 w 2)
   (bz_ (dK_ G N.range) (ac_ (ad_ G) (ac_ (ar_ (bW_ G N.len) (ac_ (aa_ (au_ mQ (by decide))) ag_) (cI_ G (by exact O131 hw t C))) (ac_ (aa_ (au_ ix1 (by decide))) ag_))) (fX_ G (by exact O135 hw) ?pyl))
   (fun X=>gR_ G ?rsz ?rsm) ⟨rfl,aW_ (au_ mQ (by decide)) (aW_ (au_ ix1 (by decide)) sq)⟩
   (fun i pv σ' ω' hT az M' s' E' v ah I hp' D hr=> ?_) (fun σ' ω' s' E' I D=> ?_) (fun _ _ _ h=>h.elim) (fun v σ' s' D r=>(aK_ r).elim)
  case pyl=>rcases hw with rfl | rfl | rfl <;>(refine sb t (sb C ?_); decide+kernel)
  case rsz=>rcases hw with rfl | rfl | rfl <;>(refine sb t (sb C ?_); decide+kernel)
  case rsm=>rcases hw with rfl | rfl | rfl <;>(refine sb t (sb C ?_); decide+kernel)
  ·obtain ⟨rfl,J⟩:=I
   obtain ⟨am,rfl⟩:=fa_ ah
   have ag:b∈M':=by rcases D.oM b _ mQ with h | h; exact h; exact (nomatch h)
   have O:=D.as _ J
   refine b0_ G kL (by decide) a O hr fun ao Z=> ?_
   refine wpQ fun Q hQ=> ?_
   refine da_ G (P:=fun j σ ω=>ω= [(b, .ba (bsIn l w i (cT_ l w i) j))]∧(∀p∈[(("data" :Str),PV.bytes l.toArray),("width", .int w),("swapped_data", .ref b),("i", .int (0+(i:Int)*w))],p∈σ)) (B:=fun _ _=>False) (o:=bP_) Z a hp'
    (bz_ (dK_ G N.range) (ac_ (aa_ (au_ ix1 (by decide))) ag_) (dj_ G)) (c4_ G (n:=w) (by exact O136 hw))
    ⟨rfl,aW_ (au_ mQ (by decide)) (aW_ (au_ ix1 (by decide)) (aW_ (au_ ix2 (by decide)) sq))⟩
    (fun j pv aj ak aA a1 M2 s2 E2 v hj I a5 S2 hr=> ?_) (fun aj ak s2 E2 I S2=> ?_) (fun _ _ _ h=>h.elim) (fun v σ' s' D r=>(aK_ r).elim)
   ·obtain ⟨rfl,s⟩:=I
    obtain ⟨K,rfl⟩:=fa_ hj
    have ad:b∈M2:=by rcases S2.oM b _ mQ with h | h; exact h; exact (nomatch h)
    have S3:=S2.as _ s
    refine b0_ G kL (by decide) a S3 hr fun s4 S4=> ?_
    have R:i*w+w≤2*w:=by have:=Nat.mul_le_mul_right w (show i+1≤2 from am); rw [Nat.add_mul] at this; exact O137 this
    have V:(0:Int)+(i:Int)*w=((i*w:Nat):Int):=by simp only [Int.zero_add,Int.natCast_mul]
    have ej:(0:Int)+(j:Int)*1=(j:Int):=by exact O138
    have U:=eI_ l w i (cT_ l w i) j
    have Y:=T i
    refine wpQ fun Q ai=> ?_
    refine j2_ (j:=i*w+w - 1 - j) G S4 a (gW_ G (aa_ (au_ mQ (by decide))) (ae_ (aa_ (au_ ix3 (by decide))) (aa_ ab_) (a6_ G)) (by exact O139 hw C) (by exact sb V (sb ej O140)) (by exact sb V (sb ej (O141 R K C))))
     (aa_ (au_ ix2 (by decide)))
     (ae_ (ae_ (ae_ (aa_ (au_ ix3 (by decide))) (aa_ (au_ ix1 (by decide))) (a6_ G)) (ad_ G) (ep_ G)) (aa_ ab_) (ep_ G))
     mQ ?fit ?seq ?rng ?siz (fun s5 S5=> ?_)
    case fit=>refine sb V (sb ej ?_); simp only [Builtin.Bytes.fitsIndex,Bool.and_eq_true,decide_eq_true_eq]; exact O142 R hw K
    case seq=>
     refine sb V (sb ej ?_)
     have hk:((i*w:Nat):Int)+(w:Int) - 1 - (j:Int)=((i*w+w - 1 - j:Nat):Int):=by exact O143 K
     refine sb hk ?_
     have ac:i*w+w - 1 - j < (bsIn l w i (cT_ l w i) j).size:=by exact sb U (sb Y (O144 hk R C))
     generalize i*w+w - 1 - j=m at*
     generalize (bsIn l w i (cT_ l w i) j).size=z at*
     have hn:¬((m:Int) < 0):=by exact O69
     have h1:(m:Int) < (z:Int):=by exact O145 ac
     simp [seqIndex?,hn,ac]
    case rng=>
     have:=UInt8.toNat_lt (l.getD ((0:Int)+(i:Int)*w+((0:Int)+(j:Int)*1)).toNat 0)
     exact O146 this
    case siz=>refine sb U (sb Y ?_); simp only [sizeLine]; exact O147 hw C
    have al:∀x y:OC,((b,x)::([(b,y)].filter fun p=>p.1 !=b))= [(b,x)]:=fun x y=>by simp
    have e1:((0:Int)+(i:Int)*w+((0:Int)+(j:Int)*1)).toNat=i*w+j:=by exact sb V (sb ej rfl)
    have e2:∀c:UInt8,((c.toNat:Nat):Int).toNat.toUInt8=c:=fun c=>by simp
    rw [al,e1,e2] at S5
    refine af_ (ai _ _ (I3_3 [] _ _ ⟨rfl,aW_ (au_ mQ (by decide)) (aW_ (au_ ix1 (by decide)) (aW_ (au_ ix2 (by decide)) (aW_ (au_ ix3 (by decide)) e5_)))⟩ S5 (fun d oc hd=> ?_)))
    rcases List.mem_cons.mp hd with hd | hd
    ·cases hd; exact ad
    ·exact (nomatch hd)
   ·obtain ⟨rfl,s⟩:=I
    have e:(rngs 0 1 w).length=w:=by simp [rngs]
    rw [e] at S2
    refine af_ (af_ (hQ _ _ (I3_3 [] _ _ ⟨rfl,aW_ (s _ mQ) (aW_ (s _ ix1) (aW_ (s _ ix2) e5_))⟩ S2 (fun d oc hd=> ?_))))
    rcases List.mem_cons.mp hd with hd | hd
    ·cases hd; exact ag
    ·exact (nomatch hd)
  ·obtain ⟨rfl,J⟩:=I
   have e:(rngs 0 (w:Int) 2).length=2:=by simp [rngs]
   rw [e] at D
   have O:=D.as _ J
   refine af_ ?_
   refine aO_ O a (g1_ G (dK_ G N.bytes) (aa_ ix2) mQ (by refine sb (T 2) ?_; simp only [sizeLine]; exact O147 hw C)) (fun v s' D r=>D.out r)
end
end Mine
end
section
namespace Mine
noncomputable abbrev tkL (st:Addr) (o:Option (List Nat)):PV:=tkP st (o.map lS)
noncomputable abbrev tS (s:Str) (st b:Addr) (i:Nat):List (Str×PV):= [("pat", .str s),("STAR", .ref st),("QUESTION_MARK", .str "."),("res", .ref b),("add", .mth "list.append" b),("i", .int i),("n", .int s.length)]
noncomputable abbrev bS (s:Str) (st b:Addr) (i j:Nat):List (Str×PV):=("j", .int j)::tS s st b i
noncomputable abbrev sS (s:Str) (st b:Addr) (j:Nat) (x:Str):List (Str×PV):= [("stuff", .str x),("j", .int j),("pat", .str s),("STAR", .ref st),("QUESTION_MARK", .str "."),("res", .ref b),("add", .mth "list.append" b),("n", .int s.length)]
theorem m3_ (x a b:Nat):decide (x=a∨x=b)=(decide (a=x) || decide (b=x)):=by
 by_cases h1:x=a <;>by_cases h2:x=b <;>simp [h1,h2,eq_comm]
noncomputable abbrev dS (s:Str) (st b b2:Addr) (i j:Nat):List (Str×PV):=("chunks", .ref b2)::bS s st b i j
noncomputable abbrev cS (s:Str) (st b b2:Addr) (i k j:Nat):List (Str×PV):=("chunks", .ref b2)::("k", .int k)::bS s st b i j
noncomputable abbrev eS (s:Str) (st b b2:Addr) (j:Nat):List (Str×PV):= [("chunks", .ref b2),("j", .int j),("pat", .str s),("STAR", .ref st),("QUESTION_MARK", .str "."),("res", .ref b),("add", .mth "list.append" b),("n", .int s.length)]
theorem i6_ {m:List (List Nat)}{n:Nat}(h:n < m.length):lix (m.map lS) ⟨#[]⟩ ((n:Nat):Int)=lS (m.getD n []):=by
 unfold lix
 refine sb (if_neg (by exact O69)) ?_
 simp [List.getD,h]
theorem eb_ (c:List Nat):six (lS c) (-1)=chS (c.getLastD 0):=by
 unfold six
 refine sb (if_pos (by decide) ..) (sb (ao_ ..) ?_)
 have e:(-1+(c.length:Int)).toNat=c.length - 1:=by exact O281
 refine sb (e ..) (sb (a3_ ..) ?_)
 congr 1
 cases c with
 | nil => rfl
 | cons x l=>
  refine sb List.getLastD_cons (sb (List.getD_eq_getElem?_getD) ?_)
  have:(x::l)[(x::l).length - 1]? =(x::l).getLast? :=by exact sb (List.getLast?_eq_getElem?) rfl
  refine sb this (sb (List.getLast?_cons) (sb Option.getD_some ?_))
  have h5:∀(l:List Nat) (x:Nat),l.getLast?.getD x=l.getLastD x:=fun l x=>by
   cases l with
   | nil => rfl
   | cons y r => simp only [List.getLast?_cons,List.getLastD_cons,Option.getD_some]; simp
  exact sb (h5 ..) rfl
theorem lq_ (a b:Nat):decide (a < b)=decide ((chS a).cps.toList < (chS b).cps.toList):=by
 refine (?_:_=decide ([a] < [b]))
 refine sb (StrLaws.lt_cons_cons ..) (sb (StrLaws.lt_nil_nil ..) ?_); simp
theorem gL_ (l:List (List Nat)):∀i,(mgN l i).length≤l.length
 | 0 => Nat.le_refl _
 | i + 1 => by
  have ih:=gL_ l i
  refine (?_:(es_ (mgN l i) (l.length - 1 - i)).length≤_); unfold es_
  split
  ·have:=List.length_eraseIdx_le ((mgN l i).set (l.length - 1 - i - 1) (((mgN l i).getD (l.length - 1 - i - 1) []).dropLast++((mgN l i).getD (l.length - 1 - i) []).drop 1)) (l.length - 1 - i)
   simp only [List.length_set] at this
   exact O282 this ih
  ·exact ih
theorem et_ {α β:Type}(f:α→β):∀(l:List α) (i:Nat),(l.eraseIdx i).map f=(l.map f).eraseIdx i
 | [], i => by rfl
 | x :: l, 0 => rfl
 | x :: l, i + 1 => by simp [et_ f l i]
theorem fb_ (c:Nat)(z:List Nat)(hz:z.length≤2):∀l:List Nat,(repL c z l).length≤2*l.length
 | [] => Nat.le_refl _
 | x :: l => by
  have ih:=fb_ c z hz l
  unfold repL at ih ⊢
  simp only [List.flatMap_cons,List.length_append,List.length_cons]
  have:(if x=c then z else [x]).length≤2:=by
   split
   ·exact hz
   ·exact Nat.le_succ 1
  exact O283 this ih
theorem iF_ {a c:Nat}(ha:a≤500)(hc:c≤4):a+(a+1)*c≤16777216:=by
 have:=Nat.mul_le_mul (show a+1≤501 by exact Nat.succ_le_succ ha) hc
 exact O285 this ha
noncomputable def It.ok:It→Prop
 | .star => True | .quest=>True | .one c=>c≠42∧c≠63∧c≠91 | .brk B=>okB B=true
theorem dA_ (esc:Nat→List Nat){it:It}(h:it≠ .star)(r:List It)(acc:List (Option (List Nat))):trO esc (it::r) acc=trO esc r (acc++ [it.out esc]):=by
 cases it with
 | star => exact absurd rfl h
 | _ => rfl
theorem jh_:∀O:List It,O.length≤(aA_ O).length
 | [] => Nat.zero_le _
 | x :: r => by
  have ih:=jh_ r
  unfold aA_ at ih ⊢
  simp only [List.flatMap_cons,List.length_append,List.length_cons]
  have:1≤x.txt.length:=by cases x <;>exact Nat.succ_le_succ (Nat.zero_le _)
  exact O286 this ih
theorem jL_ {α:Type}{l:List α}{p:α}:at? (l++ [p]) (-1)=some p:=by
 unfold at?
 refine sb (bw_ (by refine sb List.length_append ?_; simp; exact O287) ..) (sb (Option.bind_some ..) (sb (if_pos (by decide) ..) ?_))
 have:(-1+((l++ [p]).length:Int)).toNat=l.length:=by refine sb List.length_append ?_; simp; exact O288
 refine sb this ?_; simp
structure TrG (g:GC)(k:Nat)(cc pa fe:Addr)(esc:Nat→List Nat)(its:List It):Prop where
 T:TabG g cc hW_ qLam
 P:PatG g pa
 hpa:g.mg "_twin_re_1" =some (.ref pa)
 hfe:g.mg "escape" =some (.ref fe)
 fn:IsFn g fe
 esc:∀c,It.one c∈its→aC_ g k fe [.str (chS c)] (.str (lS (esc c)))
section
variable {g:GC}{k:Nat}
set_option maxHeartbeats 4000000 in
theorem bF_ (G:g.Good)(N:GN g){fa cc pa fe:Addr}{pm doc:Value}(F:FnAt g fa 8 pm (.ref cc) doc){esc:Nat→List Nat}{its:List It}(H:TrG g k cc pa fe esc its)(c_:∀it∈its,it.ok)(bb:(aA_ its).length≤1000){st:Addr}:
  aC_ g (k+1) fa [.str (lS (aA_ its)), .ref st, .str "."] (.lst ((trO esc its []).map (tkL st))):=by
 refine aP_ G F ["pat","STAR","QUESTION_MARK"] rfl (fun vs da=> ?_) (by decide) (fun m x hx=> ?_) (by decide) (fun A s₀ ah Xo L M E a hp S=> ?_)
 ·exact v3 (P:=fun vs=>bindArgs _ ⟨vs,[]⟩=pure (List.zip _ vs)) (fun v u w=>rfl) vs da
 ·rcases List.mem_cons.mp hx with rfl | hx
  ·exact .inl rfl
  ·rcases List.mem_cons.mp hx with rfl | hx
   ·exact .inl rfl
   ·rcases List.mem_cons.mp hx with rfl | hx
    ·exact .inl rfl
    ·exact (nomatch hx)
 ·conv=>arg 4; whnf
  obtain ⟨s,aP⟩:∃s,s=lS (aA_ its):=⟨_,rfl⟩
  have an:s.length≤1000:=by exact sb (aP ..) (sb (ao_ ..) bb)
  have cp:s.cps.toList=aA_ its:=by exact sb aP rfl
  rw [← aP] at S
  refine bA_ (pvs:= []) G S a ag_ kL (fun b aY hb ae=> ?_) (by decide)
  refine eU_ G ae a ab_ mQ kL (fun ch aC=> ?_)
  refine iu_ (p:= .int ((0:Nat):Int)) (q:= .int (s.length:Int)) G aC a (cd_ G (ac_ (ad_ G) (ac_ (ar_ (bW_ G N.len) (ac_ (aa_ (uQ (uQ (iX 0 rfl)))) ag_) (bh_ G (by exact O193 an))) ag_)) (by refine (?_:(2:Nat)≤sizeLine); decide)) kL kL (fun cd al=> ?_)
  have ad:=al.as (tS s st b 0) sq
  refine cD_ (D:=List It×List (Option (List Nat))) (I:=fun s'=>LS g s₀ (cenv 8 pm (.ref cc) doc L fa) Xo [] (b::M) (tS s st b s.length) [(b, .lst ((trO esc its []).map (tkL st)))] s')
   (P:=fun d σ ω=>∃O,its=O++d.1∧ω= [(b, .lst (d.2.map (tkL st)))]∧trO esc d.1 d.2=trO esc its []∧d.2.length≤O.length∧(∀p∈tS s st b (aA_ O).length,p∈σ))
   (m:=fun d=>d.1.length) (tb:=fun d=> !d.1.isEmpty) (B:=fun _ _=>False) (o:=bP_) ad a (its,[]) ⟨[],rfl,rfl,rfl,Nat.le_refl _,fun _ h=>h⟩
   (fun d R U hP X=> ?_) (fun d R U ap aa aj db d1 hP ay aU=> ?_) (fun d R U db hP ay aU=> ?_) (fun _ _ _ h=>h.elim) (fun v σ' s' S' r=>(aK_ r).elim) (fun az Z=> ?_)
  ·obtain ⟨O,af,rfl,h3,h4,h6⟩:=hP
   have e:(!d.1.isEmpty)=decide (((aA_ O).length:Int) < s.length):=by
    have hl:s.length=(aA_ O).length+(aA_ d.1).length:=by
     have:s.length=s.cps.toList.length:=rfl
     refine sb this (sb cp (sb af ?_)); unfold aA_; exact sb List.flatMap_append (sb List.length_append rfl)
    cases hd:d.1 with
    | nil => rw [hd] at hl; refine sb (decide_eq_false (by refine sb hl ?_; simp [aA_])) ?_; rfl
    | cons it r=>
     rw [hd] at hl
     have:0 < (aA_ (it::r)).length:=by
      unfold aA_
      refine sb List.flatMap_cons (sb List.length_append ?_)
      have:0 < it.txt.length:=by cases it <;>exact Nat.succ_le_succ (Nat.zero_le _)
      exact O289 this
     refine sb (decide_eq_true (by exact O290 this hl)) ?_; rfl
   refine sb e ?_
   exact EvT.weak (σ':=tS s st b (aA_ O).length) (ai_ (aa_ (iX 5 rfl)) (aa_ (iX 6 rfl)) cq_) h6
  ·obtain ⟨bn,acc⟩:=d
   obtain ⟨O,af,rfl,h3,h4,h6⟩:=hP
   dsimp only at af h3 h4 ay aU
   rcases bn with _ | ⟨it,r⟩
   ·contradiction
   obtain ⟨o,ho⟩:∃o,o=(aA_ O).length:=⟨_,rfl⟩
   rw [← ho] at h6
   have bv:s.cps.toList=aA_ O++(it.txt++aA_ r):=by
    refine sb cp (sb af ?_); unfold aA_; exact sb List.flatMap_append (sb List.flatMap_cons rfl)
   have cu:o+it.txt.length≤s.length:=by
    have:s.length=s.cps.toList.length:=rfl
    refine sb this (sb bv (sb ho ?_)); simp
   have cM:1≤it.txt.length:=by cases it <;>exact Nat.succ_le_succ (Nat.zero_le _)
   have cV:six s ((o:Nat):Int)=chS (it.txt.headD 0):=by
    refine sb (bS_ ..) (sb (bv ..) (sb (List.getD_eq_getElem?_getD ..) (sb (List.getElem?_append_right (by exact Nat.le_of_eq (id (Eq.symm ho))) ..) (sb (ho ..) (sb (Nat.sub_self ..) ?_)))))
    cases it <;>rfl
   have cE:b∈aj:=by rcases aU.oM b _ mQ with h | h; exact h; exact (nomatch h)
   have bO:=c_ it (by refine sb af ?_; simp)
   have bt:∀{s':Shared} {N:List Addr} {σ':List (Str×PV)} (a9:List (Option (List Nat))),LS g ap (cenv 8 pm (.ref cc) doc L fa) aa aj N σ' [(b, .lst (a9.map (tkL st)))] s'→(∀p∈tS s st b (o+it.txt.length),p∈σ')→trO esc r a9=trO esc its []→a9.length≤O.length+1→
     eR_ g ap (cenv 8 pm (.ref cc) doc L fa) aa aj (fun aI aK=>∃d':List It×List (Option (List Nat)),d'.1.length < (it::r).length∧∃O,its=O++d'.1∧aK= [(b, .lst (d'.2.map (tkL st)))]∧trO esc d'.1 d'.2=trO esc its []∧d'.2.length≤O.length∧(∀p∈tS s st b (aA_ O).length,p∈aI)) (fun _ _=>False) bP_ .next s':=fun {s' N σ'} a9 S' cZ he hl=>by
    refine I3_3 N σ' _ ⟨(r,a9),Nat.lt_succ_self _,O++ [it],by refine sb af ?_; simp,rfl,he,by exact sb List.length_append hl, ?_⟩ S' (fun d oc hd=> ?_)
    ·have:(aA_ (O++ [it])).length=o+it.txt.length:=by unfold aA_; refine sb List.flatMap_append (sb List.length_append (sb ho ?_)); simp [aA_]
     exact sb this cZ
    ·rcases List.mem_cons.mp hd with hd | hd
     ·cases hd; exact cE
     ·exact (nomatch hd)
   have t:=aU.as _ h6
   refine wpQ fun Q hQ=> ?_
   refine al_ (pv:= .str (six s ((o:Nat):Int))) G t a (av_ G (aa_ (iX 0 rfl)) (aa_ (iX 5 rfl)) (by exact O291 cM cu) (by exact O195 an)) kL (fun aY ae=> ?_)
   replace ae:=cV▸ae
   refine al_ (pv:= .int ((o+1:Nat):Int)) G ae a (ae_ (aa_ (uQ (iX 5 rfl))) (ad_ G) (a6_ G)) kL (fun ch aC=> ?_)
   have al:=aC.as (("c", .str (chS (it.txt.headD 0)))::tS s st b (o+1)) sq
   have bk:acc.length≤1000:=by
    have:=jh_ O
    exact O292 h4 cu ho an this
   have a0:(acc.map (tkL st)).length≤sizeLine:=by refine sb (List.length_map ..) ?_; simp only [sizeLine]; exact O192 bk
   have a1:∀q:Option (List Nat),setω b (.lst (acc.map (tkL st)++ [tkL st q])) [(b, .lst (acc.map (tkL st)))]= [(b, .lst ((acc++ [q]).map (tkL st)))]:=fun q=>by refine sb bK_ (sb List.map_append ?_); rfl
   cases it with
   | star=>
    refine aX_ (b:=true) al a (ai_ (aa_ (iX 0 rfl)) (ah_ G) aY_) (fun _ aZ ad=> ?_) (fun h=>nomatch h)
    have hV:dO_ [(b,OC.lst (acc.map (tkL st)))] (("c",PV.str (chS (It.star.txt.headD 0)))::tS s st b (o+1)) [("res", .lst (acc.map (tkL st))),("STAR", .ref st)] b:=bs_ (iX 4 rfl) mQ (cX_ (iX 2 rfl) bt_)
    by_cases hl:acc.getLast? =some none
    ·obtain ⟨d4,bM⟩:=List.getLast?_eq_some_iff.mp hl
     refine aX_ (b:=false) ad a (fp_ mQ hV ?_) (fun h=>nomatch h) (fun _ az Z=> ?_)
     ·have e:(false:Bool)=((!(!(acc.map (tkL st)).isEmpty)) || false):=by refine sb bM ?_; simp
      refine sb e ?_
      exact dr_ (dg_ (by_ (aa_ (iX 0 rfl)) (ld_ G (by exact sb (List.length_map ..) (O193 bk))))) (fun _=>ai_ (ay_ (aa_ (iX 0 rfl)) (cR_ (ad_ G) (bO_ G)) (by exact by decide) (by exact sb bM (sb List.map_append jL_))) (aa_ (iX 1 rfl)) ct_)
     ·refine af_ (af_ (af_ (hQ _ _ (bt acc Z (fun p hp=> .tail _ hp) ?_ (by exact O63 h4)))))
      rw [mV_,if_pos hl] at h3; exact h3
    ·refine aX_ (b:=true) ad a (fp_ mQ hV ?_) (fun _ az Z=> ?_) (fun h=>nomatch h)
     ·have hs:=ld_ (k:=k) (X:=fun d=>av aa aj [] d∧d≠b) (l:=acc.map (tkL st)) G (by exact sb (List.length_map ..) (O193 bk))
      cases aO:acc with
      | nil=>
       rw [aO] at hs
       exact dr_ (c:=false) (dg_ (by_ (aa_ (iX 0 rfl)) hs)) (fun h=>nomatch h)
      | cons x0 r0=>
       have ax:acc≠[]:=by refine sb aO ?_; simp
       have bX:=List.getLast?_eq_some_getLast ax
       obtain ⟨y,hy⟩:∃y,acc.getLast ax=some y:=by
        cases hq:acc.getLast ax with
        | none => rw [bX,hq] at hl; exact absurd rfl hl
        | some y => exact ⟨y,rfl⟩
       have a4:=List.dropLast_concat_getLast ax
       replace a4:=hy▸a4
       refine sy aO ?_
       have e:(true:Bool)=((!(!(acc.map (tkL st)).isEmpty)) || true):=by refine sb aO ?_; rfl
       refine sb e ?_
       exact dr_ (dg_ (by_ (aa_ (iX 0 rfl)) hs)) (fun _=>ai_ (ay_ (p:= .str (lS y)) (aa_ (iX 0 rfl)) (cR_ (ad_ G) (bO_ G)) (by exact by decide) (by exact sy a4 (sb List.map_append jL_))) (aa_ (iX 1 rfl)) cJ_)
     ·
      refine cE_ (p:=tkL st none) G Z a (iX 5 rfl) mQ (aa_ (iX 2 rfl)) a0 (fun aN Y=> ?_)
      rw [a1] at Y
      refine af_ (af_ (af_ (hQ _ _ (bt (acc++ [none]) Y (fun p hp=> .tail _ hp) ?_ (by refine sb List.length_append ?_; refine (?_:acc.length+1≤_); exact O66 h4)))))
      rw [mV_,if_neg hl] at h3; exact h3
   | quest=>
    refine aX_ (b:=false) al a (ai_ (aa_ (iX 0 rfl)) (ah_ G) aY_) (fun h=>nomatch h) (fun _ aZ ad=> ?_)
    refine aX_ (b:=true) ad a (ai_ (aa_ (iX 0 rfl)) (ah_ G) aY_) (fun _ az Z=> ?_) (fun h=>nomatch h)
    refine cE_ (p:= .str ".") G Z a (iX 5 rfl) mQ (aa_ (iX 3 rfl)) a0 (fun aN Y=> ?_)
    have a5:PV.str "." =tkL st (some [46]):=congrArg PV.str (by decide+kernel)
    rw [a5,a1] at Y
    refine af_ (af_ (af_ (hQ _ _ (bt (acc++ [some [46]]) Y (fun p hp=> .tail _ hp) ?_ (by refine sb List.length_append ?_; refine (?_:acc.length+1≤_); exact O66 h4)))))
    rw [dA_ esc (by simp)] at h3; exact h3
   | one c=>
    obtain ⟨c1,c2,c3⟩:=bO
    have ax:∀d,c≠d→(chS c==chS d)=false:=fun d h=>by
     rw [beq_eq_false_iff_ne]
     intro e
     exact h (by have:=congrArg (fun x:Str=>x.cps.toList) e; simpa using this)
    refine aX_ (b:=(chS c==("*" :Str))) al a (ai_ (aa_ (iX 0 rfl)) (ah_ G) aY_) (fun h=>absurd h (by refine sb (show ("*" :Str)=chS 42 by decide+kernel) (sb (ax _ c1) ?_); simp)) (fun _ aZ ad=> ?_)
    refine aX_ (b:=(chS c==("?" :Str))) ad a (ai_ (aa_ (iX 0 rfl)) (ah_ G) aY_) (fun h=>absurd h (by refine sb (show ("?" :Str)=chS 63 by decide+kernel) (sb (ax _ c2) ?_); simp)) (fun _ az Z=> ?_)
    refine aX_ (b:=(chS c==("[" :Str))) Z a (ai_ (aa_ (iX 0 rfl)) (ah_ G) aY_) (fun h=>absurd h (by rw [show ("[" :Str)=chS 91 by decide+kernel,ax _ c3]; simp)) (fun _ aN Y=> ?_)
    refine cE_ (p:= .str (lS (esc c))) G Y a (iX 5 rfl) mQ (az_ (bI_ G H.hfe) H.fn (ac_ (aa_ (iX 0 rfl)) ag_) (H.esc c (by refine sb af ?_; simp))) a0 (fun bJ a2=> ?_)
    have a5:PV.str (lS (esc c))=tkL st (some (esc c)):=rfl
    rw [a5,a1] at a2
    refine af_ (af_ (af_ (af_ (hQ _ _ (bt (acc++ [some (esc c)]) a2 (fun p hp=> .tail _ hp) ?_ (by refine sb List.length_append ?_; refine (?_:acc.length+1≤_); exact O66 h4))))))
    rw [dA_ esc (by simp)] at h3; exact h3
   | brk B=>
    have K:=OkB.of bO
    have W:Win s o B:=by have:=Win.of bv; rw [← ho] at this; exact this
    have Wl:=W.len
    have dd:=K.l1
    have aM:=K.l60
    have bD:=K.j2
    have dx:bJ1 B≤1:=by unfold bJ1; split <;>(first | exact Nat.le.refl | exact Nat.zero_le 1)
    have bu:bJ1 B≤bJ2 B:=by unfold bJ2; split <;>(first | exact O201 | exact Nat.le.refl)
    have aq:∀c d:Nat,(chS c==chS d)=decide (c=d):=fun c d=>by
     rw [Bool.eq_iff_iff,beq_iff_eq,decide_eq_true_eq]
     exact ⟨fun e=>by have:=congrArg (fun x:Str=>x.cps.toList) e; simpa using this,fun e=>by exact sb e rfl⟩
    have b6:("!" :Str)=chS 33:=by decide+kernel
    have bW:("]" :Str)=chS 93:=by decide+kernel
    have aQ:("-" :Str)=lS [45]:=by decide+kernel
    have b5:("\\" :Str)=lS [92]:=by decide+kernel
    have aG:("\\\\" :Str)=lS [92,92]:=by decide+kernel
    have bo:("\\-" :Str)=lS [92,45]:=by decide+kernel
    have ct:("^" :Str)=chS 94:=by decide+kernel
    have cA:("[" :Str)=chS 91:=by decide+kernel
    refine aX_ (b:=false) al a (ai_ (aa_ (iX 0 rfl)) (ah_ G) aY_) (fun h=>nomatch h) (fun _ aZ ad=> ?_)
    refine aX_ (b:=false) ad a (ai_ (aa_ (iX 0 rfl)) (ah_ G) aY_) (fun h=>nomatch h) (fun _ az Z=> ?_)
    refine aX_ (b:=true) Z a (ai_ (aa_ (iX 0 rfl)) (ah_ G) aY_) (fun _ aN Y=> ?_) (fun h=>nomatch h)
    refine al_ (pv:= .int ((o+1:Nat):Int)) G Y a (aa_ (iX 6 rfl)) kL (fun bJ a2=> ?_)
    have cs:=a2.as (bS s st b (o+1) (o+1)) sq
    refine ei_ (b:=decide ((B++ [93]).getD 0 0=33)) (I:=fun s'=>LS g ap (cenv 8 pm (.ref cc) doc L fa) aa aj [] (bS s st b (o+1) (o+1+bJ1 B)) [(b, .lst (acc.map (tkL st)))] s') cs a ?_ (fun h s' S' J=> ?_) (fun h s' S' J=> ?_) (fun cf bi=> ?_)
    ·have e:decide ((B++ [93]).getD 0 0=33)=(decide (((o+1:Nat):Int) < s.length) && (six s ((o+1:Nat):Int)==("!" :Str))):=by
      have h0:=W.at_ (i:=0) (Nat.zero_le _)
      simp only [Nat.add_zero] at h0
      refine sb (decide_eq_true (p:=((o+1:Nat):Int) < s.length) (by exact Int.ofNat_lt.mpr (Nat.lt_of_add_right_lt Wl)) ..) (sb (h0 ..) (sb (b6 ..) (sb (aq ..) ?_))); rfl
     refine sb e ?_
     exact b7_ (ai_ (aa_ (iX 0 rfl)) (aa_ (iX 7 rfl)) cq_) (fun _=>(ai_ (av_ G (aa_ (iX 1 rfl)) (aa_ (iX 0 rfl)) (by exact O297 Wl) (by exact O195 an)) (ah_ G) aY_))
    ·have e:bJ1 B=1:=by unfold bJ1; exact sb (if_pos (of_decide_eq_true h)) rfl
     refine al_ (pv:= .int ((o+1+bJ1 B:Nat):Int)) G S' a (by exact sb e (ae_ (aa_ (iX 0 rfl)) (ad_ G) (a6_ G))) kL (fun ah t=> ?_)
     exact af_ (J _ (t.as _ sq))
    ·have e:bJ1 B=0:=by unfold bJ1; exact sb (if_neg (of_decide_eq_false h)) rfl
     refine af_ (J _ ?_)
     exact sb e S'
    refine ei_ (b:=decide ((B++ [93]).getD (bJ1 B) 0=93)) (I:=fun s'=>LS g ap (cenv 8 pm (.ref cc) doc L fa) aa aj [] (bS s st b (o+1) (o+1+bJ2 B)) [(b, .lst (acc.map (tkL st)))] s') bi a ?_ (fun h s' S' J=> ?_) (fun h s' S' J=> ?_) (fun c9 bw=> ?_)
    ·have e:decide ((B++ [93]).getD (bJ1 B) 0=93)=(decide (((o+1+bJ1 B:Nat):Int) < s.length) && (six s ((o+1+bJ1 B:Nat):Int)==("]" :Str))):=by
      refine sb (decide_eq_true (p:=((o+1+bJ1 B:Nat):Int) < s.length) (by exact O298 Wl bu bD) ..) (sb (W.at_ (by exact O282 bu bD) ..) (sb (bW ..) (sb (aq ..) ?_))); rfl
     refine sb e ?_
     exact b7_ (ai_ (aa_ (iX 0 rfl)) (aa_ (iX 7 rfl)) cq_) (fun _=>(ai_ (av_ G (aa_ (iX 1 rfl)) (aa_ (iX 0 rfl)) (by exact O299 Wl bu bD) (by exact O195 an)) (ah_ G) aY_))
    ·have e:bJ2 B=bJ1 B+1:=by unfold bJ2; exact sb (if_pos (of_decide_eq_true h)) rfl
     refine al_ (pv:= .int ((o+1+bJ2 B:Nat):Int)) G S' a (by exact sb e (ae_ (aa_ (iX 0 rfl)) (ad_ G) (a6_ G))) kL (fun ah t=> ?_)
     exact af_ (J _ (t.as _ sq))
    ·have e:bJ2 B=bJ1 B:=by unfold bJ2; exact sb (if_neg (of_decide_eq_false h)) rfl
     refine af_ (J _ ?_)
     exact sb e S'
    refine cD_ (D:=Nat) (I:=fun s'=>LS g ap (cenv 8 pm (.ref cc) doc L fa) aa aj [] (bS s st b (o+1) (o+1+B.length)) [(b, .lst (acc.map (tkL st)))] s')
     (P:=fun d σ ω=>ω= [(b, .lst (acc.map (tkL st)))]∧bJ2 B≤d∧d≤B.length∧(∀p∈bS s st b (o+1) (o+1+d),p∈σ)) (m:=fun d=>B.length - d) (tb:=fun d=>decide (d < B.length)) (B:=fun _ _=>False) (o:=bP_) bw a (bJ2 B) ⟨rfl,Nat.le_refl _,bD,fun _ h=>h⟩
     (fun d R U hP X=> ?_) (fun d R U ck cI M3 s3 E3 hP ay S3=> ?_) (fun d R U s3 hP ay S3=> ?_) (fun _ _ _ h=>h.elim) (fun v σ' s' S' r=>(aK_ r).elim) (fun co bm=> ?_)
    ·obtain ⟨rfl,h1,h2,aD⟩:=hP
     have e:decide (d < B.length)=(decide (((o+1+d:Nat):Int) < s.length) && (six s ((o+1+d:Nat):Int) !=("]" :Str))):=by
      refine sb (decide_eq_true (p:=((o+1+d:Nat):Int) < s.length) (by exact O300 Wl h2)) (sb (W.at_ h2) (sb bW ?_))
      refine (?_:_=(true && !(chS ((B++ [93]).getD d 0)==chS 93)))
      refine sb (aq ..) (sb (Bool.true_and ..) ?_)
      by_cases hd:d < B.length
      ·have h4:=K.cl d h1 hd
       have h5:(B++ [93]).getD d 0=B.getD d 0:=by exact sb (List.getD_eq_getElem?_getD) (sb (List.getElem?_append_left hd) (sb (List.getD_eq_getElem?_getD) rfl))
       refine sb h5 (sb (decide_eq_true hd) (sb (decide_eq_false h4) ?_)); rfl
      ·have h5:d=B.length:=by exact O48 h2 hd
       have h6:(B++ [93]).getD d 0=93:=by refine sb h5 (sb (List.getD_eq_getElem?_getD) (sb (List.getElem?_append_right (Nat.le_refl _)) ?_)); simp
       refine sb h6 (sb (decide_eq_false hd) ?_); rfl
     refine sb e ?_
     refine EvT.weak (σ':=bS s st b (o+1) (o+1+d)) ?_ aD
     exact b7_ (ai_ (aa_ (iX 0 rfl)) (aa_ (iX 7 rfl)) cq_) (fun _=>(ai_ (av_ G (aa_ (iX 1 rfl)) (aa_ (iX 0 rfl)) (by exact O301 Wl h2) (by exact O195 an)) (ah_ G) eG_))
    ·obtain ⟨rfl,h1,h2,aD⟩:=hP
     have hd:=of_decide_eq_true ay
     have S4:=S3.as _ aD
     refine wpQ fun Q aH=> ?_
     refine al_ (pv:= .int ((o+1+(d+1):Nat):Int)) G S4 a (ae_ (aa_ (iX 0 rfl)) (ad_ G) (a6_ G)) kL (fun ah t=> ?_)
     refine af_ (aH _ _ ⟨[],_,_,⟨d+1,by exact O47 hd,rfl,by exact O63 h1,hd,sq⟩,t,fun d oc hd=> ?_⟩)
     rcases List.mem_cons.mp hd with hd | hd
     ·cases hd
      rcases t.oM b _ mQ with h | h
      ·exact h
      ·exact (nomatch h)
     ·exact (nomatch hd)
    ·obtain ⟨rfl,h1,h2,aD⟩:=hP
     have hd:=of_decide_eq_false ay
     have h5:d=B.length:=by exact O48 h2 hd
     subst h5
     exact S3.as _ aD
    refine aX_ (b:=decide ((s.length:Int)≤((o+1+B.length:Nat):Int))) bm a (ai_ (aa_ (iX 0 rfl)) (aa_ (iX 7 rfl)) nv_) (fun h=>absurd (of_decide_eq_true h) (by exact O302 Wl)) (fun _ cq bf=> ?_)
    have b9:ssl s (some ((o+1:Nat):Int)) (some ((o+1+B.length:Nat):Int)) none=lS B:=by
     have:=W.sub (a:=0) (b:=B.length) (Nat.zero_le _) (Nat.le_refl _)
     rw [Nat.add_zero,List.drop_zero,Nat.sub_zero,List.take_length] at this
     exact this
    refine al_ (pv:= .str (ssl s (some ((o+1:Nat):Int)) (some ((o+1+B.length:Nat):Int)) none)) G bf a (ax_ G (aa_ (iX 1 rfl)) (aJ_ G (aq_ (aa_ (iX 6 rfl))) (aq_ (aa_ (iX 0 rfl))) ap_) (by decide) (Nat.le_trans (bm_ _ _ _) (by simp only [sizeLine]; exact O192 an))) kL (fun cv ao=> ?_)
    replace ao:=b9▸ao
    have bp:=ao.as (("stuff", .str (lS B))::bS s st b (o+1) (o+1+B.length)) sq
    refine ei_ (b:= !decide (45∈B)) (I:=fun s'=>∃N,LS g ap (cenv 8 pm (.ref cc) doc L fa) aa aj N (sS s st b (o+1+B.length) (lS (dy_ B))) [(b, .lst (acc.map (tkL st)))] s') bp a ?_ (fun h s' S' J=> ?_) (fun h s' S' J=> ?_) (fun cD ba=> ?_)
    ·exact sy (jk_ ..) (sy (aQ ..) (ai_ (ah_ G) (aa_ (iX 0 rfl)) kT_))
    ·have hm:¬45∈B:=by simpa using h
     refine al_ (pv:= .str (Txt.replace (lS B) "\\" "\\\\")) G S' a (js_ G (aa_ (iX 0 rfl)) (by decide+kernel) (by exact sb (ao_ ..) (iF_ (by exact Nat.le_trans aM (Nat.le_of_ble_eq_true rfl)) (by decide)))) kL (fun ah t=> ?_)
     rw [b5,aG,b1_] at t
     have e:dy_ B=repL 92 [92,92] B:=by unfold dy_; exact sb (if_neg hm) rfl
     rw [← e] at t
     exact af_ (J _ ⟨[],t.as _ sq⟩)
    ·have hm:45∈B:=by simpa using h
     have bB:six s ((o+1:Nat):Int)=chS (B.getD 0 0):=by
      have h0:=W.at_ (i:=0) (Nat.zero_le _)
      simp only [Nat.add_zero] at h0
      exact sb h0 (sb (List.getD_eq_getElem?_getD) (sb (List.getElem?_append_left (by exact Nat.zero_lt_of_lt dd)) (sb (List.getD_eq_getElem?_getD) rfl)))
     refine bA_ (pvs:=txts []) G S' a ag_ kL (fun b2 ah ai t=> ?_) (by decide)
     have ax:b≠b2:=fun e=>ai (.inr (.inl (e▸cE)))
     have V:∀{oc oc' oc2:OC},setω b2 oc [(b2,oc'),(b,oc2)]= [(b2,oc),(b,oc2)]:=by intro oc oc' oc2; simp [setω,ax]
     have ek:((o+1+bK0 B:Nat):Int)=bif (six s ((o+1:Nat):Int)==("!" :Str)) then (((o+1:Nat):Int)+2) else (((o+1:Nat):Int)+1):=by
      refine sb (bB ..) (sb (b6 ..) (sb (aq ..) ?_))
      unfold bK0
      by_cases q:B.getD 0 0=33
      ·refine sb (if_pos q) (sb (decide_eq_true q) ?_); rfl
      ·refine sb (if_neg q) (sb (decide_eq_false q) ?_); rfl
     refine al_ (pv:= .int ((o+1+bK0 B:Nat):Int)) G t a (by exact sb ek (f9_ (ai_ (av_ G (aa_ (uQ (iX 2 rfl))) (aa_ (uQ (iX 7 rfl))) (by exact O297 Wl) (by exact O195 an)) (ah_ G) aY_) (fun _=>(ae_ (aa_ (uQ (iX 7 rfl))) (ad_ G) (a6_ G))) (fun _=>(ae_ (aa_ (uQ (iX 7 rfl))) (ad_ G) (a6_ G))))) kL (fun aY ae=> ?_)
     have aC:=ae.as (cS s st b b2 (o+1+0) (o+1+bK0 B) (o+1+B.length)) sq
     have bE:∀{hx:Heap} {Xx Nx au ωx sx} {lx:OC} {M3:List Addr},LS g hx (cenv 8 pm (.ref cc) doc L fa) Xx M3 Nx au ((b2,lx)::ωx) sx→Nx= []→b2∈M3:=fun S e=>by
      rcases S.oM b2 _ mQ with h | h
      ·exact h
      ·rw [e] at h; exact (nomatch h)
     have bG:∀{hx:Heap} {Xx Nx au ωx sx} {lx ly:OC} {M3:List Addr},LS g hx (cenv 8 pm (.ref cc) doc L fa) Xx M3 Nx au ((b2,lx)::(b,ly)::ωx) sx→Nx= []→b∈M3:=fun S e=>by
      rcases S.oM b _ (iX 1 rfl) with h | h
      ·exact h
      ·rw [e] at h; exact (nomatch h)
     have aL:∀{M3:List Addr} {l1 l2:OC},b2∈M3→b∈M3→∀d oc,(d,oc)∈[(b2,l1),(b,l2)]→d∈M3:=fun h1 h2 d oc hd=>by
      rcases List.mem_cons.mp hd with hd | hd
      ·cases hd; exact h1
      ·rcases List.mem_cons.mp hd with hd | hd
       ·cases hd; exact h2
       ·exact (nomatch hd)
     refine d8_ (D:=Nat×List (List Nat)×Nat×Nat)
      (P:=fun d σ ω=>ω= [(b2, .lst (txts (d.2.1.map lS))),(b, .lst (acc.map (tkL st)))]∧ia_ B d.1 d.2.1 d.2.2.1 d.2.2.2=chR B∧B.length+1≤d.1+d.2.2.2∧d.2.2.1≤d.2.2.2∧d.2.1.length+d.1≤B.length+1∧(∀p∈cS s st b b2 (o+1+d.2.2.1) (o+1+d.2.2.2) (o+1+B.length),p∈σ))
      (m:=fun d=>d.1) (tb:=fun _=>true) (B:=fun σ ω=>ω= [(b2, .lst (txts ((chR B).1.map lS))),(b, .lst (acc.map (tkL st)))]∧(chR B).1.length≤B.length+1∧(∀p∈dS s st b b2 (o+1+(chR B).2) (o+1+B.length),p∈σ)) (o:=bP_) aC a (B.length+1,[],0,bK0 B)
      ⟨rfl,rfl,by refine (?_:B.length+1≤B.length+1+_); exact O305,Nat.zero_le _,by refine (?_:0+_≤_); omega,fun _ h=>h⟩
      (fun d R U hP X=>by_ eC_ ch_) (fun d R U ck cI M3 s3 E3 hP ay S3=> ?_) (fun d R U s3 E3 hP ay S3=>nomatch ay) (fun R U cd hB al=> ?_) (fun v σ' s' S' r=>(aK_ r).elim)
     ·obtain ⟨n,ac,i,kq⟩:=d
      obtain ⟨rfl,h1,h2,aD,b4,h5⟩:=hP
      dsimp only at h1 h2 aD b4 h5
      have S4:=S3.as _ h5
      have m2:=bE S4 rfl
      have m3:=bG S4 rfl
      refine wpQ fun Q aH=> ?_
      refine al_ (pv:= .int (gU_ s "-" ((o+1+kq:Nat):Int) ((o+1+B.length:Nat):Int))) G S4 a (ce_ (aa_ (iX 3 rfl)) (bi_ PySem.F.slot_str_find PySem.F.type_str_find) (ac_ (ah_ G) (ac_ (aa_ (iX 1 rfl)) (ac_ (aa_ (iX 2 rfl)) ag_))) (kn_ G)) kL (fun s5 S5=> ?_)
      rw [aQ,W.find kq] at S5
      cases hf:fnd 45 B kq with
      | none=>
       rw [hf] at S5
       dsimp only at S5
       refine aX_ (b:=decide ((-1:Int) < 0)) S5 a (ai_ (aa_ ab_) (ad_ G) cq_) (fun _ s6 S6=> ?_) (fun h=>absurd h (by decide))
       have e:chR B=(ac,i):=by
        refine sy h1 ?_
        cases n with
        | zero => rfl
        | succ n => exact sb jz_ (sb hf rfl)
       refine d9_ (aH _ _ ⟨[],_,_,⟨by exact sb e rfl,by refine sb e ?_; refine (?_:ac.length≤_); exact Nat.le_of_add_right_le b4, ?_⟩,S6,aL m2 m3⟩)
       refine sb e ?_
       exact sq
      | some r=>
       obtain ⟨f1,f2,_⟩:=dq_ hf
       have hr:r < B.length:=(List.getElem?_eq_some_iff.mp f2).1
       rw [hf] at S5
       dsimp only at S5
       refine aX_ (b:=decide (((o+1+r:Nat):Int) < 0)) S5 a (ai_ (aa_ ab_) (ad_ G) cq_) (fun h=>absurd (of_decide_eq_true h) (by exact O308)) (fun _ s6 S6=> ?_)
       refine af_ ?_
       cases n with
       | zero => exact (O309 h2 hr f1).elim
       | succ n=>
       refine bM_ (p:= .str (ssl s (some ((o+1+i:Nat):Int)) (some ((o+1+r:Nat):Int)) none)) G S6 a (uQ (iX 0 rfl)) mQ (ax_ G (aa_ (uQ (iX 3 rfl))) (aJ_ G (aq_ (aa_ (uQ (iX 8 rfl)))) (aq_ (aa_ ab_)) ap_) (by decide) (Nat.le_trans (bm_ _ _ _) (by simp only [sizeLine]; exact O192 an))) (by simp only [txts,List.length_map,List.length_map]; simp only [sizeLine]; exact O310 Wl b4 an) (fun s7 S7=> ?_) (hc:=⟨_,c7_ (fun _=>rfl) (by rfl) (by rfl)⟩)
       have e2:(ac.map lS)++ [lS ((B.drop i).take (r - i))]=(ac++ [(B.drop i).take (r - i)]).map lS:=by refine sb List.map_append ?_; rfl
       rw [V,W.sub (by exact O282 aD f1) (by exact Nat.le_of_succ_le hr),bd_,e2] at S7
       refine al_ (pv:= .int ((o+1+(r+1):Nat):Int)) G S7 a (ae_ (aa_ ab_) (ad_ G) (a6_ G)) kL (fun s8 S8=> ?_)
       refine al_ (pv:= .int ((o+1+(r+3):Nat):Int)) G S8 a (ae_ (aa_ (uQ ab_)) (ad_ G) (a6_ G)) kL (fun s9 S9=> ?_)
       refine af_ (aH _ _ ⟨[],_,_,⟨(n,ac++ [(B.drop i).take (r - i)],r+1,r+3),Nat.lt_succ_self _,rfl, ?_,by refine (?_:B.length+1≤n+(r+3)); exact O311 h2 f1,by refine (?_:r+1≤r+3); exact O312,by refine (?_:(ac++ [_]).length+n≤_); refine sb List.length_append ?_; refine (?_:ac.length+1+n≤_); exact O313 b4,sq⟩,S9,aL m2 m3⟩)
       refine sy h1 ?_
       show _=ia_ B (n+1) ac i kq
       exact sb jz_ (sb hf rfl)
     ·obtain ⟨rfl,bQ,h5⟩:=hB
      have cO:=K.r2 hm
      have ad:=al.as _ h5
      refine al_ (pv:= .str (ssl s (some ((o+1+(chR B).2:Nat):Int)) (some ((o+1+B.length:Nat):Int)) none)) G ad a (ax_ G (aa_ (iX 2 rfl)) (aJ_ G (aq_ (aa_ (iX 7 rfl))) (aq_ (aa_ (iX 1 rfl))) ap_) (by decide) (Nat.le_trans (bm_ _ _ _) (by simp only [sizeLine]; exact O192 an))) kL (fun az Z=> ?_)
      have e2:(B.drop (chR B).2).take (B.length - (chR B).2)=B.drop (chR B).2:=List.take_of_length_le (by exact sb List.length_drop Nat.le.refl)
      rw [W.sub cO (Nat.le_refl _),e2] at Z
      have hcl:(B.drop (chR B).2).length≤60:=by exact sb List.length_drop (O314 aM)
      refine ei_ (b:= !(B.drop (chR B).2).isEmpty) (I:=fun s'=>LS g ap (cenv 8 pm (.ref cc) doc L fa) aa aj [b2] (eS s st b b2 (o+1+B.length)) [(b2, .lst (txts ((bR_ B).map lS))),(b, .lst (acc.map (tkL st)))] s') Z a ?_ (fun h1 s' S' J=> ?_) (fun h1 s' S' J=> ?_) (fun aN Y=> ?_)
      ·have e:(!(B.drop (chR B).2).isEmpty)=(((lS (B.drop (chR B).2)).length:Int) !=0):=by
        refine sb (ao_ ..) ?_
        cases B.drop (chR B).2 with
        | nil => rfl
        | cons x l => simp; exact not_eq_of_beq_eq_false rfl
       refine sb e ?_
       exact (by_ (aa_ ab_) (lb_ G (by exact sb (ao_ ..) (O245 hcl))))
      ·refine bM_ (p:= .str (lS (B.drop (chR B).2))) G S' a (uQ (iX 0 rfl)) mQ (aa_ ab_) (by simp only [txts,List.length_map,List.length_map]; simp only [sizeLine]; exact O316 Wl bQ an) (fun s1 S1=> ?_) (hc:=⟨_,c7_ (fun _=>rfl) (by rfl) (by rfl)⟩)
       have e3:((chR B).1.map lS)++ [lS (B.drop (chR B).2)]=(bR_ B).map lS:=by
        unfold bR_; refine sb (if_neg (by simpa using h1)) (sb List.map_append ?_); rfl
       rw [V,bd_,e3] at S1
       exact af_ (J _ (S1.as _ sq))
      ·have bY:B.drop (chR B).2= []:=by simpa using h1
       have c4:=K.ne hm bY
       have bT:0 < (chR B).1.length:=List.length_pos_iff.mpr c4
       refine iz_ (l:=txts ((chR B).1.map lS)) (i:= -1) (j:=(chR B).1.length - 1) (y:=lS ((chR B).1.getD ((chR B).1.length - 1) [])) (z:= "-") G S' a (uQ (iX 0 rfl)) mQ (cR_ (ad_ G) (bO_ G)) (ah_ G) (by decide) ?_ ?_ ?_ (fun s1 S1=> ?_)
       ·rw [txts,List.length_map,List.length_map,bw_ (by exact O317 bT),if_pos (by decide)]
        congr 1; exact O281
       ·simp only [txts,List.getElem?_map,List.getElem?_map,List.getD_eq_getElem?_getD,List.getElem?_eq_getElem (by exact Nat.sub_one_lt_of_lt bT)]; rfl
       ·have bN:((chR B).1.getD ((chR B).1.length - 1) []++ [45])∈bR_ B:=by
         unfold bR_; rw [if_pos (by refine sb bY ?_; rfl)]
         exact List.mem_set (by exact Nat.sub_one_lt_of_lt bT) _
        have h9:=K.ln hm 0 (List.length_pos_of_mem bN) _ bN
        rw [List.length_append] at h9
        have cN:((chR B).1.getD ((chR B).1.length - 1) []).length+1≤200:=h9
        exact Nat.le_trans (Nat.add_le_add (Nat.le_of_eq (ao_ _)) (Nat.le_of_eq (show ("-" :Str).length=1 by decide))) (by simp only [sizeLine]; exact Nat.lt_of_lt_of_le cN (Nat.le_of_ble_eq_true rfl))
       ·have e3:(txts ((chR B).1.map lS)).set ((chR B).1.length - 1) (.str (lS ((chR B).1.getD ((chR B).1.length - 1) [])++("-" :Str)))=txts ((bR_ B).map lS):=by
         unfold bR_; rw [if_pos (by refine sb bY ?_; rfl),aQ,aL_,txts,txts,List.map_set,List.map_set]
        rw [V,e3] at S1
        exact af_ (J _ (S1.as _ sq))
      have ab:(bR_ B).length≤70:=by
       unfold bR_; split
       ·exact sb List.length_set (O320 bQ aM)
       ·refine sb List.length_append ?_; refine (?_:_+1≤_); exact O321 bQ aM
      obtain ⟨l,hl⟩:∃l,l=bR_ B:=⟨_,rfl⟩
      have Kmg:=K.mg hm
      have Kln:=K.ln hm
      rw [← hl] at Y ab Kmg Kln
      have V0:∀{lx:List PV} {au:List (Str×PV)},(("chunks" :Str),PV.ref b2)∈au→dO_ [(b2,OC.lst lx),(b,OC.lst (acc.map (tkL st)))] au [("chunks", .lst lx)] b2:=fun h=>bs_ h mQ bt_
      have bb:∀{q1 q2 q3:Pos},Ev g k (cenv 8 pm (.ref cc) doc L fa) (av aa aj [b2]) (eS s st b b2 (o+1+B.length)) [(b2, .lst (txts (l.map lS))),(b, .lst (acc.map (tkL st)))] (.Call (.Name "len" q1) [.Name "chunks" q2] [] q3) (.int ((l.map lS).length:Int)):=fun {q1 q2 q3}=>by
       refine dJ_ (oc:= .lst (txts (l.map lS))) mQ (V0 mQ) trivial ?_
       exact (ar_ (bW_ G N.len) (ac_ (aa_ (iX 0 rfl)) ag_) (df_ G (by exact sb (List.length_map ..) (O322 ab))))
      refine da_ G (P:=fun i σ ω=>ω= [(b2, .lst (txts ((mgN l i).map lS))),(b, .lst (acc.map (tkL st)))]∧(∀p∈eS s st b b2 (o+1+B.length),p∈σ)) (B:=fun _ _=>False) (o:=bP_) Y a Y.hp
       (p:= .rng (((l.map lS).length:Int) - 1) 0 (-1)) (items:=rngs (((l.map lS).length:Int) - 1) (-1) (l.length - 1))
       (bz_ (dK_ G N.range) (ac_ (ae_ bb (ad_ G) (ep_ G)) (ac_ (ad_ G) (ac_ (cR_ (ad_ G) (bO_ G)) ag_))) (fX_ G (by decide) (PyProof.noPylong_small (by decide))))
       (fun X=>gR_ G (by exact sb (List.length_map ..) (sb (rangeSize_downNat ..) O323)) (by exact sb (List.length_map ..) (small_down (by exact O324) (by exact O325 ab) (by decide) (by decide)))) ⟨rfl,fun _ h=>h⟩
       (fun i pv R U ck cI M3 s3 E3 v hi hP dC S3 hr=> ?_) (fun R U s3 E3 hP S3=> ?_) (fun _ _ _ h=>h.elim) (fun v σ' s' S' r=>(aK_ r).elim)
      ·obtain ⟨rfl,h5⟩:=hP
       obtain ⟨b7,rfl⟩:=fa_ hi
       have S4:=S3.as _ h5
       have m2:=bE S4 rfl
       have m3:=bG S4 rfl
       obtain ⟨ak,cB,cz⟩:=Kmg i b7
       obtain ⟨J,bC⟩:∃J,J=l.length - 1 - i:=⟨_,rfl⟩
       have dc:((l.map lS).length:Int) - 1+(i:Int)*(-1)=((J:Nat):Int):=by exact sb (List.length_map ..) (sb (bC ..) (O326 b7))
       have bL:mgN l (i+1)=es_ (mgN l i) J:=by refine sb bC ?_; rfl
       rw [← bC] at ak cB cz
       rw [dc] at hr
       have aw:=gL_ l i
       have bV:=Kln i (by exact Nat.lt_of_lt_pred b7)
       generalize mgN l i=m at*
       have cY:1≤J:=by exact Eq.symm bC▸Nat.le_sub_of_add_le' b7
       have c5:((J:Nat):Int) - 1=((J - 1:Nat):Int):=by exact (Int.ofNat_sub cY).symm
       have hA:∀n,n < m.length→(m.getD n []).length≤200:=fun n hn=>bV _ (by refine sb (List.getD_eq_getElem?_getD) (sb (List.getElem?_eq_getElem hn) ?_); exact List.getElem_mem hn)
       have bR:=hA (J - 1) (by exact Nat.sub_lt_of_lt ak)
       have ca:=hA J ak
       have aS:lix (m.map lS) ⟨#[]⟩ (((J:Nat):Int) - 1)=lS (m.getD (J - 1) []):=by exact sb c5 (i6_ (by exact Nat.sub_lt_of_lt ak))
       have aR:lix (m.map lS) ⟨#[]⟩ ((J:Nat):Int)=lS (m.getD J []):=i6_ ak
       have c0:1≤(m.getD (J - 1) []).length:=List.length_pos_iff.mpr cB
       have cw:1≤(m.getD J []).length:=List.length_pos_iff.mpr cz
       refine b0_ G kL (by decide) a S4 hr fun s5 S5=> ?_
       have V1:∀{lx:List PV} {au:List (Str×PV)},(("chunks" :Str),PV.ref b2)∈au→(("k" :Str),PV.int ((J:Nat):Int))∈au→dO_ [(b2,OC.lst lx),(b,OC.lst (acc.map (tkL st)))] au [("chunks", .lst lx),("k", .int ((J:Nat):Int))] b2:=fun h h'=>bs_ h mQ (cX_ h' bt_)
       refine wpQ fun Q aH=> ?_
       refine aX_ (b:=mgT m J) S5 a (fp_ (oc:= .lst (txts (m.map lS))) mQ (V1 (uQ (iX 0 rfl)) ab_) ?_) (fun ht s6 S6=> ?_) (fun ht s6 S6=> ?_)
       ·have e:mgT m J=decide ((six (lix (m.map lS) ⟨#[]⟩ ((J:Nat):Int)) 0).cps.toList < (six (lix (m.map lS) ⟨#[]⟩ (((J:Nat):Int) - 1)) (-1)).cps.toList):=by
         rw [aS,aR,eb_,show (0:Int)=((0:Nat):Int) from rfl,bS_,a3_,a3_]
         exact lq_ _ _
        refine sb e ?_
        exact (ai_ (av_ G (a9_ (aa_ (iX 0 rfl)) (ae_ (aa_ (iX 1 rfl)) (ad_ G) (ep_ G)) (by exact sb (List.length_map ..) (O331 ak)) (by exact sb (List.length_map ..) (O332 aw ab))) (cR_ (ad_ G) (bO_ G)) (by exact sb (aS ..) (sb (ao_ ..) (O166 c0))) (by exact sb (aS ..) (sb (ao_ ..) (Nat.lt_of_le_of_lt bR (Nat.lt_of_sub_eq_succ rfl))))) (av_ G (a9_ (aa_ (iX 0 rfl)) (aa_ (iX 1 rfl)) (by exact sb (List.length_map ..) (O203 ak)) (by exact sb (List.length_map ..) (O332 aw ab))) (ad_ G) (by exact sb (aR ..) (sb (ao_ ..) (O164 cw))) (by exact sb (aR ..) (sb (ao_ ..) (Nat.lt_of_le_of_lt ca (Nat.lt_of_sub_eq_succ rfl))))) mx_)
       ·refine iv_ (l:=txts (m.map lS)) (p:= .str (lS ((m.getD (J - 1) []).dropLast++(m.getD J []).drop 1))) (i:=((J:Nat):Int) - 1) (j:=J - 1) G S6 a (uQ (iX 0 rfl)) mQ ?hv (ae_ (aa_ ab_) (ad_ G) (ep_ G)) (by exact O334 ak ab aw) (by simp only [c5,txts,List.length_map,List.length_map]; exact cF_ (by exact Nat.sub_lt_of_lt ak)) (fun s7 S7=> ?_)
        case hv=>
         refine dJ_ (oc:= .lst (txts (m.map lS))) mQ (V1 (uQ (iX 0 rfl)) ab_) trivial ?_
         have e:lS ((m.getD (J - 1) []).dropLast++(m.getD J []).drop 1)=ssl (lix (m.map lS) ⟨#[]⟩ (((J:Nat):Int) - 1)) none (some (-1)) none++ssl (lix (m.map lS) ⟨#[]⟩ ((J:Nat):Int)) (some ((1:Nat):Int)) none none:=by
          rw [aS,aR,j3_ _ (by exact sb (ao_ ..) c0),ea_ _ (by exact sb (ao_ ..) cw),a3_,a3_,aL_]
         refine sb e ?_
         exact (ae_ (ax_ G (a9_ (aa_ (iX 0 rfl)) (ae_ (aa_ (iX 1 rfl)) (ad_ G) (ep_ G)) (by exact sb (List.length_map ..) (O331 ak)) (by exact sb (List.length_map ..) (O332 aw ab))) (aJ_ G ap_ (aq_ (cR_ (ad_ G) (bO_ G))) ap_) (by decide) (Nat.le_trans (bm_ _ _ _) (by refine sb (aS ..) (sb (ao_ ..) ?_); simp only [sizeLine]; exact Nat.le_trans bR (Nat.le_of_ble_eq_true rfl)))) (ax_ G (a9_ (aa_ (iX 0 rfl)) (aa_ (iX 1 rfl)) (by exact sb (List.length_map ..) (O203 ak)) (by exact sb (List.length_map ..) (O332 aw ab))) (aJ_ G (aq_ (ad_ G)) ap_ ap_) (by decide) (Nat.le_trans (bm_ _ _ _) (by refine sb (aR ..) (sb (ao_ ..) ?_); simp only [sizeLine]; exact Nat.le_trans ca (Nat.le_of_ble_eq_true rfl)))) (aB_ G (Nat.le_trans (Nat.add_le_add (bm_ _ _ _) (bm_ _ _ _)) (by refine sb (aS ..) (sb (aR ..) (sb (ao_ ..) (sb (ao_ ..) ?_))); simp only [sizeLine]; exact O336 bR ca))))
        rw [V] at S7
        refine iy_ (i:=((J:Nat):Int)) (j:=J) G S7 a (uQ (iX 0 rfl)) mQ (aa_ ab_) (by exact O337 ak ab aw) (by simp only [List.length_set,txts,List.length_map,List.length_map]; exact cF_ ak) (by simp only [List.length_set,txts,List.length_map,List.length_map]; simp only [sizeLine]; exact O338 aw ab) (fun s8 S8=> ?_)
        have e3:((txts (m.map lS)).set (J - 1) (.str (lS ((m.getD (J - 1) []).dropLast++(m.getD J []).drop 1)))).eraseIdx J=txts ((es_ m J).map lS):=by
         unfold es_; simp only [if_pos ht,txts,txts,et_,et_,List.map_set,List.map_set]
        rw [V,e3,← bL] at S8
        exact af_ (af_ (aH _ _ ⟨[],_,_,⟨rfl,sq⟩,S8,aL m2 m3⟩))
       ·have e3:mgN l (i+1)=m:=by refine sb bL ?_; unfold es_; rw [if_neg (by refine sb ht ?_; simp)]
        rw [← e3] at S6
        exact af_ (af_ (aH _ _ ⟨[],_,_,⟨rfl,sq⟩,S6,aL m2 m3⟩))
      ·obtain ⟨rfl,h5⟩:=hP
       have e4:(rngs (((l.map lS).length:Int) - 1) (-1) (l.length - 1)).length=l.length - 1:=by simp [rngs]
       rw [e4] at S3
       have S4:=S3.as _ h5
       refine af_ ?_
       have aw:=gL_ l (l.length - 1)
       have bV:∀c∈mgN l (l.length - 1),c.length≤200:=fun c hc=>by
        by_cases h0:l.length=0
        ·have:l= []:=List.length_eq_zero_iff.mp h0
         rw [this] at hc
         cases hc
        ·exact Kln _ (by exact Nat.sub_one_lt h0) c hc
       have hY:∀y∈(mgN l (l.length - 1)).map lS,y.length≤200:=fun y hy=>by
        obtain ⟨c,hc,rfl⟩:=List.mem_map.mp hy
        exact sb (ao_ ..) (bV c hc)
       have cy:∀y:Str,y.length≤200→(Txt.replace y "\\" "\\\\").length≤400:=fun y hy=>by
        have e:y=lS y.cps.toList:=rfl
        refine sb (e ..) (sb (b5 ..) (sb (aG ..) (sb (b1_ ..) (sb (ao_ ..) ?_))))
        have:=fb_ 92 [92,92] (by decide) y.cps.toList
        have:y.cps.toList.length=y.length:=rfl
        exact O340 ‹_› this hy
       have c6:∀y:Str,y.length≤400→(Txt.replace y "-" "\\-").length≤800:=fun y hy=>by
        have e:y=lS y.cps.toList:=rfl
        refine sb (e ..) (sb (aQ ..) (sb (bo ..) (sb (b1_ ..) (sb (ao_ ..) ?_))))
        have:=fb_ 45 [92,45] (by decide) y.cps.toList
        have:y.cps.toList.length=y.length:=rfl
        exact O341 ‹_› this hy
       refine al_ (pv:= .str (Txt.join "-" (((mgN l (l.length - 1)).map lS).map fun y=>Txt.replace (Txt.replace y "\\" "\\\\") "-" "\\-"))) G S4 a (dJ_ (oc:= .lst (txts ((mgN l (l.length - 1)).map lS))) mQ (V0 mQ) trivial ?hj) kL (fun s5 S5=> ?_)
       case hj=>
        refine h8_ G H.T rfl (aa_ (iX 0 rfl)) (by decide) (fun C code y hy=>eS_ (eS_ lC_ (by decide+kernel) (iF_ (by have:=hY y hy; exact Nat.le_trans this (Nat.le_of_ble_eq_true rfl)) (by decide))) (by decide+kernel) (iF_ (by have:=cy y (hY y hy); exact Nat.le_trans this (Nat.le_of_ble_eq_true rfl)) (by decide))) ?_ (by refine sb (List.length_map ..) ?_; simp only [sizeLine]; exact O338 aw ab)
        unfold JoinOk
        have hj:=StrLaws.joinFits (sep:=("-" :Str)) (texts:=((mgN l (l.length - 1)).map lS).map fun y=>Txt.replace (Txt.replace y "\\" "\\\\") "-" "\\-") (B:=800) (fun z hz=> ?_) ?_
        ·refine sb hj ?_; rfl
        ·obtain ⟨y,hy,rfl⟩:=List.mem_map.mp hz
         exact c6 _ (cy _ (hY y hy))
        ·refine sb (List.length_map ..) (sb (List.length_map ..) ?_)
         have:("-" :Str).length=1:=by decide
         exact sb this (O344 aw ab)
       have e5:Txt.join "-" (((mgN l (l.length - 1)).map lS).map fun y=>Txt.replace (Txt.replace y "\\" "\\\\") "-" "\\-")=lS (dy_ B):=by
        have e6:(((mgN l (l.length - 1)).map lS).map fun y=>Txt.replace (Txt.replace y "\\" "\\\\") "-" "\\-")=((mgN l (l.length - 1)).map esc2).map lS:=by
         refine sb List.map_map (sb List.map_map ?_)
         refine List.map_congr_left fun c _=> ?_
         refine (?_:Txt.replace (Txt.replace (lS c) "\\" "\\\\") "-" "\\-" =lS (esc2 c))
         rw [b5,aG,bo,aQ,b1_,b1_]; rfl
        refine sb (e6 ..) (sb (aQ ..) (sb (fk_ ..) ?_))
        unfold dy_; refine sb (if_pos hm) (sb hl ?_); rfl
       rw [e5] at S5
       exact af_ (J _ ⟨[b2],S5.weak sq (fun p hp=> .tail _ hp) (List.pairwise_singleton _ _)⟩)
    obtain ⟨bI,bg⟩:=ba
    refine al_ (pv:= .str (subF (lS (dy_ B)))) G bg a (mq_ G H.T H.P H.hpa mQ (by have:=K.b1; exact sb (ao_ ..) (Nat.le_trans this (Nat.le_of_ble_eq_true rfl))) rfl rfl) kL (fun bl aB=> ?_)
    rw [lE_] at aB
    have be:LS g ap (cenv 8 pm (.ref cc) doc L fa) aa aj bI (sS s st b (o+1+B.length) (lS (aS_ B))) [(b, .lst (acc.map (tkL st)))] bl:=aB.as _ (by
     exact sq)
    refine al_ (pv:= .int ((o+1+B.length+1:Nat):Int)) G be a (ae_ (aa_ (iX 1 rfl)) (ad_ G) (a6_ G)) kL (fun cG b0=> ?_)
    have bc:=b0.as (("i", .int ((o+1+B.length+1:Nat):Int))::sS s st b (o+1+B.length) (lS (aS_ B))) sq
    have bZ:o+(91::(B++ [93])).length=o+1+B.length+1:=by simp; exact O346
    have a_:∀{s':Shared} {N:List Addr} {x:Str} (y:List Nat),outB B=y→LS g ap (cenv 8 pm (.ref cc) doc L fa) aa aj N (("i", .int ((o+1+B.length+1:Nat):Int))::sS s st b (o+1+B.length) x) [(b, .lst ((acc++ [some y]).map (tkL st)))] s'→ 
      eR_ g ap (cenv 8 pm (.ref cc) doc L fa) aa aj (fun aI aK=>∃d':List It×List (Option (List Nat)),d'.1.length < (It.brk B::r).length∧∃O,its=O++d'.1∧aK= [(b, .lst (d'.2.map (tkL st)))]∧trO esc d'.1 d'.2=trO esc its []∧d'.2.length≤O.length∧(∀p∈tS s st b (aA_ O).length,p∈aI)) (fun _ _=>False) bP_ .next s':=fun {s' N x} y hy S'=>by
     refine bt (acc++ [some y]) S' ?_ ?_ (by refine sb List.length_append ?_; refine (?_:acc.length+1≤_); exact O66 h4)
     ·show ∀p∈tS s st b (o+(91::(B++ [93])).length),_
      rw [bZ]
      exact sq
     ·rw [dA_ esc (by simp),← hy] at*; exact h3
    refine aX_ (b:=(aS_ B).isEmpty) bc a ?_ (fun h s' S'=> ?_) (fun h cC bd=> ?_)
    ·have e:(aS_ B).isEmpty= !(((lS (aS_ B)).length:Int) !=0):=by
      rw [ao_]
      cases aS_ B with
      | nil => rfl
      | cons x l => simp; exact not_eq_of_beq_eq_false rfl
     rw [e]
     exact (dg_ (by_ (aa_ (iX 1 rfl)) (lb_ G (by rw [ao_]; have:=K.b2; exact O347 this))))
    ·refine cE_ (p:= .str "(?!)") G S' a (iX 7 rfl) mQ (ah_ G) a0 (fun ah t=> ?_)
     have a5:PV.str "(?!)" =tkL st (some [40,63,33,41]):=congrArg PV.str (by decide+kernel)
     rw [a5,a1] at t
     refine af_ (af_ (af_ (af_ (af_ (af_ (hQ _ _ (a_ _ ?_ t)))))))
     unfold outB; rw [if_pos h]
    refine aX_ (b:=decide (aS_ B= [33])) bd a ?_ (fun h' s' S'=> ?_) (fun h' cm bz=> ?_)
    ·have e:decide (aS_ B= [33])=(lS (aS_ B)==("!" :Str)):=by
      rw [b6,show chS 33=lS [33] from rfl,cM_,Bool.eq_iff_iff,decide_eq_true_eq,beq_iff_eq]
     rw [e]
     exact (ai_ (aa_ (iX 1 rfl)) (ah_ G) aY_)
    ·refine cE_ (p:= .str ".") G S' a (iX 7 rfl) mQ (ah_ G) a0 (fun ah t=> ?_)
     have a5:PV.str "." =tkL st (some [46]):=congrArg PV.str (by decide+kernel)
     rw [a5,a1] at t
     refine af_ (af_ (af_ (af_ (af_ (af_ (af_ (hQ _ _ (a_ _ ?_ t))))))))
     unfold outB; rw [if_neg (by rw [h]; simp),if_pos (of_decide_eq_true h')]
    obtain ⟨x0,l0,aF⟩:∃x0 l0,aS_ B=x0::l0:=by
     cases hq:aS_ B with
     | nil => rw [hq] at h; cases h
     | cons x l => exact ⟨x,l,rfl⟩
    have br:(lS (aS_ B)).length=l0.length+1:=by rw [ao_,aF]; rfl
    have bF:six (lS (aS_ B)) 0=chS x0:=by
     have h8:=bS_ (lS (aS_ B)) 0
     rw [a3_] at h8
     exact h8.trans (by rw [aF]; rfl)
    have ai:=K.b2
    refine ei_ (b:=decide (x0=33)) (I:=fun s'=>∃N,LS g ap (cenv 8 pm (.ref cc) doc L fa) aa aj N (("i", .int ((o+1+B.length+1:Nat):Int))::sS s st b (o+1+B.length) (lS (dN_ (aS_ B)))) [(b, .lst (acc.map (tkL st)))] s') bz a ?_ (fun h1 s' S' J=> ?_) (fun h1 s' S' J=> ?_) (fun cj bh=> ?_)
    ·rw [← aq,← bF,← b6]; exact (ai_ (av_ G (aa_ (iX 1 rfl)) (ad_ G) (by rw [br]; exact O348) (by rw [br]; rw [aF] at ai; simp at ai; exact O349 ai)) (ah_ G) aY_)
    ·refine al_ (pv:= .str (("^" :Str)++ssl (lS (aS_ B)) (some ((1:Nat):Int)) none none)) G S' a (ae_ (ah_ G) (ax_ G (aa_ (iX 1 rfl)) (aJ_ G (aq_ (ad_ G)) ap_ ap_) (by decide) (Nat.le_trans (bm_ _ _ _) (by rw [ao_]; simp only [sizeLine]; exact Nat.le_trans ai (Nat.le_of_ble_eq_true rfl)))) (aB_ G ?sz1)) kL (fun ah t=> ?_)
     case sz1=>
      have h2:("^" :Str).length=1:=by decide
      exact Nat.le_trans (Nat.add_le_add_left (bm_ _ _ _) _) (by rw [h2,ao_]; simp only [sizeLine]; exact O351 ai)
     rw [ea_ _ (by rw [br]; exact O352),a3_,ct,show chS 94=lS [94] from rfl,aL_] at t
     have e:dN_ (aS_ B)= [94]++(aS_ B).drop 1:=by
      have:=of_decide_eq_true h1
      unfold dN_; rw [if_pos (by rw [aF]; exact this)]; rfl
     rw [← e] at t
     exact af_ (J _ ⟨_,t.as _ sq⟩)
    ·have bB:=of_decide_eq_false h1
     refine aX_ (b:=decide (x0=94∨x0=91)) S' a ?_ (fun h2 ah t=> ?_) (fun h2 ah t=> ?_)
     ·have e:decide (x0=94∨x0=91)=([("^" :Str),"["].any fun y=>y==six (lS (aS_ B)) 0):=by
       rw [bF,ct,cA]
       show _=((chS 94==chS x0) || ((chS 91==chS x0) || false))
       rw [aq,aq,Bool.or_false]
       exact m3_ x0 94 91
      rw [e]
      exact (ai_ (av_ G (aa_ (iX 1 rfl)) (ad_ G) (by rw [br]; exact O348) (by rw [br]; rw [aF] at ai; simp at ai; exact O349 ai)) (br_ G (aj_ (ah_ G) (aj_ (ah_ G) aD_)) (by show (2:Nat)≤sizeLine; decide)) g7_)
     ·refine al_ (pv:= .str (("\\" :Str)++lS (aS_ B))) G t a (ae_ (ah_ G) (aa_ (iX 1 rfl)) (aB_ G ?sz2)) kL (fun aY ae=> ?_)
      case sz2=>
       have h2:("\\" :Str).length=1:=by decide
       exact Nat.le_trans (Nat.add_le_add (Nat.le_of_eq h2) (Nat.le_of_eq (ao_ _))) (by simp only [sizeLine]; exact O351 ai)
      rw [b5,aL_] at ae
      have e:dN_ (aS_ B)= [92]++aS_ B:=by
       unfold dN_; rw [aF]; show (if x0=33 then _ else if x0=94∨x0=91 then _ else _)=_
       rw [if_neg bB,if_pos (of_decide_eq_true h2)]; rfl
      rw [← e] at ae
      exact af_ (af_ (J _ ⟨_,ae.as _ sq⟩))
     ·have e:dN_ (aS_ B)=aS_ B:=by
       unfold dN_; rw [aF]; show (if x0=33 then _ else if x0=94∨x0=91 then _ else _)=_
       rw [if_neg bB,if_neg (of_decide_eq_false h2)]
      refine af_ (af_ (J _ ⟨bI, ?_⟩))
      rw [e]; exact t
    obtain ⟨df,bs⟩:=bh
    have cH:(dN_ (aS_ B)).length≤901:=by
     unfold dN_; split
     ·rw [List.length_cons,List.length_drop]; exact O353 ai
     ·split
      ·rw [List.length_cons]; exact Nat.succ_le_succ ai
      ·exact Nat.le_succ_of_le ai
    refine cE_ (p:= .str (("[" :Str)++(lS (dN_ (aS_ B))++(("]" :Str)++(⟨#[]⟩:Str))))) G bs a (iX 7 rfl) mQ (g0_ (cv_ (ah_ G) (cv_ (gZ_ G (aa_ (iX 1 rfl)) (by rw [ao_]; simp only [sizeLine]; exact Nat.le_trans cH (Nat.le_of_ble_eq_true rfl))) (cv_ (ah_ G) (jo_ G)))) ?sz3) a0 (fun c7 a8=> ?_)
    case sz3=>
     have h1:("[" :Str).length=1:=by decide
     have h2:("]" :Str).length=1:=by decide
     have h3:(⟨#[]⟩:Str).length=0:=by decide
     simp only [ak_,ao_,sizeLine,List.length_nil]; exact O357 h1 cH h2
    have a5:PV.str (("[" :Str)++(lS (dN_ (aS_ B))++(("]" :Str)++(⟨#[]⟩:Str))))=tkL st (some (91::(dN_ (aS_ B)++ [93]))):=congrArg PV.str (by
     rw [cA,bW,show chS 91=lS [91] from rfl,show chS 93=lS [93] from rfl,show (⟨#[]⟩:Str)=lS [] from rfl,aL_,aL_,aL_]; rfl)
    rw [a5,a1] at a8
    refine af_ (af_ (af_ (af_ (af_ (af_ (af_ (hQ _ _ (a_ _ ?_ a8))))))))
    unfold outB
    rw [if_neg (by rw [h]; simp),if_neg (of_decide_eq_false h')]
  ·obtain ⟨bn,acc⟩:=d
   obtain ⟨O,af,rfl,h3,h4,h6⟩:=hP
   dsimp only at af h3 h4 ay aU
   rcases bn with _ | ⟨it,r⟩
   rotate_left
   ·contradiction
   rw [List.append_nil] at af
   subst af
   rw [← h3]
   have e:(aA_ its).length=s.length:=by rw [aP,ao_]
   rw [e] at h6
   exact aU.as _ h6
  ·have Y:=Z
   refine di_ Y a (by
                have h0:((s.length:Int)==(s.length:Int))=true:=by simp
                rw [← h0]; exact (ai_ (aa_ (iX 5 rfl)) (aa_ (iX 6 rfl)) ca_)) (fun bJ a2=> ?_)
   refine dc_ a2 a (oc:= .lst ((trO esc its []).map (tkL st))) mQ (bs_ (iX 3 rfl) mQ bt_) (aa_ (iX 0 rfl)) (fun v s' S' r=>S'.outV (fun h=>hb (.inl h)) r)
end
end Mine
end
section
namespace Mine
theorem lo_:mroOf (.type "object")=pure [.type "object"]:=by rw [mroOf_type]; kernel_rfl
theorem fg_:typeLookup (.type "object") "__new__" =pure (some (.builtin "object.__new__")):=by rw [typeLookup_type,builtinLookup_eq_fast]; kernel_rfl
theorem fZ_:Slot "object" "__init__" "object.__init__" :=
 .of (owner:= "object") (n:= "__init__") (by rw [typeLookup_type,builtinLookup_eq_fast]; kernel_rfl) (by decide+kernel) (by decide+kernel) (by decide+kernel)
  (by first | exact .inl (by decide+kernel) | exact .inr (by decide+kernel)) (by rw [isSubtype_type]; kernel_rfl)
theorem l5_:Bind.madeBy (.type "object")=pure (some "object.__new__"):=madeBy_type lo_ fg_ (by decide+kernel)
theorem iR_:TypeCalled "object" "object.__new__" "object.__init__" :=
 ⟨by decide+kernel,by decide+kernel,⟨_,_,lo_⟩,l5_,by decide+kernel,by rw [isSubtype_type]; kernel_rfl,fZ_⟩
theorem gI_:checkTypeCall "object" ⟨[],[]⟩=pure ():=by kernel_rfl
theorem hZ_:checkBuiltinCall "object.__new__" ⟨[.type "object"],[]⟩=pure ():=by kernel_rfl
theorem f0_ (a:Value):argsOk "object.__init__" ⟨[a],[]⟩:=by unfold argsOk; kernel_rfl
noncomputable def hx_ (s:Shared):Shared:= {s with heap:=s.heap.push {cls:= .type "object",data:= .plain}}
theorem m9_:Meets (Builtin.«object.__new__» ⟨[.type "object"],[]⟩) (fun _ R s=>R (.ok (.ret (.ref s.heap.objs.size))) (hx_ s)):=by
 refine Meets.of_wp fun prog w A R s h=> ?_
 have K:Bind.madeHere "object.__new__" (.type "object")=pure ():=by kernel_rfl
 have M:typeHasDict (.type "object")=false:=by decide+kernel
 have h3:diesByItsTypesDel "object" =false:=by decide+kernel
 have L:(Manifest.find? "object").elim false (·.mro.any fun t=>(Manifest.find? t).elim false (·.noNew))=false:=by decide+kernel
 unfold Builtin.«object.__new__»
 repeat wp_step
 exact I1_2 _ rfl h
theorem l6_ (a:Value):Meets (Builtin.«object.__init__» ⟨[a],[]⟩) (fun _ R s=>R (.ok (.ret .none)) s):=by
 refine Meets.of_wp fun prog w A R s h=> ?_
 exact wpAny_pure ⟨_,rfl,h⟩
section
variable {prog:Program}{w:World}{A:Around}{E:Value→Shared→Prop}{s:Shared}
theorem g9_ {Q:Value→Shared→Prop}(h:Q (.ref s.heap.objs.size) (hx_ s)):wpAny (model prog w) A (call (.type "object") []) Q E s:=
 callType_meets (Q₁:=fun v i=>v= .ref s.heap.objs.size∧i=hx_ s) iR_ gI_ hZ_ (entryFor_of_tree (by kernel_rfl)) F.entry_object_init m9_ ⟨rfl,rfl⟩ fun J i hq=>by
  obtain ⟨rfl,rfl⟩:=hq
  exact ⟨⟨_,PySem.Heap.get?_push_size _ rfl,rfl⟩,f0_ _,_,l6_ _,rfl,h⟩
end
section
variable {g:GC}{k:Nat}{C:Heap}{env:Env}{Xo:Addr→Prop}{B y:List Addr}{X:Addr→Prop}{σ σ':List (Str×PV)}{ω ω':List (Addr×OC)}{s s':Shared}
variable {A:Around}{E:Value→Shared→Prop}{Q:Flow→Shared→Prop}{j:List Stmt}
theorem iw_ (G:g.Good){x:Str}{px pos cp:Pos}{f:Expr}(S:LS g C env Xo B y σ ω s)(a:AOk k A)(I:Ev g k env (av Xo B y) σ ω f (.typ "object"))(hk:Kd env x)
  (c:∀b s',LS g C env Xo B y (upd x (.ref b) σ) ω s'→Wp g A env j Q E s')
  (hc:autoParam (eval (.Call f [] [] cp) env=(do callWith cp (← eval f env) [] (backTo cp (starEach [] env)) (backToKw cp (keywordEach [] env)))) aQ6) (u:autoParam ((x==("__classdict__" :Str))=false) aQ0) (z:autoParam (swapsWith (.Call f [] [] cp) (some (Expr.Name x px)) pos.line env=pure false) aQ4):
  Wp g A env (.Assign [.Name x px] (.Call f [] [] cp) pos::j) Q E s:=
 b4_ (wpAny_Assign_Name (Call_ (I.use a S.ok S.loc fun v i p r D m=>by
  rw [rd_typ] at m; subst m
  refine PyProof.Rows.callWith_type0 (g9_ ?_)
  have l:=S.kp p r
  have q:=l.kp (s':=hx_ i) (l.ok.keep G (fun b o e=>PySem.Heap.get?_push_of_some _ e) p.tok) (Kp.of fun b o e=>PySem.Heap.get?_push_of_some _ e)
  exact q.store G hk u (rd_ref.mpr rfl) fun s' H=>c _ s' H) hc) z)
end
section
variable {g:GC}{k:Nat}
theorem c9_ (G:g.Good)(N:GN g){z:Addr}{pm cd doc:Value}(F:FnAt g z 3 pm cd doc)
  {p B pa O:Addr} {w h:Value} (FT:FnAt g p 8 w (.ref B) h) (J:g.mg "_translate" =some (.ref p)) {t:Addr} {u n j:Value} (FJ:FnAt g t 9 u n j) (Q:g.mg "_join_translated_parts" =some (.ref t))
  {esc:Nat→List Nat} {its:List It} (H:TrG g k B pa O esc its) (q:∀it∈its,it.ok) (l:(aA_ its).length≤1000) {o:List (Option Str)} (K:(trO esc its []).map (Option.map lS)=o) {R:List Str}
  (T:o.length≤60) (hx:∀x,some x∈o→x.length≤1100) (U:ew_ (o.length+1) (bV_ o) (bf_ o)=some R):
  aC_ g (k+2) z [.str (lS (aA_ its))] (.str (jOut R)):=by
 refine aP_ G F ["pat"] rfl (fun vs s=> ?_) (by decide) (fun m x hx=> ?_) (by decide) (fun A s₀ D Xo L M E a hp S=> ?_)
 ·exact v1 (P:=fun vs=>bindArgs _ ⟨vs,[]⟩=pure (List.zip _ vs)) (fun v=>rfl) vs s
 ·rcases List.mem_cons.mp hx with rfl | hx
  ·exact .inl rfl
  ·exact (nomatch hx)
 ·conv=>arg 4; whnf
  obtain ⟨c,b⟩:∃c,c=lS (aA_ its):=⟨_,rfl⟩
  rw [← b] at S
  refine iw_ G S a (dK_ G N.object) kL (fun st y i=> ?_)
  have HT:aC_ g (k+1) p [.str c, .ref st, .str "."] (.lst (o.map (tkP st))):=by
   have:=bF_ (st:=st) G N FT H q l
   replace this:=Eq.symm b▸this
   have e:(trO esc its []).map (tkL st)=o.map (tkP st):=by refine sy K (sb List.map_map ?_); rfl
   exact sy e this
  have HJ:aC_ g (k+1) t [.lst (o.map (tkP st)), .ref st] (.str (jOut R)):=jd_ G N FJ T hx U
  refine al_ G i a (az_ (bI_ G J) FT.isFn (ac_ (aa_ (uQ mQ)) (ac_ (aa_ ab_) (ac_ (ah_ G) ag_))) HT) kL (fun C f=> ?_)
  exact aO_ f a (az_ (bI_ G Q) FJ.isFn (ac_ (aa_ ab_) (ac_ (aa_ (uQ ab_)) ag_)) HJ) (fun v s' I r=>I.out r)
end
noncomputable abbrev two (a:Expr) (x y:Str) (px py:Pos) (i1 i2:Expr) (scope:Scope) (pos:Pos):Expr:= .ListComp a [⟨.Name x px,i1,[],0⟩,⟨.Name y py,i2,[],0⟩] scope pos
theorem im_ (a:Expr)(x y:Str)(px py:Pos)(i1 i2:Expr)(scope:Scope)(pos:Pos)(it acc:Value)(env:Env):
  compTurn (two a x y px py i1 i2 scope pos) 0 it acc env=(do
   standAt i1.pos
   match ← pyNext it with
   | none => pure (.done .next)
   | some v=>
    letOwnedTupleGo (.Name x px) it v
    assign (.Name x px) env v
    let u ← eval i2 env
    standAt i2.pos
    let u ← foldedSetIterable i2 env u
    let _ ← runOwn (.compStart (two a x y px py i1 i2 scope pos) 1 (← holding [u] (pyIter u)) acc env) env
    again (.compLoop (two a x y px py i1 i2 scope pos) 0 it acc env)):=by rfl
theorem il_ (a:Expr)(x y:Str)(px py:Pos)(i1 i2:Expr)(scope:Scope)(pos:Pos)(it acc:Value)(env:Env):
  compTurn (two a x y px py i1 i2 scope pos) 1 it acc env=(do
   standAt i2.pos
   match ← pyNext it with
   | none => pure (.done .next)
   | some v=>
    letOwnedTupleGo (.Name y py) it v
    assign (.Name y py) env v
    (do let _ ← call (.builtin "list.append") [acc,← eval a env])
    again (.compLoop (two a x y px py i1 i2 scope pos) 1 it acc env)):=by rfl
section
variable {prog:Program}{w:World}{A:Around}{R:Result→Shared→Prop}{s:Shared}{env:Env}
variable {a i1 i2:Expr}{x y:Str}{px py:Pos}{scope:Scope}{pos:Pos}{it acc:Value}
theorem i3_ (I:Nat→Shared→Prop)
  (k:∀n s p,I n s→wpAny (model prog w) A (pyNext it) (fun r c=>match r with
   | none => R (.ok .next) c
   | some v => wpAny (model prog w) A (assign (.Name y py) env v) (fun _ f=>wpAny (model prog w) A (eval a env) (fun z e=>
       wpAny (model prog w) A (call (.builtin "list.append") [acc,z]) (fun _ b=>∃m,m < n∧I m b) p e) p f) p c) p s)
  (n:Nat) (h:I n s):codeAny (model prog w) A (.compLoop (two a x y px py i1 i2 scope pos) 1 it acc env) R s:=by
 refine codeAny_loop rfl I (fun n s B=> ?_) n h
 refine (?_:wpAny _ A ((compTurn (two a x y px py i1 i2 scope pos) 1 it acc env).onRaise (fun x=>do noteFrame x env; theTreesLotGoes x)) _ _ s)
 refine wpAny_noted ?_
 refine sb (il_ ..) ?_
 refine wpAny_bind (wpAny_standAt (wpAny_bind (wpAny_mono (k n s _ B) (fun r c g=> ?_) fun _ _ h'=>h')))
 cases r with
 | none => exact wpAny_pure g
 | some v=>
  refine wpAny_bind (wpAny_of_eq dm_ ?_)
  refine wpAny_bind (wpAny_mono g (fun _ f l=> ?_) fun _ _ h'=>h')
  exact wpAny_bind (wpAny_bind (wpAny_mono l (fun x e o=>wpAny_bind (wpAny_mono o (fun _ b j=>wpAny_pure (wpAny_pure ⟨rfl,j⟩)) fun _ _ h'=>h')) fun _ _ h'=>h'))
theorem i4_ (I:Nat→Shared→Prop)(C:∀u,foldedSetIterable i2 env u=pure u)
  (k:∀n s p,I n s→wpAny (model prog w) A (pyNext it) (fun r c=>match r with
   | none => R (.ok .next) c
   | some v => wpAny (model prog w) A (assign (.Name x px) env v) (fun _ f=>wpAny (model prog w) A (eval i2 env) (fun u q=>
     wpAny (model prog w) A (pyIter u) (fun i e=>∃P:Shared→Prop,(∀b,P b→∃m,m < n∧I m b)∧(∀D,(∀b,P b→D (.ok .next) b)→codeAny (model prog w) A (.compStart (two a x y px py i1 i2 scope pos) 1 i acc env) D e)) p q) p f) p c) p s)
  (n:Nat) (h:I n s):codeAny (model prog w) A (.compLoop (two a x y px py i1 i2 scope pos) 0 it acc env) R s:=by
 refine codeAny_loop rfl I (fun n s B=> ?_) n h
 refine (?_:wpAny _ A ((compTurn (two a x y px py i1 i2 scope pos) 0 it acc env).onRaise (fun x=>do noteFrame x env; theTreesLotGoes x)) _ _ s)
 refine wpAny_noted ?_
 refine sb (im_ ..) ?_
 refine wpAny_bind (wpAny_standAt (wpAny_bind (wpAny_mono (k n s _ B) (fun r c g=> ?_) fun _ _ h'=>h')))
 cases r with
 | none => exact wpAny_pure g
 | some v=>
  refine wpAny_bind (wpAny_of_eq dm_ ?_)
  refine wpAny_bind (wpAny_mono g (fun _ f l=> ?_) fun _ _ h'=>h')
  refine wpAny_bind (wpAny_mono l (fun u q t=>wpAny_bind (wpAny_standAt (wpAny_bind (wpAny_of_eq (C u) (wpAny_bind (wpAny_holding (wpAny_mono t (fun i e o=> ?_) fun _ _ h'=>h'))))))) fun _ _ h'=>h')
  obtain ⟨P,F,hc⟩:=o
  refine wpAny_bind (wpAny_runOwn (hc _ fun b j=> ?_))
  exact wpAny_pure ⟨rfl,F b j⟩
theorem hR_ (E:codeAny (model prog w) A (.compLoop (two a x y px py i1 i2 scope pos) 1 it acc env) R s)
  (h:wpAny (model prog w) A (pyIter it) (fun i s'=>codeAny (model prog w) A (.compLoop (two a x y px py i1 i2 scope pos) 1 i acc env) R s')
   (notedBy (model prog w) A env fun x s'=>R (.error x) s') s):
  codeAny (model prog w) A (.compStart (two a x y px py i1 i2 scope pos) 1 it acc env) R s:=by
 refine codeAny_of_tree ?_
 refine (?_:wpAny _ _ ((compStart (two a x y px py i1 i2 scope pos) 1 it acc env).onRaise (fun x=>do noteFrame x env; standAt theWindowsPlace)) _ _ s)
 refine wpAny_notedAt ?_
 refine (?_:wpAny _ _ (ask>>=_) _ _ s)
 refine wpAny_bind (wpAny_askSetting (wpAny_ite ?_))
 split
 ·first
   | exact wpAny_bind (wpAny_pure (wpAny_pure (And.intro rfl E)))
   | exact wpAny_pure (And.intro rfl E)
 ·first
   | exact wpAny_bind (wpAny_rule (wpAny_bind (wpAny_standAt (wpAny_bind (wpAny_mono h (fun i s' h' => wpAny_pure (And.intro rfl h')) fun _ _ x=>x)))))
   | (refine wpAny_bind (wpAny_rule ?_); show wpAny _ _ (standAt i2.pos>>=_) _ _ s; exact wpAny_bind (wpAny_standAt (wpAny_bind (wpAny_mono h (fun i s' h'=>wpAny_pure (And.intro rfl h')) fun _ _ x=>x))))
end
section
variable {g:GC}{k:Nat}{X:Addr→Prop}{s:Shared}
structure n5_ (g:GC)(cenv:Env)(X:Addr→Prop)(σ1:List (Str×PV))(D:Addr)(n:Nat)(acc:List PV)(h:Heap)(s':Shared):Prop where
 ok:g.Ok s'
 loc:Loc g cenv X σ1 [] s'.heap
 lst:∃vs,s'.heap.IsList D vs∧vs.size=n∧RdL g X s'.heap acc vs.toList
 keep:∀b o,b≠g.Pt→b≠cenv.locals→b≠D→h.get? b=some o→s'.heap.get? b=some o
theorem Loc.subσ {env:Env}{σ σ':List (Str×PV)}{ω:List (Addr×OC)}{h:Heap}(L:Loc g env X σ' ω h)(hs:∀p∈σ,p∈σ'):Loc g env X σ ω h:=L.weakσ hs
theorem Loc.shrink {env:Env}{σ:List (Str×PV)}{X X':Addr→Prop}{h h':Heap}(L:Loc g env X σ [] h)(hX:∀a,X' a→X a)(hp:X' g.Pt)(hl:X' env.locals)(hc:∀x c,env.cells.lookup x=some c→X' c)
  (k:∀b o,X' b→h.get? b=some o→h'.get? b=some o) (C:bE_ X X' h h'):Loc g env X' σ [] h':=by
 have ax:∀{x c ov},env.cells.lookup x=some c→h.IsCell c ov→h'.IsCell c ov:=fun af ⟨o,Z,hd⟩=>⟨o,k _ o (hc _ _ af) Z,hd⟩
 refine {fn:=L.fn,gl:=L.gl,bl:=L.bl,xs:=fun a ha=> ?_,ptX:=hp,gX:=fun a ha n=>L.gX a (hX a ha) n,lX:=hl,lP:=L.lP,cX:=fun x c af=> ?_,inj:=L.inj,ns:= ?_,vars:=fun x pv aT=> ?_,own:=fun a oc ha=>(nomatch ha),once:=L.once}
 ·refine X1_1 (L.xs a (hX a ha)) fun o Z=> ?_; exact ⟨o,k a o ha Z⟩
 ·obtain ⟨S,h2,h3,ov,h4⟩:=L.cX x c af
  exact ⟨hc x c af,h2,h3,ov,ax af h4⟩
 ·(refine X1_2 L.ns fun m q1 hv=> ?_; obtain ⟨o,es,ep,Z,r⟩:=q1)
  exact I1_2 m (I3_2 o es ep (k _ o hl Z) r) (fun x pv hx hk=>(X1_2 (hv x pv hx hk) fun v e r=>⟨v,e,an_ C _ _ r⟩))
 ·rcases L.vars x pv aT with S | ⟨S,h2,c,v,h3,h4,h5⟩
  ·exact .inl S
  ·exact .inr ⟨S,h2,c,v,h3,ax h3 h4,an_ C _ _ h5⟩
theorem ik_ (G:g.Good){cenv:Env}{a5 i1 i2:Expr}{x y:Str}{px py:Pos}{scope:Scope}{pos:Pos}{A:Around}{E:Value→Shared→Prop}(a:AOk k A){D:Addr}
  {z:Str} {t:Tok} {σ1:List (Str×PV)} {f:Nat→PV} {acc:List PV} {vs:Array Value}
  (O:g.Ok s) (L:Loc g cenv X σ1 [] s.heap) (hG:g.hG.get? cenv.locals=none) (XD:X D) (DP:D≠g.Pt) (DC:D≠cenv.locals) (Dc:∀x c,cenv.cells.lookup x=some c→c≠D)
  (hl:s.heap.IsList D vs) (hr:RdL g X s.heap acc vs.toList) (aK:vs.size+z.length≤16777216)
  (hy:cenv.kindOf y=some .local) (hback:∀c,∀q∈σ1,q∈upd y (chP c) σ1) (helt:∀c X,Ev g k cenv X (upd y (chP c) σ1) [] a5 (f c)) {Q:Value→Shared→Prop}
  (hQ:∀it ap,(∀R',(∀F,n5_ g cenv X σ1 D (vs.size+z.length) (acc++z.cps.toList.map f) s.heap F→R' (.ok .next) F)→codeAny (model g.prog g.w) A (.compStart (two a5 x y px py i1 i2 scope pos) 1 it (.ref D) cenv) R' ap)→Q it ap):
  wpAny (model g.prog g.w) A (pyIter (.str z t)) Q E s:=by
 refine dE_ G (x:=z) A s E _ Q a.1 O L.xok (by rw [rd_str]; exact ⟨t,rfl⟩) fun I fp P St h' a7 H W aB a8 al am aS aa aN aF bg=>hQ _ _ fun R' aQ=> ?_
 have WA:Walks g.prog g.w A I fp [I] (sgn z).length P St:=W A a.1
 have an:(sgn z).length=z.length:=by refine (?_:(z.cps.toList.map _).length=_); refine sb (List.length_map ..) ?_; rfl
 let Xc:Addr→Prop:=fun b=>X b∨b=I
 have ay:g.hG.get? I=none:=O.none aa
 have aC:I≠D:=fun e=>al (e▸XD)
 have aL:I≠cenv.locals:=fun e=>al (e▸L.lX)
 have CX:∀{aq ar:Heap},(∀b o,¬X b→b≠I→aq.get? b=some o→ar.get? b=some o)→bE_ Xc Xc aq ar:=fun kk=>⟨fun b o n e=>kk b o (fun q=>n (.inl q)) (fun q=>n (.inr q)) e,fun _ _ n _=>n⟩
 have L':Loc g cenv Xc σ1 [] h':=L.carry2 ⟨fun b o n e=>H b o e,fun b o n e q=>by
   rcases q with q | rfl
   ·exact n q
   ·rw [aa] at e; contradiction⟩ (fun _ h=> .inl h) (fun b hb=>by
   rcases hb with hb | rfl
   ·refine X1_1 (L.xs b hb) fun o e=> ?_; exact ⟨o,H _ _ e⟩
   ·exact aS) (fun b o _ e=>H b o e) (fun b hb=>hb.imp id fun q=>by exact sb q ay)
 have ak:∀b∈fp,¬X b∧b≠g.Pt:=fun b hb=>⟨(a8 b hb).1,(a8 b hb).2.1⟩
 have aU:RdL g Xc h' acc vs.toList:=aw_ ⟨fun b o _ e=>H b o e,fun b o n e q=>by
   rcases q with q | rfl
   ·exact n q
   ·rw [aa] at e; contradiction⟩ _ _ hr
 have aP:h'.IsList D vs:=by refine X1_2 hl fun o e r=> ?_; exact I1_2 o (H _ _ e) r
 have V:∀it,it=Value.ref I→codeAny (model g.prog g.w) A (.compLoop (two a5 x y px py i1 i2 scope pos) 1 it (.ref D) cenv) R' {s with heap:=h'}:=by
  rintro it rfl
  refine i3_ (fun n s'=>∃i ys,n=(sgn z).length - i∧i≤(sgn z).length∧g.Ok s'∧St i s'.heap∧s'.heap.IsList D ys∧RdL g Xc s'.heap (acc++(z.cps.toList.take i).map f) ys.toList∧ys.size=vs.size+i∧
   Loc g cenv Xc σ1 [] s'.heap∧(∀b o,b≠g.Pt→b≠cenv.locals→b≠D→s.heap.get? b=some o→s'.heap.get? b=some o)) ?_ (sgn z).length
   ⟨0,vs,rfl,Nat.zero_le _,a7,aB,aP,by simpa using aU,rfl,L',fun b o _ _ _ e=>H b o e⟩
  rintro n u E' ⟨i,ys,rfl,hle,O3,hst3,hl3,hr3,hys,L3,hk3⟩
  have ag:∀o,u.heap.get? I=some o→bg_ o:=fun o e=>by refine X1_2 (aF _ i hst3) fun o' e' q=> ?_; rw [e] at e'; cases e'; exact q
  by_cases J:i < (sgn z).length
  ·refine wpAny_with_toks (n:=1) O3.tok (WA.item i u _ _ J hst3 fun w l R aV U ad ht=> ?_)
   have j:∀b o,b≠I→u.heap.get? b=some o→l.get? b=some o:=fun b o n e=>ad b o (fun h=>n (List.mem_singleton.mp h)) e
   have aA:bE_ Xc Xc u.heap l:=CX fun b o _ n e=>j b o n e
   have ah:g.Ok {u with heap:=l,toks:=R}:=⟨fun b o n e=>j b o (by rintro rfl; rw [ay] at e; contradiction) (O3.gk b o n e),let ⟨o,e⟩:=O3.pt; ⟨o,j _ o (Ne.symm am) e⟩,G.tabKeep _ _ I O3.tab am ag j,O3.gens,O3.os,ht⟩
   have ai:Loc g cenv Xc σ1 [] l:=L3.carry2 aA (fun _ h=>h) (fun q hq=>by
    by_cases e:q=I
    ·refine sb e ?_; refine X1_2 (aF _ _ U) fun o Z _=> ?_; exact ⟨o,Z⟩
    ·refine X1_1 (L3.xs q hq) fun o Z=> ?_; exact ⟨o,j _ _ e Z⟩) (fun q o hq e=>j q o (by
     rintro rfl
     rcases hq with S | ⟨x,hx⟩ | ⟨oc,S⟩
     ·exact aL S
     ·exact al ((L.cX x q hx).1)
     ·exact (nomatch S)) e)
   obtain ⟨c,hc,aY⟩:∃c,z.cps.toList[i]? =some c∧(sgn z)[i]? =some (chP c):=by
    have S:i < z.cps.toList.length:=by rw [an] at J; exact J
    refine I1_2 (z.cps.toList[i]) (List.getElem?_eq_getElem S) ?_
    refine (?_:(z.cps.toList.map _)[i]? =_)
    refine sb (List.getElem?_map) (sb (List.getElem?_eq_getElem S) ?_); rfl
   have aX:Rd g Xc l (chP c) w:=by
    have:=aN h' X i w (chP c) ⟨fun b o _ e=>H b o e,fun b o n _=>n⟩ aV aY
    rw [rd_str] at this ⊢
    exact this
   refine aI_ G hy a ah ai hG aX fun F aD au Y=> ?_
   have ao:St (i+1) F.heap:=WA.frame _ _ _ U fun q hq o e=>Y q o (ak q hq).2 (fun e=>(ak q hq).1 (e▸L.lX)) e
   have az:F.heap.IsList D ys:=by refine X1_2 hl3 fun o e r=> ?_; exact I1_2 o (Y _ _ DP DC (j _ _ aC.symm e)) r
   have a2:RdL g Xc F.heap (acc++(z.cps.toList.take i).map f) ys.toList:=aw_ (CX fun q o n n2 e=>Y q o (fun z=>n (z▸L.ptX)) (fun z=>n (z▸L.lX)) (j q o n2 e)) _ _ hr3
   have a3:∀q o,q≠g.Pt→q≠cenv.locals→q≠D→s.heap.get? q=some o→F.heap.get? q=some o:=fun q o n n2 n3 e=>Y q o n n2 (j q o (by rintro rfl; rw [aa] at e; contradiction) (hk3 q o n n2 n3 e))
   refine (helt c Xc).use a aD au fun v M K T aw aG=> ?_
   have ab:M.heap.IsList D ys:=by refine X1_2 az fun o e r=> ?_; exact I1_2 o (T _ _ DP e) r
   have a0:=dT_ au.xok T a2
   refine wpAny_list_append ab (fun N ae a1=> ?_) (by simp only [sizeLine]; exact O464 hys aK J an)
   have B:∀q o,q≠D→M.heap.get? q=some o→N.get? q=some o:=fun q o n e=>a1.extBut q o n e
   have ac:bE_ Xc Xc M.heap N:=CX fun q o n _ e=>B q o (fun z=>n (z▸XD)) e
   have aO:∀o,M.heap.get? D=some o→bg_ o:=fun o e=>by obtain ⟨o',e',_,_,hd⟩:=ab; rw [e] at e'; cases e'; exact bg_.list hd
   have a9:g.Ok {M with heap:=N}:=⟨fun q o n e=>B q o (by rintro rfl; rw [L.gX _ XD DP] at e; contradiction) (K.gk q o n e),let ⟨o,e⟩:=K.pt; ⟨o,B _ o (Ne.symm DP) e⟩,G.tabKeep _ _ D K.tab DP aO B,K.gens,K.os,K.tok⟩
   have a6:Loc g cenv Xc (upd y (chP c) σ1) [] N:=aw.carry2 ac (fun _ h=>h) (fun q hq=>by
    by_cases e:q=D
    ·refine sb e ?_; refine X1_2 ae fun o Z _=> ?_; exact ⟨o,Z⟩
    ·refine X1_1 (aw.xs q hq) fun o Z=> ?_; exact ⟨o,B _ _ e Z⟩) (fun q o hq e=>B q o (by
     rintro rfl
     rcases hq with S | ⟨x,hx⟩ | ⟨oc,S⟩
     ·exact DC S
     ·exact Dc x q hx rfl
     ·exact (nomatch S)) e)
   have aj:St (i+1) N:=WA.frame _ _ _ ao fun q hq o e=>B q o (fun e=>(ak q hq).1 (e▸XD)) (T q o (ak q hq).2 e)
   refine ⟨(sgn z).length - (i+1),by exact O47 J,i+1,ys.push v,rfl,J,a9,aj,ae, ?_,by exact sb (Array.size_push ..) (O465 hys),a6.subσ (hback c),fun q o n n2 n3 e=>B q o n3 (T q o n (a3 q o n n2 n3 e))⟩
   refine sb List.take_add_one (sb hc ?_)
   simp only [Option.toList_some,List.map_append,List.map_cons,List.map_nil,Array.toList_push]
   refine sy (List.append_assoc ..) ?_
   exact bG_ (aw_ ac _ _ a0) (bn_ (an_ ac _ _ aG))
  ·have aW:i=(sgn z).length:=by exact O48 hle J
   subst aW
   refine wpAny_with_toks (n:=1) O3.tok (WA.done u _ _ hst3 fun l R ad ht=> ?_)
   have j:∀b o,b≠I→u.heap.get? b=some o→l.get? b=some o:=fun b o n e=>ad b o (fun h=>n (List.mem_singleton.mp h)) e
   have ah:g.Ok {u with heap:=l,toks:=R}:=⟨fun b o n e=>j b o (by rintro rfl; rw [ay] at e; contradiction) (O3.gk b o n e),let ⟨o,e⟩:=O3.pt; ⟨o,j _ o (Ne.symm am) e⟩,G.tabKeep _ _ I O3.tab am ag j,O3.gens,O3.os,ht⟩
   have ai:Loc g cenv X σ1 [] l:=L3.shrink (fun _ h=> .inl h) L.ptX L.lX (fun x c h=>(L.cX x c h).1) (fun b o hb e=>j b o (fun q=>al (q▸hb)) e) ⟨fun b o n e=>j b o (fun q=>n (.inr q)) e,fun b o n _ q=>n (.inl q)⟩
   refine aQ _ ⟨ah,ai, ?_,fun q o n n2 n3 e=>j q o (by rintro rfl; rw [aa] at e; contradiction) (hk3 q o n n2 n3 e)⟩
   refine X1_2 hl3 fun o e r=> ?_
   refine I1_3 ys ⟨o,j _ o aC.symm e,r⟩ (by exact sb hys (sb an rfl)) ?_
   have h9:z.cps.toList.take (sgn z).length=z.cps.toList:=by exact sb an List.take_length
   rw [h9] at hr3
   exact aw_ ⟨fun q o n e=>j q o (fun z=>n (.inr z)) e,fun q o n _ z=>n (.inl z)⟩ _ _ hr3
 exact hR_ (V _ rfl) (WA.self 0 _ _ _ aB (V _ rfl))
end
end Mine
end
section
namespace Mine
section
variable {g:GC}{k:Nat}{env:Env}{X:Addr→Prop}{σ σ':List (Str×PV)}{ω:List (Addr×OC)}{s s':Shared}
theorem nr_ (G:g.Good){ar i1 i2:Expr}{x y:Str}{px py:Pos}{scope:Scope}{pos:Pos}{p:PV}{items:List Str}{f:Nat→PV}
  (hi:Ev g k env X σ ω i1 p) (aQ:∀X,Its g X p (items.map .str)) (aT:(items.map fun z=>z.length).sum≤16777216)
  (a4:closureFor scope env=pure []) (hcell:∀y∈scope.names,y.2≠ .cell) (hkind:scope.kind= .function) (hnames:∀x∈scope.names,x.2= .local→scope.names.lookup x.1=some .local)
  (hx:∀C,(compEnvC scope [] C env).kindOf x=some .local) (hy:∀C,(compEnvC scope [] C env).kindOf y=some .local) (be:(x==y)=false)
  (bb:∀z C X,Ev g k (compEnvC scope [] C env) X (upd x (.str z) []) [] i2 (.str z))
  (helt:∀z c C X,Ev g k (compEnvC scope [] C env) X (upd y (chP c) (upd x (.str z) [])) [] ar (f c))
  (hs:autoParam (∀x,foldedSetIterable i1 env x=pure x) aQ2) (bi:∀C x,foldedSetIterable i2 (compEnvC scope [] C env) x=pure x:=by intro _ _; rfl):
  Ev g k env X σ ω (two ar x y px py i1 i2 scope pos) (.lst (items.flatMap fun z=>z.cps.toList.map f)):= .mk fun A s E a O L=>by
 unfold two
 simp only [eval_ListComp]
 refine wpAny_comprehension_free (use:=none) rfl hs a4 hkind hnames ?_
 refine hi.use a O L fun xv F P aL J aR=>aQ _ _ _ _ _ _ a.1 P J.xok aR fun I fp PP St h' al ac W aM bg bs am aI a8 aX aP bz=> ?_
 refine wpAny_newObj_type (wpAny_newFunctionEnv hcell (by intro y hy; simp at hy) (fun V N M=> ?_) hkind) 
 dsimp only at N M ⊢
 generalize aB:h'.push {cls:= .type "list",dict:=none,data:= .seq ([]:List Value).toArray}=H2 at N M ⊢
 generalize hD:h'.objs.size=D at*
 have K:H2.objs.size=D+1:=by exact sy (aB ..) (sb (Heap.size_push ..) (sb (hD ..) rfl))
 generalize hC:H2.objs.size=C at*
 have aw: @Ne Nat D C:=by exact O55 K
 have ad: @LT.lt Nat _ I D:=by refine X1_1 aI fun o e=> ?_; exact sy hD (Heap.lt_size e)
 have ao:∀{b:Nat} {o},h'.get? b=some o→@LT.lt Nat _ b D:=fun e=>hD▸Heap.lt_size e
 have old:∀b o,h'.get? b=some o→V.get? b=some o:=fun b o e=>M.extBut b o (nN (by have:=ao e; exact O56 this K)) (Heap.get?_push_of_some _ (aB▸Heap.get?_push_of_some _ e))
 have a1:V.IsList D #[]:=⟨_,M.extBut _ _ aw (Heap.get?_push_of_some _ (aB▸hD▸Heap.get?_push_size _ rfl)),rfl,_,rfl⟩
 have Y:∀{b:Nat} {o},F.heap.get? b=some o→@LT.lt Nat _ b D:=fun e=>ao (ac _ _ e)
 have aj: @LT.lt Nat _ g.Pt D:=by refine X1_1 P.pt fun o e=> ?_; exact Y e
 have XD:∀{b:Nat},X b→@LT.lt Nat _ b D:=fun hb=>by refine X1_1 (J.xs _ hb) fun o e=> ?_; exact Y e
 have af:∀b:Nat,@LE.le Nat _ D b→g.hG.get? b=none:=fun b hb=>by
  cases e:g.hG.get? b with
  | none => rfl
  | some o => have:=Y (P.gk b o (nN (by exact O9 aj hb)) e); exact (O6 this hb).elim
 have a9:g.hG.get? I=none:=by
  cases e:g.hG.get? I with
  | none => rfl
  | some o => rw [P.gk I o am e] at a8; contradiction
 let cenv:=compEnvC scope [] C env
 have ap:∀x c,cenv.cells.lookup x=some c→False:=fun x c hc=>by have:([]:List (Str×Addr)).lookup x=some c:=hc; contradiction
 let Xc:Addr→Prop:=fun a=>X a∨a=C∨a=D∨a=I
 have bh:C≠g.Pt:=nN (by exact O58 K aj)
 have aq:D≠g.Pt:=nN (by exact O7 aj)
 have a3:Loc g cenv Xc [] [] V:=by
  have aW:∀z,Xc z→z≠g.Pt→g.hG.get? z=none:=fun z hz n=>by
   rcases hz with hz | q | q | q
   ·exact J.gX z hz n
   ·exact af _ (by have q': @Eq Nat z C:=q; exact O466 q' K)
   ·exact af _ (by have q': @Eq Nat z D:=q; exact Nat.le_of_eq (id (Eq.symm q')))
   ·exact sb q a9
  refine {fn:=hkind,gl:=J.gl,bl:=J.bl,xs:=fun a ha=> ?_,ptX:= .inl J.ptX,gX:=aW,lX:= .inr (.inl rfl),lP:=bh,cX:=fun x c hc=>(ap x c hc).elim,inj:=fun x y c hx hy=>(ap x c hx).elim,ns:=(I1_2 _ N (fun x pv hx hk=>(nomatch hx))),vars:=fun x pv hx=>(nomatch hx),own:=fun a oc h=>(nomatch h),once:=List.Pairwise.nil}
  rcases ha with ha | rfl | rfl | rfl
  ·refine X1_1 (J.xs a ha) fun o e=> ?_; exact ⟨o,old _ _ (ac _ _ e)⟩
  ·exact Ns.ex N
  ·refine X1_2 a1 fun o e _=> ?_; exact ⟨o,e⟩
  ·refine X1_1 aI fun o e=> ?_; exact ⟨o,old _ _ e⟩
 have l:g.Ok {F with heap:=V,toks:=F.toks+([]:List (Str×Value)).length}:=by
  refine ⟨fun b o n e=>old _ _ (al.gk b o n e),(X1_1 al.pt fun o e=>⟨o,old _ _ e⟩), ?_,P.gens,P.os,P.tok⟩
  exact G.tabKeep _ _ D al.tab aq (fun o e=>by have:=ao e; exact (O61 this).elim) fun b o _ e=>old b o e
 have WA:Walks g.prog g.w A I fp [I] (items.map PV.str).length PP St:=W A a.1
 have ag:∀b∈fp,@LT.lt Nat _ b D∧b≠g.Pt:=fun b hb=>by obtain ⟨_,h2,o,e⟩:=bg b hb; exact ⟨ao e,h2⟩
 have ah:∀q:Nat,@LE.le Nat _ D q→F.heap.get? q=none:=fun q hq=>by
  cases e:F.heap.get? q with
  | none => rfl
  | some o => have:=Y e; exact (O6 this hq).elim
 have aO:∀{τ:List (Str×PV)},∀q∈([]:List (Str×PV)),q∈τ:=fun q h=>nomatch h
 have ab:∀B:Shared,B= {F with heap:=V,toks:=F.toks+([]:List (Str×Value)).length}→
   codeAny (model g.prog g.w) A (.compLoop (two ar x y px py i1 i2 scope pos) 0 (.ref I) (.ref D) cenv) (compPost (model g.prog g.w) A E none (fun v s'=>g.Ok s'∧Kp g s.heap s'.heap∧Rd g X s'.heap (.lst (items.flatMap fun z=>z.cps.toList.map f)) v) (.ref D) C) B:=by
  rintro B rfl
  refine i4_ (env:=cenv) (fun n s'=>∃i ys,n=items.length - i∧i≤items.length∧g.Ok s'∧St i s'.heap∧s'.heap.IsList D ys∧RdL g Xc s'.heap ((items.take i).flatMap fun z=>z.cps.toList.map f) ys.toList∧
   Loc g cenv Xc [] [] s'.heap∧(∀b o,b≠g.Pt→F.heap.get? b=some o→s'.heap.get? b=some o)) (bi C) ?_ items.length
   ⟨0,#[],rfl,Nat.zero_le _,l,WA.frame _ _ _ aM (fun b _ o e=>old b o e),a1,by simp [aG_],a3,fun b o _ e=>old _ _ (ac _ _ e)⟩
  rintro n B E' ⟨i,ys,rfl,hle,l,hst3,hl3,hr3,L3,hk3⟩
  have an:∀o,B.heap.get? I=some o→bg_ o:=fun o e=>by refine X1_2 (aP _ i hst3) fun o' e' q=> ?_; rw [e] at e'; cases e'; exact q
  by_cases Q:i < items.length
  ·refine wpAny_with_toks (n:=1) l.tok (WA.item i B _ _ (by exact sb (List.length_map ..) Q) hst3 fun w H R a_ ae ai ht=> ?_)
   dsimp only
   have j:∀b o,b≠I→B.heap.get? b=some o→H.get? b=some o:=fun b o n e=>ai b o (fun h=>n (List.mem_singleton.mp h)) e
   have aD:bE_ Xc Xc B.heap H:=⟨fun b o n e=>j b o (fun q=>n (.inr (.inr (.inr q)))) e,fun b o n _=>n⟩
   have ak:g.Ok {B with heap:=H,toks:=R}:=⟨fun b o n e=>j b o (by rintro rfl; rw [a9] at e; contradiction) (l.gk b o n e),let ⟨o,e⟩:=l.pt; ⟨o,j _ o (Ne.symm am) e⟩,G.tabKeep _ _ I l.tab am an j,l.gens,l.os,ht⟩
   have aK:Loc g cenv Xc [] [] H:=L3.carry2 aD (fun _ h=>h) (fun q hq=>by
    by_cases e:q=I
    ·refine sb e ?_; refine X1_2 (aP _ _ ae) fun o ho _=> ?_; exact ⟨o,ho⟩
    ·refine X1_1 (L3.xs q hq) fun o ho=> ?_; exact ⟨o,j _ _ e ho⟩) (fun q o hq e=>j q o (by
     rintro rfl
     rcases hq with h1 | ⟨x,hx⟩ | ⟨oc,h1⟩
     ·have h2: @Eq Nat q C:=h1; exact O59 ad h2 K
     ·exact (ap x q hx).elim
     ·exact (nomatch h1)) e)
   obtain ⟨z,hz,bd⟩:∃z,items[i]? =some z∧(items.map PV.str)[i]? =some (.str z):=⟨items[i],by simp [Q],by refine sb (List.getElem?_map) (sb (List.getElem?_eq_getElem Q) ?_); rfl⟩
   have bj:Rd g Xc H (.str z) w:=by
    have:=aX h' X i w (.str z) ⟨fun b o _ e=>ac b o e,fun b o n _=>n⟩ a_ bd
    rw [rd_str] at this ⊢
    exact this
   refine aI_ G (hx C) a ak aK (af _ (by refine (?_: @LE.le Nat _ D C); exact O62 K)) bj fun U aH ay aJ=> ?_
   have S:∀q o,q≠g.Pt→q≠C→H.get? q=some o→U.heap.get? q=some o:=aJ
   have au:St (i+1) U.heap:=WA.frame _ _ _ ae fun q hq o e=>S q o (ag q hq).2 (nN (by have:=(ag q hq).1; exact O56 this K)) e
   have a2:U.heap.IsList D ys:=by refine X1_2 hl3 fun o e r=> ?_; exact I1_2 o (S _ _ aq aw (j _ _ (nN (by exact O7 ad)) e)) r
   have a5:RdL g Xc U.heap ((items.take i).flatMap fun z=>z.cps.toList.map f) ys.toList:=aw_ ⟨fun q o n e=>S q o (fun z=>n (.inl (z▸J.ptX))) (fun z=>n (.inr (.inl z))) (j q o (fun z=>n (.inr (.inr (.inr z)))) e),fun q o n _=>n⟩ _ _ hr3
   have a6:∀q o,q≠g.Pt→F.heap.get? q=some o→U.heap.get? q=some o:=fun q o n e=>S q o n (nN (by have:=Y e; exact O56 this K)) (j q o (by rintro rfl; rw [a8] at e; contradiction) (hk3 q o n e))
   refine (bb z C Xc).use a aH ay fun u a0 aC aa aF az=> ?_
   rw [rd_str] at az
   (refine X1_1 az fun t q1=> ?_; subst q1)
   have ax:St (i+1) a0.heap:=WA.frame _ _ _ au fun q hq o e=>aa q o (ag q hq).2 e
   have aA:a0.heap.IsList D ys:=by refine X1_2 a2 fun o e r=> ?_; exact I1_2 o (aa _ _ aq e) r
   have a7:=dT_ ay.xok aa a5
   have bk:(items.take (i+1)).flatMap (fun z=>z.cps.toList.map f)=(items.take i).flatMap (fun z=>z.cps.toList.map f)++z.cps.toList.map f:=by
    refine sb List.take_add_one (sb hz (sb List.flatMap_append ?_)); simp
   have aU:ys.size+z.length≤16777216:=by
    have h1:=aH_ hr3
    have h2:((items.take i).flatMap fun z=>z.cps.toList.map f).length=((items.take i).map fun z=>z.length).sum:=by
     refine sb List.length_flatMap ?_
     congr 1
     refine List.map_congr_left fun z _=> ?_
     refine sb (List.length_map ..) ?_; rfl
    have h3:((items.take (i+1)).map fun z=>z.length).sum≤(items.map fun z=>z.length).sum:=by
     conv=>rhs; rw [← List.take_append_drop (i+1) items]
     exact sb List.map_append (sb List.sum_append O95)
    rw [List.take_add_one,hz,List.map_append,List.sum_append] at h3
    simp only [Option.toList_some,List.map_cons,List.map_nil,List.sum_cons,List.sum_nil] at h3
    have h4:ys.toList.length=ys.size:=by rfl
    exact O467 h3 h4 h2 h1 aT
   refine ik_ (x:=x) (px:=px) (py:=py) (i1:=i1) (i2:=i2) (scope:=scope) (pos:=pos) G (σ1:=upd x (.str z) []) (f:=f) a aC aF (af _ (by refine (?_: @LE.le Nat _ D C); exact O62 K)) (.inr (.inr (.inl rfl))) aq aw (fun x c hc=>(ap x c hc).elim) aA a7 aU (hy C) (fun c q hq=> ?_) (fun c X=>helt z c C X) fun it bn hc=> ?_
   ·rcases List.mem_cons.mp hq with rfl | hq
    ·exact au_ mQ (by simp only [bne,be]; rfl)
    ·exact (nomatch hq)
   ·refine I1_2 _ (fun bm T=> ?_) (fun R' aY=>hc R' aY)
    refine X1_3 T.lst fun vs aV bu aZ=> ?_
    refine ⟨items.length - (i+1),by exact O47 Q,i+1,vs,rfl,Q,T.ok,WA.frame _ _ _ ax fun q hq o e=>T.keep q o (ag q hq).2 (nN (by have:=(ag q hq).1; refine (?_: @Ne Nat q C); exact O56 this K)) (nN (by have:=(ag q hq).1; exact O57 this)) e,aV, ?_,T.loc.subσ aO,fun q o n e=>T.keep q o n (nN (by have:=Y e; refine (?_: @Ne Nat q C); exact O56 this K)) (nN (by have:=Y e; exact O57 this)) (aa q o n (a6 q o n e))⟩
    exact sb bk aZ
  ·have ba:i=items.length:=by exact O48 hle Q
   subst ba
   refine wpAny_with_toks (n:=1) l.tok (WA.done B _ _ (by exact sb (List.length_map ..) hst3) fun H R ai ht=> ?_)
   dsimp only
   have j:∀b o,b≠I→B.heap.get? b=some o→H.get? b=some o:=fun b o n e=>ai b o (fun h=>n (List.mem_singleton.mp h)) e
   have ak:g.Ok {B with heap:=H,toks:=R}:=⟨fun b o n e=>j b o (by rintro rfl; rw [a9] at e; contradiction) (l.gk b o n e),let ⟨o,e⟩:=l.pt; ⟨o,j _ o (Ne.symm am) e⟩,G.tabKeep _ _ I l.tab am an j,l.gens,l.os,ht⟩
   have Z:CEnd g X F.heap (items.flatMap fun z=>z.cps.toList.map f) D C {B with heap:=H,toks:=R}:=⟨ak,aw,ah _ (Nat.le_refl _),ah _ (by exact O62 K),fun q o n e=>j q o (by rintro rfl; rw [a8] at e; contradiction) (hk3 q o n e),by
    (refine X1_2 L3.ns fun m q2 _=> ?_; obtain ⟨o,es,ep,e,r⟩:=q2)
    exact I4_2 m o es ep (j _ o (by refine (?_: @Ne Nat C I); exact O58 K ad) e) r,by
    refine X1_2 hl3 fun o e r=> ?_
    refine I1_2 ys (I1_2 o (j _ o (nN (by exact O7 ad)) e) r) ?_
    rw [List.take_of_length_le (Nat.le_refl _)] at hr3
    exact aw_ ⟨fun q o n e=>j q o (fun z=>n (.inr (.inr (.inr z)))) e,fun q o n _ z=>n (z.elim .inl fun z=>z.elim (fun z=> .inr (.inl z)) fun z=> .inr (.inr (.inl z)))⟩ _ _ hr3⟩
   refine X1_1 Z.ns fun m hm=> ?_
   exact I1_2 m hm (fun bv aG=>Z.read G J.xs J.ptX O (fun b o n e=>aL b o n e) aG)
 exact codeAny_compStart_list (ab _ rfl) (WA.self 0 _ _ _ (WA.frame _ _ _ aM fun b _ o e=>old b o e) (ab _ rfl))
end
end Mine
end
section
set_option linter.deprecated false
namespace Mine
section
variable {g:GC}{k:Nat}{env:Env}{X:Addr→Prop}{σ:List (Str×PV)}{ω:List (Addr×OC)}{h:Heap}
open AutoSeq1 in
theorem mN_ (l:Addr)(items:Array Value)(n:Nat)(b:Addr)(f:Array Value)(n2:Nat)(Y D:Option Addr)(sl I:Array (Option Value))(ac:items.size+f.size≤sizeLine):
  Meets (Builtin.«list.__add__» ⟨[.ref l, .ref b],[]⟩) (fun _ R s=>s.heap.get? l=some {cls:= .type "list",dict:=D,data:= .seq items n,slots:=I}∧s.heap.get? b=some {cls:= .type "list",dict:=Y,data:= .seq f n2,slots:=sl}∧R (.ok (.ret (.ref s.heap.objs.size))) {s with heap:=s.heap.push {cls:= .type "list",data:= .seq (items++f)}}):=
 .of_wp fun prog w A R s h=>by
  obtain ⟨hp,g,d,tk,os⟩:=s; refine X0_3 h fun Z hb h=> ?_; have f1:=AutoSeq1.idx_int; have f2:=AutoSeq1.sub_tuple_tuple; have f3:=AutoSeq1.sub_list_list; have f4:=AutoSeq1.sub_tuple_list; have f5:=AutoSeq1.sub_list_tuple;
  have m:(items++f).size≤sizeLine:=by exact sb Array.size_append ac
  wp_walk using wpAny_loadPart' Z,wpAny_loadPart' hb,(wpAny_newObj_type (hz:=m)); exact I1_2 _ rfl h
theorem l3_ (G:g.Good){x y:List PV}(Q:x.length+y.length≤sizeLine):Op g k X [.lst x, .lst y] (fun vs=>binaryOp .Add (vs.getD 0 .none) (vs.getD 1 .none)) (.lst (x++y)):=op2 fun A s E v u _ O S B C=>by
 rw [bb_] at B C
 (refine X2_4 B fun a vs q1 _ q2 hr=> ?_; subst q1; obtain ⟨⟨c1,D,al,I⟩,ha,L,n1,M⟩:=q2)
 (refine X2_4 C fun b H q3 _ q4 N=> ?_; subst q3; obtain ⟨⟨c2,Y,dt,sl⟩,hb,P,n2,K⟩:=q4)
 simp only at L M P K
 subst L M P K
 have J:=a4_ hr
 have h2:=a4_ N
 refine concat_meets ⟨_,ha,rfl⟩ ⟨_,hb,rfl⟩ noFill_list_add seq_list_add F.slot_list_add F.entry_list_add (F.args_list_add_2 _ _) (mN_ a vs n1 b H n2 Y D sl I (by exact O468 J h2 Q)) (I0_3 ha hb (fun ht=> ?_))
 refine I0_3 (O.keep G (fun b o e=>Heap.get?_push_of_some _ e) ht) (Kp.of fun b o e=>Heap.get?_push_of_some _ e) ?_
 rw [bb_]
 refine I2_4 _ (vs++H) rfl (S.new (Nat.le_refl _)) ⟨_,Heap.get?_push_size _ rfl,rfl,_,rfl⟩ ?_
 refine sb Array.toList_append ?_
 exact dT_ S (Kp.of fun b o e=>Heap.get?_push_of_some _ e) (bG_ hr N)
theorem hX_ (G:g.Good){ps:List PV}(hp:∀p∈ps,∃l,p= .tup l):Op g (k+1) X [.none, .lst ps] (fun vs=>compareOp .In (vs.getD 0 .none) (vs.getD 1 .none)) (.bool false):=op2 fun A s E v u a O S B C=>by
 rw [rd_none] at B; rw [bb_] at C
 subst B
 (refine X2_4 C fun b vs q5 _ Z hr=> ?_; subst q5)
 have T:∀{ps:List PV} {vs:List Value},RdL g X s.heap ps vs→(∀p∈ps,∃l,p= .tup l)→∀y∈vs,∃c H,y= .ref c∧s.heap.IsTuple c H:=by
  intro ps
  induction ps with
  | nil => intro vs r _ y hy; rw [aG_] at r; subst r; cases hy
  | cons p ps ih=>
   intro vs r hp y hy
   rw [am_] at r
   (refine X2_3 r fun v r' q6 J h2=> ?_; subst q6)
   rcases List.mem_cons.mp hy with rfl | hy
   ·(refine X1_1 (hp p mQ) fun l q7=> ?_; subst q7)
    rw [ck_] at J
    (refine X2_4 J fun c H q8 _ ht _=> ?_; subst q8)
    exact I2_2 c H rfl ht
   ·exact ih h2 (fun q hq=>hp q (tQ hq)) y hy
 refine PySem.SeqAt.in_listAt (fun _=>false) Z (fun y hy=> ?_) fun ht=>(I0_3 O Kp.refl (by simp))
 (refine X2_2 (T hr hp y (by simpa using hy)) fun c H q9 ht=> ?_; subst q9)
 exact PySem.SeqAt.EqAt.tuple_none ht (by have J:=a.2.2; refine (?_:A.units+1 < cLine); exact O469 J)
noncomputable def bsl (b:Array UInt8)(l u:Option Int):Array UInt8:=PySem.W.KBy.picked b l u
theorem eO_ (G:g.Good){x:Array UInt8}{l u:Option Int}(m:x.size≤sizeLine):
  Op g k X [.bytes x, .slc l u none] (fun vs=>getItem (vs.getD 0 .none) (vs.getD 1 .none)) (.bytes (bsl x l u)):=op2 fun A s₀ E v w _ O S B C=>by
 rw [rd_bytes] at B; rw [fQ_] at C
 (refine X1_1 B fun t U=> ?_; subst U)
 (refine X4_6 C fun a l' u' s' ab hx V ad ae Q=> ?_; subst ab; subst ad; subst ae)
 obtain rfl:s'=none:=by cases s' with
  | none => rfl
  | some q => contradiction
 exact getItem_meets (typeIs_bytes _ _ _) (by decide) FB.slot_bytes_getitem FB.entry_bytes_getitem (FB.args_bytes_getitem_2 _ _) (PySem.W.KBc.meets_slice2 x t a (cO_ l') (cO_ u'))
  ⟨V,Nat.le_trans (PySem.W.KBc.size_picked_le _ _ _) m,fun t' k ht=>⟨Ok.toks G O ht,Kp.refl,by rw [rd_bytes]; exact ⟨_,rfl⟩⟩⟩
theorem eP_ (G:g.Good){z j:Expr}{pos:Pos}{x:Array UInt8}{l u:Option Int}(B:Ev g k env X σ ω z (.bytes x))(hi:Ev g k env X σ ω j (.slc l u none))
  (m:x.size≤sizeLine) (Q:autoParam (∀o i,∃af,subscripted j false o i=operate af (getItem o i)) aQ3):
  Ev g k env X σ ω (.Subscript z j pos) (.bytes (bsl x l u)):=dY_ B hi (eO_ G m) hn_ FB.slot_bytes_getitem.lookup Q
end
end Mine
end
section
namespace Mine
theorem p10 {n:Nat}(h:n≤8):(10:Int) ^ n≠0∧((10:Int) ^ n).natAbs < 1073741824:=by
 have s:(10:Nat) ^ n≤10 ^ 8:=Nat.pow_le_pow_right (by decide) h
 have t:((10:Int) ^ n).natAbs=10 ^ n:=by refine sb (Int.natAbs_pow ..) ?_; rfl
 have h3:0 < (10:Nat) ^ n:=Nat.pow_pos (by decide)
 refine ⟨fun e=> ?_, ?_⟩
 ·rw [e] at t; simp at t; exact O222 h3 t
 ·exact Nat.lt_of_le_of_lt s (Nat.lt_of_sub_eq_succ rfl)
noncomputable def dl_ (gaps:Int)(i:Int):Int:=1+Int.fmod (Int.fmod (Int.fdiv gaps (10 ^ i.toNat)) 10) 3
noncomputable def lpSt (n:Int):Str:=Txt.mul "*" n
noncomputable def lpTx (j l x:Str):Str:=if x= "U" then j else l
noncomputable def cb_ (j l:Str)(gaps:Int)(c:Str):Nat→Str
 | 0 => lpSt (1+Int.fmod (Int.fmod gaps 10) 3)
 | i + 1 => cb_ j l gaps c i++(lpTx j l (six c i)++lpSt (dl_ gaps ((i:Int)+1)))
theorem me_ {i:Nat}:cb_ j l gaps c (i+1)=cb_ j l gaps c i++(lpTx j l (six c i)++lpSt (dl_ gaps ((i:Int)+1))):=rfl
theorem lp_ {n:Int}(R:0≤n)(h3:n≤3):PySem.MulOk "*" n:=by
 have:n=0∨n=1∨n=2∨n=3:=by exact O224 R h3
 rcases this with rfl | rfl | rfl | rfl <;>(unfold PySem.MulOk; decide+kernel)
theorem md_ {j l x:Str}(h:x= "U"∨x= "D"):(x= "U"∧PV.str (lpTx j l x)= .str j)∨(x= "D"∧PV.str (lpTx j l x)= .str l):=by
 rcases h with rfl | rfl
 ·exact .inl ⟨rfl,by unfold lpTx; exact sb (if_pos rfl) rfl⟩
 ·exact .inr ⟨rfl,by unfold lpTx; rw [if_neg (by decide)]⟩
noncomputable abbrev patS (c j l:Str) (gaps:Int) (V:Str):List (Str×PV):= [("word", .str c),("texts",dUD (.str j) (.str l)),("gaps", .int gaps),("pattern", .str V)]
section
variable {g:GC}{k:Nat}
theorem fT_ (G:g.Good)(N:GN g){f:Addr}{pm cd doc:Value}(F:FnAt g f 41 pm cd doc){c j l:Str}{gaps:Int}(hw:c.length≤6)(X:∀i:Nat,i < c.length→six c i= "U"∨six c i= "D")(hU:j.length≤1000)(hD:l.length≤1000):
  aC_ g (k+1) f [.str c,dUD (.str j) (.str l), .int gaps] (.str (cb_ j l gaps c c.length)):=by
 have p:∀n:Int,0≤n→n≤3→(lpSt n).length≤3:=fun n s t=>by
  have:n=0∨n=1∨n=2∨n=3:=by exact O224 s t
  rcases this with rfl | rfl | rfl | rfl <;>decide+kernel
 have y:∀i,(cb_ j l gaps c i).length≤3+1003*i:=by
  intro i
  induction i with
  | zero => have:=aF_ (Int.fmod gaps 10) (b:=3) (by decide); exact p _ (by exact O225 this) (by exact O226 this)
  | succ i ih=>
   have s:=aF_ (Int.fmod (Int.fdiv gaps (10 ^ ((i:Int)+1).toNat)) 10) (b:=3) (by decide)
   have t:=p (dl_ gaps ((i:Int)+1)) (by unfold dl_; exact O225 s) (by unfold dl_; exact O226 s)
   have h3:(lpTx j l (six c i)).length≤1000:=by unfold lpTx; split <;>assumption
   simp only [me_,ak_,ak_]
   exact O227 ih h3 t
 refine aP_ G F ["word","texts","gaps"] rfl (fun vs Y=> ?_) (by decide) (fun m x hx=> ?_) (by decide) (fun A s₀ O Xo L M E a hp S=> ?_)
 ·exact v3 (P:=fun vs=>bindArgs _ ⟨vs,[]⟩=pure (List.zip _ vs)) (fun v u w=>rfl) vs Y
 ·rcases List.mem_cons.mp hx with rfl | hx
  ·exact .inl rfl
  ·rcases List.mem_cons.mp hx with rfl | hx
   ·exact .inl rfl
   ·rcases List.mem_cons.mp hx with rfl | hx
    ·exact .inl rfl
    ·exact (nomatch hx)
 ·conv=>arg 4; whnf
  have R:=aF_ (Int.fmod gaps 10) (b:=3) (by decide)
  refine al_ (pv:= .str (cb_ j l gaps c 0)) G S a (ae_ (ah_ G) (ae_ (ad_ G) (ae_ (ae_ (aa_ ix2) (ad_ G) (bj_ G (by decide))) (ad_ G) (bj_ G (by decide))) (a6_ G)) (iP_ G ?mul)) kL (fun aa H=> ?_)
  case mul=>exact lp_ (by exact O225 R) (by exact O226 R)
  have C:=H.as (patS c j l gaps (cb_ j l gaps c 0)) sq
  refine da_ G (P:=fun i σ ω=>ω= []∧σ=patS c j l gaps (cb_ j l gaps c i)) (B:=fun _ _=>False) (o:=bP_) C a hp (bz_ (dK_ G N.range) (ac_ (ar_ (bW_ G N.len) (ac_ (aa_ mQ) ag_) (bh_ G (by exact O228 hw))) ag_) (dj_ G)) (c4_ G (by exact Nat.lt_of_le_of_lt hw (Nat.lt_of_sub_eq_succ rfl))) ⟨rfl,rfl⟩
   (fun i pv σ' ω' hT ad M' s' E' v hi T hp' z hr=> ?_) (fun σ' ω' s' E' T z=> ?_) (fun _ _ _ h=>h.elim) (fun v σ' s' z r=>(aK_ r).elim)
  ·obtain ⟨rfl,rfl⟩:=T
   obtain ⟨q,rfl⟩:=hs_ hi
   refine b0_ G kL (by decide) a z hr fun O J=> ?_
   have hx:=X i q
   have Q:(lpTx j l (six c i)).length≤1000:=by unfold lpTx; split <;>assumption
   have s:=aF_ (Int.fmod (Int.fdiv gaps (10 ^ ((i:Int)+1).toNat)) 10) (b:=3) (by decide)
   have t:=p (dl_ gaps ((i:Int)+1)) (by unfold dl_; exact O225 s) (by unfold dl_; exact O226 s)
   have h3:=y i
   have K:=p10 (n:=((i:Int)+1).toNat) (by exact O230 q hw)
   have Z:Builtin.Int.intBits 10=4:=by decide+kernel
   refine cz_ (o:= .str (cb_ j l gaps c (i+1))) G J a (uQ ix3) (ae_ (aU_ G (aa_ (uQ ix1)) (av_ G (aa_ (uQ mQ)) (aa_ ab_) (by exact O203 q) (by exact Nat.lt_of_le_of_lt hw (Nat.lt_of_sub_eq_succ rfl))) (md_ hx)) (ae_ (ah_ G) (ae_ (ad_ G) (ae_ (ae_ (ae_ (aa_ (uQ ix2)) (ae_ (ad_ G) (ae_ (aa_ ab_) (ad_ G) (a6_ G)) (dU_ G (by exact O232) (by exact sb Z (O233 q hw)))) (cc_ G K.1 (PyProof.noPylong_small K.2))) (ad_ G) (bj_ G (by decide))) (ad_ G) (bj_ G (by decide))) (a6_ G)) (iP_ G (lp_ (by exact O225 s) (by exact O226 s)))) (aB_ G ?sz)) (ff_ G ?sz2) kL (fun ab I=> ?_)
   case sz=>show _+(lpSt (dl_ gaps ((i:Int)+1))).length≤_; simp only [sizeLine]; exact O234 Q t
   case sz2=>refine sb (ak_ ..) ?_; refine (?_:_+(_+(lpSt (dl_ gaps ((i:Int)+1))).length)≤_); simp only [sizeLine]; exact O235 h3 Q t q hw
   exact af_ (I3_3 [] _ [] ⟨rfl,rfl⟩ (I.as _ sq) (fun _ _ h=>nomatch h))
  ·obtain ⟨rfl,rfl⟩:=T
   refine af_ ?_
   have e:(rngs 0 1 c.length).length=c.length:=by simp [rngs]
   rw [e] at z
   exact aO_ z a (aa_ ix3) (fun v s' z r=>z.out r)
end
noncomputable abbrev Rdg:Type:=Bool×List (Str×Str)
noncomputable def prP (p:Str×Str):PV:= .tup [.str p.1, .str p.2]
noncomputable def prK:PV→Str×Str | .tup [.str x, .str y]=>(x,y) | _=>(⟨#[]⟩,⟨#[]⟩)
theorem m0_ (p:Str×Str):prK (prP p)=p:=rfl
noncomputable abbrev rgP (l:List (Str×Str)):PV:= .lst (l.map prP)
noncomputable abbrev rdP (r:Rdg):PV:= .tup [.bool r.1,rgP r.2]
noncomputable def inR (c:Str)(p:Str×Str):Bool:=(!(decide (c.cps.toList < p.1.cps.toList))) && (!(decide (p.2.cps.toList < c.cps.toList)))
noncomputable def hitR (l:List (Str×Str))(c:Str):Bool:=((l.filter (inR c)).map fun p=>p.1) != []
noncomputable def lsGo (r:Rdg)(name:Str)(k:Nat):Bool:=decide ((k:Int) < name.length) && (hitR r.2 (six name k)==r.1)
noncomputable def bu_ (r:Rdg)(name:Str):Nat→Nat→Nat
 | 0, k => k
 | n + 1, k => if lsGo r name k=true then bu_ r name n (k+1) else k
noncomputable def lsRd (rU rD:Rdg)(x:Str):Rdg:=if x= "U" then rU else rD
theorem c3_:bu_ r name (n+1) k=if lsGo r name k=true then bu_ r name n (k+1) else k:=rfl
noncomputable def gO_ (rU rD:Rdg)(name:Str):List Nat→Nat→Option Nat
 | [], k => some k
 | c :: cs, k => if (bu_ (lsRd rU rD (chS c)) name (name.length - k) k)=name.length then none else gO_ rU rD name cs (bu_ (lsRd rU rD (chS c)) name (name.length - k) k+1)
theorem iY_:gO_ rU rD name (c::cs) k=if (bu_ (lsRd rU rD (chS c)) name (name.length - k) k)=name.length then none else gO_ rU rD name cs (bu_ (lsRd rU rD (chS c)) name (name.length - k) k+1):=rfl
noncomputable def aQ_ (rU rD:Rdg)(j name:Str):Bool:=(gO_ rU rD name j.cps.toList 0).isSome
theorem f3_ (r:Rdg)(name:Str):∀n k,k≤name.length→k≤bu_ r name n k∧bu_ r name n k≤name.length
 | 0, k, h => ⟨Nat.le_refl _,h⟩
 | n + 1, k, h => by
  simp only [c3_]
  by_cases e:lsGo r name k=true
  ·refine sb (if_pos e) ?_
   have:k < name.length:=by unfold lsGo at e; simp at e; omega
   have:=f3_ r name n (k+1) this
   exact O236 this
  ·exact sb (if_neg e) ⟨Nat.le_refl _,h⟩
theorem gN_ (r:Rdg)(name:Str):∀n k,k≤name.length→name.length - k≤n→lsGo r name k=false→bu_ r name n k=k
 | 0, k, _, _, _ => rfl
 | n + 1, k, _, _, e => by exact sb c3_ (sb (if_neg (by refine sb e ?_; simp)) rfl)
noncomputable abbrev stS (j:Str) (rU rD:Rdg) (name:Str) (k:Nat):List (Str×PV):= [("word", .str j),("reads",dUD (rdP rU) (rdP rD)),("name", .str name),("k", .int k)]
noncomputable abbrev stS2 (j:Str) (rU rD:Rdg) (name:Str) (k:Nat) (r:Rdg):List (Str×PV):= [("word", .str j),("reads",dUD (rdP rU) (rdP rD)),("name", .str name),("k", .int k),("barred", .bool r.1),("ranges",rgP r.2)]
section
variable {g:GC}{k:Nat}
theorem mc_ {rU rD:Rdg}{x:Str}(h:x= "U"∨x= "D"):(x= "U"∧rdP (lsRd rU rD x)=rdP rU)∨(x= "D"∧rdP (lsRd rU rD x)=rdP rD):=by
 rcases h with rfl | rfl
 ·exact .inl ⟨rfl,by unfold lsRd; exact sb (if_pos rfl) rfl⟩
 ·exact .inr ⟨rfl,by unfold lsRd; rw [if_neg (by decide)]⟩
theorem gv_ (G:g.Good)(N:GN g){f:Addr}{pm cd doc:Value}(F:FnAt g f 42 pm cd doc){j name:Str}{rU rD:Rdg}(hw:∀c∈j.cps.toList,chS c= "U"∨chS c= "D")(hn:name.length≤100)(hU:rU.2.length≤100)(hD:rD.2.length≤100):
  aC_ g (k+1) f [.str j,dUD (rdP rU) (rdP rD), .str name] (.bool (aQ_ rU rD j name)):=by
 refine aP_ G F ["word","reads","name"] rfl (fun vs ao=> ?_) (by decide) (fun m x hx=> ?_) (by decide) (fun A s₀ ak Xo L M E a hp S=> ?_)
 ·exact v3 (P:=fun vs=>bindArgs _ ⟨vs,[]⟩=pure (List.zip _ vs)) (fun v u w=>rfl) vs ao
 ·rcases List.mem_cons.mp hx with rfl | hx
  ·exact .inl rfl
  ·rcases List.mem_cons.mp hx with rfl | hx
   ·exact .inl rfl
   ·rcases List.mem_cons.mp hx with rfl | hx
    ·exact .inr ⟨rfl,rfl⟩
    ·exact (nomatch hx)
 ·conv=>arg 4; whnf
  refine al_ (pv:= .int ((0:Nat):Int)) G S a (ad_ G) kC (fun af K=> ?_)
  have I:=K.as (stS j rU rD name 0) sq
  refine da_ G (P:=fun i σ ω=>ω= []∧∃k:Nat,k≤name.length∧gO_ rU rD name j.cps.toList 0=gO_ rU rD name (j.cps.toList.drop i) k∧(∀p∈stS j rU rD name k,p∈σ)) (B:=fun _ _=>False) (o:= .bool (aQ_ rU rD j name)) I a hp (aa_ (iX 0 rfl)) (cm_ G) ⟨rfl,0,Nat.zero_le _,rfl,fun _ h=>h⟩
   (fun i pv σ' ω' hT a5 M' s' E' v hi V hp' t hr=> ?_) (fun σ' ω' s' E' V t=> ?_) (fun _ _ _ h=>h.elim) (fun v σ' s' t r=>t.out r)
  ·refine gn fun P0 aj=> ?_
   obtain ⟨rfl,Z,hk,s,aa⟩:=V
   obtain ⟨c,hc,rfl⟩:∃c,j.cps.toList[i]? =some c∧pv=chP c:=by
    rw [List.getElem?_map] at hi
    cases e:j.cps.toList[i]? with
    | none => rw [e] at hi; cases hi
    | some c => rw [e] at hi; cases hi; exact I1_2 c rfl rfl
   have J:=t.as _ aa
   refine aj ?_
   refine b0_ G kL (by decide) a J hr fun ak ah=> ?_
   have hx:=hw c (List.mem_of_getElem? hc)
   obtain ⟨r,ae⟩:∃r,r=lsRd rU rD (chS c):=⟨_,rfl⟩
   have ac:=mc_ (rU:=rU) (rD:=rD) hx
   replace ac:=Eq.symm ae▸ac
   have ay:r.2.length≤100:=by refine sb ae ?_; unfold lsRd; split <;>assumption
   refine wpQ fun Q hQ=> ?_
   refine it_ (p:= .bool r.1) (q:=rgP r.2) G ah a (aU_ G (aa_ (uQ (iX 1 rfl))) (aa_ ab_) ac) kL kL (fun af K=> ?_)
   have I:=K.as (stS2 j rU rD name Z r) sq
   have ad:j.cps.toList.drop i=c::j.cps.toList.drop (i+1):=by
    refine X1_1 (List.getElem?_eq_some_iff.mp hc) fun ax e=> ?_
    exact sy e (List.drop_eq_getElem_cons ax)
   rw [ad,iY_,← ae] at s
   refine d8_ (D:=Nat) (P:=fun d σ ω=>ω= []∧Z≤d∧d≤name.length∧bu_ r name (name.length - d) d=bu_ r name (name.length - Z) Z∧(∀p∈stS2 j rU rD name d r,p∈σ)) (m:=fun d=>name.length - d) (tb:=fun d=>lsGo r name d) (B:=fun _ _=>False) (o:=bP_) I a Z ⟨rfl,Nat.le_refl _,hk,rfl,fun _ h=>h⟩
    (fun d H R V X=> ?_) (fun d H R a7 a0 a2 aq ap V z J=> ?_) (fun d H R aq ap V z J=> ?_) (fun _ _ _ h=>h.elim) (fun v σ' s' t r=>(aK_ r).elim)
   ·(refine X0_5 V fun q2 h1 h2 h3 h4=> ?_; subst q2)
    refine EvT.weak (σ':=stS2 j rU rD name d r) ?_ h4
    refine b7_ (ai_ (aa_ (iX 3 rfl)) (ar_ (bW_ G N.len) (ac_ (aa_ (iX 2 rfl)) ag_) (bh_ G (by exact O237 hn))) cq_) (fun hd=> ?_)
    have hd':(d:Int) < name.length:=by simpa using hd
    refine ai_ (jt_ (a5_ (f:=fun p=>p.1) G prK m0_ (aa_ (iX 5 rfl)) (fun X=>dF_ G) (by simp only [sizeLine]; exact O129 ay) rfl (b:=inR (six name d)) (σc:= [("name", .str name),("k", .int d)]) (σt:=fun p=>upd "high" (.str p.2) (upd "low" (.str p.1) [("name", .str name),("k", .int d)]))
     (bp_ (aN_ (iX 2 rfl) (aN_ (iX 3 rfl) aV_)) (fun p _ C=>eL_ G rfl rfl) (fun p=>mD_ (by rfl)) (fun p _ X C=> ?_) (fun p _ _ X C=> ?_) (du_ ?_))) (aT_ G aD_ (by show (0:Nat)≤sizeLine; decide)) dM_) (aa_ (iX 4 rfl)) my_
    ·exact be_ (jr_ (aa_ (uQ ab_)) (av_ G (aa_ (uQ (uQ (iX 0 rfl)))) (aa_ (uQ (uQ (iX 1 rfl)))) (by exact O238 hd') (by exact Nat.lt_of_le_of_lt hn (Nat.lt_of_sub_eq_succ rfl))) (aa_ ab_) jv_ jv_)
    ·exact (aa_ (uQ ab_))
    ·first | exact ba_ rfl (ba_ rfl cf_)
   ·(refine X0_5 V fun q3 h1 h2 h3 h4=> ?_; subst q3)
    have hd':d < name.length:=by unfold lsGo at z; simp at z; omega
    have T:=J.as (stS2 j rU rD name d r) h4
    refine wpQ fun Q ar=> ?_
    refine cz_ (o:= .int ((d+1:Nat):Int)) G T a (iX 3 rfl) (ad_ G) (cj_ G) kC (fun ag O=> ?_)
    refine af_ (ar _ _ ⟨[],_,[],⟨d+1,by exact O47 hd',rfl,by exact O63 h1,hd', ?_,sq⟩,O,fun _ _ h=>nomatch h⟩)
    simp only [← h3,show name.length - d=(name.length - (d+1))+1 by exact (Nat.sub_add_cancel (Nat.sub_pos_of_lt hd')).symm,c3_,if_pos z]
   ·(refine X0_5 V fun q4 h1 h2 h3 h4=> ?_; subst q4)
    have aw:bu_ r name (name.length - Z) Z=d:=by exact sy h3 (gN_ r name _ d h2 (Nat.le_refl _) z)
    rw [aw] at s
    have T:=J.as (stS2 j rU rD name d r) h4
    refine af_ ?_
    refine aX_ (b:=((d:Int)==(name.length:Int))) T a (ai_ (aa_ (iX 3 rfl)) (ar_ (bW_ G N.len) (ac_ (aa_ (iX 2 rfl)) ag_) (bh_ G (by exact O237 hn))) ca_) (fun hb s' t=> ?_) (fun hb ag O=> ?_)
    ·have Y:d=name.length:=by have h0:(d:Int)=(name.length:Int):=eq_of_beq hb; exact O241 h0
     rw [if_pos Y] at s
     have ab:aQ_ rU rD j name=false:=by unfold aQ_; refine sb s ?_; rfl
     exact aO_ t a eC_ (fun v s' t r=>hQ _ _ ⟨[],_,t,by exact sb ab r⟩)
    refine af_ ?_
    have Y:d≠name.length:=fun e=>by rw [e] at hb; simp at hb
    rw [if_neg Y] at s
    refine cz_ (o:= .int ((d+1:Nat):Int)) G O a (iX 3 rfl) (ad_ G) (cj_ G) kC (fun az al=> ?_)
    exact af_ (hQ _ _ ⟨[],_,[],⟨rfl,d+1,by exact O242 Y h2,s,sq⟩,al,fun _ _ h=>nomatch h⟩)
  ·obtain ⟨rfl,Z,hk,s,aa⟩:=V
   have ab:aQ_ rU rD j name=true:=by
    unfold aQ_
    refine sb (s ..) (sb (List.length_map ..) (sb (List.drop_length ..) ?_))
    rfl
   refine af_ ?_
   refine sb ab ?_
   exact aO_ (t.as _ aa) a eC_ (fun v s' t r=>t.out r)
end
theorem l2_ {m:Type}(xs:List m)(a:Nat):∀k:Nat,((List.range k).map (a+ ·)).filterMap (xs[·]?)=(xs.drop a).take k
 | 0 => by rfl
 | k + 1 => by
  refine sb List.range_succ (sb List.map_append (sb List.filterMap_append (sb (l2_ xs a k) (sb List.take_add_one ?_))))
  congr 1
  rw [List.map_cons,List.map_nil,List.filterMap_cons,List.filterMap_nil,List.getElem?_drop]
  cases xs[a+k]? <;>rfl
theorem eu_ {m:Type}(x:List m)(lo hi:Option Int):lsl x lo hi none=(x.drop (lo.elim 0 (clipAt x.length))).take (hi.elim x.length (clipAt x.length) - lo.elim 0 (clipAt x.length)):=by
 unfold lsl
 refine sb (sliceBounds_plain ..) ?_
 simp only [sliceRange_one,l2_]
theorem kx_ {m:Type}(x:List m)(n:Nat):lsl x none (some (n:Int)) none=x.take n:=by
 refine sb (eu_ ..) ?_
 simp only [Option.elim,clipAt_nat,List.drop_zero,Nat.sub_zero]
 rcases Nat.le_total n x.length with h | h
 ·exact sb (Nat.min_eq_left h) rfl
 ·exact sb (Nat.min_eq_right h) (sb (List.take_of_length_le (Nat.le_refl _)) (sb (List.take_of_length_le h) rfl))
theorem hz_ {m:Type}(x:List m)(n:Nat):lsl x (some (n:Int)) none none=x.drop n:=by
 refine sb (eu_ ..) ?_
 simp only [Option.elim,clipAt_nat]
 rcases Nat.le_total n x.length with h | h
 ·exact sb (Nat.min_eq_left h) (sb (List.take_of_length_le (by exact sb List.length_drop Nat.le.refl)) rfl)
 ·refine sb (Nat.min_eq_right h) (sb (List.drop_of_length_le h) (sb (List.drop_of_length_le (Nat.le_refl _)) ?_)); simp
theorem iW_ {m t:Type}(f:m→t)(x:List m)(l u s:Option Int):lsl (x.map f) l u s=(lsl x l u s).map f:=by
 unfold lsl
 refine sb (List.length_map ..) (sb (List.map_filterMap ..) ?_)
 congr 1
 funext i
 exact sb (List.getElem?_map) rfl
theorem iA_ (x:Str):ssl x none none (some (-1))=lS x.cps.toList.reverse:=by
 have B:(((some (-1):Option Int).getD 1==1) && (Builtin.Str.strSliceIndices none none ((some (-1):Option Int).getD 1) x.length).length==x.length)=false:=by
  have:((some (-1):Option Int).getD 1==1)=false:=by decide
  refine sb this ?_; rfl
 unfold ssl
 refine sb (if_neg (by refine sb B ?_; simp)) ?_
 refine (?_:Str.mk _=Str.mk _)
 congr 2
 have hx:x.length=x.cps.toList.length:=rfl
 have L:Builtin.Str.strSliceIndices none none ((some (-1):Option Int).getD 1) x.length=(List.range x.length).map fun i=>x.length - 1 - i:=by
  refine (?_:sliceRange ((x.length:Int) - 1) (-1) (-1)=_)
  unfold sliceRange
  refine sb (if_neg (by decide)) ?_
  have M:(if (x.length:Int) - 1> -1 then ((x.length:Int) - 1 - -1 - -1 - 1) / (- -1) else 0).toNat=x.length:=by
   by_cases h:(x.length:Int) - 1> -1
   ·refine sb (if_pos h) ?_
    have:(- -1:Int)=1:=by decide
    exact sb (this ..) (sb (Int.ediv_one ..) O470)
   ·exact sb (if_neg h) (O471 h)
  dsimp only
  refine sb M ?_
  apply List.map_congr_left
  intro i hi
  have:=List.mem_range.mp hi
  exact O472
 refine sb L ?_
 have H:=l2_ x.cps.toList.reverse 0 x.length
 rw [List.drop_zero,List.take_of_length_le (by exact sb List.length_reverse (sb hx (Nat.le_refl _)))] at H
 refine sy H (sb List.filterMap_map (sb List.filterMap_map ?_))
 have K:∀{m t:Type} {f g:m→Option t} (l:List m),(∀a∈l,f a=g a)→l.filterMap f=l.filterMap g:=fun {m t f g} l I=>by
  induction l with
  | nil => rfl
  | cons a r N => exact sb List.filterMap_cons (sb List.filterMap_cons (sb (I a mQ) (sb (N fun b hb=>I b (tQ hb)) rfl)))
 apply K
 intro i hi
 have E:=List.mem_range.mp hi
 refine (?_:x.cps[x.length - 1 - i]? =x.cps.toList.reverse[0+i]?)
 refine sb (Nat.zero_add ..) (sb (List.getElem?_reverse (by exact Nat.lt_of_lt_of_eq E hx) ..) (sb (Array.getElem?_toList ..) ?_))
 rfl
theorem kf_ (n:Nat):rngs 0 1 n=(List.range n).map fun (i:Nat)=>PV.int (i:Int):=by
 unfold rngs
 exact List.map_congr_left fun i _=>by simp
noncomputable def ntK:PV→Nat | .int x=>x.toNat | _=>0
theorem na_ (n:Nat):ntK (.int (n:Int))=n:=rfl
noncomputable def ocP (c:UInt8):PV:= .int (c.toNat:Int)
noncomputable def ocK:PV→UInt8 | .int x=>x.toNat.toUInt8 | _=>0
theorem m8_ (c:UInt8):ocK (ocP c)=c:=by simp [ocK,ocP]
noncomputable abbrev rwP (p:Int×Str):PV:= .tup [.int p.1, .str p.2]
noncomputable def rwK:PV→Int×Str | .tup [.int a, .str b]=>(a,b) | _=>(0,⟨#[]⟩)
theorem li_ (p:Int×Str):rwK (rwP p)=p:=rfl
section
variable {g:GC}{k:Nat}{P:Heap}{env:Env}{Xo:Addr→Prop}{Q O:List Addr}{X:Addr→Prop}{σ σ' F:List (Str×PV)}{ω ω':List (Addr×OC)}{s s':Shared}{h h':Heap}
theorem kG_ (G:g.Good){x:Array UInt8}:∀X,Its g X (.bytes x) (x.toList.map ocP):=fun X=>ji_ G
theorem kF_ (G:g.Good){n:Nat}(h:n < 2 ^ 62):∀X,Its g X (.rng 0 n 1) ((List.range n).map fun (i:Nat)=>PV.int (i:Int)):=fun X=>by exact sy (kf_ ..) (c4_ G h X)
theorem fq_ (G:g.Good){j e:Expr}{pos:Pos}{x:List Str}{l u s:Option Int}(C:Ev g k env X σ ω j (.lst (txts x)))(hi:Ev g k env X σ ω e (.slc l u s))
  (B:s≠some 0) (w:x.length≤sizeLine) (v:autoParam (∀o i,∃q,subscripted e false o i=operate q (getItem o i)) aQ3):
  Ev g k env X σ ω (.Subscript j e pos) (.lst (txts (lsl x l u s))):=by
 have:=bB_ G (pos:=pos) C hi B (by exact sb (List.length_map ..) w) v
 simp only [txts,iW_] at this
 exact this
theorem fr_ (G:g.Good){j e:Expr}{pos ps J:Pos}{n:Nat}{x y z:Str}(C:Ev g k env X σ ω j (dUD (.lst [.str x]) (.lst [.str y])))(hi:Ev g k env X σ ω e (.str z))(hz:z= "U"∨z= "D")
  (v:autoParam (∀o i,∃q,subscripted e false o i=operate q (getItem o i)) aQ3)
  (A:autoParam (∀o i,∃q,subscripted (.Constant (.int 0) n J) false o i=operate q (getItem o i)) aQ3):
  Ev g k env X σ ω (.Subscript (.Subscript j e ps) (.Constant (.int 0) n J) pos) (.str (lpTx x y z)):=by
 refine ay_ (l:= [.str (lpTx x y z)]) (aU_ G C hi ?_ v) (ad_ G) (by exact O401) rfl A
 rcases hz with rfl | rfl
 ·exact .inl ⟨rfl,by unfold lpTx; exact sb (if_pos rfl) rfl⟩
 ·exact .inr ⟨rfl,by unfold lpTx; rw [if_neg (by decide)]⟩
end
end Mine
end
section
namespace Mine
noncomputable def cl_ (i:Str)(e:List Str):Str:=Txt.join "" (((i.cps.toList).filter fun _=>true).map fun c=>bif (e.any fun y=>y==chS c) then chS c else " ")
noncomputable def nc_ (run:Str):Str:=(six run 0++ "-")++six run (-1)
noncomputable def bk_ (i:Str)(e:List Str):Str:=Txt.join "" (((Txt.words (cl_ i e)).filter fun _=>true).map nc_)
section
variable {g:GC}{k:Nat}
theorem en_ (G:g.Good){f:Addr}{pm cd doc:Value}(F:FnAt g f 37 pm cd doc){i:Str}{e:List Str}(j:i.length≤100)(hm:(cl_ i e).length≤100):aC_ g (k+1) f [.str i, .lst (txts e)] (.str (bk_ i e)):=by
 refine aP_ G F ["column","some"] rfl (fun vs n=> ?_) (by decide) (fun m x hx=> ?_) (by decide) (fun A s₀ s Xo L M E a hp S=> ?_)
 ·exact v2 (P:=fun vs=>bindArgs _ ⟨vs,[]⟩=pure (List.zip _ vs)) (fun v u=>rfl) vs n
 ·rcases List.mem_cons.mp hx with rfl | hx
  ·exact .inl rfl
  ·rcases List.mem_cons.mp hx with rfl | hx
   ·exact .inr ⟨rfl,rfl⟩
   ·cases hx
 ·conv=>arg 4; whnf
  refine al_ (pv:= .lst (txts (Txt.words (cl_ i e)))) G S a (gV_ (ce_ (ah_ G) (bi_ PySem.F.slot_str_join PySem.F.type_str_join) (ac_
   (a5_ G chK dZ_ (aa_ mQ) (cm_ G) (by show i.length≤_; simp only [sizeLine]; exact O129 j) (cl:= [("some",L+1)]) rfl (b:=fun _=>true) (σc:= [("some", .lst (txts e))]) (σt:=fun c=>upd "sign" (chP c) [("some", .lst (txts e))])
    (f:=fun c=>bif (e.any fun y=>y==chS c) then chS c else " ") ?comp) ag_) (b5_ G ?size)) (bi_ PySem.F.slot_str_split PySem.F.type_str_split) (km_ G ?size2)) kL (fun o l=> ?_)
  case comp=>
   refine bp_ (aN_ ix1 aV_) (fun c _ C=>aI_ G rfl) (fun c=>cr_ (by rfl)) (fun c _ X C=>bl_) (fun c _ _ X C=> ?_) (fun x c h=>h)
   exact (cp_ (ai_ (aa_ ab_) (aa_ (uQ mQ)) eH_) (fun _=>(aa_ ab_)) (fun _=>(ah_ G)))
  case size=>exact bH_ 1 100 (eY_ fun c _ _=>by cases (e.any fun y=>y==chS c) <;>exact Nat.le_refl _) (Nat.le_trans (dX_ _ _ _) j) (by decide)
  case size2=>show (cl_ i e).length+2≤sizeLine; simp only [sizeLine]; exact O161 hm
  have hw:=fun y (hy:y∈Txt.words (cl_ i e))=>word_short hy
  have q:(Txt.words (cl_ i e)).length≤101:=by have:=StrLaws.words_weight (cl_ i e); exact O162 this hm
  refine aO_ l a (ce_ (ah_ G) (bi_ PySem.F.slot_str_join PySem.F.type_str_join) (ac_
   (a5_ G stK dS_ (aa_ ab_) (bZ_ G) (by simp only [sizeLine]; exact Nat.le_trans q (Nat.le_of_ble_eq_true rfl)) (cl:= []) rfl (b:=fun _=>true) (σc:= []) (σt:=fun r=>upd "run" (.str r) []) (f:=nc_) ?comp) ag_) (b5_ G ?size)) (fun v s' w r=>w.out r)
  case comp=>
   refine bp_ aV_ (fun c _ C=>aI_ G rfl) (fun c=>cr_ (by rfl)) (fun c _ X C=>bl_) (fun c hc _ X C=> ?_) (fun x c h=>nomatch h)
   have p:=hw c hc
   have t:=StrLaws.words_pos _ c hc
   exact (ae_ (ae_ (av_ G (aa_ ab_) (ad_ G) (by exact O164 t) (by exact O165 p hm)) (ah_ G) (aB_ G (by simp only [dd_]; decide))) (av_ G (aa_ ab_) (cR_ (ad_ G) (bO_ G)) (by exact O166 t) (by exact O165 p hm)) (aB_ G (by simp only [ak_,dd_]; decide)))
  case size=>exact bH_ 3 101 (eY_ fun c _ _=>by exact Nat.le_refl _) (Nat.le_trans (dX_ _ _ _) q) (by decide)
end
end Mine
end
section
set_option maxHeartbeats 1000000
namespace Mine
noncomputable def colS:Str:= "-STrstwx"
noncomputable def aE_ (L:List Str):List Str:=((colS.cps.toList).filter fun c=> !(L.any fun y=>y==chS c)).map chS
noncomputable def a2_ (L:List Str):Str:=Txt.replace (Txt.join "" L) "-" "" ++((bif (L.any fun y=>y== "-") then "-" else ""):Str)
noncomputable def ma_ (d:Int):Str:=lix ["?","[!b-a]",((("[" ++six colS 0)++ "-")++six colS (-1))++ "]","[b-a!]",("[" ++colS)++ "]"] ⟨#[]⟩ (Int.fmod d 5)
noncomputable def iU_ (d:Int):Str:=lix ["[b-a]",("[!" ++colS)++ "]","[b-ad-c]"] ⟨#[]⟩ (Int.fmod d 3)
noncomputable def ku_ (L:List Str)(d:Int):Str:=("[" ++lix [Txt.join "" L,"!" ++bk_ colS (aE_ L),bk_ colS L,Txt.join "" L++ "b-a","b-a!" ++a2_ (aE_ L),"]" ++a2_ L,"!]" ++a2_ (aE_ L),"^" ++a2_ L,"[" ++a2_ L,"&&~~||\\" ++a2_ L] ⟨#[]⟩ d)++ "]"
noncomputable def aZ_ (L:List Str)(d:Int):Str:=if aE_ L== [] then ma_ d else if L== [] then iU_ d else if (d==0 && ((L.length:Int)==1)) then lix L ⟨#[]⟩ 0 else ku_ L d
section
variable {g:GC}{k:Nat}
theorem dP_ (G:g.Good)(N:GN g){f fR:Addr}{pm cd doc V Z D:Value}(F:FnAt g f 38 pm cd doc)(FR:FnAt g fR 37 V Z D)(hR:g.mg "_law_ranges" =some (.ref fR)){S:List Nat}(hS:S.length≤8){d:Int}(hd:0≤d∧d < 10)
  (hm:(cl_ colS (S.map chS)).length≤100) (aa:(cl_ colS (aE_ (S.map chS))).length≤100) (ay:(bk_ colS (S.map chS)).length≤1000) (ac:(bk_ colS (aE_ (S.map chS))).length≤1000)
  (j:(a2_ (S.map chS)).length≤1000) (z:(a2_ (aE_ (S.map chS))).length≤1000) (t:(Txt.join "" (S.map chS)).length≤100) (ab:(Txt.join "" (aE_ (S.map chS))).length≤100):
  aC_ g (k+2) f [.str colS, .lst (txts (S.map chS)), .int d] (.str (aZ_ (S.map chS) d)):=by
 refine aP_ G F ["column","let_in","digit"] rfl (fun vs Y=> ?_) (by decide) (fun m x hx=> ?_) (by decide) (fun A s₀ aw Xo L M E a hp H=> ?_)
 ·exact v3 (P:=fun vs=>bindArgs _ ⟨vs,[]⟩=pure (List.zip _ vs)) (fun v u w=>rfl) vs Y
 ·rcases List.mem_cons.mp hx with rfl | hx
  ·exact .inl rfl
  ·rcases List.mem_cons.mp hx with rfl | hx
   ·exact .inr ⟨rfl,rfl⟩
   ·rcases List.mem_cons.mp hx with rfl | hx
    ·exact .inl rfl
    ·exact (nomatch hx)
 ·conv=>arg 4; whnf
  generalize hL:S.map chS=T at*
  have ae:(aE_ T).length≤8:=dX_ _ _ _
  have U:T.length≤8:=by exact sy (hL ..) (sb (List.length_map ..) hS)
  have af:∀y∈T,y.length≤1:=fun y hy=>by rw [← hL] at hy; obtain ⟨c,_,rfl⟩:=List.mem_map.mp hy; exact Nat.le_refl _
  have ah:∀y∈aE_ T,y.length≤1:=eY_ fun c _ _=>Nat.le_refl _
  refine cZ_ (f:=fun c=> .str (chS c)) G chK H a hp dZ_ (aa_ mQ) (cm_ G) (by decide) (cl:= [("let_in",L+1)]) rfl (b:=fun c=> !(T.any fun y=>y==chS c)) (σc:= [("let_in", .lst (txts T))]) (σt:=fun c=>upd "sign" (chP c) [("let_in", .lst (txts T))])
   (bp_ (aN_ ix1 aV_) (fun c _ C=>aI_ G rfl) (fun c=>cr_ (by rfl)) (fun c _ X C=> ?_) (fun c _ _ X C=> ?_) (fun x c h=>h)) (fun al q=> ?_)
  ·exact be_ (ai_ (aa_ ab_) (aa_ (uQ mQ)) fv_)
  ·exact (aa_ ab_)
  rw [d7_ chS] at q
  have J:=q.as [("column", .str colS),("let_in", .lst (txts T)),("digit", .int d),("barred", .lst (txts (aE_ T)))] sq
  have h5:=aF_ d (b:=5) (by decide)
  have h3:=aF_ d (b:=3) (by decide)
  refine aX_ (b:=aE_ T== []) J a (ai_ (aa_ ix3) (aT_ G aD_ (by show (0:Nat)≤sizeLine; decide)) (jy_)) (fun h s' e=> ?_) (fun h ai Q=> ?_)
  ·refine sb (show aZ_ T d=ma_ d by unfold aZ_; exact sb (if_pos h) rfl) ?_
   exact aO_ e a (a9_ (aT_ G (aj_ (ah_ G) (aj_ (ah_ G) (aj_ (ae_ (ae_ (ae_ (ae_ (ah_ G) (av_ G (aa_ mQ) (ad_ G) (by decide) (by decide)) (aB_ G (by decide))) (ah_ G) (aB_ G (by decide))) (av_ G (aa_ mQ) (cR_ (ad_ G) (bO_ G)) (by decide) (by decide)) (aB_ G (by decide))) (ah_ G) (aB_ G (by decide))) (aj_ (ah_ G) (aj_ (ae_ (ae_ (ah_ G) (aa_ mQ) (aB_ G (by decide))) (ah_ G) (aB_ G (by decide))) aD_))))) (by show (5:Nat)≤sizeLine; decide)) (ae_ (aa_ ix2) (ad_ G) (bj_ G (by decide))) (And.intro (by refine (?_: -((5:Nat):Int)≤_); exact O167 h5) (by refine (?_:_ < ((5:Nat):Int)); exact O168 h5)) (by show (5:Nat) < _; decide)) (fun v s' e r=>e.out r)
  refine af_ ?_
  refine aX_ (b:=T== []) Q a (ai_ (aa_ ix1) (aT_ G aD_ (by show (0:Nat)≤sizeLine; decide)) (jy_)) (fun h' s' e=> ?_) (fun h' am O=> ?_)
  ·refine sb (show aZ_ T d=iU_ d by unfold aZ_; rw [if_neg (by refine sb h ?_; simp),if_pos h']) ?_
   exact aO_ e a (a9_ (aT_ G (aj_ (ah_ G) (aj_ (ae_ (ae_ (ah_ G) (aa_ mQ) (aB_ G (by decide))) (ah_ G) (aB_ G (by decide))) (aj_ (ah_ G) aD_))) (by show (3:Nat)≤sizeLine; decide)) (ae_ (aa_ ix2) (ad_ G) (bj_ G (by decide))) (And.intro (by refine (?_: -((3:Nat):Int)≤_); exact O169 h3) (by refine (?_:_ < ((3:Nat):Int)); exact O170 h3)) (by show (3:Nat) < _; decide)) (fun v s' e r=>e.out r)
  refine af_ ?_
  refine aX_ (b:=(d==0 && ((T.length:Int)==1))) O a ?tst (fun o s' e=> ?_) (fun o aj R=> ?_)
  case tst=>exact (b7_ (ai_ (aa_ ix2) (ad_ G) ca_) (fun _=>(ai_ (ar_ (bW_ G N.len) (ac_ (aa_ ix1) ag_) (df_ G (by exact O171 U))) (ad_ G) ca_)))
  ·refine sb (show aZ_ T d=lix T ⟨#[]⟩ 0 by unfold aZ_; rw [if_neg (by refine sb h ?_; simp),if_neg (by refine sb h' ?_; simp),if_pos o]) ?_
   have:T.length=1:=by simp at o; exact O172 o
   exact aO_ e a (a9_ (aa_ ix1) (ad_ G) (by exact O173 this) (by exact Eq.symm this▸Nat.one_lt_two_pow' 62)) (fun v s' e r=>e.out r)
  refine af_ ?_
  refine sb (show aZ_ T d=ku_ T d by unfold aZ_; rw [if_neg (by refine sb h ?_; simp),if_neg (by refine sb h' ?_; simp),if_neg (by refine sb o ?_; simp)]) ?_
  have n:=j
  have p:=z
  unfold a2_ at n p
  rw [ak_] at n p
  have az:(Txt.join "" T).length≤100:=t
  refine al_ (pv:= .str (Txt.join "" T)) G R a (ce_ (ah_ G) (bi_ PySem.F.slot_str_join PySem.F.type_str_join) (ac_ (aa_ ix1) ag_) (b5_ G (bH_ 1 8 af U (by decide)))) kL (fun au I=> ?_)
  refine al_ (pv:= .str (a2_ T)) G I a (ae_ (js_ G (aa_ ab_) (by decide) (by refine (?_:_+_*0≤_); exact Nat.le_trans t (Nat.le_of_ble_eq_true rfl))) (cp_ (ai_ (ah_ G) (aa_ (uQ ix1)) eH_) (fun _=>(ah_ G)) (fun _=>(ah_ G))) (aB_ G (by simp only [sizeLine]; exact Nat.le_trans n (Nat.le_of_ble_eq_true rfl)))) kL (fun ar K=> ?_)
  refine al_ (pv:= .str (a2_ (aE_ T))) G K a (ae_ (js_ G (ce_ (ah_ G) (bi_ PySem.F.slot_str_join PySem.F.type_str_join) (ac_ (aa_ (uQ (uQ ix3))) ag_) (b5_ G (bH_ 1 8 ah ae (by decide)))) (by decide) (by refine (?_:_+_*0≤_); exact Nat.le_trans ab (Nat.le_of_ble_eq_true rfl))) (cp_ (ai_ (ah_ G) (aa_ (uQ (uQ ix3))) eH_) (fun _=>(ah_ G)) (fun _=>(ah_ G))) (aB_ G (by simp only [sizeLine]; exact Nat.le_trans p (Nat.le_of_ble_eq_true rfl)))) kL (fun ak B=> ?_)
  have hb: -((10:Nat):Int)≤d∧d < ((10:Nat):Int):=by exact O177 hd
  have s:(lix [Txt.join "" T,"!" ++bk_ colS (aE_ T),bk_ colS T,Txt.join "" T++ "b-a","b-a!" ++a2_ (aE_ T),"]" ++a2_ T,"!]" ++a2_ (aE_ T),"^" ++a2_ T,"[" ++a2_ T,"&&~~||\\" ++a2_ T] ⟨#[]⟩ d).length≤1010:=by
   have hm:=i5_ (d:=(⟨#[]⟩:Str)) (i:=d) (l:= [Txt.join "" T,"!" ++bk_ colS (aE_ T),bk_ colS T,Txt.join "" T++ "b-a","b-a!" ++a2_ (aE_ T),"]" ++a2_ T,"!]" ++a2_ (aE_ T),"^" ++a2_ T,"[" ++a2_ T,"&&~~||\\" ++a2_ T]) hb
   generalize lix _ _ _=y at hm ⊢
   simp only [List.mem_cons,List.not_mem_nil,or_false] at hm
   have l1:("!" :Str).length=1:=by decide
   have l2:("b-a" :Str).length=3:=by decide
   have l3:("b-a!" :Str).length=4:=by decide
   have l4:("]" :Str).length=1:=by decide
   have l5:("!]" :Str).length=2:=by decide
   have l6:("^" :Str).length=1:=by decide
   have l7:("[" :Str).length=1:=by decide
   have l8:("&&~~||\\" :Str).length=7:=by decide
   rcases hm with rfl | rfl | rfl | rfl | rfl | rfl | rfl | rfl | rfl | rfl <;>(try refine sb (ak_ ..) ?_) <;>omega
  have l0:("[" :Str).length=1:=by decide
  have l9:("]" :Str).length=1:=by decide
  exact aO_ B a (ae_ (ae_ (ah_ G) (a9_ (aT_ G (aj_ (aa_ (uQ (uQ ab_))) (aj_ (ae_ (ah_ G) (az_ (bI_ G hR) FR.isFn (ac_ (aa_ (uQ (uQ (uQ mQ)))) (ac_ (aa_ (uQ (uQ (uQ ix3)))) ag_)) (en_ G FR (by decide) aa)) (aB_ G (by have l1:("!" :Str).length=1:=(by decide); simp only [sizeLine]; exact O185 l1 ac))) (aj_ (az_ (bI_ G hR) FR.isFn (ac_ (aa_ (uQ (uQ (uQ mQ)))) (ac_ (aa_ (uQ (uQ (uQ ix1)))) ag_)) (en_ G FR (by decide) hm)) (aj_ (ae_ (aa_ (uQ (uQ ab_))) (ah_ G) (aB_ G (by have l1:("b-a" :Str).length=3:=(by decide); simp only [sizeLine]; exact O186 t l1))) (aj_ (ae_ (ah_ G) (aa_ ab_) (aB_ G (by have l1:("b-a!" :Str).length=4:=(by decide); simp only [sizeLine]; exact O187 l1 z))) (aj_ (ae_ (ah_ G) (aa_ (uQ ab_)) (aB_ G (by simp only [sizeLine]; exact O185 l9 j))) (aj_ (ae_ (ah_ G) (aa_ ab_) (aB_ G (by have l1:("!]" :Str).length=2:=(by decide); simp only [sizeLine]; exact O188 l1 z))) (aj_ (ae_ (ah_ G) (aa_ (uQ ab_)) (aB_ G (by have l1:("^" :Str).length=1:=(by decide); simp only [sizeLine]; exact O185 l1 j))) (aj_ (ae_ (ah_ G) (aa_ (uQ ab_)) (aB_ G (by simp only [sizeLine]; exact O185 l0 j))) (aj_ (ae_ (ah_ G) (aa_ (uQ ab_)) (aB_ G (by have l1:("&&~~||\\" :Str).length=7:=(by decide); simp only [sizeLine]; exact O189 l1 j))) aD_)))))))))) (by refine (?_:(10:Nat)≤sizeLine); decide)) (aa_ (uQ (uQ (uQ ix2)))) hb (by refine (?_:(10:Nat) < _); decide)) (aB_ G (by simp only [sizeLine]; exact O190 l0 s))) (ah_ G) (aB_ G (by refine sb (ak_ ..) ?_; simp only [sizeLine]; exact O191 l0 s l9))) (fun v s' e r=>e.out r)
end
end Mine
end
section
namespace Mine
noncomputable def ev_ (body:Str)(k:Nat):Bool:=six body k== "\\"
noncomputable def lrS (body:Str)(f:Nat→List (Str×Str)→Option (List (Str×Str)))(k:Nat)(z:List (Str×Str)):Option (List (Str×Str)):=
  if k < body.length then
   let c:=if ev_ body k=true then k+1 else k
   if body.length≤c then none
   else if (ev_ body k && Txt.isalnum (six body c))=true then none
   else if (ssl body (some ((c:Int)+1)) (some ((c:Int)+2)) none== "-" && decide ((c:Int)+2 < body.length))=true then
    let Y:=if ev_ body (c+2)=true then c+3 else c+2
    if body.length≤Y then none
    else if decide ((six body Y).cps.toList < (six body c).cps.toList)=true then none
    else f (Y+1) (z++ [(six body c,six body Y)])
   else if decide ((six body c).cps.toList < (six body c).cps.toList)=true then none
   else f (c+1) (z++ [(six body c,six body c)])
  else some z
noncomputable def lrGo (body:Str):Nat→Nat→List (Str×Str)→Option (List (Str×Str))
 | 0, _, _ => none
 | n + 1, k, z => lrS body (lrGo body n) k z
theorem iZ_:lrGo body (n+1) k z=lrS body (lrGo body n) k z:=rfl
noncomputable def bv_ (part:Str):Str:=bif (six part 1== "^") then ssl part (some 2) (some (-1)) none else ssl part (some 1) (some (-1)) none
theorem i0_ (part:Str):(bv_ part).length≤part.length:=by unfold bv_; cases (six part 1== "^") <;>exact bm_ _ _ _
noncomputable def dk_ (part:Str):Option Rdg:=
 if ((["." ,"(?!)"]:List Str).any fun y=>y==part)=true then some (part== ".",[])
 else if (ssl part none (some 1) none != "[")=true then
  if part.length=0 then none
  else if (part== "\\-" || (((part.length:Int)==1) && Txt.isalnum part))=true then some (false,[(six part (-1),six part (-1))]) else none
 else if part.length < 2 then none
 else if (six part (-1) != "]" || ((["","["]:List Str).any (fun y=>y==ssl (bv_ part) none (some 1) none) || inS "]" (ssl (bv_ part) (some 1) none none)))=true then none
 else if ((((["&&","~~","||"]:List Str).filter fun t=>inS t (bv_ part)).map fun t=>t) != [])=true then none
 else (lrGo (bv_ part) ((bv_ part).length+1) 0 []).map fun l=>(six part 1== "^",l)
noncomputable abbrev rdS (part body:Str) (j:Bool) (b:Addr) (k:Nat):List (Str×PV):= [("body", .str body),("barred", .bool j),("ranges", .ref b),("k", .int k)]
noncomputable abbrev rdS1 (body:Str) (j:Bool) (b:Addr) (k:Nat):List (Str×PV):= [("body", .str body),("barred", .bool j),("ranges", .ref b),("k", .int k)]
noncomputable abbrev rdS2 (body:Str) (j:Bool) (b:Addr) (k:Nat) (lo hi:Str):List (Str×PV):= [("body", .str body),("barred", .bool j),("ranges", .ref b),("k", .int k),("low", .str lo),("high", .str hi)]
section
variable {g:GC}{k:Nat}
theorem fO_ (G:g.Good)(N:GN g){f:Addr}{pm cd doc:Value}(F:FnAt g f 39 pm cd doc){part:Str}{r:Rdg}(i:part.length≤1000)(hr:dk_ part=some r):aC_ g (k+1) f [.str part] (rdP r):=by
 refine aP_ G F ["part"] rfl (fun vs aD=> ?_) (by decide) (fun m x hx=> ?_) (by decide) (fun A s₀ aM Xo L M E a hp S=> ?_)
 ·exact v1 (P:=fun vs=>bindArgs _ ⟨vs,[]⟩=pure (List.zip _ vs)) (fun v=>rfl) vs aD
 ·rcases List.mem_cons.mp hx with rfl | hx
  ·exact .inl rfl
  ·contradiction
 ·conv=>arg 4; whnf
  refine aX_ (b:=(["." ,"(?!)"]:List Str).any fun y=>y==part) S a (ai_ (aa_ (iX 0 rfl)) (br_ G (aj_ (ah_ G) (aj_ (ah_ G) aD_)) (by show (2:Nat)≤sizeLine; decide)) g7_) (fun hb s' u=> ?_) (fun hb an O=> ?_)
  ·unfold dk_ at hr
   rw [if_pos hb] at hr
   cases hr
   exact aO_ u a (cd_ G (ac_ (jt_ (aa_ (iX 0 rfl)) (ah_ G) aY_) (ac_ (aT_ G aD_ (by show (0:Nat)≤sizeLine; decide)) ag_)) (by refine (?_:(2:Nat)≤sizeLine); decide)) (fun v s' u r=>u.out r)
  refine af_ ?_
  unfold dk_ at hr
  rw [if_neg (by refine sb hb ?_; simp)] at hr
  refine aX_ (b:=ssl part none (some 1) none != "[") O a (ai_ (ax_ G (aa_ (iX 0 rfl)) (aJ_ G ap_ (aq_ (ad_ G)) ap_) (by decide) (Nat.le_trans (bm_ _ _ _) (by simp only [sizeLine]; exact O192 i))) (ah_ G) eG_) (fun ar s' u=> ?_) (fun ar ao K=> ?_)
  ·rw [if_pos ar] at hr
   by_cases hl:part.length=0
   ·rw [if_pos hl] at hr; contradiction
   rw [if_neg hl] at hr
   by_cases V:(part== "\\-" || (((part.length:Int)==1) && Txt.isalnum part))=true
   ·rw [if_pos V] at hr
    cases hr
    refine aO_ (pv:=rdP (false,[(six part (-1),six part (-1))])) u a (ds_ (b:=(part== "\\-" || (((part.length:Int)==1) && Txt.isalnum part))) (dr_ (ai_ (aa_ (iX 0 rfl)) (ah_ G) aY_) (fun _=>(b7_ (ai_ (ar_ (bW_ G N.len) (ac_ (aa_ (iX 0 rfl)) ag_) (bh_ G (by exact O193 i))) (ad_ G) ca_) (fun _=>(by_ (gV_ (aa_ (iX 0 rfl)) (bi_ PySem.F.slot_str_isalnum PySem.F.type_str_isalnum) eX_) ch_))))) (fun _=>(cd_ G (ac_ eC_ (ac_ (eB_ G (ac_ (br_ G (aj_ (av_ G (aa_ (iX 0 rfl)) (cR_ (ad_ G) (bO_ G)) (by exact O194 hl) (by exact O195 i)) (aj_ (av_ G (aa_ (iX 0 rfl)) (cR_ (ad_ G) (bO_ G)) (by exact O194 hl) (by exact O195 i)) aD_)) (by refine (?_:(2:Nat)≤sizeLine); decide)) ag_) (by refine (?_:(1:Nat)≤sizeLine); decide)) ag_)) (by refine (?_:(2:Nat)≤sizeLine); decide))) (fun h=>by rw [V] at h; contradiction)) (fun v s' u r=>u.out r)
   ·rw [if_neg V] at hr; contradiction
  refine af_ ?_
  rw [if_neg (by refine sb ar ?_; simp)] at hr
  by_cases hl:part.length < 2
  ·rw [if_pos hl] at hr; contradiction
  rw [if_neg hl] at hr
  refine al_ (pv:= .bool (six part 1== "^")) G K a (jt_ (av_ G (aa_ (iX 0 rfl)) (ad_ G) (by exact O196 hl) (by exact O195 i)) (ah_ G) aY_) kL (fun az ai=> ?_)
  refine al_ (pv:= .str (bv_ part)) G ai a (cp_ (by_ (aa_ ab_) ch_) (fun _=>(ax_ G (aa_ (uQ (iX 0 rfl))) (aJ_ G (aq_ (ad_ G)) (aq_ (cR_ (ad_ G) (bO_ G))) ap_) (by decide) (Nat.le_trans (bm_ _ _ _) (by simp only [sizeLine]; exact O192 i)))) (fun _=>(ax_ G (aa_ (uQ (iX 0 rfl))) (aJ_ G (aq_ (ad_ G)) (aq_ (cR_ (ad_ G) (bO_ G))) ap_) (by decide) (Nat.le_trans (bm_ _ _ _) (by simp only [sizeLine]; exact O192 i))))) kC (fun aL ag=> ?_)
  have s:=i0_ part
  refine aX_ (b:=(six part (-1) != "]" || ((["","["]:List Str).any (fun y=>y==ssl (bv_ part) none (some 1) none) || inS "]" (ssl (bv_ part) (some 1) none none)))) ag a (mp_ (ai_ (av_ G (aa_ (uQ (uQ (iX 0 rfl)))) (cR_ (ad_ G) (bO_ G)) (by exact O197 hl) (by exact O195 i)) (ah_ G) eG_) (fun _=>(ai_ (ax_ G (aa_ ab_) (aJ_ G ap_ (aq_ (ad_ G)) ap_) (by decide) (Nat.le_trans (bm_ _ _ _) (by simp only [sizeLine]; exact O198 s i))) (br_ G (aj_ (ah_ G) (aj_ (ah_ G) aD_)) (by show (2:Nat)≤sizeLine; decide)) g7_)) (fun _ _=>(ai_ (ah_ G) (ax_ G (aa_ ab_) (aJ_ G (aq_ (ad_ G)) ap_ ap_) (by decide) (Nat.le_trans (bm_ _ _ _) (by simp only [sizeLine]; exact O198 s i))) jw_))) (fun V s' u=> ?_) (fun V am U=> ?_)
  ·rw [if_pos V] at hr; contradiction
  rw [if_neg (by refine sb V ?_; simp)] at hr
  refine af_ ?_
  refine aX_ (b:=(((["&&","~~","||"]:List Str).filter fun t=>inS t (bv_ part)).map fun t=>t) != []) U a (ai_ (a5_ (f:=fun t=>t) G stK dS_ (br_ G (aj_ (ah_ G) (aj_ (ah_ G) (aj_ (ah_ G) aD_))) (by show (3:Nat)≤sizeLine; decide)) (jg_ G) (by decide) rfl (b:=fun t=>inS t (bv_ part)) (σc:= [("body", .str (bv_ part))]) (σt:=fun t=>upd "two" (.str t) [("body", .str (bv_ part))])
   (bp_ (aN_ ab_ aV_) (fun w _ C=>aI_ G rfl) (fun w=>cr_ (by rfl)) (fun w hw X C=> ?_) (fun w hw _ X C=> ?_) (du_ ?_))) (aT_ G aD_ (by show (0:Nat)≤sizeLine; decide)) dM_) (fun ax s' u=> ?_) (fun ax aq J=> ?_)
  ·exact be_ (ai_ (aa_ ab_) (aa_ (uQ (iX 0 rfl))) jw_)
  ·exact (aa_ ab_)
  ·exact ba_ rfl cf_
  ·rw [if_pos ax] at hr; contradiction
  rw [if_neg (by refine sb ax ?_; simp)] at hr
  refine af_ ?_
  refine bA_ (pvs:=([]:List (Str×Str)).map prP) G J a ag_ kL (fun b a8 aC af=> ?_) (by decide)
  refine al_ (pv:= .int ((0:Nat):Int)) G af a (ad_ G) kL (fun a1 I=> ?_)
  obtain ⟨R,hR,rfl⟩:∃R,lrGo (bv_ part) ((bv_ part).length+1) 0 []=some R∧r=(six part 1== "^",R):=by
   cases e:lrGo (bv_ part) ((bv_ part).length+1) 0 [] with
   | none => rw [e] at hr; cases hr
   | some R => rw [e] at hr; cases hr; exact I1_2 R rfl rfl
  generalize bv_ part=body at*
  have a2:=I.as (rdS1 body (six part 1== "^") b 0) sq
  generalize (six part 1== "^")=ac at*
  refine d8_ (D:=Nat×Nat×List (Str×Str)) (P:=fun d σ ω=>ω= [(b, .lst (d.2.2.map prP))]∧lrGo body d.1 d.2.1 d.2.2=some R∧d.2.1≤body.length∧d.2.2.length≤d.2.1∧(∀p∈rdS1 body ac b d.2.1,p∈σ)) (m:=fun d=>d.1) (tb:=fun d=>decide ((d.2.1:Int) < body.length)) (B:=fun _ _=>False) (o:=bP_) a2 a (body.length+1,0,[]) ⟨rfl,hR,Nat.zero_le _,Nat.le_refl _,fun _ h=>h⟩
   (fun d ab ah hP X=> ?_) (fun d ab ah a5 ap ay aF aE hP aa ae=> ?_) (fun d ab ah aF aE hP aa ae=> ?_) (fun _ _ _ h=>h.elim) (fun v σ' s' u r=>(aK_ r).elim)
  ·(refine X0_5 hP fun q1 q h2 h3 h4=> ?_; subst q1)
   exact EvT.weak (σ':=rdS1 body ac b d.2.1) (ai_ (aa_ (iX 3 rfl)) (ar_ (bW_ G N.len) (ac_ (aa_ (iX 0 rfl)) ag_) (bh_ G (by exact O199 s i))) cq_) h4
  ·obtain ⟨n,Z,z⟩:=d
   (refine X0_5 hP fun q2 q h2 h3 h4=> ?_; subst q2)
   dsimp only at q h2 h3 h4 aa ae
   have T:Z < body.length:=by have:=of_decide_eq_true aa; exact O200 this
   cases n with
   | zero => cases q
   | succ n=>
   rw [iZ_,lrS,if_pos T] at q
   have a4:=ae.as _ h4
   obtain ⟨c,aj⟩:∃c,c=(if ev_ body Z=true then Z+1 else Z):=⟨_,rfl⟩
   rw [← aj] at q
   by_cases c1:body.length≤c
   ·rw [if_pos c1] at q; contradiction
   rw [if_neg c1] at q
   by_cases c2:(ev_ body Z && Txt.isalnum (six body c))=true
   ·rw [if_pos c2] at q; contradiction
   rw [if_neg c2] at q
   have aI:Z≤c:=by refine sb aj ?_; split <;>(first | exact O201 | exact Nat.le.refl)
   refine wpQ fun Q hQ=> ?_
   refine ei_ (fun s'=>LS g a5 (cenv 39 pm cd doc L f) ap ay [] (rdS1 body ac b c) [(b, .lst (z.map prP))] s') (b:=ev_ body Z) a4 a (ai_ (av_ G (aa_ (iX 0 rfl)) (aa_ (iX 3 rfl)) (by exact O203 T) (by exact O204 s i)) (ah_ G) aY_) (fun hb s' u H=> ?_) (fun hb s' u H=> ?_) (fun an O=> ?_)
   ·have ad:c=Z+1:=by exact sb aj (sb (if_pos hb) rfl)
    refine cz_ (o:= .int ((Z+1:Nat):Int)) G u a (iX 3 rfl) (ad_ G) (cj_ G) kL (fun an O=> ?_)
    refine aX_ (b:=Txt.isalnum (six body ((Z+1:Nat):Int))) O a (by_ (gV_ (av_ G (aa_ (uQ (iX 0 rfl))) (aa_ ab_) (by exact O205 ad c1) (by exact O204 s i)) (bi_ PySem.F.slot_str_isalnum PySem.F.type_str_isalnum) eX_) ch_) (fun a6 s' u=> ?_) (fun a6 ao K=> ?_)
    ·exfalso; apply c2; refine sb hb (sb ad (sb a6 ?_)); rfl
    ·exact af_ (af_ (H _ (by exact sb ad (K.as _ sq))))
   ·exact af_ (H _ (by rw [aj,if_neg (by refine sb hb ?_; simp)]; exact u))
   ·skip
    refine al_ (pv:= .str (six body c)) G O a (av_ G (aa_ (iX 0 rfl)) (aa_ (iX 3 rfl)) (by exact O206 c1) (by exact O204 s i)) kL (fun ao K=> ?_)
    refine al_ (pv:= .str (six body c)) G K a (aa_ ab_) kL (fun az ai=> ?_)
    have ag:=ai.as (rdS2 body ac b c (six body c) (six body c)) sq
    refine ei_ (fun s'=>∃(hi:Str) (kf:Nat),c≤kf∧kf < body.length∧(if decide (hi.cps.toList < (six body c).cps.toList)=true then none else lrGo body n (kf+1) (z++ [(six body c,hi)]))=some R∧LS g a5 (cenv 39 pm cd doc L f) ap ay [] (rdS2 body ac b kf (six body c) hi) [(b, .lst (z.map prP))] s') (b:=(ssl body (some ((c:Int)+1)) (some ((c:Int)+2)) none== "-" && decide ((c:Int)+2 < body.length))) ag a (b7_ (ai_ (ax_ G (aa_ (iX 0 rfl)) (aJ_ G (aq_ (ae_ (aa_ (iX 3 rfl)) (ad_ G) (a6_ G))) (aq_ (ae_ (aa_ (iX 3 rfl)) (ad_ G) (a6_ G))) ap_) (by decide) (Nat.le_trans (bm_ _ _ _) (by simp only [sizeLine]; exact O198 s i))) (ah_ G) aY_) (fun _=>(ai_ (ae_ (aa_ (iX 3 rfl)) (ad_ G) (a6_ G)) (ar_ (bW_ G N.len) (ac_ (aa_ (iX 0 rfl)) ag_) (bh_ G (by exact O199 s i))) cq_))) (fun hb s' u H=> ?_) (fun hb s' u H=> ?_) (fun am HH=> ?_)
    ·rw [if_pos hb] at q
     have a9:(c:Int)+2 < body.length:=by have:=(Bool.and_eq_true_iff.mp hb).2; exact of_decide_eq_true this
     obtain ⟨Y,aw⟩:∃Y,Y=(if ev_ body (c+2)=true then c+3 else c+2):=⟨_,rfl⟩
     rw [← aw] at q
     by_cases c3:body.length≤Y
     ·rw [if_pos c3] at q; contradiction
     rw [if_neg c3] at q
     have e2:((c:Int)+(bif (six body ((c:Int)+2)== "\\") then (3:Int) else 2))=(Y:Int):=by
      have e:(six body ((c:Int)+2)== "\\")=ev_ body (c+2):=rfl
      refine sb aw (sb e ?_)
      cases ev_ body (c+2) <;>rfl
     have a0:c≤Y:=by refine sb aw ?_; split <;>(first | exact O207 | exact O208)
     refine cz_ (o:= .int (Y:Int)) G u a (iX 3 rfl) (f9_ (ai_ (av_ G (aa_ (iX 0 rfl)) (ae_ (aa_ (iX 3 rfl)) (ad_ G) (a6_ G)) (by exact O209 a9) (by exact O204 s i)) (ah_ G) aY_) (fun _=>(ad_ G)) (fun _=>(ad_ G))) (by simp only [← e2]; exact cj_ G) kL (fun am U=> ?_)
     refine al_ (pv:= .str (six body Y)) G U a (av_ G (aa_ (uQ (iX 0 rfl))) (aa_ ab_) (by exact O206 c3) (by exact O204 s i)) kL (fun aq J=> ?_)
     exact af_ (H _ ⟨six body Y,Y,a0,by exact Nat.lt_of_not_le c3,q,J.as _ sq⟩)
    ·rw [if_neg (by refine sb hb ?_; simp)] at q
     exact af_ (H _ ⟨six body c,c,Nat.le_refl _,by exact Nat.lt_of_not_le c1,q,u⟩)
    ·refine X2_4 HH fun hi kf aJ aG q U=> ?_
     refine aX_ (b:=decide (hi.cps.toList < (six body c).cps.toList)) U a (ai_ (aa_ (iX 5 rfl)) (aa_ (iX 4 rfl)) mw_) (fun hb s' u=> ?_) (fun hb aq J=> ?_)
     ·rw [if_pos hb] at q; contradiction
     rw [if_neg (by refine sb hb ?_; simp)] at q
     refine af_ ?_
     refine bM_ (p:=prP (six body c,hi)) G J a (iX 2 rfl) mQ (br_ G (aj_ (aa_ (iX 4 rfl)) (aj_ (aa_ (iX 5 rfl)) aD_)) (by refine (?_:(2:Nat)≤sizeLine); decide)) (by refine sb (List.length_map ..) ?_; simp only [sizeLine]; exact O211 h3 T i s) (fun a8 af=> ?_) (hc:=⟨_,c7_ (fun _=>rfl) (by rfl) (by rfl)⟩)
     refine cz_ (o:= .int ((kf+1:Nat):Int)) G af a (iX 3 rfl) (ad_ G) (cj_ G) kL (fun a1 I=> ?_)
     have e:setω b (.lst (z.map prP++ [prP (six body c,hi)])) [(b, .lst (z.map prP))]= [(b, .lst ((z++ [(six body c,hi)]).map prP))]:=by
      rw [List.map_append]
      simp [setω]
     simp only [e] at I
     refine af_ (hQ _ _ ⟨[],_,_,⟨(n,kf+1,z++ [(six body c,hi)]),by show n < n+1; exact O212,rfl,q,aG,by show (z++ [_]).length≤kf+1; rw [List.length_append]; show z.length+1≤kf+1; exact O213 h3 aJ aI,sq⟩,I,fun d oc hd=> ?_⟩)
     rcases List.mem_cons.mp hd with hd | hd
     ·cases hd
      rcases I.oM b _ mQ with h | h
      ·exact h
      ·cases h
     ·cases hd
  ·obtain ⟨n,Z,z⟩:=d
   (refine X0_5 hP fun q3 q h2 h3 h4=> ?_; subst q3)
   dsimp only at q h2 h3 h4 aa ae
   have T:¬Z < body.length:=by have:=of_decide_eq_false aa; exact O214 this
   have aK:z=R:=by
    cases n with
    | zero => cases q
    | succ n => rw [iZ_,lrS,if_neg T] at q; cases q; rfl
   subst aK
   refine af_ ?_
   exact dc_ (ae.as _ h4) a mQ (cX_ (iX 1 rfl) (bs_ (iX 2 rfl) mQ bt_)) (cd_ G (ac_ (aa_ (iX 0 rfl)) (ac_ (aa_ (iX 1 rfl)) ag_)) (by show (2:Nat)≤sizeLine; decide)) (fun v s' u r=>u.outV (fun h=>aC (.inl h)) r)
end
noncomputable def escN (c:Nat):List Nat:=if c=45 then [92,45] else [c]
noncomputable def colN:List Nat:= [45,83,84,114,115,116,119,120]
structure Side (L:List Nat)(t:Str)(it:It)(p:List Nat)(r:Rdg):Prop where
 txt:t=lS it.txt
 ok:it.ok
 ns:it≠ .star
 out:it.out escN=some p
 one:∀c,it= .one c→c∈colN
 tl:it.txt.length≤70
 pl:p.length≤100
 rd:dk_ (lS p)=some r
 rl:r.2.length≤100
 cls:∀c∈colN,(hitR r.2 (chS c)==r.1)= !(L.contains c)
noncomputable def gN (gaps:Int)(i:Nat):Nat:=1+(Int.fmod (Int.fmod (Int.fdiv gaps (10 ^ i)) 10) 3).toNat
theorem f6_ (gaps:Int)(i:Nat):1≤gN gaps i∧gN gaps i≤3:=by
 have:=aF_ (Int.fmod (Int.fdiv gaps (10 ^ i)) 10) (b:=3) (by decide)
 unfold gN; exact O474 this
noncomputable def itC (g j:It)(c:Nat):It:=if c=85 then g else j
noncomputable def ptC (z A:List Nat)(c:Nat):List Nat:=if c=85 then z else A
noncomputable abbrev e6_ (n:Nat):List It:=List.replicate n .star
noncomputable def c8_ (g j:It)(gaps:Int)(w:List Nat):Nat→List It
 | 0 => []
 | 1 => [itC g j (w.getD 0 0)]
 | i + 2 => c8_ g j gaps w (i+1)++(e6_ (gN gaps (i+1))++ [itC g j (w.getD (i+1) 0)])
theorem g5_:c8_ g j gaps w 1= [itC g j (w.getD 0 0)]:=rfl
theorem eD_ {i:Nat}:c8_ g j gaps w (i+2)=c8_ g j gaps w (i+1)++(e6_ (gN gaps (i+1))++ [itC g j (w.getD (i+1) 0)]):=rfl
noncomputable def patI (g j:It)(gaps:Int)(w:List Nat)(n:Nat):List It:=e6_ (gN gaps 0)++(c8_ g j gaps w n++e6_ (gN gaps n))
theorem a7_ (a b:List It):aA_ (a++b)=aA_ a++aA_ b:=by unfold aA_; exact sb List.flatMap_append rfl
theorem a1_ (n:Nat):aA_ (e6_ n)=List.replicate n 42:=by
 induction n with
 | zero => rfl
 | succ n I=>
  refine (?_:aA_ (.star::e6_ n)=_)
  unfold aA_ at I ⊢
  refine sb List.flatMap_cons (sb I ?_); rfl
theorem i2_ (n:Nat)(h:1≤n∧n≤3):lpSt (n:Int)=lS (List.replicate n 42):=by
 have:n=1∨n=2∨n=3:=by exact O475 h
 rcases this with rfl | rfl | rfl <;>decide+kernel
theorem lv_ (gaps:Int)(i:Nat):(1+Int.fmod (Int.fmod (Int.fdiv gaps (10 ^ i)) 10) 3:Int)=((gN gaps i:Nat):Int):=by
 have:=aF_ (Int.fmod (Int.fdiv gaps (10 ^ i)) 10) (b:=3) (by decide)
 unfold gN; exact O476 this
theorem i1_ {a b:List Nat}{c:Nat}:lpTx (lS a) (lS b) (chS c)=lS (if c=85 then a else b):=by
 unfold lpTx
 have e:(chS c=("U" :Str))↔c=85:=by
  have h:("U" :Str)=chS 85:=by decide
  refine sb h ?_
  constructor
  ·intro q; have:=congrArg (fun x:Str=>x.cps.toList) q; simpa using this
  ·rintro rfl; rfl
 by_cases h:c=85
 ·exact sb (if_pos (e.mpr h)) (sb (if_pos h) rfl)
 ·exact sb (if_neg (fun q=>h (e.mp q))) (sb (if_neg h) rfl)
theorem pat0 (gaps:Int):lpSt (1+Int.fmod (Int.fmod gaps 10) 3)=lS (List.replicate (gN gaps 0) 42):=by
 have h:=lv_ gaps 0
 rw [Int.pow_zero,Int.fdiv_one] at h
 exact sb h (i2_ _ (f6_ _ _))
theorem lu_ (gaps:Int)(i:Nat):lpSt (dl_ gaps ((i:Int)+1))=lS (List.replicate (gN gaps (i+1)) 42):=by
 have h:=lv_ gaps (i+1)
 have e:((i:Int)+1).toNat=i+1:=by exact Int.toNat_natCast_add_one
 unfold dl_
 exact sb e (sb h (i2_ _ (f6_ _ _)))
theorem mU_ {g j:It}{w:List Nat}{i:Nat}:lpTx (lS g.txt) (lS j.txt) (six (lS w) (i:Int))=lS (itC g j (w.getD i 0)).txt:=by
 simp only [bS_,a3_,i1_]
 unfold itC; split <;>rfl
theorem iL_ {g j:It}{gaps:Int}{w:List Nat}:∀i,cb_ (lS g.txt) (lS j.txt) gaps (lS w) (i+1)=lS (aA_ (patI g j gaps w (i+1)))
 | 0 => by
  refine (?_:lpSt (1+Int.fmod (Int.fmod gaps 10) 3)++(lpTx (lS g.txt) (lS j.txt) (six (lS w) ((0:Nat):Int))++lpSt (dl_ gaps (((0:Nat):Int)+1)))=_)
  rw [pat0,lu_,mU_,aL_,aL_]
  unfold patI; refine sb g5_ ?_
  refine sb (a7_ ..) (sb (a7_ ..) (sb (a1_ ..) (sb (a1_ ..) ?_)))
  simp [aA_]
 | i + 1 => by
  refine (?_:cb_ (lS g.txt) (lS j.txt) gaps (lS w) (i+1)++(lpTx (lS g.txt) (lS j.txt) (six (lS w) ((i+1:Nat):Int))++lpSt (dl_ gaps (((i+1:Nat):Int)+1)))=_)
  rw [iL_ i,lu_,mU_,aL_,aL_]
  unfold patI
  refine sb eD_ ?_
  simp only [a7_,a1_,List.append_assoc]
  simp [aA_]
theorem gu_ {a b:Nat}{k:List Nat}(hm:k≠[])(Q:k.head hm≠42)(K:k.getLast hm≠42):
  Txt.stripChars (lS (List.replicate a 42++(k++List.replicate b 42))) "*" =lS k:=by
 unfold Txt.stripChars
 refine sb (PyProof.Rows.stripBy_eq ..) ?_
 have N:∀c,(("*" :Str).cps.contains c)=decide (c=42):=fun c=>by
  have:("*" :Str).cps= #[42]:=by decide
  refine sb this ?_; simp
 have O:∀(n:Nat) (l:List Nat) (M:l≠[]) (h:l.head M≠42),((List.replicate n 42++l).takeWhile ("*" :Str).cps.contains).length=n:=by
  intro n l M h
  induction n with
  | zero=>
   cases l with
   | nil => exact absurd rfl M
   | cons x r => refine sb (List.replicate_zero ..) (sb (List.nil_append ..) (sb (List.takeWhile_cons ..) (sb (N ..) (sb (decide_eq_false (p:=x=42) h ..) ?_)))); rfl
  | succ n I => exact sb (List.replicate_succ ..) (sb (List.cons_append ..) (sb (List.takeWhile_cons ..) (sb (N ..) (sb (decide_eq_true rfl ..) (sb (if_pos rfl ..) (sb (List.length_cons ..) (sb (I ..) rfl)))))))
 have lo:stripLo ("*" :Str).cps.contains true (lS (List.replicate a 42++(k++List.replicate b 42)))=a:=by
  unfold stripLo
  refine sb (if_pos rfl ..) (sb (a3_ ..) ?_)
  exact O a _ (by simp [hm]) (by exact sb (List.head_append_left hm) Q)
 refine sb lo ?_
 have hi:stripHi ("*" :Str).cps.contains true (lS (List.replicate a 42++(k++List.replicate b 42))) a=a+k.length:=by
  unfold stripHi
  rw [if_pos rfl,a3_,ao_,List.drop_left' (by simp),List.reverse_append,List.reverse_replicate,
   O b k.reverse (by simpa using hm) (by exact sb (List.head_reverse ..) K)]
  simp; exact O478
 refine sb hi ?_
 refine (?_:Str.mk _=Str.mk _)
 congr 1
 apply Array.toList_inj.mp
 refine sb Array.toList_extract ?_
 simp
theorem cC_ (esc:Nat→List Nat):∀(a b:List It) (acc:List (Option (List Nat))),trO esc (a++b) acc=trO esc b (trO esc a acc)
 | [], b, acc => rfl
 | x :: a, b, acc => by
  cases x with
  | star => exact cC_ esc a b _
  | quest => exact cC_ esc a b _
  | one c => exact cC_ esc a b _
  | brk B => exact cC_ esc a b _
theorem fH_ (esc:Nat→List Nat):∀(n:Nat) (acc:List (Option (List Nat))),trO esc (e6_ (n+1)) acc=if acc.getLast? =some none then acc else acc++ [none]
 | 0, acc => rfl
 | n + 1, acc => by
  refine (?_:trO esc (e6_ (n+1)) (if acc.getLast? =some none then acc else acc++ [none])=_)
  refine sb (fH_ esc n ..) ?_
  by_cases h:acc.getLast? =some none
  ·exact sb (if_pos h) (sb (if_pos h) rfl)
  ·exact sb (if_neg h) (sb (if_pos (by simp)) rfl)
theorem dz_ (esc:Nat→List Nat){n:Nat}(R:1≤n)(acc:List (Option (List Nat)))(h:acc.getLast? ≠some none):trO esc (e6_ n) acc=acc++ [none]:=by
 obtain ⟨m,rfl⟩:∃m,n=m+1:=⟨n - 1,by exact (Nat.sub_add_cancel R).symm⟩
 exact sb (fH_ ..) (sb (if_neg h ..) rfl)
noncomputable def trC (f:Nat→List Nat)(w:List Nat):Nat→List (Option (List Nat))
 | 0 => []
 | 1 => [some (f (w.getD 0 0))]
 | i + 2 => trC f w (i+1)++ [none,some (f (w.getD (i+1) 0))]
theorem mW_ {i:Nat}:trC f w (i+2)=trC f w (i+1)++ [none,some (f (w.getD (i+1) 0))]:=rfl
theorem ho_ (f:Nat→List Nat)(w:List Nat):∀i,(trC f w (i+1)).getLast? =some (some (f (w.getD i 0)))
 | 0 => rfl
 | i + 1 => by simp only [mW_]; simp
section
variable {g j:It}{z A:List Nat}(C:g≠ .star)(D:j≠ .star)(F:g.out escN=some z)(E:j.out escN=some A)
include C D F E
theorem le_ (c:Nat)(acc:List (Option (List Nat))):trO escN [itC g j c] acc=acc++ [some (ptC z A c)]:=by
 delta itC ptC
 split
 ·refine sb (dA_ escN C ..) (sb (F ..) ?_); rfl
 ·refine sb (dA_ escN D ..) (sb (E ..) ?_); rfl
theorem gs_ {gaps:Int}{w:List Nat}:∀(i:Nat) (acc:List (Option (List Nat))),trO escN (c8_ g j gaps w (i+1)) acc=acc++trC (ptC z A) w (i+1)
 | 0, acc => le_ C D F E _ _
 | i + 1, acc => by
  refine sb (eD_ ..) (sb (cC_ ..) (sb (cC_ ..) (sb (gs_ i ..) (sb (dz_ escN (f6_ _ _).1 _ (by rw [List.getLast?_append,ho_]; simp) ..) (sb (le_ C D F E ..) (sb (mW_ ..) ?_))))))
  simp
theorem lc_ {gaps:Int}{w:List Nat}(i:Nat):trO escN (patI g j gaps w (i+1)) []=none::(trC (ptC z A) w (i+1)++ [none]):=by
 unfold patI
 refine sb (cC_ ..) (sb (cC_ ..) (sb (dz_ escN (f6_ gaps 0).1 [] (by simp) ..) (sb (gs_ C D F E ..) (sb (dz_ escN (f6_ _ _).1 _ (by rw [List.getLast?_append,ho_]; simp) ..) ?_))))
 rfl
end
theorem ja_:("(?s:" :Str)=lS [40,63,115,58]:=by decide
theorem lr_:(")\\Z" :Str)=lS [41,92,90]:=by decide
theorem mf_:(".*" :Str)=lS [46,42]:=by decide
theorem jb_:(".*)\\Z" :Str)=lS [46,42,41,92,90]:=by decide
theorem lt_:("(?>.*?" :Str)=lS [40,63,62,46,42,63]:=by decide
theorem nf_:(")" :Str)=lS [41]:=by decide
theorem ng_:(⟨#[]⟩:Str)=lS []:=rfl
theorem ls_:("" :Str)=lS []:=by decide
noncomputable def cu_ (f:Nat→List Nat)(c:Nat):Str:=("(?>.*?" ++lS (f c))++ ")"
theorem jl_ (f:Nat→List Nat)(c:Nat):cu_ f c=lS ([40,63,62,46,42,63]++f c++ [41]):=by unfold cu_; simp only [lt_,nf_,aL_,aL_]
theorem kk_ (x:List Nat):cN_ (lS x)=lS ([40,63,62,46,42,63]++(x++([41]++ []))):=by unfold cN_; simp only [lt_,nf_,ng_,aL_,aL_,aL_]
theorem hD_ (x:List Nat):Txt.join "" [lS x]=lS x:=by simp only [ls_,show [lS x]= [x].map lS from rfl,fk_]; rfl
theorem do_ (o:List (List Nat)):Txt.join "" (o.map lS)=lS o.flatten:=by exact sb (ls_ ..) (sb (fk_ ..) (sb (f4_ ..) rfl))
theorem jf_ (o:List (List Nat)):jOut (o.map lS)=lS ([40,63,115,58]++(o.flatten++([41,92,90]++ []))):=by unfold jOut; simp only [do_,ja_,lr_,ng_,aL_,aL_,aL_]
noncomputable def gT_ (f:Nat→List Nat)(w:List Nat):Str:=("(?s:" ++Txt.join "" (w.map (cu_ f)))++ ".*)\\Z"
noncomputable def ha_ (f:Nat→List Nat)(w:List Nat):Str:=("(?s:" ++(((lS (f (w.headD 0))++Txt.join "" (lsl (w.map (cu_ f)) (some 1) (some (-1)) none))++ ".*")++lS (f (w.getLastD 0))))++ ")\\Z"
theorem ml_ (f:Nat→List Nat)(w:List Nat):gT_ f w=lS ([40,63,115,58]++(w.map fun c=> [40,63,62,46,42,63]++f c++ [41]).flatten++ [46,42,41,92,90]):=by
 unfold gT_
 have e:w.map (cu_ f)=(w.map fun c=> [40,63,62,46,42,63]++f c++ [41]).map lS:=by exact sb List.map_map (List.map_congr_left fun c _=>jl_ f c)
 simp only [e,do_,ja_,jb_,aL_,aL_]
theorem wz {J:Type}{P:List J→Prop}(n:P [])(c:∀a r,P (a::r)):∀l,P l:=fun l=>l.casesOn n c
theorem w16 {P:List Nat→Prop}(p1:∀a,P [a])(p2:∀a b,P [a,b])(p3:∀a b c,P [a,b,c])(p4:∀a b c d,P [a,b,c,d])(p5:∀a b c d e,P [a,b,c,d,e])(p6:∀a b c d e i,P [a,b,c,d,e,i])(w:List Nat)(K:1≤w.length)(v:w.length≤6):P w:=
 wz (P:=fun w=>1≤w.length→w.length≤6→P w) (fun h=>absurd h (Nat.not_succ_le_zero 0)) (fun a=>wz (fun _ _=>p1 a) fun b=>wz (fun _ _=>p2 a b) fun c=>wz (fun _ _=>p3 a b c) fun d=>wz (fun _ _=>p4 a b c d) fun e=>wz (fun _ _=>p5 a b c d e) fun i=>wz (fun _ _=>p6 a b c d e i) fun _ l _ h=>absurd h (Nat.not_le_of_lt (Nat.le_add_left 7 l.length))) w K v
theorem w26 {P:List Nat→Prop}(p2:∀a b,P [a,b])(p3:∀a b c,P [a,b,c])(p4:∀a b c d,P [a,b,c,d])(p5:∀a b c d e,P [a,b,c,d,e])(p6:∀a b c d e i,P [a,b,c,d,e,i])(w:List Nat)(y:2≤w.length)(v:w.length≤6):P w:=
 w16 (P:=fun w=>2≤w.length→P w) (fun _ h=>absurd h (Nat.not_succ_le_self 1)) (fun a b _=>p2 a b) (fun a b c _=>p3 a b c) (fun a b c d _=>p4 a b c d) (fun a b c d e _=>p5 a b c d e) (fun a b c d e i _=>p6 a b c d e i) w (Nat.le_of_succ_le y) v y
noncomputable def pcN (x:List Nat):List Nat:= [40,63,62,46,42,63]++(x++([41]++ []))
noncomputable def pcS (x:List Nat):Str:=cN_ (Txt.join "" [lS x])
theorem m1_ (x:List Nat):pcS x=lS (pcN x):=by unfold pcS; refine sb (hD_ ..) (sb (kk_ ..) ?_); rfl
theorem m2_ (x:List Nat):pcN x= [40,63,62,46,42,63]++x++ [41]:=by unfold pcN; exact sb (List.append_nil ..) (sb (List.append_assoc ..) rfl)
theorem ll_ (f:Nat→List Nat)(w:List Nat):(w.map fun c=>pcS (f c))=(w.map fun c=>pcN (f c)).map lS:=by exact sb List.map_map (List.map_congr_left fun c _=>m1_ _)
theorem mm_ (f:Nat→List Nat):∀w:List Nat,2≤w.length→w.length≤6→ew_ (((none::(trC f w w.length++ [none])).map (Option.map lS)).length+1) (bV_ ((none::(trC f w w.length++ [none])).map (Option.map lS))) (bf_ ((none::(trC f w w.length++ [none])).map (Option.map lS)))=some ((w.map fun c=>pcS (f c))++ [(".*" :Str)]):=
 w26 (fun a b=>rfl) (fun a b c=>rfl) (fun a b c d=>rfl) (fun a b c d e=>rfl) (fun a b c d e i=>rfl)
theorem mk_ (f:Nat→List Nat)(w:List Nat)(y:2≤w.length)(v:w.length≤6):
  ∃o:List (List Nat),ew_ (((none::(trC f w w.length++ [none])).map (Option.map lS)).length+1) (bV_ ((none::(trC f w w.length++ [none])).map (Option.map lS))) (bf_ ((none::(trC f w w.length++ [none])).map (Option.map lS)))=some (o.map lS)∧jOut (o.map lS)=gT_ f w:=by
 refine I1_2 ((w.map fun c=>pcN (f c))++ [[46,42]]) ?_ ?_
 ·refine sb (mm_ f w y v ..) (sb (List.map_append ..) (sb (ll_ ..) (sb (mf_ ..) ?_))); rfl
 ·refine sb (jf_ ..) (sb (ml_ ..) (sb (List.flatten_append ..) ?_))
  simp only [List.append_assoc]; rfl
theorem bo_ {J:Type}{x:List J}{n:Nat}{l u s:Option Int}{idx:List Nat}(h:x.length=n)(hi:sliceRange (sliceBounds l u s n).1 (sliceBounds l u s n).2.1 (sliceBounds l u s n).2.2=idx):lsl x l u s=idx.filterMap (x[·]?):=by
 unfold lsl
 exact sb h (sb hi rfl)
theorem mA_ (f:Nat→List Nat)(w:List Nat):ha_ f w=lS ([40,63,115,58]++(f (w.headD 0)++((lsl w (some 1) (some (-1)) none).map fun c=> [40,63,62,46,42,63]++f c++ [41]).flatten++ [46,42]++f (w.getLastD 0))++ [41,92,90]):=by
 unfold ha_
 have e:lsl (w.map (cu_ f)) (some 1) (some (-1)) none=((lsl w (some 1) (some (-1)) none).map fun c=> [40,63,62,46,42,63]++f c++ [41]).map lS:=by exact sb (iW_ ..) (sb (List.map_map ..) (List.map_congr_left fun c _=>jl_ f c))
 simp only [e,do_,ja_,mf_,lr_,aL_,aL_,aL_,aL_,aL_]
theorem mB_ (f:Nat→List Nat):∀w:List Nat,2≤w.length→w.length≤6→ew_ (((trC f w w.length).map (Option.map lS)).length+1) (bV_ ((trC f w w.length).map (Option.map lS))) (bf_ ((trC f w w.length).map (Option.map lS)))=some (lS (f (w.headD 0))::((((w.drop 1).dropLast.map fun c=>pcS (f c))++ [(".*" :Str)])++ [Txt.join "" [lS (f (w.getLastD 0))]])):=
 w26 (fun a b=>rfl) (fun a b c=>rfl) (fun a b c d=>rfl) (fun a b c d e=>rfl) (fun a b c d e i=>rfl)
theorem mb_:∀w:List Nat,2≤w.length→w.length≤6→lsl w (some 1) (some (-1)) none=(w.drop 1).dropLast:=
 w26 (fun a b=>(bo_ (n:=2) (idx:= []) rfl (by decide+kernel)).trans rfl) (fun a b c=>(bo_ (n:=3) (idx:= [1]) rfl (by decide+kernel)).trans rfl) (fun a b c d=>(bo_ (n:=4) (idx:= [1,2]) rfl (by decide+kernel)).trans rfl) (fun a b c d e=>(bo_ (n:=5) (idx:= [1,2,3]) rfl (by decide+kernel)).trans rfl) (fun a b c d e i=>(bo_ (n:=6) (idx:= [1,2,3,4]) rfl (by decide+kernel)).trans rfl)
theorem mz_ (f:Nat→List Nat)(w:List Nat)(y:2≤w.length)(v:w.length≤6):
  ∃o:List (List Nat),ew_ (((trC f w w.length).map (Option.map lS)).length+1) (bV_ ((trC f w w.length).map (Option.map lS))) (bf_ ((trC f w w.length).map (Option.map lS)))=some (o.map lS)∧jOut (o.map lS)=ha_ f w:=by
 refine I1_2 (f (w.headD 0)::((((w.drop 1).dropLast.map fun c=>pcN (f c))++ [[46,42]])++ [f (w.getLastD 0)])) ?_ ?_
 ·refine sb (mB_ f w y v ..) (sb (List.map_cons ..) (sb (List.map_append ..) (sb (List.map_append ..) (sb (ll_ ..) (sb (mf_ ..) (sb (hD_ ..) ?_)))))); rfl
 ·refine sb (jf_ ..) (sb (mA_ ..) (sb (mb_ w y v ..) (sb (List.flatten_cons ..) (sb (List.flatten_append ..) (sb (List.flatten_append ..) ?_)))))
  simp only [m2_]
  simp only [List.append_assoc,List.flatten_singleton,List.append_nil]
theorem lA_ (f:Nat→List Nat)(w:List Nat)(st:Addr)(y:1≤w.length)(v:w.length≤6):
  lsl ((none::(trC f w w.length++ [none])).map (tkL st)) (some 1) none (some 2)=txts (w.map fun c=>lS (f c))∧lsl ((none::(trC f w w.length++ [none])).map (tkL st)) none none (some 2)=List.replicate (w.length+1) (.ref st):=by
 exact w16 (P:=fun w=>lsl ((none::(trC f w w.length++ [none])).map (tkL st)) (some 1) none (some 2)=txts (w.map fun c=>lS (f c))∧lsl ((none::(trC f w w.length++ [none])).map (tkL st)) none none (some 2)=List.replicate (w.length+1) (.ref st)) (fun a=>⟨(bo_ (n:=3) (idx:= [1]) rfl (by decide+kernel)).trans rfl,(bo_ (n:=3) (idx:= [0,2]) rfl (by decide+kernel)).trans rfl⟩) (fun a b=>⟨(bo_ (n:=5) (idx:= [1,3]) rfl (by decide+kernel)).trans rfl,(bo_ (n:=5) (idx:= [0,2,4]) rfl (by decide+kernel)).trans rfl⟩) (fun a b c=>⟨(bo_ (n:=7) (idx:= [1,3,5]) rfl (by decide+kernel)).trans rfl,(bo_ (n:=7) (idx:= [0,2,4,6]) rfl (by decide+kernel)).trans rfl⟩) (fun a b c d=>⟨(bo_ (n:=9) (idx:= [1,3,5,7]) rfl (by decide+kernel)).trans rfl,(bo_ (n:=9) (idx:= [0,2,4,6,8]) rfl (by decide+kernel)).trans rfl⟩) (fun a b c d e=>⟨(bo_ (n:=11) (idx:= [1,3,5,7,9]) rfl (by decide+kernel)).trans rfl,(bo_ (n:=11) (idx:= [0,2,4,6,8,10]) rfl (by decide+kernel)).trans rfl⟩) (fun a b c d e i=>⟨(bo_ (n:=13) (idx:= [1,3,5,7,9,11]) rfl (by decide+kernel)).trans rfl,(bo_ (n:=13) (idx:= [0,2,4,6,8,10,12]) rfl (by decide+kernel)).trans rfl⟩) w y v
section
variable {g:GC}{k:Nat}
theorem hS_ (G:g.Good){f:Addr}{pm cd doc:Value}(F:FnAt g f 11 pm cd doc){m:Int}:aC_ g (k+1) f [.int m] (.int (Builtin.bitAnd m 61440)):=by
 refine aP_ G F ["mode"] rfl (fun vs b=> ?_) (by decide) (fun m x hx=> ?_) (by decide) (fun A s₀ c Xo L M E a hp S=> ?_)
 ·exact v1 (P:=fun vs=>bindArgs _ ⟨vs,[]⟩=pure (List.zip _ vs)) (fun v=>rfl) vs b
 ·rcases List.mem_cons.mp hx with rfl | hx
  ·exact .inl rfl
  ·cases hx
 ·conv=>arg 4; whnf
  refine aO_ S a (ae_ (aa_ mQ) (ad_ G) (ln_ G)) (fun v s' e r=>e.out r)
end
noncomputable abbrev bcP (p:Int×Str):PV:= .tup [.int p.1, .str p.2]
noncomputable abbrev tbP (t:List (Int×Str)):PV:= .tup (t.map bcP)
noncomputable abbrev ftP (T:List (List (Int×Str))):PV:= .tup (T.map tbP)
noncomputable def fmOk (m:Int)(i:Nat)(p:Int×Str):Bool:=if ((i:Int)==0)=true then (Builtin.bitAnd m 61440==p.1) else (Builtin.bitAnd m p.1==p.1)
noncomputable def aM_ (m:Int)(i:Nat):List (Int×Str)→Str
 | [] => if ((i:Int)==0)=true then "?" else "-"
 | p :: r => if fmOk m i p=true then p.2 else aM_ m i r
theorem fm_:aM_ m i []=if ((i:Int)==0)=true then ("?" :Str) else "-" :=rfl
theorem ed_:aM_ m i (p::r)=if fmOk m i p=true then p.2 else aM_ m i r:=rfl
noncomputable def co_ (m:Int):Nat→List (List (Int×Str))→List Str
 | _, [] => []
 | i, t :: r => aM_ m i t::co_ m (i+1) r
noncomputable def cn_ (m:Int)(T:List (List (Int×Str))):Str:=Txt.join "" (co_ m 0 T)
theorem ey_ (m:Int):∀(T:List (List (Int×Str))) (i j:Nat) (t:List (Int×Str)),T[i]? =some t→co_ m j (T.take (i+1))=co_ m j (T.take i)++ [aM_ m (j+i) t]
 | [], i, j, t, h => by contradiction
 | u :: T, 0, j, t, h => by simp at h; subst h; rfl
 | u :: T, i + 1, j, t, h => by
  have h':T[i]? =some t:=by simpa using h
  have ih:=ey_ m T i (j+1) t h'
  refine (?_:aM_ m j u::co_ m (j+1) (T.take (i+1))=aM_ m j u::(co_ m (j+1) (T.take i)++_)); refine sb ih ?_
  have:j+1+i=j+(i+1):=by exact O127
  exact sb this rfl
section
variable {g:GC}{k:Nat}
theorem fo_ (G:g.Good)(N:GN g){f fS:Addr}{pm cd doc a1 a7 am v:Value}(F:FnAt g f 32 pm cd doc)(FS:FnAt g fS 11 a1 a7 am)(hS:g.mg "S_IFMT" =some (.ref fS)){T:List (List (Int×Str))}(hm:g.mg "_filemode_table" =some v)
  (hT:Rd g (fun a=>a=g.Pt) g.hG (ftP T) v) (ay:T.length≤100) (an:∀t∈T,∀p∈t,p.2.length≤1) {m:Int}:aC_ g (k+2) f [.int m] (.str (cn_ m T)):=by
 have D:∀(i:Nat) (t:List (Int×Str)),(∀p∈t,p.2.length≤1)→(aM_ m i t).length≤1:=by
  intro i t
  induction t with
  | nil => intro _; simp only [fm_]; split <;>decide
  | cons p r ih => intro h; simp only [ed_]; split; exact h p mQ; exact ih fun q hq=>h q (tQ hq)
 have n:∀(T:List (List (Int×Str))) (i:Nat),(∀t∈T,∀p∈t,p.2.length≤1)→(co_ m i T).length=T.length∧∀y∈co_ m i T,y.length≤1:=by
  intro T
  induction T with
  | nil => intro i _; exact ⟨rfl,fun y h=>nomatch h⟩
  | cons t r ih=>
   intro i h
   obtain ⟨h1,h2⟩:=ih (i+1) fun u hu=>h u (tQ hu)
   refine ⟨congrArg Nat.succ h1,fun y hy=> ?_⟩
   rcases List.mem_cons.mp hy with rfl | hy
   ·exact D i t (h t mQ)
   ·exact h2 y hy
 refine aP_ G F ["mode"] rfl (fun vs a5=> ?_) (by decide) (fun m x hx=> ?_) (by decide) (fun A s₀ aG Xo L M E a hp S=> ?_)
 ·exact v1 (P:=fun vs=>bindArgs _ ⟨vs,[]⟩=pure (List.zip _ vs)) (fun v=>rfl) vs a5
 ·rcases List.mem_cons.mp hx with rfl | hx
  ·exact .inl rfl
  ·exact (nomatch hx)
 ·conv=>arg 4; whnf
  refine bA_ (pvs:=txts []) G S a ag_ kL (fun b aD hb ar=> ?_) (by decide)
  refine lF_ G N.enumerate (l:=T.map tbP) (P:=fun i σ ω=>ω= [(b, .lst (txts (co_ m 0 (T.take i))))]∧(∀p∈[(("mode" :Str),PV.int m),("perm",PV.ref b)],p∈σ)) (B:=fun _ _=>False) (o:=bP_) ar a hp (kO_ G hm hT) ⟨rfl,sq⟩ kL kL rfl rfl
   (fun i pv σ' ω' ag ac M' s' E' hi hP hp' O=> ?_) (fun σ' ω' s' E' hP O=> ?_) (fun _ _ _ h=>h.elim) (fun v σ' s' O r=>(aK_ r).elim)
  ·refine gn fun P0 J=> ?_
   obtain ⟨rfl,U⟩:=hP
   obtain ⟨t,ht,rfl⟩:∃t,T[i]? =some t∧pv=tbP t:=by
    rw [List.getElem?_map] at hi
    cases e:T[i]? with
    | none => rw [e] at hi; cases hi
    | some t => rw [e] at hi; cases hi; exact I1_2 t rfl rfl
   have ax:=ey_ m T i 0 t ht
   rw [Nat.zero_add] at ax
   have R:(co_ m 0 (T.take i)).length≤100:=by exact sb ((n (T.take i) 0 fun t ht=>an t (List.mem_of_mem_take ht)).1) (sb List.length_take (O128 ay))
   have a6:b∈M':=by rcases O.oM b _ mQ with h | h; exact h; exact (nomatch h)
   refine J ?_
   generalize co_ m 0 (T.take i)=acc at*
   have ao:LS g ag (cenv 32 pm cd doc L f) ac M' [] [("mode", .int m),("perm", .ref b),("index", .int i),("table",tbP t)] [(b, .lst (txts acc))] s':=O.as _ (aW_ (au_ (au_ (U _ mQ) (by decide)) (by decide)) (aW_ (au_ (au_ (U _ ix1) (by decide)) (by decide)) (aW_ (au_ ab_ (by decide)) sq)))
   have ad:∀{I:List (Str×PV)} {af:Shared},LS g ag (cenv 32 pm cd doc L f) ac M' [] I [(b, .lst (txts (acc++ [aM_ m i t])))] af→(∀p∈[(("mode" :Str),PV.int m),("perm",PV.ref b)],p∈I)→
     eR_ g ag (cenv 32 pm cd doc L f) ac M' (fun σ ω=>ω= [(b, .lst (txts (co_ m 0 (T.take (i+1)))))]∧(∀p∈[(("mode" :Str),PV.int m),("perm",PV.ref b)],p∈σ)) (fun _ _=>False) bP_ .next af:=fun {I af} ap a4=>by
    rw [← ax] at ap
    refine I3_3 [] _ _ ⟨rfl,a4⟩ ap (fun d oc hd=> ?_)
    rcases List.mem_cons.mp hd with hd | hd
    ·cases hd; exact a6
    ·exact (nomatch hd)
   refine wpQ fun Q hQ=> ?_
   refine da_ G (P:=fun j σ ω=>ω= [(b, .lst (txts acc))]∧aM_ m i t=aM_ m i (t.drop j)∧(∀p∈[(("mode" :Str),PV.int m),("perm",PV.ref b),("index", .int i)],p∈σ)) (B:=fun σ ω=>ω= [(b, .lst (txts (acc++ [aM_ m i t])))]∧(∀p∈[(("mode" :Str),PV.int m),("perm",PV.ref b)],p∈σ)) (o:=bP_) ao a hp' (aa_ ix3) (fun X=>gQ_ G) ⟨rfl,rfl,sq⟩
    (fun j pv au aw Z Y M2 s2 E2 v hj hP aO S2 hr=> ?_) (fun au aw s2 E2 hP S2=> ?_) (fun au aw s2 hB S2=> ?_) (fun v σ' s' O r=>(aK_ r).elim)
   ·refine gn fun P0 J=> ?_
    obtain ⟨rfl,c,w⟩:=hP
    obtain ⟨p,hp,rfl⟩:∃p,t[j]? =some p∧pv=bcP p:=by
     rw [List.getElem?_map] at hj
     cases e:t[j]? with
     | none => rw [e] at hj; cases hj
     | some p => rw [e] at hj; cases hj; exact I1_2 p rfl rfl
    have ah:t.drop j=p::t.drop (j+1):=by
     obtain ⟨aC,e⟩:=List.getElem?_eq_some_iff.mp hp
     exact sy e (List.drop_eq_getElem_cons aC)
    rw [ah,ed_] at c
    have aa:b∈M2:=by rcases S2.oM b _ mQ with h | h; exact h; exact (nomatch h)
    have S3:=S2.as _ w
    refine J ?_
    refine fD_ G kL kL (by decide) (by decide) a S3 hr fun s4 S4=> ?_
    have brk:∀{K:Shared},LS g Z (cenv 32 pm cd doc L f) Y M2 [] (upd "char" (.str p.2) (upd "bit" (.int p.1) [("mode", .int m),("perm", .ref b),("index", .int i)])) [(b, .lst (txts (acc++ [p.2])))] K→fmOk m i p=true→
      eR_ g Z (cenv 32 pm cd doc L f) Y M2 (fun σ ω=>ω= [(b, .lst (txts acc))]∧aM_ m i t=aM_ m i (t.drop (j+1))∧(∀p∈[(("mode" :Str),PV.int m),("perm",PV.ref b),("index", .int i)],p∈σ)) (fun σ ω=>ω= [(b, .lst (txts (acc++ [aM_ m i t])))]∧(∀p∈[(("mode" :Str),PV.int m),("perm",PV.ref b)],p∈σ)) bP_ .brk K:=fun {K} H ae=>by
     rw [if_pos ae] at c
     rw [← c] at H
     refine I3_3 [] _ _ ⟨rfl,sq⟩ H (fun d oc hd=> ?_)
     rcases List.mem_cons.mp hd with hd | hd
     ·cases hd; exact aa
     ·exact (nomatch hd)
    have al:∀{K:Shared},LS g Z (cenv 32 pm cd doc L f) Y M2 [] (upd "char" (.str p.2) (upd "bit" (.int p.1) [("mode", .int m),("perm", .ref b),("index", .int i)])) [(b, .lst (txts acc))] K→fmOk m i p=false→
      eR_ g Z (cenv 32 pm cd doc L f) Y M2 (fun σ ω=>ω= [(b, .lst (txts acc))]∧aM_ m i t=aM_ m i (t.drop (j+1))∧(∀p∈[(("mode" :Str),PV.int m),("perm",PV.ref b),("index", .int i)],p∈σ)) (fun σ ω=>ω= [(b, .lst (txts (acc++ [aM_ m i t])))]∧(∀p∈[(("mode" :Str),PV.int m),("perm",PV.ref b)],p∈σ)) bP_ .next K:=fun {K} H ae=>by
     rw [if_neg (by refine sb ae ?_; simp)] at c
     refine I3_3 [] _ _ ⟨rfl,c,sq⟩ H (fun d oc hd=> ?_)
     rcases List.mem_cons.mp hd with hd | hd
     ·cases hd; exact aa
     ·exact (nomatch hd)
    refine wpQ fun Q V=> ?_
    refine aX_ (b:=((i:Int)==0)) S4 a (ai_ (aa_ (uQ (uQ ix2))) (ad_ G) ca_) (fun s K H=> ?_) (fun s K H=> ?_)
    ·refine aX_ (b:=(Builtin.bitAnd m 61440==p.1)) H a (ai_ (az_ (bI_ G hS) FS.isFn (ac_ (aa_ (uQ (uQ mQ))) ag_) (hS_ G FS)) (aa_ (uQ ab_)) ca_) (fun C s6 S6=> ?_) (fun C s6 S6=> ?_)
     ·refine bM_ (p:= .str p.2) G S6 a (uQ (uQ ix1)) mQ (aa_ ab_) (by refine sb (List.length_map ..) ?_; simp only [sizeLine]; exact O129 R) (fun s7 z=> ?_) (hc:=⟨_,c7_ (fun _=>rfl) (by rfl) (by rfl)⟩)
      rw [bK_,bd_] at z
      exact d9_ (V _ _ (brk z (by unfold fmOk; exact sb (if_pos s) C)))
     ·exact af_ (af_ (af_ (V _ _ (al S6 (by unfold fmOk; exact sb (if_pos s) C)))))
    ·refine aX_ (b:=(Builtin.bitAnd m p.1==p.1)) H a (ai_ (ae_ (aa_ (uQ (uQ mQ))) (aa_ (uQ ab_)) (ln_ G)) (aa_ (uQ ab_)) ca_) (fun C s6 S6=> ?_) (fun C s6 S6=> ?_)
     ·refine bM_ (p:= .str p.2) G S6 a (uQ (uQ ix1)) mQ (aa_ ab_) (by refine sb (List.length_map ..) ?_; simp only [sizeLine]; exact O129 R) (fun s7 z=> ?_) (hc:=⟨_,c7_ (fun _=>rfl) (by rfl) (by rfl)⟩)
      rw [bK_,bd_] at z
      exact d9_ (V _ _ (brk z (by unfold fmOk; refine sb (if_neg (by refine sb s ?_; simp)) ?_; exact C)))
     ·exact af_ (af_ (af_ (V _ _ (al S6 (by unfold fmOk; refine sb (if_neg (by refine sb s ?_; simp)) ?_; exact C)))))
   ·obtain ⟨rfl,c,w⟩:=hP
    rw [List.length_map,List.drop_length,fm_] at c
    have S3:=S2.as _ w
    refine aX_ (b:=((i:Int)==0)) S3 a (ai_ (aa_ ix2) (ad_ G) ca_) (fun s K H=> ?_) (fun s K H=> ?_)
    ·refine bM_ (p:= .str "?") G H a ix1 mQ (ah_ G) (by refine sb (List.length_map ..) ?_; simp only [sizeLine]; exact O129 R) (fun s7 z=> ?_) (hc:=⟨_,c7_ (fun _=>rfl) (by rfl) (by rfl)⟩)
     rw [bK_,bd_] at z
     rw [if_pos s] at c
     replace z:=Eq.symm c▸z
     exact af_ (af_ (af_ (hQ _ _ (ad z sq))))
    ·refine bM_ (p:= .str "-") G H a ix1 mQ (ah_ G) (by refine sb (List.length_map ..) ?_; simp only [sizeLine]; exact O129 R) (fun s7 z=> ?_) (hc:=⟨_,c7_ (fun _=>rfl) (by rfl) (by rfl)⟩)
     rw [bK_,bd_] at z
     rw [if_neg (by refine sb s ?_; simp)] at c
     replace z:=Eq.symm c▸z
     exact af_ (af_ (af_ (hQ _ _ (ad z sq))))
   ·obtain ⟨rfl,w⟩:=hB
    exact af_ (hQ _ _ (ad S2 w))
  ·obtain ⟨rfl,U⟩:=hP
   rw [List.length_map,List.take_length] at O
   obtain ⟨h1,h2⟩:=n T 0 an
   refine af_ ?_
   exact aO_ (pv:= .str (cn_ m T)) O a (dJ_ (oc:= .lst (txts (co_ m 0 T))) mQ (bs_ (U _ ix1) mQ bt_) trivial (ce_ (ah_ G) (bi_ PySem.F.slot_str_join PySem.F.type_str_join) (ac_ (aa_ mQ) ag_) (b5_ G (bH_ 1 100 h2 (by exact le_of_eq_of_le h1 ay) (by decide))))) (fun v s' O r=>O.out r)
end
noncomputable def rT (m:Int):Int:=Int.fmod (Int.fmod (Int.fdiv m (10 ^ (4:Int).toNat)) 100) 16
noncomputable def rN (m j:Int):Int:=Int.fmod (Int.fmod (Int.fdiv m (10 ^ j.toNat)) 10) 8
noncomputable def rA (m j:Int):Int:=Int.fmod (Int.fdiv (Int.fmod (Int.fdiv m 1000) 10) (2 ^ j.toNat)) 2
noncomputable def rSM (m j c:Int):Int:=c+(rN m j*8 ^ j.toNat+rA m j*2 ^ (9+j).toNat)
noncomputable def rST (m j:Int)(text:Str):Str:=text++((six "-r" (Int.fdiv (rN m j) 4)++six "-w" (Int.fmod (Int.fdiv (rN m j) 2) 2))++six (bif decide ((0:Int) < j) then "-xSs" else "-xTt") (Int.fmod (rN m j) 2+2*rA m j))
noncomputable def rM0 (m:Int):Int:=rT m*4096+Int.fmod (Int.fdiv m (10 ^ (6:Int).toNat)) 10*65536
noncomputable def rT0 (m:Int):Str:=six "?pc?d?b?-?l?s???" (Int.fdiv (rT m*4096) 4096)
noncomputable def cH_ (m:Int):Int:=rSM m 0 (rSM m 1 (rSM m 2 (rM0 m)))
noncomputable def cA_ (m:Int):Str:=rST m 0 (rST m 1 (rST m 2 (rT0 m)))
noncomputable def fS_ (m:Int):Nat→Int | 0=>rM0 m | 1=>rSM m 2 (rM0 m) | 2=>rSM m 1 (rSM m 2 (rM0 m)) | _=>cH_ m
noncomputable def eo_ (m:Int):Nat→Str | 0=>rT0 m | 1=>rST m 2 (rT0 m) | 2=>rST m 1 (rST m 2 (rT0 m)) | _=>cA_ m
theorem l1_ (m j:Int)(t:Str):(rST m j t).length=t.length+3:=by unfold rST; simp only [ak_,dd_]
theorem hV_ (m:Int)(i:Nat):(eo_ m i).length≤10:=by
 unfold eo_
 split <;>simp only [cA_,l1_,rT0,dd_] <;>(first | exact Nat.le_of_ble_eq_true rfl | exact of_eq_true (eq_true_of_decide (Eq.refl true)) | exact of_eq_true (eq_true_of_decide (Eq.refl true)) | exact of_eq_true (Std.le_refl._simp_1 10))
theorem kc_ (m:Int){i:Nat}{pv:PV}(h:([.int 2, .int 1, .int 0]:List PV)[i]? =some pv):∃j:Int,pv= .int j∧(j=2∨j=1∨j=0)∧fS_ m (i+1)=rSM m j (fS_ m i)∧eo_ m (i+1)=rST m j (eo_ m i):=by
 match i,h with
 | 0, h => cases h; exact I1_4 2 rfl (.inl rfl) rfl rfl
 | 1, h => cases h; exact I1_4 1 rfl (.inr (.inl rfl)) rfl rfl
 | 2, h => cases h; exact I1_4 0 rfl (.inr (.inr rfl)) rfl rfl
 | i + 3, h => contradiction
noncomputable abbrev rowS (m c:Int) (text:Str):List (Str×PV):= [("number", .int m),("mode", .int c),("text", .str text)]
section
variable {g:GC}{k:Nat}
theorem kd_ (G:g.Good){f:Addr}{pm cd doc:Value}(F:FnAt g f 36 pm cd doc){m:Int}:aC_ g (k+1) f [.int m] (.tup [.int (cH_ m), .str (cA_ m)]):=by
 refine aP_ G F ["number"] rfl (fun vs U=> ?_) (by decide) (fun m x hx=> ?_) (by decide) (fun A s₀ R Xo L M E a hp S=> ?_)
 ·exact v1 (P:=fun vs=>bindArgs _ ⟨vs,[]⟩=pure (List.zip _ vs)) (fun v=>rfl) vs U
 ·rcases List.mem_cons.mp hx with rfl | hx
  ·exact .inl rfl
  ·exact (nomatch hx)
 ·conv=>arg 4; whnf
  have Z:=aF_ (Int.fmod (Int.fdiv m (10 ^ (4:Int).toNat)) 100) (b:=16) (by decide)
  refine al_ (pv:= .int (rT m*4096)) G S a (ae_ (ae_ (ae_ (ae_ (aa_ mQ) (ae_ (ad_ G) (ad_ G) (dU_ G (by decide) (by decide+kernel))) (cc_ G (by decide) (PyProof.noPylong_small (by decide)))) (ad_ G) (bj_ G (by decide))) (ad_ G) (bj_ G (by decide))) (ad_ G) (dV_ G (fh_ (by decide+kernel)))) kL (fun H q=> ?_)
  refine al_ (pv:= .str (rT0 m)) G q a (av_ G (ah_ G) (ae_ (aa_ ab_) (ad_ G) (cc_ G (by decide) (PyProof.noPylong_small (by decide)))) ?_ (by decide)) kL (fun I e=> ?_)
  ·have:Int.fdiv (rT m*4096) 4096=rT m:=Int.mul_fdiv_cancel _ (by decide)
   refine sb this ?_
   refine (?_: -((16:Nat):Int)≤_∧_ < ((16:Nat):Int))
   exact O153 Z
  refine cz_ (o:= .int (rM0 m)) G e a (au_ ab_ (by decide)) (ae_ (ae_ (ae_ (aa_ (uQ (uQ mQ))) (ae_ (ad_ G) (ad_ G) (dU_ G (by decide) (by decide+kernel))) (cc_ G (by decide) (PyProof.noPylong_small (by decide)))) (ad_ G) (bj_ G (by decide))) (ad_ G) (dV_ G (fh_ (by decide+kernel)))) (cj_ G) kL (fun D y=> ?_)
  have u:=y.as (rowS m (fS_ m 0) (eo_ m 0)) sq
  refine da_ G (P:=fun i σ ω=>ω= []∧σ=rowS m (fS_ m i) (eo_ m i)) (B:=fun _ _=>False) (o:=bP_) u a hp (p:= .tup [.int 2, .int 1, .int 0]) (cd_ G (ac_ (ad_ G) (ac_ (ad_ G) (ac_ (ad_ G) ag_))) (by show (3:Nat)≤sizeLine; decide)) (fun X=>gQ_ G) ⟨rfl,rfl⟩
   (fun i pv σ' ω' Z ab M' s' E' v hi T hp' C hr=> ?_) (fun σ' ω' s' E' T C=> ?_) (fun _ _ _ h=>h.elim) (fun v σ' s' C r=> ?_)
  ·(refine X0_2 T fun q1 q2=> ?_; subst q1; subst q2)
   (refine X1_4 (kc_ m hi) fun j q3 n e1 e2=> ?_; subst q3)
   have z:0≤j∧j≤2:=by exact O154 n
   refine b0_ G kL (by decide) a C hr fun R J=> ?_
   refine wpQ fun Q hQ=> ?_
   refine al_ (pv:= .int (rN m j)) G J a (ae_ (ae_ (ae_ (aa_ (uQ mQ)) (ae_ (ad_ G) (aa_ ab_) (dU_ G z.1 (by rcases n with rfl | rfl | rfl <;>decide+kernel))) (cc_ G (by rcases n with rfl | rfl | rfl <;>decide) (PyProof.noPylong_small (by rcases n with rfl | rfl | rfl <;>decide)))) (ad_ G) (bj_ G (by decide))) (ad_ G) (bj_ G (by decide))) kL (fun H q=> ?_)
   refine al_ (pv:= .int (rA m j)) G q a (ae_ (ae_ (ae_ (ae_ (aa_ (uQ (uQ mQ))) (ad_ G) (cc_ G (by decide) (PyProof.noPylong_small (by decide)))) (ad_ G) (bj_ G (by decide))) (ae_ (ad_ G) (aa_ (uQ ab_)) (dU_ G z.1 (by rcases n with rfl | rfl | rfl <;>decide+kernel))) (cc_ G (by rcases n with rfl | rfl | rfl <;>decide) (PyProof.noPylong_small (by rcases n with rfl | rfl | rfl <;>decide)))) (ad_ G) (bj_ G (by decide))) kL (fun I e=> ?_)
   refine cz_ (o:= .int (rSM m j (fS_ m i))) G e a (uQ (uQ (uQ ix1))) (ae_ (ae_ (aa_ (uQ ab_)) (ae_ (ad_ G) (aa_ (uQ (uQ ab_))) (dU_ G z.1 (by rcases n with rfl | rfl | rfl <;>decide+kernel))) (dV_ G (fh_ (by rcases n with rfl | rfl | rfl <;>decide+kernel)))) (ae_ (aa_ ab_) (ae_ (ad_ G) (ae_ (ad_ G) (aa_ (uQ (uQ ab_))) (a6_ G)) (dU_ G (by exact O155 z) (by rcases n with rfl | rfl | rfl <;>decide+kernel))) (dV_ G (fh_ (by rcases n with rfl | rfl | rfl <;>decide+kernel)))) (a6_ G)) (cj_ G) kL (fun D y=> ?_)
   have hN:=aF_ (Int.fmod (Int.fdiv m (10 ^ j.toNat)) 10) (b:=8) (by decide)
   have hA:=aF_ (Int.fdiv (Int.fmod (Int.fdiv m 1000) 10) (2 ^ j.toNat)) (b:=2) (by decide)
   have V:=aF_ (rN m j) (b:=2) (by decide)
   have K:0≤Int.fdiv (rN m j) 4∧Int.fdiv (rN m j) 4 < 2:=by refine sb (Int.fdiv_eq_ediv_of_nonneg _ (by decide)) ?_; unfold rN; exact O156 hN
   have N:=aF_ (Int.fdiv (rN m j) 2) (b:=2) (by decide)
   have O:=hV_ m i
   refine cz_ (o:= .str (rST m j (eo_ m i))) G y a (uQ (uQ (uQ (uQ ix2)))) (ae_ (ae_ (av_ G (ah_ G) (ae_ (aa_ (uQ (uQ ab_))) (ad_ G) (cc_ G (by decide) (PyProof.noPylong_small (by decide)))) (And.intro (by refine (?_: -((2:Nat):Int)≤_); exact O157 K) (by refine (?_:_ < ((2:Nat):Int)); exact O158 K)) (by decide)) (av_ G (ah_ G) (ae_ (ae_ (aa_ (uQ (uQ ab_))) (ad_ G) (cc_ G (by decide) (PyProof.noPylong_small (by decide)))) (ad_ G) (bj_ G (by decide))) (And.intro (by refine (?_: -((2:Nat):Int)≤_); exact O157 N) (by refine (?_:_ < ((2:Nat):Int)); exact O158 N)) (by decide)) (aB_ G (by simp only [dd_]; decide))) (av_ G (cp_ (ai_ (aa_ (uQ (uQ (uQ ab_)))) (ad_ G) nu_) (fun _=>(ah_ G)) (fun _=>(ah_ G))) (ae_ (ae_ (aa_ (uQ (uQ ab_))) (ad_ G) (bj_ G (by decide))) (ae_ (ad_ G) (aa_ (uQ ab_)) (dV_ G (fi_ (by decide+kernel)))) (a6_ G)) ?_ ?_) (aB_ G ?_)) (ff_ G ?_) kL (fun Y u=> ?_)
   ·cases decide ((0:Int) < j) <;>(show -((4:Nat):Int)≤_∧_ < ((4:Nat):Int); unfold rA; exact O159 V hA)
   ·cases decide ((0:Int) < j) <;>decide
   ·simp only [ak_,dd_]; decide
   ·simp only [ak_,dd_,sizeLine]; exact O160 O
   refine af_ (hQ _ _ (I3_3 [] _ [] ⟨rfl,rfl⟩ (u.as _ sq |>fun S=>by exact sb e1 (sb e2 S)) (fun _ _ h=>nomatch h)))
  ·(refine X0_2 T fun q4 q5=> ?_; subst q4; subst q5)
   refine af_ ?_
   exact aO_ C a (cd_ G (ac_ (aa_ ix1) (ac_ (aa_ ix2) ag_)) (by refine (?_:(2:Nat)≤sizeLine); decide)) (fun v s' C r=>C.out r)
  ·exact (aK_ r).elim
end
noncomputable def fG_ (W:List Str)(c:Nat):List Str:=(W.filter fun w=> !(W.any fun y=>y==w++chS c)).map fun w=>w++chS c
noncomputable def cw_ (W:List Str)(c:Nat):List Str:=W++fG_ W c
noncomputable def bY_ (q:List Nat):List Str:=q.foldl cw_ [""]
theorem k7_ (q:List Nat):∀(W:List Str) (m:Nat),(∀w∈W,w.length≤m)→(∀w∈q.foldl cw_ W,w.length≤m+q.length)∧(q.foldl cw_ W).length≤W.length*2 ^ q.length:=by
 induction q with
 | nil => intro W m h; exact ⟨h,by simp⟩
 | cons c q ih=>
  intro W m h
  have z:∀w∈cw_ W c,w.length≤m+1:=fun w hw=>by
   rcases List.mem_append.mp hw with hw | hw
   ·have:=h w hw; exact O63 this
   ·obtain ⟨v,hv,rfl⟩:=List.mem_map.mp hw
    have:=h v (List.mem_filter.mp hv).1
    refine sb (ak_ ..) ?_
    refine (?_:v.length+1≤_)
    exact O66 this
  have h2:(cw_ W c).length≤W.length*2:=by
   have:=dX_ W (fun w=> !(W.any fun y=>y==w++chS c)) fun w=>w++chS c
   delta cw_ fG_
   refine sb List.length_append ?_
   exact O215 this
  obtain ⟨h3,h4⟩:=ih (cw_ W c) (m+1) z
  refine ⟨fun w hw=> ?_, ?_⟩
  ·have:=h3 w hw; simp only [List.length_cons]; exact O94 this
  ·simp only [List.foldl_cons,List.length_cons,Nat.pow_succ]
   refine Nat.le_trans h4 ?_
   have:=Nat.mul_le_mul_right (2 ^ q.length) h2
   simp only [Nat.mul_assoc] at this
   refine sb (Nat.mul_comm (2 ^ q.length) 2) ?_
   exact this
section
variable {g:GC}{k:Nat}
theorem hN_ (G:g.Good)(N:GN g){f:Addr}{pm cd doc:Value}(F:FnAt g f 40 pm cd doc){image:Str}(hi:image.length≤6):aC_ g (k+1) f [.str image] (.lst (txts (bY_ image.cps.toList))):=by
 refine aP_ G F ["image"] rfl (fun vs V=> ?_) (by decide) (fun m x hx=> ?_) (by decide) (fun A s₀ Q Xo L M E a hp S=> ?_)
 ·exact v1 (P:=fun vs=>bindArgs _ ⟨vs,[]⟩=pure (List.zip _ vs)) (fun v=>rfl) vs V
 ·rcases List.mem_cons.mp hx with rfl | hx
  ·exact .inl rfl
  ·exact (nomatch hx)
 ·conv=>arg 4; whnf
  refine bA_ (pvs:=txts [""]) G S a (aj_ (ah_ G) aD_) kC (fun b I hb j=> ?_) (by decide)
  refine da_ G (P:=fun i σ ω=>ω= [(b, .lst (txts (bY_ (image.cps.toList.take i))))]∧(∀p∈[(("image" :Str),PV.str image),("words",PV.ref b)],p∈σ)) (B:=fun _ _=>False) (o:=bP_) j a hp (aa_ (uQ mQ)) (cm_ G) ⟨rfl,sq⟩
   (fun i pv σ' ω' hT ae M' s' E' v l R hp' u hr=> ?_) (fun σ' ω' s' E' R u=> ?_) (fun _ _ _ h=>h.elim) (fun v σ' s' u r=>(aK_ r).elim)
  ·obtain ⟨rfl,D⟩:=R
   obtain ⟨c,hc,rfl⟩:∃c,image.cps.toList[i]? =some c∧pv=chP c:=by
    rw [List.getElem?_map] at l
    cases e:image.cps.toList[i]? with
    | none => rw [e] at l; cases l
    | some c => rw [e] at l; cases l; exact I1_2 c rfl rfl
   have Z:i < image.cps.toList.length:=(List.getElem?_eq_some_iff.mp hc).1
   have O:i < 6:=by have:image.cps.toList.length=image.length:=rfl; exact Nat.lt_of_lt_of_le Z (le_of_eq_of_le this hi)
   have H:image.cps.toList.take (i+1)=image.cps.toList.take i++ [c]:=by
    refine sb List.take_add_one (sb hc ?_); rfl
   have hW:bY_ (image.cps.toList.take (i+1))=bY_ (image.cps.toList.take i)++fG_ (bY_ (image.cps.toList.take i)) c:=by
    refine sb H ?_; unfold bY_; refine sb List.foldl_append ?_; rfl
   obtain ⟨T,U⟩:=k7_ (image.cps.toList.take i) [""] 0 (fun w hw=>by
    rcases List.mem_cons.mp hw with rfl | hw
    ·exact Nat.le_refl _
    ·exact (nomatch hw))
   have K:(image.cps.toList.take i).length≤6:=by exact sb List.length_take (O217 O)
   have t:∀w∈bY_ (image.cps.toList.take i),w.length≤6:=fun w hw=>by have:=T w hw; exact O218 this K
   have s:(bY_ (image.cps.toList.take i)).length≤64:=by
    refine Nat.le_trans U ?_
    have:=Nat.pow_le_pow_right (n:=2) (by decide) K
    simpa using this
   generalize bY_ (image.cps.toList.take i)=W at*
   have Y:=u.as _ D
   refine b0_ G kC (by decide) a Y hr fun Q J=> ?_
   refine ix_ (ys:=fG_ W c) (σ':= [("words", .lst (txts W)),("side", .str (chS c))]) G J a (uQ ix1) mQ (bs_ (uQ ix1) mQ (cX_ ab_ bt_)) ?_ ?_ (fun I j=> ?_)
   ·refine a5_ (f:=fun w=>w++chS c) G stK dS_ (aa_ mQ) (bZ_ G) (by simp only [sizeLine]; exact O219 s) rfl (b:=fun w=> !(W.any fun y=>y==w++chS c)) (σc:= [("words", .lst (txts W)),("side", .str (chS c))]) (σt:=fun w=>upd "word" (.str w) [("words", .lst (txts W)),("side", .str (chS c))])
     (bp_ (aN_ mQ (aN_ ix1 aV_)) (fun w _ C=>aI_ G rfl) (fun w=>cr_ (by rfl)) (fun w hw X C=> ?_) (fun w hw _ X C=> ?_) (du_ ?_))
    ·have z:=t w hw
     exact be_ (ai_ (ae_ (aa_ ab_) (aa_ (uQ ix1)) (aB_ G (by refine (?_:w.length+1≤_); simp only [sizeLine]; exact Nat.lt_of_le_of_lt z (Nat.lt_of_sub_eq_succ rfl)))) (aa_ (uQ mQ)) fv_)
    ·have z:=t w hw
     exact (ae_ (aa_ ab_) (aa_ (uQ ix1)) (aB_ G (by refine (?_:w.length+1≤_); simp only [sizeLine]; exact Nat.lt_of_le_of_lt z (Nat.lt_of_sub_eq_succ rfl))))
    ·first | exact ba_ rfl (ba_ rfl cf_)
   ·have z:=dX_ W (fun w=> !(W.any fun y=>y==w++chS c)) fun w=>w++chS c
    refine sb (List.length_map ..) ?_
    refine (?_:W.length+(fG_ W c).length≤_)
    unfold fG_
    exact O221 s z
   ·have e:setω b (.lst (txts W++txts (fG_ W c))) [(b, .lst (txts W))]= [(b, .lst (txts (bY_ (image.cps.toList.take (i+1)))))]:=by
     simp only [hW,txts,txts,txts,List.map_append]
     simp [setω]
    rw [e] at j
    refine af_ (I3_3 [] _ _ ⟨rfl,aW_ (au_ mQ (by decide)) (aW_ (au_ ix1 (by decide)) e5_)⟩ j (fun d oc hd=> ?_))
    rcases List.mem_cons.mp hd with hd | hd
    ·cases hd
     rcases j.oM b _ mQ with h | h
     ·exact h
     ·exact (nomatch h)
    ·exact (nomatch hd)
  ·obtain ⟨rfl,D⟩:=R
   refine af_ ?_
   have e:image.cps.toList.take (List.map chP image.cps.toList).length=image.cps.toList:=by exact sb (List.length_map ..) (sb (List.take_length ..) rfl)
   rw [e] at u
   exact dc_ (u.as _ D) a mQ (bs_ ix1 mQ bt_) (aa_ mQ) (fun v s' u r=>u.outV (fun h=>hb (.inl h)) r)
end
structure Fn (g:GC)(n:Nat)(x:Str) where
 f:Addr
 pm:Value
 cd:Value
 doc:Value
 at_:FnAt g f n pm cd doc
 gl:g.mg x=some (.ref f)
noncomputable def d3_:List (List (Int×Str)):= [[(40960,"l"),(49152,"s"),(32768,"-"),(24576,"b"),(16384,"d"),(8192,"c"),(4096,"p")],[(256,"r")],[(128,"w")],[(2112,"s"),(2048,"S"),(64,"x")],[(32,"r")],[(16,"w")],[(1032,"s"),(1024,"S"),(8,"x")],[(4,"r")],[(2,"w")],[(513,"t"),(512,"T"),(1,"x")]]
structure LG (g:GC) where
 N:GN g
 row:Fn g 36 "_law_row"
 ranges:Fn g 37 "_law_ranges"
 written:Fn g 38 "_law_written"
 read:Fn g 39 "_law_read"
 words:Fn g 40 "_law_words"
 pattern:Fn g 41 "_law_pattern"
 stands:Fn g 42 "_law_stands"
 trans:Fn g 3 "translate"
 join:Fn g 9 "_join_translated_parts"
 filemode:Fn g 32 "filemode"
 sifmt:Fn g 11 "S_IFMT"
 byteswap:Fn g 34 "_byteswap"
 escape:Fn g 6 "escape"
 tf:Addr
 tpm:Value
 tdoc:Value
 tc:Addr
 tat:FnAt g tf 8 tpm (.ref tc) tdoc
 tgl:g.mg "_translate" =some (.ref tf)
 T:TabG g tc hW_ qLam
 pa:Addr
 P:PatG g pa
 hpa:g.mg "_twin_re_1" =some (.ref pa)
 ed:Addr
 ef:Int→Option Value
 eg:g.mg "_special_chars_map" =some (.ref ed)
 et:jN_ g ed ef
 ev:∀c∈colN,ef (c:Int)=none∨∃y t',ef (c:Int)=some (.str y t')∧y.length=2
 ee:∀c∈colN,escF ef c=lS (escN c)
 tv:Value
 tm:g.mg "_filemode_table" =some tv
 tr:Rd g (fun a=>a=g.Pt) g.hG (ftP d3_) tv
section
variable {g:GC}{k:Nat}
theorem LG.trg (Y:LG g)(G:g.Good){its:List It}(h:∀c,It.one c∈its→c∈colN):TrG g (k+1) Y.tc Y.pa Y.escape.f escN its where
 T:=Y.T
 P:=Y.P
 hpa:=Y.hpa
 hfe:=Y.escape.gl
 fn:=Y.escape.at_.isFn
 esc:=fun c hc=>by
  have u:=h c hc
  have v:c < 128:=by
   unfold colN at u
   simp at u
   exact O413 u
  have:=g2_ (k:=k) G Y.N Y.escape.at_ Y.eg Y.et v (Y.ev c u)
  simp only [Y.ee c u] at this
  exact this
variable {LU LD:List Nat}{F I:Str}{j m:It}{C D:List Nat}{rU rD:Rdg}{gaps:Int}{w:List Nat}
theorem ee_ {it:It}:∀i,it∈c8_ j m gaps w (i+1)→it= .star∨it=j∨it=m
 | 0, h => by
  obtain rfl:=List.mem_singleton.mp h
  unfold itC; split
  ·exact .inr (.inl rfl)
  ·exact .inr (.inr rfl)
 | i + 1, h => by
  simp only [eD_] at h
  rcases List.mem_append.mp h with h | h
  ·exact ee_ i h
  ·rcases List.mem_append.mp h with h | h
   ·exact .inl (List.eq_of_mem_replicate h)
   ·obtain rfl:=List.mem_singleton.mp h
    unfold itC; split
    ·exact .inr (.inl rfl)
    ·exact .inr (.inr rfl)
theorem fc_ {it:It}(i:Nat)(h:it∈patI j m gaps w (i+1)):it= .star∨it=j∨it=m:=by
 unfold patI at h
 rcases List.mem_append.mp h with h | h
 ·exact .inl (List.eq_of_mem_replicate h)
 ·rcases List.mem_append.mp h with h | h
  ·exact ee_ i h
  ·exact .inl (List.eq_of_mem_replicate h)
section
variable (SU:Side LU F j C rU)(SD:Side LD I m D rD)
include SU SD
theorem jj_ (c:Nat):(itC j m c).txt.length≤70:=by unfold itC; split; exact SU.tl; exact SD.tl
theorem ft_:∀i,(aA_ (c8_ j m gaps w (i+1))).length≤73*(i+1)
 | 0 => by
  have:=jj_ SU SD (w.getD 0 0)
  have e:aA_ (c8_ j m gaps w 1)=(itC j m (w.getD 0 0)).txt:=by simp [g5_,aA_]
  exact sb e (Nat.le_trans this (Nat.le_of_ble_eq_true rfl))
 | i + 1 => by
  have u:=ft_ i
  have v:=jj_ SU SD (w.getD (i+1) 0)
  have h3:=f6_ gaps (i+1)
  simp only [eD_,a7_,a7_,a1_,List.length_append,List.length_append,List.length_replicate]
  have e:aA_ [itC j m (w.getD (i+1) 0)]=(itC j m (w.getD (i+1) 0)).txt:=by simp [aA_]
  exact sb e (O481 h3 u v)
theorem gC_ (i:Nat)(hi:i < 6):(aA_ (patI j m gaps w (i+1))).length≤1000:=by
 have u:=ft_ (gaps:=gaps) (w:=w) SU SD i
 have v:=f6_ gaps 0
 have h3:=f6_ gaps (i+1)
 unfold patI
 simp only [a7_,a7_,a1_,a1_,List.length_append,List.length_append,List.length_replicate,List.length_replicate]
 exact O482 v h3 u hi
theorem gx_ {it:It}(h:it= .star∨it=j∨it=m):it.ok:=by
 rcases h with rfl | rfl | rfl
 ·exact trivial
 ·exact SU.ok
 ·exact SD.ok
theorem e8_ {c:Nat}(h:It.one c= .star∨It.one c=j∨It.one c=m):c∈colN:=by
 rcases h with h | h | h
 ·contradiction
 ·exact SU.one c h.symm
 ·exact SD.one c h.symm
theorem hv_ (i:Nat):cb_ F I gaps (lS w) (i+1)=lS (aA_ (patI j m gaps w (i+1))):=by exact sb SU.txt (sb SD.txt (iL_ i))
theorem e4_:∀i,(trC (ptC C D) w (i+1)).length=2*i+1∧∀x,some x∈trC (ptC C D) w (i+1)→x.length≤100
 | 0 => ⟨rfl,fun x hx=>by
  have:=List.mem_singleton.mp hx
  cases this
  unfold ptC; split; exact SU.pl; exact SD.pl⟩
 | i + 1 => by
  refine X0_2 (e4_ i) fun u v=> ?_
  refine ⟨by refine sb List.length_append (sb u ?_); simp; exact O483,fun x hx=> ?_⟩
  rcases List.mem_append.mp hx with hx | hx
  ·exact v x hx
  ·rcases List.mem_cons.mp hx with hx | hx
   ·contradiction
   ·have:=List.mem_singleton.mp hx
    cases this
    unfold ptC; split; exact SU.pl; exact SD.pl
theorem ky_ (Y:LG g)(G:g.Good)(u:1≤w.length)(E:w.length≤6)(st:Addr):
  aC_ g (k+2) Y.tf [.str (cb_ F I gaps (lS w) w.length), .ref st, .str "."] (.lst ((none::(trC (ptC C D) w w.length++ [none])).map (tkL st))):=by
 obtain ⟨i,hi⟩:∃i,w.length=i+1:=⟨w.length - 1,by exact (Nat.sub_add_cancel u).symm⟩
 refine sb (hi ..) (sb (hv_ SU SD ..) (sy (lc_ SU.ns SD.ns SU.out SD.out (gaps:=gaps) ..) ?_))
 exact bF_ G Y.N Y.tat (Y.trg G fun c hc=>e8_ SU SD (fc_ i hc)) (fun it A=>gx_ SU SD (fc_ i A)) (gC_ SU SD i (by exact O484 hi E))
theorem kA_ (Y:LG g)(G:g.Good)(v:2≤w.length)(E:w.length≤6):
  aC_ g (k+3) Y.trans.f [.str (cb_ F I gaps (lS w) w.length)] (.str (gT_ (ptC C D) w)):=by
 refine X1_2 (mk_ (ptC C D) w v E) fun X J M=> ?_
 obtain ⟨i,hi⟩:∃i,w.length=i+1:=⟨w.length - 1,by exact (Nat.sub_add_cancel (Nat.le_trans (by decide) v)).symm⟩
 refine X0_2 (e4_ (w:=w) SU SD i) fun L hx=> ?_
 rw [hi] at J ⊢
 refine sb (hv_ SU SD ..) (sy (M ..) ?_)
 refine c9_ (k:=k+1) G Y.N Y.trans.at_ Y.tat Y.tgl Y.join.at_ Y.join.gl (Y.trg G fun c hc=>e8_ SU SD (fc_ i hc)) (fun it A=>gx_ SU SD (fc_ i A)) (gC_ SU SD i (by exact O484 hi E)) (o:=(none::(trC (ptC C D) w (i+1)++ [none])).map (Option.map lS)) (by exact sb (lc_ SU.ns SD.ns SU.out SD.out ..) rfl) (by simp [L]; exact O486 hi E) (fun x H=> ?_) J
 refine X1_2 (List.mem_map.mp H) fun y hy e=> ?_
 cases y with
 | none => cases e
 | some z=>
  cases e
  refine sb (ao_ ..) ?_
  rcases List.mem_cons.mp hy with hy | hy
  ·contradiction
  ·rcases List.mem_append.mp hy with hy | hy
   ·have:=hx z hy; exact Nat.le_trans this (Nat.le_of_ble_eq_true rfl)
   ·cases List.mem_singleton.mp hy
theorem kB_ (Y:LG g)(G:g.Good)(v:2≤w.length)(E:w.length≤6):
  aC_ g (k+3) Y.trans.f [.str (Txt.stripChars (cb_ F I gaps (lS w) w.length) "*")] (.str (ha_ (ptC C D) w)):=by
 refine X1_2 (mz_ (ptC C D) w v E) fun X J M=> ?_
 obtain ⟨i,hi⟩:∃i,w.length=i+1:=⟨w.length - 1,by exact (Nat.sub_add_cancel (Nat.le_trans (by decide) v)).symm⟩
 refine X0_2 (e4_ (w:=w) SU SD i) fun L hx=> ?_
 have ht:∀it:It,it.ok→it≠ .star→∃h:it.txt≠[],it.txt.head h≠42∧it.txt.getLast h≠42:=fun it u v=>by
  cases it with
  | star => exact absurd rfl v
  | quest => exact ⟨by decide,by decide,by decide⟩
  | one c => exact I1_2 (fun e=>nomatch e) u.1 u.1
  | brk B=>
   have e:∀h:(It.brk B).txt≠[],(It.brk B).txt.getLast h=93:=fun h=>by
    have V:(It.brk B).txt=(91::B)++ [93]:=rfl
    simp only [V]
    exact List.getLast_concat ..
   exact I1_2 (fun q=>(nomatch q)) (fun q=>absurd (show (91:Nat)=42 from q) (by decide)) (fun q=>absurd ((e _).symm.trans q) (by decide))
 have O:∀c,∃h:(itC j m c).txt≠[],(itC j m c).txt.head h≠42∧(itC j m c).txt.getLast h≠42:=fun c=>by
  unfold itC; split
  ·exact ht _ SU.ok SU.ns
  ·exact ht _ SD.ok SD.ns
 have hc:∀i,∃h:aA_ (c8_ j m gaps w (i+1))≠[],(aA_ (c8_ j m gaps w (i+1))).head h≠42∧(aA_ (c8_ j m gaps w (i+1))).getLast h≠42:=by
  intro i
  induction i with
  | zero=>
   have e:aA_ (c8_ j m gaps w 1)=(itC j m (w.getD 0 0)).txt:=by simp [g5_,aA_]
   exact sb e (O _)
  | succ i Z=>
   refine X1_2 Z fun u v h3=> ?_
   refine X1_2 (O (w.getD (i+1) 0)) fun R Q K=> ?_
   have e:aA_ (c8_ j m gaps w (i+2))=aA_ (c8_ j m gaps w (i+1))++(List.replicate (gN gaps (i+1)) 42++(itC j m (w.getD (i+1) 0)).txt):=by
    simp only [eD_,a7_,a7_,a1_]; simp [aA_]
   refine sb e ?_
   refine I1_2 (by simp [u]) (by exact sb (List.head_append_left u) v) ?_
   refine sb (List.getLast_append_right (List.append_ne_nil_of_right_ne_nil _ R)) (sb (List.getLast_append_right R) ?_)
   exact K
 refine X1_2 (hc i) fun u Q K=> ?_
 rw [hi] at J ⊢
 have U:Txt.stripChars (cb_ F I gaps (lS w) (i+1)) "*" =lS (aA_ (c8_ j m gaps w (i+1))):=by
  refine sb (hv_ SU SD ..) ?_
  unfold patI
  simp only [a7_,a7_,a1_,a1_]
  exact gu_ u Q K
 refine sb U (sy M ?_)
 refine c9_ (k:=k+1) G Y.N Y.trans.at_ Y.tat Y.tgl Y.join.at_ Y.join.gl (Y.trg G fun c hc=>e8_ SU SD (ee_ i hc)) (fun it A=>gx_ SU SD (ee_ i A)) (by have:=ft_ (gaps:=gaps) (w:=w) SU SD i; exact O488 this hi E) (o:=(trC (ptC C D) w (i+1)).map (Option.map lS)) (by refine sb (gs_ SU.ns SD.ns SU.out SD.out ..) ?_; rfl) (by simp [L]; exact O489 hi E) (fun x H=> ?_) J
 refine X1_2 (List.mem_map.mp H) fun y hy e=> ?_
 cases y with
 | none => cases e
 | some z=>
  cases e
  refine sb (ao_ ..) ?_
  have:=hx z hy; exact Nat.le_trans this (Nat.le_of_ble_eq_true rfl)
end
theorem hA_ (Y:LG g)(G:g.Good)(S:Side LU F j C rU)(st:Addr):aC_ g (k+2) Y.tf [.str F, .ref st, .str "."] (.lst [.str (lS C)]):=by
 have h:=bF_ (k:=k+1) (its:= [j]) (st:=st) G Y.N Y.tat (Y.trg G fun c hc=>S.one c (List.mem_singleton.mp hc).symm) (fun it A=>by exact sb (List.mem_singleton.mp A) S.ok) (by have:=S.tl; simp [aA_]; exact Nat.le_trans this (Nat.le_of_ble_eq_true rfl))
 have e:aA_ [j]=j.txt:=by simp [aA_]
 rw [e,← S.txt,dA_ escN S.ns,S.out] at h
 exact h
end
structure GC.OkW (g:GC)(s:Shared):Prop where
 gk:∀b o,b≠g.Pt→g.hG.get? b=some o→s.heap.get? b=some o
 pt:∃o,s.heap.get? g.Pt=some o
 tab:g.TabOk s.heap
 gens:AllBare s.gens
 os:s.os=g.os
def ly_ (g:GC)(k:Nat)(f:Addr)(ps:List PV)(o:PV):Prop:=∀A s X vs,AOk k A→g.OkW s→XOk g X s.heap→RdL g X s.heap ps vs→
 eE_ (model g.prog g.w) A (.call (.ref f) ⟨vs,[]⟩) (fun r s'=>∃v,r= .ok (.ret v)∧g.Ok s'∧Kp g s.heap s'.heap∧Rd g X s'.heap o v) s
theorem kY_ {M:Model}{A:Around}{E:Value→Shared→Prop}{s₀ s:Shared}{m cm:Str→Option Value}{env:Env}{n:Str}{v:Value}{Q:PUnit→Shared→Prop}(f:Str×Value→PUnit→Sem (ForInStep PUnit))(hf:∀n v u,f (n,v) u=(do storeName env n v; pure (.yield ⟨⟩)))(hk:env.scope.kind= .function)
  (x:InCallC s₀ env.locals m env.cells cm s) (hl:env.kindOf n=some .local) (h:∀s',InCallC s₀ env.locals (bindL env.kindOf [(n,v)] m) env.cells (bindC env.kindOf [(n,v)] cm) s'→0 < s'.toks→Q ⟨⟩ s'):wpAny M A (forIn [(n,v)] ⟨⟩ f) Q E s:=by
 refine sb (List.forIn_cons ..) (sb (hf ..) ?_)
 refine wpAny_bind (wpAny_bind ?_)
 refine wpAny_storeName_local hl x.toInCall.ns (fun h' a4 af=>wpAny_pure ?_) (by refine sb hk ?_; rfl)
 refine (?_:wpAny M A (forIn [] PUnit.unit f) Q E _)
 simp only [List.forIn_nil]
 refine wpAny_pure (h _ ?_ (Nat.succ_pos _))
 have x':InCallC s₀ env.locals (fun y=>if y=n then some v else m y) env.cells cm {s with heap:=h',toks:=s.toks+1}:=by
  refine ⟨⟨?_,a4,fun b o e=> ?_,x.toInCall.fresh⟩,fun k c hc=> ?_,x.apart,x.above⟩
  ·(refine X2_1 x.toInCall.same fun a6 tk q1=> ?_; subst q1)
   exact I2_1 h' _ rfl
  ·exact af.extBut b o (Nat.ne_of_lt (Nat.lt_of_lt_of_le (Heap.lt_size e) x.toInCall.fresh)) (x.toInCall.keep b o e)
  ·exact (x.cell k c hc).sameBut af (Nat.ne_of_gt (x.above k c (mem_of_lookup hc)))
 unfold bindL bindC
 refine sb (if_pos hl) (sb (if_pos hl) ?_)
 exact x'
theorem h1_ {M:Model}{A:Around}{E:Value→Shared→Prop}{s:Shared}{scope:Scope}{l:Addr}{x:Str}{v:Value}{K:Str}{J:Option Addr}{code:Value}{i:Addr}{Q:Env→Shared→Prop}
  (hk:scope.kind= .function) (hl:scope.names.lookup x=some .local)
  (hQ:∀env,env=newEnv scope s.heap.objs.size l (cellsFrom (s.heap.objs.size+1) scope.names []) K J code none i→
   ∀s',InCallC s env.locals (bindL env.kindOf [(x,v)] fun _=>none) env.cells (bindC env.kindOf [(x,v)] fun _=>none) s'→0 < s'.toks→Q env s'):
  wpAny M A (newFunctionEnv scope l [] [(x,v)] K J code none i) Q E s:=by
 simp only [newFunctionEnv,Option.isSome_none,Bool.false_eq_true,if_false]
 refine wpAny_bind (wpAny_alloc ?_)
 refine wpAny_bind (wpAny_layCells _ (fun name aj ay=>by cases a3:aj==NameKind.cell <;>simp [a3]) _ _ _ _ ?_)
 have ok:=cellsFrom_ok scope.names (s.heap.push {cls:= .type "frame",data:= .dict #[]}) (s.heap.objs.size+1) [] ⟨fun _ _ hm=>(nomatch hm),List.Pairwise.nil⟩ (by exact sb (Heap.size_push ..) (Nat.le_refl _))
 rw [Heap.size_push] at ok
 refine sb (show ({s with heap:=s.heap.push {cls:= .type "frame",data:= .dict #[]}}:Shared).heap.objs.size=s.heap.objs.size+1 from Heap.size_push ..) ?_
 have I:InCallC s s.heap.objs.size (fun _=>none) (cellsFrom (s.heap.objs.size+1) scope.names []) (fun _=>none) {s with heap:=pushCells (s.heap.push {cls:= .type "frame",data:= .dict #[]}) scope.names}:=
  ⟨⟨⟨_,_,rfl⟩,(Heap.Ns.new s.heap (.type "frame")).keeps (pushCells_keeps _ _),fun b o e=>pushCells_keeps _ _ b o (Heap.get?_push_of_some _ e),Nat.le_refl _⟩,
   fun n c hc=>(ok.empty n c (mem_of_lookup hc)).1,ok.apart,fun n c hm=>(ok.empty n c hm).2⟩
 exact wpAny_bind (kY_ (s₀:=s) (env:=newEnv scope s.heap.objs.size l (cellsFrom (s.heap.objs.size+1) scope.names []) K J code none i) _ (fun _ _ _=>rfl) hk I hl fun s' x ht=>wpAny_pure (hQ _ rfl s' x ht))
theorem g8_ {g:GC}(G:g.Good){k:Nat}{f:Addr}{n:Nat}{pm cd doc:Value}{pvs:List PV}{o:PV}(F:FnAt g f n pm cd doc)(ps:List Str)(a8:ps.length=pvs.length)
  (Y:∀vs,vs.length=pvs.length→bindArgs (fdat n pm cd doc) ⟨vs,[]⟩=pure (ps.zip vs)) (ah:ps.Nodup)
  (ac:∀vs:List Value,vs.length=pvs.length→∃y v,ps.zip vs= [(y,v)]) (B:∀x∈ps,(fdef n).2.2.2.names.lookup x=some .local)
  (aq:∀x∈ps,(x==("__classdict__" :Str))=false)
  (H:∀A s₀ P Xo L M E,AOk k A→Xo g.Pt→LS g s₀ (cenv n pm cd doc L f) Xo [] M (ps.zip pvs) [] P→WpN g A (cenv n pm cd doc L f) (fdef n).2.2.1 (Out g s₀ Xo o) E P)
  (a0:autoParam ((fdef n).2.2.2.isCoroutine=false) aQ5) (al:autoParam ((fdef n).2.2.2.isGenerator=false) aQ5) (hk:autoParam ((fdef n).2.2.2.kind= .function) aQ7):ly_ g (k+1) f pvs o:=fun A s X vs a OW x r=>by
 have O:g.Ok {s with toks:=s.toks+1}:=⟨OW.gk,OW.pt,OW.tab,OW.gens,OW.os,Nat.succ_pos _⟩
 have hkind:∀m,∀x∈ps,(fdef n).2.2.2.names.lookup x=some .local∨((fdef n).2.2.2.names.lookup x=some .cell∧((cellsFrom m (fdef n).2.2.2.names []).lookup x).isSome=true):=fun m x hx=> .inl (B x hx)
 refine X1_2 F.ob fun ob ho hd=> ?_
 have T: @LT.lt Nat _ g.Pt s.heap.objs.size:=(O.pt).elim fun o ho=>Heap.lt_size ho
 have a1:s.heap.CodeRec cd (fdef n).1:=by
  refine X4_5 F.code fun c oc au t h1 h2 h3 h4 h5=> ?_
  exact I4_4 c oc au t h1 (O.gk _ _ h2 h3) h4 h5
 have am:=aH_ r
 have C:∀{x:Str×Value},x∈ps.zip vs→x.1∈ps:=fun h=>(List.of_mem_zip h).1
 refine b9_ (fd:=fdat n pm cd doc) (body:=(fdef n).2.2.1) a.room (O.gk _ _ F.fp ho) hd a0 al rfl a1 ?_
 refine sb (Y vs am) ?_
 refine X2_1 (ac vs am) fun y1 v1 aa=> ?_
 refine wpAny_pure ?_
 refine sb aa ?_
 refine h1_ hk (B y1 (C (x:=(y1,v1)) (by exact sb aa (.head _)))) fun env he P I ht=> ?_
 subst he
 replace I:=Eq.symm aa▸I
 have ai:=I.toInCall.ns
 have j:=I.toInCall.keep
 refine X2_1 I.toInCall.same fun hh tk Z=> ?_
 subst Z
 have V:g.Ok {s with heap:=hh,toks:=tk}:=O.keep G j ht
 have p:∀(x:Str) (c:Nat),(cenv n pm cd doc s.heap.objs.size f).cells.lookup x=some c→@LT.lt Nat _ s.heap.objs.size c:=fun x c hc=>I.above x c (PySem.mem_of_lookup hc)
 have U:∀{b:Nat} {o},s.heap.get? b=some o→@LT.lt Nat _ b s.heap.objs.size:=fun e=>Heap.lt_size e
 have D:∀b:Nat,@LE.le Nat _ s.heap.objs.size b→s.heap.get? b=none:=fun b hb=>by
  cases e:s.heap.get? b with
  | none => rfl
  | some o => have:=U e; exact (O6 this hb).elim
 have XL:∀{b:Nat},X b→@LT.lt Nat _ b s.heap.objs.size:=fun hb=>by refine X1_1 (x.xs _ hb) fun o e=> ?_; exact U e
 let M:List Addr:=s.heap.objs.size::((cenv n pm cd doc s.heap.objs.size f).cells.map (·.1)).filterMap fun x=>(cenv n pm cd doc s.heap.objs.size f).cells.lookup x
 have ab:∀x c,(cenv n pm cd doc s.heap.objs.size f).cells.lookup x=some c→c∈M:=fun x c hc=> .tail _ (List.mem_filterMap.mpr ⟨x,List.mem_map.mpr ⟨(x,c),PySem.mem_of_lookup hc,rfl⟩,hc⟩)
 have Mof:∀{b},b∈M→b=s.heap.objs.size∨∃x,(cenv n pm cd doc s.heap.objs.size f).cells.lookup x=some b:=fun hb=>by
  rcases List.mem_cons.mp hb with h | hb
  ·exact .inl h
  ·refine X1_2 (List.mem_filterMap.mp hb) fun x _ hx=> ?_
   exact .inr ⟨x,hx⟩
 have Mge:∀b∈M,@LE.le Nat _ s.heap.objs.size b:=fun b hb=>by
  rcases Mof hb with rfl | ⟨x,hx⟩
  ·exact Nat.le_refl _
  ·exact Nat.le_of_lt (p x b hx)
 have Mex:∀b∈M,∃o,hh.get? b=some o:=fun b hb=>by
  rcases Mof hb with rfl | ⟨x,hx⟩
  ·exact Ns.ex ai
  ·refine X1_2 (I.cell x b hx) fun o' e' _=> ?_
   exact ⟨o',e'⟩
 have Cr:bE_ X (av X [] M) s.heap hh:=⟨fun b o _ e=>j b o e,fun b o n e q=>by
  rcases q with q | q | q
  ·exact n q
  ·exact (nomatch q)
  ·have:=U e; have:=Mge _ q; exact O6 ‹_› this⟩
 have S:LS g s.heap (cenv n pm cd doc s.heap.objs.size f) X [] M (ps.zip pvs) [] {s with heap:=hh,toks:=tk}:=by
  refine ⟨V, ?_,fun b o _ _ e=>j b o e,fun b o e=>⟨o,j b o e⟩,fun b hb=>D _ (Mge b hb),fun b hb=> ?_, .inr mQ,fun x c hc=> .inr (ab x c hc),fun _ _ h=>nomatch h⟩
  ·have a2:∀z,av X [] M z→z≠g.Pt→g.hG.get? z=none:=fun z hz n=>by
    rcases hz with hz | hz | hz
    ·exact x.gX z hz n
    ·exact (nomatch hz)
    ·exact O.none (D z (Mge z hz))
   refine {fn:=hk,gl:=rfl,bl:=rfl,xs:=fun b hb=> ?_,ptX:= .inl x.ptX,gX:=a2,lX:= .inr (.inr mQ),lP:=nN (by refine (?_: @Ne Nat s.heap.objs.size g.Pt); exact O7 T),cX:=fun y c hc=> ?_,inj:=fun y z c h1 h2=>name_of_addr I.apart (PySem.mem_of_lookup h1) (PySem.mem_of_lookup h2),ns:=(I1_2 _ ai (fun y pv hy ax=> ?_)),vars:=fun y pv hy=> ?_,own:=fun _ _ h=>(nomatch h),once:=List.Pairwise.nil}
   ·rcases hb with hb | hb | hb
    ·refine X1_1 (x.xs b hb) fun o e=> ?_; exact ⟨o,j _ _ e⟩
    ·exact (nomatch hb)
    ·exact Mex b hb
   ·have:=p y c hc
    exact ⟨.inr (.inr (ab y c hc)),nN (by exact Nat.ne_of_gt (Nat.lt_trans T this)),nN (by refine (?_: @Ne Nat c s.heap.objs.size); exact O7 this),_,I.cell y c hc⟩
   ·refine X1_2 (de_ r hy) fun v hv hr=> ?_
    exact I1_2 v (dv_ ax ps vs _ ah hv) (an_ Cr _ _ hr)
   ·refine X1_2 (de_ r hy) fun v hv hr=> ?_
    rcases hkind (s.heap.objs.size+1) y (C hv) with q | ⟨q1,q2⟩
    ·exact .inl q
    ·refine X1_1 (Option.isSome_iff_exists.mp q2) fun c hc=> ?_
     have an:(cenv n pm cd doc s.heap.objs.size f).cells.lookup y=some c:=hc
     have hcell:=I.cell y c an
     rw [dw_ (x:=y) (v:=v) (by refine (?_:(fdef n).2.2.2.names.lookup y≠_); refine sb q1 ?_; simp) ps vs _ ah hv] at hcell
     exact .inr ⟨.inl q1,aq y (C hv),c,v,an,hcell,an_ Cr _ _ hr⟩
  ·rcases hb with hb | hb
   ·exact (nomatch hb)
   ·have:=Mge b hb
    refine ⟨?_,nN (by exact O9 T this)⟩
    cases e:g.hG.get? b with
    | none => rfl
    | some o => have:=U (O.gk b o (nN (by exact O9 T this)) e); exact (O6 this ‹_›).elim
 refine ⟨V.nolim G,e0_ ?_⟩
 exact bC_ (H (A.deeper (cenv n pm cd doc s.heap.objs.size f)) s.heap _ X _ M _ a.down x.ptX S).run (fun fl s' h=>⟨_,rfl,h⟩) fun _ _ h=>h
end Mine
end
section
namespace Mine
noncomputable def inB (T:Int)(j:Nat):Bool:=Int.fmod (Int.fdiv T (10 ^ ((j:Int)).toNat)+(j:Int)) 2==1
noncomputable def inT (T:Int):List Str:=((List.range 8).filter (inB T)).map fun (j:Nat)=>six colS (j:Int)
noncomputable def nmL (x:List Nat)(J I:Nat):List Nat:=(x.drop J).take I
noncomputable def imgL (SL:List Nat)(nm:List Nat):List Nat:=nm.map fun c=>if SL.contains c then 85 else 68
noncomputable def palS (w:Str):Bool:=w==ssl w none none (some (-1))
noncomputable def UDs:List Nat:= [85,68]
noncomputable def octL (x y:List Nat):List UInt8:=(x++y).map Nat.toUInt8
inductive jM_ (SL:List Nat)(rU rD:Rdg)(nm:List Nat)(a5:Nat):Prop
 | mk (dH : (UDs.filter fun c => aQ_ rU rD (chS c) (lS nm)).map chS=(UDs.filter fun c=>(bY_ (imgL SL nm)).any fun y=>y==chS c).map chS) (d4:∃w∈bY_ (imgL SL nm),palS w=true∧w.length=a5) (d5:∀w∈bY_ (imgL SL nm),palS w=true→w.length≤a5) (two:2≤a5) (eJ:∀w∈bY_ (imgL SL nm),palS w=true→w.length=a5→aQ_ rU rD w (lS nm.reverse)=true) (next:∀w∈bY_ (imgL SL nm),w.length=a5+1→aQ_ rU rD w (lS nm)=true∧aQ_ rU rD w (lS nm.reverse)=false):jM_ SL rU rD nm a5
inductive LawD (T K c2 c3 c4:Int)(SL SO:List Nat)(tU tD:Str)(iU iD:It)(pU pD:List Nat)(rU rD:Rdg)(I J:Nat)(x3 x4:List Nat)(m3 m4:Nat):Prop
 | mk (eZ:inT T=SL.map chS) (out:aE_ (inT T)=SO.map chS) (s8:SL.length≤8) (o8:SO.length≤8) (hU:tU=aZ_ (SL.map chS) (Int.fmod K 10)) (hD:tD=aZ_ (SO.map chS) (Int.fmod (Int.fdiv K 10) 10)) (sU:Side SL tU iU pU rU) (sD:Side SO tD iD pD rD) (wr:∀L:List Nat,L=SL∨L=SO→(cl_ colS (L.map chS)).length≤100∧(cl_ colS (aE_ (L.map chS))).length≤100∧(bk_ colS (L.map chS)).length≤1000∧(bk_ colS (aE_ (L.map chS))).length≤1000∧(a2_ (L.map chS)).length≤1000∧(a2_ (aE_ (L.map chS))).length≤1000∧(Txt.join "" (L.map chS)).length≤100∧(Txt.join "" (aE_ (L.map chS))).length≤100) (ei:at? [PV.int 5,PV.int 4,PV.int 6] (Int.fmod (Int.fmod c2 10) 3)=some (.int (I:Int))) (eU:I=4∨I=5∨I=6) (eQ:1+Int.fmod (Int.fmod (Int.fdiv c2 10) 10) (10 - (I:Int))=(J:Int)) (eN:J+I≤10) (fm:cn_ (cH_ c3) d3_=lS x3) (eX:cn_ (cH_ c4) d3_=lS x4) (eV:cA_ c3=lS x3) (eM:cA_ c4=lS x4) (l3:x3.length=10) (l4:x4.length=10) (n3:∀c∈nmL x3 J I,c∈colN) (n4:∀c∈nmL x4 J I,c∈colN) (b3:(bsl (cT_ (octL (nmL x3 J I) (nmL x4 J I)) I 2) (some ((I*0:Nat):Int)) (some ((I*0+I:Nat):Int))).toList.map (fun c=>c.toNat)=(nmL x3 J I).reverse) (b4:(bsl (cT_ (octL (nmL x3 J I) (nmL x4 J I)) I 2) (some ((I*1:Nat):Int)) (some ((I*1+I:Nat):Int))).toList.map (fun c=>c.toNat)=(nmL x4 J I).reverse) (t3:jM_ SL rU rD (nmL x3 J I) m3) (t4:jM_ SL rU rD (nmL x4 J I) m4):LawD T K c2 c3 c4 SL SO tU tD iU iD pU pD rU rD I J x3 x4 m3 m4
theorem er_ {x:List Nat}{J I:Nat}(hx:x.length=10)(h:J+I≤10):(nmL x J I).length=I:=by unfold nmL; exact sb List.length_take (sb List.length_drop (O393 hx h))
theorem iB_ {x:List Nat}{J I:Nat}(hx:x.length=10)(h:J+I≤10):ssl (lS x) (some (J:Int)) (some ((J:Int)+(I:Int))) none=lS (nmL x J I):=by
 have e:(J:Int)+(I:Int)=((J+I:Nat):Int):=by exact O394
 refine sb (e ..) (sb (gw_ (lS x) (by exact O95) (by exact sb (ao_ ..) (le_of_le_of_eq h (id (Eq.symm hx)))) ..) (sb (a3_ ..) ?_))
 unfold nmL
 exact sb (show J+I - J=I by exact O396) rfl
theorem mR_ (cs:List Nat)(h:∀c∈cs,c=85∨c=68):∀w∈bY_ cs,∀c∈w.cps.toList,c=85∨c=68:=by
 unfold bY_
 have dT:∀(cs:List Nat) (W:List Str),(∀c∈cs,c=85∨c=68)→(∀w∈W,∀c∈w.cps.toList,c=85∨c=68)→∀w∈cs.foldl cw_ W,∀c∈w.cps.toList,c=85∨c=68:=by
  intro cs
  induction cs with
  | nil => intro W _ hW; exact hW
  | cons d cs ih=>
   intro W hc hW
   refine ih (cw_ W d) (fun c dY=>hc c (tQ dY)) fun w hw c ck=> ?_
   rcases List.mem_append.mp hw with hw | hw
   ·exact hW w hw c ck
   ·(refine X1_2 (List.mem_map.mp hw) fun v hv q1=> ?_; subst q1)
    have e:(v++chS d).cps.toList=v.cps.toList++ [d]:=by refine (?_:(v.cps++ #[d]).toList=_); simp
    rw [e] at ck
    rcases List.mem_append.mp ck with q | q
    ·exact hW v (List.mem_filter.mp hv).1 c q
    ·exact sb (List.mem_singleton.mp q) (hc d mQ)
 exact dT cs [""] h fun w hw c hc=>by replace hc:=(List.mem_singleton.mp hw)▸hc; exact (nomatch hc)
theorem iV_ {α:Type}{x:List α}{l u s:Option Int}{y:α}(h:y∈lsl x l u s):y∈x:=by
 unfold lsl at h
 refine X1_2 (List.mem_filterMap.mp h) fun i _ hi=> ?_
 exact List.mem_of_getElem? hi
theorem iX_ {α:Type}(x:List α)(l u:Option Int):(lsl x l u none).length≤x.length:=by
 exact sb (eu_ ..) (sb (List.length_take ..) (sb (List.length_drop ..) (Nat.le_trans (Nat.min_le_right _ _) (Nat.sub_le _ _))))
noncomputable abbrev zA (T K c2 c3 c4:Int):List (Str×PV):= [("cells", .lst ([T,K,c2,c3,c4].map PV.int)),("column", .str colS),("inner", .lst (txts (inT T))),("outer", .lst (txts (aE_ (inT T))))]
noncomputable abbrev zB (T K c2 c3 c4:Int) (I J:Nat) (V:List (Int×Str)):List (Str×PV):= [("cells", .lst ([T,K,c2,c3,c4].map PV.int)),("column", .str colS),("inner", .lst (txts (inT T))),("outer", .lst (txts (aE_ (inT T)))),("size", .int (I:Int)),("first", .int (J:Int)),("rows", .lst (V.map rwP))]
noncomputable abbrev zC (T K c2 c3 c4:Int) (SL SO:List Str) (I J:Nat) (V:List (Int×Str)) (n3 n4:List Nat) (mb:Array UInt8) (st:Addr):List (Str×PV):= [("cells", .lst ([T,K,c2,c3,c4].map PV.int)),("column", .str colS),("inner", .lst (txts SL)),("outer", .lst (txts SO)),("size", .int (I:Int)),("first", .int (J:Int)),("rows", .lst (V.map rwP)),("names", .lst (txts [lS n3,lS n4])),("mirrored", .bytes mb),("star", .ref st)]
noncomputable abbrev zD (T K c2 c3 c4:Int) (SL:List Nat) (I J:Nat) (V:List (Int×Str)) (n3 n4:List Nat) (mb:Array UInt8) (st:Addr) (tU tD:Str) (pU pD:List Nat) (rU rD:Rdg):List (Str×PV):= [("cells", .lst ([T,K,c2,c3,c4].map PV.int)),("inner", .lst (txts (SL.map chS))),("size", .int (I:Int)),("first", .int (J:Int)),("rows", .lst (V.map rwP)),("names", .lst (txts [lS n3,lS n4])),("mirrored", .bytes mb),("star", .ref st),("texts",dUD (.str tU) (.str tD)),("gaps", .int (Int.fdiv K 1000)),("parts",dUD (.lst [.str (lS pU)]) (.lst [.str (lS pD)])),("reads",dUD (rdP rU) (rdP rD))]
noncomputable abbrev zE (T K c2 c3 c4:Int) (SL:List Nat) (I J:Nat) (V:List (Int×Str)) (n3 n4:List Nat) (mb:Array UInt8) (st:Addr) (tU tD:Str) (pU pD:List Nat) (rU rD:Rdg) (i:Nat) (nm:List Nat) (W:List Str) (m:Nat):List (Str×PV):= [("cells", .lst ([T,K,c2,c3,c4].map PV.int)),("inner", .lst (txts (SL.map chS))),("size", .int (I:Int)),("first", .int (J:Int)),("rows", .lst (V.map rwP)),("names", .lst (txts [lS n3,lS n4])),("mirrored", .bytes mb),("star", .ref st),("texts",dUD (.str tU) (.str tD)),("gaps", .int (Int.fdiv K 1000)),("parts",dUD (.lst [.str (lS pU)]) (.lst [.str (lS pD)])),("reads",dUD (rdP rU) (rdP rD)),("n", .int (i:Int)),("mirror", .str (lS nm.reverse)),("words", .lst (txts W)),("most", .int (m:Int))]
theorem eZ_ {g:GC}{k:Nat}{env:Env}{X:Addr→Prop}{σ:List (Str×PV)}{ω:List (Addr×OC)}{e:Expr}{b c:Bool}(h:b=c)(H:EvT g k env X σ ω e b):EvT g k env X σ ω e c:=h▸H
theorem cS_ {g:GC}{k:Nat}{env:Env}{X:Addr→Prop}{σ:List (Str×PV)}{ω:List (Addr×OC)}{e:Expr}{p q:PV}(h:p=q)(H:Ev g k env X σ ω e p):Ev g k env X σ ω e q:=h▸H
section
variable {g:GC}{k:Nat}
set_option maxHeartbeats 4000000 in
theorem kz_ (G:g.Good)(Y:LG g){f:Addr}{pm cd doc:Value}(F:FnAt g f 43 pm cd doc){ns:List Int}{T K c2 c3 c4:Int}(ds:ns.length≤63)(hc:ns.take 5++([1010010,100200164,10,3082720,20764]:List Int).drop ns.length= [T,K,c2,c3,c4])
  {SL SO:List Nat} {tU tD:Str} {iU iD:It} {pU pD:List Nat} {rU rD:Rdg} {I J:Nat} {x3 x4:List Nat} {m3 m4:Nat} (D:LawD T K c2 c3 c4 SL SO tU tD iU iD pU pD rU rD I J x3 x4 m3 m4):
  ly_ g (k+4) f [.lst (ns.map .int)] (.bool true):=by
 have N:=Y.N
 obtain ⟨bp,cf,bO,cN,cL,cU,aa,ab,bK,bR,b1,cm,am,bT,bQ,aL,aQ,a7,a6,bI,bH,dr,dw,cK,d0⟩:=D
 refine g8_ G F ["script"] rfl (fun vs cq=> ?_) (by decide) (fun vs cq=> ?_) (fun x hx=> ?_) (by decide) (fun A s₀ eE Xo L M E a hp S=> ?_)
 ·exact v1 (P:=fun vs=>bindArgs _ ⟨vs,[]⟩=pure (List.zip _ vs)) (fun v=>rfl) vs cq
 ·exact v1 (P:=fun vs=>∃y v,List.zip _ vs= [(y,v)]) (fun v=>⟨_,v,rfl⟩) vs cq
 ·refine sb (List.mem_singleton.mp hx) ?_; rfl
 ·conv=>arg 4; whnf
  have e1:lsl (ns.map PV.int) none (some ((5:Nat):Int)) none++lsl (([1010010,100200164,10,3082720,20764]:List Int).map PV.int) (some (ns.length:Int)) none none= [T,K,c2,c3,c4].map PV.int:=by
   exact sb (kx_ ..) (sb (hz_ ..) (sy (List.map_take ..) (sy (List.map_drop ..) (sy (List.map_append ..) (sb (hc ..) rfl)))))
  refine stN (al_ (pv:= .lst ([T,K,c2,c3,c4].map PV.int)) G S a ?K kC (fun cV b6=>af_ ?_))
  case K=>
   refine sy e1 ?_
   exact (ae_ (bB_ G (aa_ (iX 0 rfl)) (aJ_ G ap_ (aq_ (ad_ G)) ap_) (by decide) (by refine sb (List.length_map ..) ?_; simp only [sizeLine]; exact Nat.le_trans ds (Nat.le_of_ble_eq_true rfl))) (bB_ G (eB_ G (ac_ (ad_ G) (ac_ (ad_ G) (ac_ (ad_ G) (ac_ (ad_ G) (ac_ (ad_ G) ag_))))) (by show (5:Nat)≤sizeLine; decide)) (aJ_ G (aq_ (ar_ (bW_ G N.len) (ac_ (aa_ (iX 0 rfl)) ag_) (eW_ G (by exact O399 ds)))) ap_ ap_) (by decide) (by decide)) (l3_ G (Nat.le_trans (Nat.le_of_eq ((List.length_append ..).symm.trans (congrArg List.length e1))) (by refine (?_:(5:Nat)≤sizeLine); decide))))
  obtain ⟨aM,d7⟩:∃aM,aM=PV.lst ([T,K,c2,c3,c4].map PV.int):=⟨_,rfl⟩
  refine stN (al_ (pv:= .str colS) G b6 a (ah_ G) (.inr ⟨rfl,rfl⟩) (fun cx bh=>af_ ?_))
  refine stN (al_ (pv:= .lst (txts (inT T))) G bh a (a5_ G ntK na_ (bz_ (dK_ G N.range) (ac_ (ad_ G) ag_) (dj_ G)) (kF_ G (n:=8) (by decide)) (by decide) rfl (b:=inB T) (σc:= [("column", .str colS),("cells", .lst ([T,K,c2,c3,c4].map PV.int))]) (σt:=fun j=>upd "j" (.int (j:Int)) [("column", .str colS),("cells", .lst ([T,K,c2,c3,c4].map PV.int))]) (f:=fun j=>six colS (j:Int))
   (bp_ (aN_ ab_ (aN_ (uQ ab_) aV_)) (fun j _ C=>aI_ G rfl) (fun j=>cr_ (by rfl)) (fun j hj X C=> ?i1) (fun j hj _ X C=> ?i2) (du_ ?i3))) kC (fun cu aW=>af_ ?_))
  case i3=>first | exact ba_ rfl (ba_ rfl cf_)
  case i1=>
   have b8:=List.mem_range.mp hj
   have cJ:=p10 (n:=((j:Int)).toNat) (by exact Nat.le_of_succ_le b8)
   have ez:Builtin.Int.intBits 10=4:=by decide+kernel
   exact be_ (ai_ (ae_ (ae_ (ae_ (ay_ (aa_ (uQ (iX 1 rfl))) (ad_ G) (by exact O401) rfl) (ae_ (ad_ G) (aa_ ab_) (dU_ G (by exact O70) (by exact sb ez (O402 b8)))) (cc_ G cJ.1 (PyProof.noPylong_small cJ.2))) (aa_ ab_) (a6_ G)) (ad_ G) (bj_ G (by decide))) (ad_ G) ca_)
  case i2=>
   have b8:=List.mem_range.mp hj
   exact (av_ G (aa_ (uQ (iX 0 rfl))) (aa_ ab_) (And.intro (by exact O403) (by refine (?_:(j:Int) < ((8:Nat):Int)); exact Int.ofNat_lt.mpr (Nat.lt_of_succ_le b8))) (by show (8:Nat) < _; decide))
  have eL:(inT T).length≤8:=by exact sb (bp ..) (sb (List.length_map ..) bO)
  refine stN (cZ_ (f:=fun c=> .str (chS c)) G chK aW a hp dZ_ (aa_ (uQ ab_)) (cm_ G) (by decide) (cl:= [("inner",L+3)]) rfl (b:=fun c=> !((inT T).any fun y=>y==chS c)) (σc:= [("inner", .lst (txts (inT T)))]) (σt:=fun c=>upd "sign" (chP c) [("inner", .lst (txts (inT T)))])
   (bp_ (aN_ ab_ aV_) (fun c _ C=>aI_ G rfl) (fun c=>cr_ (by rfl)) (fun c _ X C=> ?o1) (fun c _ _ X C=> ?o2) (du_ (ba_ rfl cf_))) (fun cv aS=>af_ ?_))
  case o1=>exact be_ (ai_ (aa_ ab_) (aa_ (uQ (iX 0 rfl))) fv_)
  case o2=>exact (aa_ ab_)
  rw [d7_ chS] at aS
  have bx:=aS.as (zA T K c2 c3 c4)
   sq
  have ec:=aF_ (Int.fmod c2 10) (b:=3) (by decide)
  refine stN (al_ (pv:= .int (I:Int)) G bx a (ay_ (eB_ G (ac_ (ad_ G) (ac_ (ad_ G) (ac_ (ad_ G) ag_))) (by show (3:Nat)≤sizeLine; decide)) (ae_ (ae_ (ay_ (aa_ (iX 0 rfl)) (ad_ G) (by exact by decide) rfl) (ad_ G) (bj_ G (by decide))) (ad_ G) (bj_ G (by decide))) (by exact O406 ec) bR) kC (fun cM aX=>af_ ?_))
  have ei:=b1
  have ao:I=4∨I=5∨I=6:=b1
  refine stN (al_ (pv:= .int (J:Int)) G aX a ?f1 kC (fun dk bm=>af_ ?_))
  case f1=>
   refine sy cm ?_
   exact (ae_ (ad_ G) (ae_ (ae_ (ae_ (ay_ (aa_ (uQ (iX 0 rfl))) (ad_ G) (by exact by decide) rfl) (ad_ G) (cc_ G (by decide) (PyProof.noPylong_small (by decide)))) (ad_ G) (bj_ G (by decide))) (ae_ (ad_ G) (aa_ ab_) (ep_ G)) (bj_ G (by exact O407 ao))) (a6_ G))
  have es:lsl ([T,K,c2,c3,c4].map PV.int) (some ((3:Nat):Int)) none none= [c3,c4].map PV.int:=by refine sb (hz_ ..) ?_; rfl
  refine stN (cZ_ (f:=fun c=> .tup [.int (cH_ c), .str (cA_ c)]) (l:= [c3,c4]) (ι:=PV.int) G inK bm a hp nl_ (es▸(bB_ G (aa_ (uQ (uQ (iX 0 rfl)))) (aJ_ G (aq_ (ad_ G)) ap_ ap_) (by decide) (by refine (?_:(5:Nat)≤sizeLine); decide))) (fun X=>dF_ G) (by refine (?_:(2:Nat)≤sizeLine); decide) (cl:= []) rfl (b:=fun _=>true) (σc:= []) (σt:=fun c=>upd "number" (.int c) [])
   (bp_ aV_ (fun c _ C=>aI_ G rfl) (fun c=>cr_ (by rfl)) (fun c _ X C=>bl_) (fun c _ _ X C=> ?r1) (fun x c h=>nomatch h)) (fun cO aC=>af_ ?_))
  case r1=>exact (az_ (bI_ G Y.row.gl) Y.row.at_.isFn (ac_ (aa_ ab_) ag_) (kd_ G Y.row.at_))
  have eq:∀m:Int,aC_ g (k+3) Y.filemode.f [.int m] (.str (cn_ m d3_)):=fun m=>fo_ (k:=k+1) G Y.N Y.filemode.at_ Y.sifmt.at_ Y.sifmt.gl Y.tm Y.tr (by decide) (by decide)
  obtain ⟨V,an⟩:∃V:List (Int×Str),V= [(cH_ c3,cA_ c3),(cH_ c4,cA_ c4)]:=⟨_,rfl⟩
  have ap:=aC.as (zB T K c2 c3 c4 I J V) (by
   refine sb an ?_
   exact sq)
  refine stN (cZ_ (f:=fun p=> .str (cn_ p.1 d3_)) (l:=V) (ι:=rwP) G rwK ap a hp li_ (aa_ (iX 6 rfl)) (fun X=>dF_ G) (by refine sb an ?_; refine (?_:(2:Nat)≤sizeLine); decide) (cl:= []) rfl (b:=fun _=>true) (σc:= []) (σt:=fun p=>upd "text" (.str p.2) (upd "mode" (.int p.1) []))
   (bp_ aV_ (fun p _ C=>eL_ G rfl rfl) (fun p=>mD_ (by rfl)) (fun p _ X C=>bl_) (fun p _ _ X C=> ?r2) (fun x c h=>nomatch h)) (fun bi al=>af_ ?_))
  case r2=>exact (az_ (bI_ G Y.filemode.gl) Y.filemode.at_.isFn (ac_ (aa_ (uQ ab_)) ag_) (eq _))
  have dV:((V.filter fun _=>true).map fun p=>PV.str (cn_ p.1 d3_))=txts [lS x3,lS x4]:=by
   refine sb an ?_
   refine (?_: [PV.str (cn_ (cH_ c3) d3_), .str (cn_ (cH_ c4) d3_)]= [.str (lS x3), .str (lS x4)])
   exact sb bT (sb bQ rfl)
  rw [dV] at al
  have c8:∀x:List Nat,x.length=10→(ssl (lS x) none (some 1) none++ssl (lS x) (some 10) none none)=ssl (lS x) none (some 1) none:=fun x hx=>by
   have e:=ea_ (lS x) (a:=10) (by exact sb (ao_ ..) (Nat.le_of_eq (id (Eq.symm hx))))
   have e':lS ((lS x).cps.toList.drop 10)=(⟨#[]⟩:Str):=by exact sb (a3_ ..) (sb (List.drop_of_length_le (by exact Nat.le_of_eq hx) ..) rfl)
   rw [e'] at e
   have e2:ssl (lS x) (some 10) none none=(⟨#[]⟩:Str):=e
   refine sb e2 ?_
   generalize ssl (lS x) none (some 1) none=y
   refine (?_:Str.mk (y.cps++ #[])=y)
   exact sb Array.append_empty rfl
  have ed:((([lS x3,lS x4].filter fun _=>true).map fun r=>ssl r none (some 1) none++ssl r (some 10) none none) !=((V.filter fun _=>true).map fun p=>ssl p.2 none (some 1) none))=false:=by
   refine sb an ?_
   refine (?_:([ssl (lS x3) none (some 1) none++ssl (lS x3) (some 10) none none,ssl (lS x4) none (some 1) none++ssl (lS x4) (some 10) none none] != [ssl (cA_ c3) none (some 1) none,ssl (cA_ c4) none (some 1) none])=false)
   rw [c8 x3 a7,c8 x4 a6,aL,aQ]
   simp
  have dO:∀x:List Nat,x.length=10→(ssl (lS x) none (some 1) none).length+(ssl (lS x) (some 10) none none).length≤sizeLine:=fun x hx=>by
   have h1:(ssl (lS x) none (some 1) none).length≤x.length:=Nat.le_trans (bm_ _ _ _) (Nat.le_of_eq (ao_ x))
   have h2:(ssl (lS x) (some 10) none none).length≤x.length:=Nat.le_trans (bm_ _ _ _) (Nat.le_of_eq (ao_ x))
   simp only [sizeLine]; exact O410 h1 h2 hx
  have bL:∀r∈[lS x3,lS x4],∃x:List Nat,r=lS x∧x.length=10:=fun r hr=>by
   rcases List.mem_cons.mp hr with rfl | hr
   ·exact I1_2 x3 rfl a7
   ·exact sb (List.mem_singleton.mp hr) (I1_2 x4 rfl a6)
  refine stN (aX_ (b:=false) al a ?t9 (fun h=>nomatch h) (fun _ bc aq=>af_ (af_ ?_)))
  case t9=>
   refine eZ_ ed ?_
   refine ai_ (a5_ G stK dS_ (aa_ ab_) (bZ_ G) (by refine (?_:(2:Nat)≤sizeLine); decide) (cl:= []) rfl (b:=fun _=>true) (σc:= []) (σt:=fun r=>upd "row" (.str r) []) (f:=fun r=>ssl r none (some 1) none++ssl r (some 10) none none) ?ca) (a5_ (ι:=rwP) (l:=V) G rwK li_ (aa_ (uQ (iX 6 rfl))) (fun X=>dF_ G) (by refine sb an ?_; refine (?_:(2:Nat)≤sizeLine); decide) (cl:= []) rfl (b:=fun _=>true) (σc:= []) (σt:=fun p=>upd "text" (.str p.2) (upd "mode" (.int p.1) [])) (f:=fun p=>ssl p.2 none (some 1) none) ?cb) dM_
   case ca=>
    refine bp_ aV_ (fun c _ C=>aI_ G rfl) (fun c=>cr_ (by rfl)) (fun c _ X C=>bl_) (fun r hr _ X C=> ?_) (fun x c h=>nomatch h)
    (refine X1_2 (bL r hr) fun x q2 hx=> ?_; subst q2)
    exact (ae_ (ax_ G (aa_ ab_) (aJ_ G ap_ (aq_ (ad_ G)) ap_) (by decide) (Nat.le_trans (bm_ _ _ _) (by refine sb (ao_ ..) ?_; simp only [sizeLine]; exact O411 hx))) (ax_ G (aa_ ab_) (aJ_ G (aq_ (ad_ G)) ap_ ap_) (by decide) (Nat.le_trans (bm_ _ _ _) (by refine sb (ao_ ..) ?_; simp only [sizeLine]; exact O411 hx))) (aB_ G (dO x hx)))
   case cb=>
    refine bp_ aV_ (fun p _ C=>eL_ G rfl rfl) (fun p=>mD_ (by rfl)) (fun p _ X C=>bl_) (fun p hp' _ X C=> ?_) (fun x c h=>nomatch h)
    have co:p.2.length≤10:=by
     rw [an] at hp'
     rcases List.mem_cons.mp hp' with rfl | hp'
     ·refine (?_:(cA_ c3).length≤10); exact sb (aL ..) (sb (ao_ ..) (sb (a7 ..) (Nat.le_refl _)))
     ·refine sb (List.mem_singleton.mp hp') ?_; refine (?_:(cA_ c4).length≤10); exact sb (aQ ..) (sb (ao_ ..) (sb (a6 ..) (Nat.le_refl _)))
    exact (ax_ G (aa_ ab_) (aJ_ G ap_ (aq_ (ad_ G)) ap_) (by decide) (Nat.le_trans (bm_ _ _ _) (by simp only [sizeLine]; exact Nat.le_trans co (Nat.le_of_ble_eq_true rfl))))
  have fz:(J:Int)+(I:Int)=((J+I:Nat):Int):=by exact O394
  obtain ⟨n3,aD⟩:∃n,n=nmL x3 J I:=⟨_,rfl⟩
  obtain ⟨n4,aA⟩:∃n,n=nmL x4 J I:=⟨_,rfl⟩
  have bY:n3.length=I:=by exact sb aD (er_ a7 am)
  have ci:n4.length=I:=by exact sb aA (er_ a6 am)
  have ef:(([lS x3,lS x4].filter fun _=>true).map fun r=>ssl r (some (J:Int)) (some ((J:Int)+(I:Int))) none)= [lS n3,lS n4]:=by
   refine (?_: [ssl (lS x3) (some (J:Int)) (some ((J:Int)+(I:Int))) none,ssl (lS x4) (some (J:Int)) (some ((J:Int)+(I:Int))) none]=_)
   exact sb (iB_ a7 am) (sb (iB_ a6 am) (sb aD (sb aA rfl)))
  refine stN (al_ (pv:= .lst (txts [lS n3,lS n4])) G aq a ?nm kC (fun bt az=>af_ ?_))
  case nm=>
   refine sy ef ?_
   refine a5_ G stK dS_ (aa_ ab_) (bZ_ G) (by refine (?_:(2:Nat)≤sizeLine); decide) rfl (b:=fun _=>true) (σc:= [("first", .int (J:Int)),("size", .int (I:Int))]) (σt:=fun r=>upd "row" (.str r) [("first", .int (J:Int)),("size", .int (I:Int))]) (f:=fun r=>ssl r (some (J:Int)) (some ((J:Int)+(I:Int))) none)
    (bp_ (aN_ (uQ (iX 5 rfl)) (aN_ (uQ (iX 4 rfl)) aV_)) (fun c _ C=>aI_ G rfl) (fun c=>cr_ (by rfl)) (fun c _ X C=>bl_) (fun r hr _ X C=> ?_) (du_ ?_))
   ·(refine X1_2 (bL r hr) fun x q3 hx=> ?_; subst q3)
    exact (ax_ G (aa_ ab_) (aJ_ G (aq_ (aa_ (uQ (iX 0 rfl)))) (aq_ (ae_ (aa_ (uQ (iX 0 rfl))) (aa_ (uQ (iX 1 rfl))) (a6_ G))) ap_) (by decide) (Nat.le_trans (bm_ _ _ _) (by refine sb (ao_ ..) ?_; simp only [sizeLine]; exact O411 hx)))
   ·first | exact ba_ rfl (ba_ rfl cf_)
  have eh:([lS n3,lS n4].flatMap fun z=>z.cps.toList.map fun c:Nat=>PV.int (c:Int))=((n3++n4).map fun c:Nat=>(c:Int)).map PV.int:=by
   refine (?_:List.map _ (lS n3).cps.toList++(List.map _ (lS n4).cps.toList++ [])=_)
   refine sb (a3_ ..) (sb (a3_ ..) (sb (List.append_nil ..) (sy (List.map_append ..) (sb (List.map_map ..) ?_)))); rfl
  have dG:byteArr ((n3++n4).map fun c:Nat=>(c:Int))=(octL n3 n4).toArray:=by
   delta byteArr octL
   refine sb List.map_map ?_
   congr 1
  have dd:∀c∈n3++n4,c < 128:=fun c bU=>by
   have h1:c∈colN:=by
    rcases List.mem_append.mp bU with h | h
    ·rw [aD] at h; exact bI c h
    ·rw [aA] at h; exact bH c h
   unfold colN at h1
   simp at h1
   exact O413 h1
  have cD:(octL n3 n4).length=2*I:=by unfold octL; exact sb (List.length_map ..) (sb (List.length_append ..) (O414 bY ci))
  refine e7_ (f:=Y.byteswap.f) (o:= .bytes (cT_ (octL n3 n4) I 2)) (ps:= [.bytes (octL n3 n4).toArray, .int (I:Int)]) G az a (bI_ G Y.byteswap.gl) Y.byteswap.at_.isFn (ac_ ?by1 (ac_ (aa_ (uQ (uQ (iX 4 rfl)))) ag_)) (fy_ (k:=k+2) G Y.N Y.byteswap.at_ ao cD) kL (fun di ak=> ?_)
  case by1=>
   refine sy dG ?_
   refine bz_ (dK_ G N.bytes) (ac_ (cS_ (congrArg PV.lst eh) ?tw) ag_) (ko_ G ?br ?bz)
   case tw=>
    exact nr_ G (f:=fun c:Nat=> .int (c:Int)) (items:= [lS n3,lS n4]) (aa_ ab_) (bZ_ G) (by refine (?_:(lS n3).length+((lS n4).length+0)≤_); exact sb (ao_ ..) (sb (ao_ ..) (O415 ao bY ci))) rfl (by decide) rfl (by decide) (fun _=>rfl) (fun _=>rfl) (by decide)
     (fun z C X=>(aa_ (iX 0 rfl))) (fun z c C X=>(ar_ (bW_ G N.ord) (ac_ (aa_ (iX 0 rfl)) ag_) (m4_ G)))
   case br=>
    intro n hn
    (refine X1_2 (List.mem_map.mp hn) fun c bU q4=> ?_; subst q4)
    have:=dd c bU
    exact O416 this
   case bz=>refine sb (List.length_map ..) (sb (List.length_append ..) ?_); simp only [sizeLine]; exact O417 ao bY ci
  refine WpN.of ?_
  obtain ⟨mb,bD⟩:∃mb,mb=cT_ (octL n3 n4) I 2:=⟨_,rfl⟩
  have bE:mb.size=2*I:=by exact sb (bD ..) (sb (c5_ ..) (sb (cD ..) rfl))
  rw [← bD] at ak
  refine aX_ (b:=false) ak a ?t12 (fun h=>nomatch h) (fun _ aF ag=>af_ ?_)
  case t12=>
   refine eZ_ (b:=(!true) || (((mb.size:Int)) !=2*(I:Int))) ?_ (dr_ (dg_ (by_ (ar_ (bW_ G N.isinstance) (ac_ (aa_ ab_) (ac_ (dK_ G N.bytes) ag_)) (eq_ G)) ch_)) (fun _=>(ai_ (ar_ (bW_ G N.len) (ac_ (aa_ ab_) ag_) (cI_ G (by exact O139 ao bE))) (ae_ (ad_ G) (aa_ (uQ (uQ (uQ (iX 4 rfl))))) (dV_ G (fi_ (by decide+kernel)))) jx_)))
   have:(mb.size:Int)=2*(I:Int):=by exact Eq.symm bE▸Nat.ToInt.mul_congr rfl rfl
   refine sb this ?_; simp
  refine bA_ (pvs:=txts ["*"]) G ag a (aj_ (ah_ G) aD_) kC (fun st cT fw aw=> ?_) (by decide)
  have a0:=aw.weak (σ':=zC T K c2 c3 c4 (SL.map chS) (SO.map chS) I J V n3 n4 mb st) (ω':= []) (by
   refine sy bp (sy cf ?_)
   exact sq) (fun p h=>nomatch h) List.Pairwise.nil
  refine X0_8 (bK SL (.inl rfl)) fun w1 w2 w3 w4 w5 w6 w7 w8=> ?_
  refine X0_8 (bK SO (.inr rfl)) fun v1 v2 v3 v4 v5 v6 v7 v8=> ?_
  have d1:=aF_ K (b:=10) (by decide)
  have d2:=aF_ (Int.fdiv K 10) (b:=10) (by decide)
  have eA:aC_ g (k+3) Y.written.f [.str colS, .lst (txts (SL.map chS)), .int (Int.fmod K 10)] (.str tU):=by
   exact sb cL (dP_ (k:=k+1) G Y.N Y.written.at_ Y.ranges.at_ Y.ranges.gl bO d1 w1 w2 w3 w4 w5 w6 w7 w8)
  have e4:aC_ g (k+3) Y.written.f [.str colS, .lst (txts (SO.map chS)), .int (Int.fmod (Int.fdiv K 10) 10)] (.str tD):=by
   exact sb cU (dP_ (k:=k+1) G Y.N Y.written.at_ Y.ranges.at_ Y.ranges.gl cN d2 v1 v2 v3 v4 v5 v6 v7 v8)
  refine al_ (pv:=dUD (.str tU) (.str tD)) G a0 a (fs_ G (fun X=> ?wa) (fun X=> ?wb)) kL (fun b0 au=> ?_)
  case wa=>exact (az_ (bI_ G Y.written.gl) Y.written.at_.isFn (ac_ (aa_ (iX 1 rfl)) (ac_ (aa_ (iX 2 rfl)) (ac_ (ae_ (ay_ (aa_ (iX 0 rfl)) (ad_ G) (by exact O419) rfl) (ad_ G) (bj_ G (by decide))) ag_))) eA)
  case wb=>exact (az_ (bI_ G Y.written.gl) Y.written.at_.isFn (ac_ (aa_ (iX 1 rfl)) (ac_ (aa_ (iX 3 rfl)) (ac_ (ae_ (ae_ (ay_ (aa_ (iX 0 rfl)) (ad_ G) (by exact O419) rfl) (ad_ G) (cc_ G (by decide) (PyProof.noPylong_small (by decide)))) (ad_ G) (bj_ G (by decide))) ag_))) e4)
  refine al_ (pv:= .int (Int.fdiv K 1000)) G au a (ae_ (ay_ (aa_ (uQ (iX 0 rfl))) (ad_ G) (by exact O419) rfl) (ad_ G) (cc_ G (by decide) (PyProof.noPylong_small (by decide)))) kL (fun bu ay=> ?_)
  have dR:=hA_ (k:=k+1) (g:=g) Y G aa st
  have e8:=hA_ (k:=k+1) (g:=g) Y G ab st
  refine al_ (pv:=dUD (.lst [.str (lS pU)]) (.lst [.str (lS pD)])) G ay a (fs_ G (fun X=> ?pa) (fun X=> ?pb)) kC (fun b7 a1=> ?_)
  case pa=>exact (az_ (bI_ G Y.tgl) (Y.tat).isFn (ac_ (aU_ G (aa_ (uQ ab_)) (ah_ G) (.inl ⟨rfl,rfl⟩)) (ac_ (aa_ (uQ (uQ (iX 9 rfl)))) (ac_ (ah_ G) ag_))) dR)
  case pb=>exact (az_ (bI_ G Y.tgl) (Y.tat).isFn (ac_ (aU_ G (aa_ (uQ ab_)) (ah_ G) (.inr ⟨rfl,rfl⟩)) (ac_ (aa_ (uQ (uQ (iX 9 rfl)))) (ac_ (ah_ G) ag_))) e8)
  refine aX_ (b:=false) a1 a (dr_ (ai_ (ar_ (bW_ G N.len) (ac_ (aU_ G (aa_ ab_) (ah_ G) (.inl ⟨rfl,rfl⟩)) ag_) (c2_ G (by refine (?_:((1:Nat):Int) < _); decide))) (ad_ G) jx_) (fun _=>(ai_ (ar_ (bW_ G N.len) (ac_ (aU_ G (aa_ ab_) (ah_ G) (.inr ⟨rfl,rfl⟩)) ag_) (c2_ G (by refine (?_:((1:Nat):Int) < _); decide))) (ad_ G) jx_))) (fun h=>nomatch h) (fun _ cR bo=>af_ ?_)
  -- READS
  have dA:aC_ g (k+3) Y.read.f [.str (lS pU)] (rdP rU):=fO_ (k:=k+2) G Y.N Y.read.at_ (by refine sb (ao_ ..) ?_; have:=aa.pl; exact Nat.le_trans this (Nat.le_of_ble_eq_true rfl)) aa.rd
  have dF:aC_ g (k+3) Y.read.f [.str (lS pD)] (rdP rD):=fO_ (k:=k+2) G Y.N Y.read.at_ (by refine sb (ao_ ..) ?_; have:=ab.pl; exact Nat.le_trans this (Nat.le_of_ble_eq_true rfl)) ab.rd
  refine al_ (pv:=dUD (rdP rU) (rdP rD)) G bo a (fs_ G (fun X=> ?ra) (fun X=> ?rb)) kC (fun cP be=> ?_)
  case ra=>exact (az_ (bI_ G Y.read.gl) Y.read.at_.isFn (ac_ (ay_ (aU_ G (aa_ ab_) (ah_ G) (.inl ⟨rfl,rfl⟩)) (ad_ G) (by exact O401) rfl) ag_) dA)
  case rb=>exact (az_ (bI_ G Y.read.gl) Y.read.at_.isFn (ac_ (ay_ (aU_ G (aa_ ab_) (ah_ G) (.inr ⟨rfl,rfl⟩)) (ad_ G) (by exact O401) rfl) ag_) dF)
  refine aX_ (b:=false) be a (ai_ mr_ (eB_ G (ac_ (aU_ G (aa_ ab_) (ah_ G) (.inl ⟨rfl,rfl⟩)) (ac_ (aU_ G (aa_ ab_) (ah_ G) (.inr ⟨rfl,rfl⟩)) ag_)) (by refine (?_:(2:Nat)≤sizeLine); decide)) (hX_ G (fun p hp=> ?nn))) (fun h=>nomatch h) (fun _ c7 bn=>af_ ?_)
  case nn=>
   rcases List.mem_cons.mp hp with rfl | hp
   ·exact ⟨_,rfl⟩
   ·exact sb (List.mem_singleton.mp hp) ⟨_,rfl⟩
  have bv:=bn.as (zD T K c2 c3 c4 SL I J V n3 n4 mb st tU tD pU pD rU rD) sq
  refine da_ G (P:=fun i σ ω=>ω= []∧(∀p∈(zD T K c2 c3 c4 SL I J V n3 n4 mb st tU tD pU pD rU rD),p∈σ)) (B:=fun _ _=>False) (o:=bP_) bv a hp (bz_ (dK_ G N.range) (ac_ (ad_ G) ag_) (dj_ G)) (c4_ G (n:=2) (by exact of_eq_true (eq_true_of_decide (Eq.refl true)))) ⟨rfl,fun p h=>h⟩
   (fun i pv σ' ω' hT fx M' s' E' v hi hP hp' S' hr=> ?_) (fun σ' ω' s' E' hP S'=> ?_) (fun _ _ _ h=>h.elim) (fun v σ' s' S' r=>(aK_ r).elim)
  ·(refine X0_2 hP fun q5 dx=> ?_; subst q5)
   (refine X0_2 (hs_ hi) fun bB q6=> ?_; subst q6)
   have e6:=S'.as _ dx
   refine b0_ G kC (by decide) a e6 hr fun cV b6=> ?_
   -- TURN
   obtain ⟨md,x,nm,m,de,dj,bf,cB,eF,em,⟨a_,aO,aP,aU,bb,bj⟩⟩:∃(md:Int) (x nm:List Nat) (m:Nat),at? (V.map rwP) (i:Int)=some (rwP (md,lS x))∧lix [lS n3,lS n4] ⟨#[]⟩ ((i:Nat):Int)=lS nm∧x.length=10∧nm=nmL x J I∧(∀c∈nm,c∈colN)∧(bsl mb (some ((I:Int)*(i:Int))) (some ((I:Int)*(i:Int)+(I:Int)))).toList.map (fun c=>c.toNat)=nm.reverse∧jM_ SL rU rD nm m:=by
    have:i=0∨i=1:=by exact O422 bB
    rcases this with rfl | rfl
    ·refine I4_1 (cH_ c3) x3 n3 m3 ⟨?_,rfl,a7,aD,by exact sb aD bI, ?_,by exact sb aD cK⟩
     ·refine sb an (sy aL ?_); rfl
     ·have:=dr
      rw [← aD,← aA,← bD] at this
      exact this
    ·refine I4_1 (cH_ c4) x4 n4 m4 ⟨?_,rfl,a6,aA,by exact sb aA bH, ?_,by exact sb aA d0⟩
     ·refine sb an (sy aQ ?_); rfl
     ·have:=dw
      rw [← aD,← aA,← bD] at this
      exact this
   have cc:nm.length=I:=by exact sb cB (er_ bf am)
   have aI:nm.length≤6:=by exact O423 ao cc
   have hS:∀(O name:Str),(∀c∈O.cps.toList,chS c= "U"∨chS c= "D")→name.length≤100→aC_ g (k+3) Y.stands.f [.str O,dUD (rdP rU) (rdP rD), .str name] (.bool (aQ_ rU rD O name)):=fun O name h1 h2=>
    gv_ (k:=k+2) G Y.N Y.stands.at_ h1 h2 aa.rl ab.rl
   have dy:∀O:Str,(∀c∈O.cps.toList,chS c= "U"∨chS c= "D")→aC_ g (k+3) Y.stands.f [.str O,dUD (rdP rU) (rdP rD), .str (lix [lS n3,lS n4] ⟨#[]⟩ ((i:Nat):Int))] (.bool (aQ_ rU rD O (lS nm))):=fun O h=>by
    refine sb dj ?_; exact hS O _ h (by exact sb (ao_ ..) (Nat.le_trans aI (Nat.le_of_ble_eq_true rfl)))
   have df:∀O:Str,(∀c∈O.cps.toList,chS c= "U"∨chS c= "D")→aC_ g (k+3) Y.stands.f [.str O,dUD (rdP rU) (rdP rD), .str (lS nm.reverse)] (.bool (aQ_ rU rD O (lS nm.reverse))):=fun O h=>
    hS O _ h (by exact sb (ao_ ..) (sb (List.length_reverse ..) (Nat.le_trans aI (Nat.le_of_ble_eq_true rfl))))
   have cz:∀l:List Nat,Txt.join "" (l.map chS)=lS l:=fun l=>by
    have e:l.map chS=(l.map fun c=> [c]).map lS:=by refine sb List.map_map ?_; rfl
    refine sb (e ..) (sb (do_ ..) ?_)
    congr 1
    induction l with
    | nil => rfl
    | cons a r ih => refine sb List.map_cons (sb List.flatten_cons (sb (ih (by refine sb List.map_map ?_; rfl)) ?_)); rfl
   have dm:(bsl mb (some ((I:Int)*(i:Int))) (some ((I:Int)*(i:Int)+(I:Int)))).toList.length≤12:=by
    have:=PySem.W.KBc.size_picked_le mb (some ((I:Int)*(i:Int))) (some ((I:Int)*(i:Int)+(I:Int)))
    simp only [Array.length_toList]
    exact Nat.le_trans this (by exact O425 bE cc aI)
   have ej:Txt.join "" (((bsl mb (some ((I:Int)*(i:Int))) (some ((I:Int)*(i:Int)+(I:Int)))).toList.filter fun _=>true).map fun c=>chS c.toNat)=lS nm.reverse:=by
    refine sy (em ..) (sy (cz ..) (sb (List.map_map ..) (sb (List.filter_eq_self.mpr (fun _ _=>rfl) ..) ?_))); rfl
   refine al_ (pv:= .str (lS nm.reverse)) G b6 a (cS_ (congrArg PV.str ej) (ce_ (ah_ G) (bi_ PySem.F.slot_str_join PySem.F.type_str_join) (ac_
    (a5_ (ι:=ocP) G ocK m8_ (eP_ G (aa_ (uQ (iX 6 rfl))) (aJ_ G (aq_ (ae_ (aa_ (uQ (iX 2 rfl))) (aa_ ab_) (dV_ G (fi_ (by rcases ao with h | h | h <;>refine sb h ?_ <;>decide+kernel))))) (aq_ (ae_ (ae_ (aa_ (uQ (iX 2 rfl))) (aa_ ab_) (dV_ G (fi_ (by rcases ao with h | h | h <;>refine sb h ?_ <;>decide+kernel)))) (aa_ (uQ (iX 2 rfl))) (a6_ G))) ap_) (by simp only [sizeLine]; exact O426 bE cc aI)) (kG_ G) (by simp only [sizeLine]; exact Nat.le_trans dm (Nat.le_of_ble_eq_true rfl)) (cl:= []) rfl (b:=fun _=>true) (σc:= []) (σt:=fun c=>upd "octet" (ocP c) []) (f:=fun c=>chS c.toNat)
     (bp_ aV_ (fun c _ C=>aI_ G rfl) (fun c=>cr_ (by rfl)) (fun c _ X C=>bl_) (fun c _ _ X C=> ?mi1) (fun x c h=>nomatch h))) ag_) (b5_ G ?mi2))) kL (fun cx bh=> ?_)
   case mi1=>
    exact (ar_ (bW_ G N.chr) (ac_ (aa_ (iX 0 rfl)) ag_) (m6_ G (by have:=UInt8.toNat_lt c; simp; exact O428 this)))
   case mi2=>exact bH_ 1 12 (eY_ fun c _ _=>by exact Nat.le_refl _) (Nat.le_trans (dX_ _ _ _) dm) (by decide)
   -- WORDS
   have dt:Txt.join "" ((nm.filter fun _=>true).map fun c=>bif ((SL.map chS).any fun y=>y==chS c) then ("U" :Str) else "D")=lS (imgL SL nm):=by
    unfold imgL
    refine sy (cz ..) (sb (List.map_map ..) (sb (List.filter_eq_self.mpr (fun _ _=>rfl) ..) ?_))
    congr 1
    refine List.map_congr_left fun c _=> ?_
    have e:((SL.map chS).any fun y=>y==chS c)=SL.contains c:=by
     refine sb List.any_map (sb List.contains_eq_any_beq ?_)
     congr 1
     funext y
     refine (?_:(lS [y]==lS [c])=_)
     refine sb (cM_ ..) ?_
     refine (?_:(y==c && true)=_)
     refine sb (Bool.and_true ..) ?_
     exact BEq.comm
    refine (?_:(bif ((SL.map chS).any fun y=>y==chS c) then ("U" :Str) else "D")=chS (if SL.contains c=true then 85 else 68))
    refine sb e ?_
    cases SL.contains c <;>decide
   have bZ:(imgL SL nm).length≤6:=by unfold imgL; exact sb (List.length_map ..) aI
   have ek:aC_ g (k+3) Y.words.f [.str (lS (imgL SL nm))] (.lst (txts (bY_ (imgL SL nm)))):=by
    have:=hN_ (k:=k+2) (image:=lS (imgL SL nm)) G Y.N Y.words.at_ (by exact sb (ao_ ..) bZ)
    simp only [a3_] at this
    exact this
   refine wpQ fun Q hQ=> ?_
   refine al_ (pv:= .lst (txts (bY_ (imgL SL nm)))) G bh a (az_ (bI_ G Y.words.gl) Y.words.at_.isFn (ac_ (cS_ (congrArg PV.str dt) (ce_ (ah_ G) (bi_ PySem.F.slot_str_join PySem.F.type_str_join) (ac_
    (a5_ (l:=nm) (ι:=chP) G chK dZ_ (cS_ (congrArg PV.str (iB_ bf am)) (ax_ G (gX_ (ay_ (aa_ (uQ (uQ (iX 4 rfl)))) (aa_ (uQ ab_)) (by exact O429 bB) de) (ad_ G) (by exact O419) rfl) (aJ_ G (aq_ (aa_ (uQ (uQ (iX 3 rfl))))) (aq_ (ae_ (aa_ (uQ (uQ (iX 3 rfl)))) (aa_ (uQ (uQ (iX 2 rfl)))) (a6_ G))) ap_) (by decide) (Nat.le_trans (bm_ _ _ _) (by refine sb (ao_ ..) ?_; simp only [sizeLine]; exact O411 bf)))) (fun X=>by exact sb cB (dE_ G)) (by simp only [sizeLine]; exact Nat.le_trans aI (Nat.le_of_ble_eq_true rfl)) (cl:= [("inner",L+3)]) rfl (b:=fun _=>true) (σc:= [("inner", .lst (txts (SL.map chS)))]) (σt:=fun c=>upd "sign" (chP c) [("inner", .lst (txts (SL.map chS)))]) (f:=fun c=>bif ((SL.map chS).any fun y=>y==chS c) then "U" else "D")
     (bp_ (aN_ (uQ (uQ (iX 1 rfl))) aV_) (fun c _ C=>aI_ G rfl) (fun c=>cr_ (by rfl)) (fun c _ X C=>bl_) (fun c _ _ X C=> ?wi1) (du_ (ba_ rfl cf_)))) ag_) (b5_ G ?wi2))) ag_) ek) kC (fun cu aW=> ?_)
   case wi1=>exact (cp_ (ai_ (aa_ ab_) (aa_ (uQ (iX 0 rfl))) eH_) (fun _=>(ah_ G)) (fun _=>(ah_ G)))
   case wi2=>exact bH_ 1 6 (eY_ fun c _ _=>by cases ((SL.map chS).any fun y=>y==chS c) <;>exact Nat.le_refl _) (Nat.le_trans (dX_ _ _ _) aI) (by decide)
   obtain ⟨W,hW⟩:∃W,W=bY_ (imgL SL nm):=⟨_,rfl⟩
   have cA:∀c∈imgL SL nm,c=85∨c=68:=fun c hc=>by
    unfold imgL at hc
    (refine X1_2 (List.mem_map.mp hc) fun d _ q7=> ?_; subst q7)
    cases SL.contains d
    ·exact .inr rfl
    ·exact .inl rfl
   refine X0_2 (k7_ (imgL SL nm) [""] 0 (fun w hw=>by exact sb (List.mem_singleton.mp hw) (Nat.le_refl _))) fun dX dZ=> ?_
   have aK:∀w∈W,w.length≤6:=fun w hw=>by rw [hW] at hw; have:=dX w hw; exact O218 this bZ
   have aT:W.length≤64:=by
    refine sb hW ?_
    refine Nat.le_trans dZ ?_
    have:=Nat.pow_le_pow_right (n:=2) (by decide) bZ
    simpa using this
   have cp:∀w∈W,∀c∈w.cps.toList,c=85∨c=68:=by exact sb hW (mR_ _ cA)
   have bA:∀{c:Nat},c=85∨c=68→chS c= "U"∨chS c= "D" :=fun h=>by
    rcases h with rfl | rfl
    ·exact .inl (by decide)
    ·exact .inr (by decide)
   have dv:∀w∈W,∀c∈w.cps.toList,chS c= "U"∨chS c= "D" :=fun w hw c hc=>bA (cp w hw c hc)
   rw [← hW] at aW
   have dg:∀c∈UDs,∀d∈(chS c).cps.toList,chS d= "U"∨chS d= "D" :=fun c hc d hd=>by
    obtain rfl:=List.mem_singleton.mp hd
    refine bA ?_
    rcases List.mem_cons.mp hc with rfl | hc
    ·exact .inl rfl
    ·exact .inr (List.mem_singleton.mp hc)
   have dJ:(((UDs.filter fun c=>aQ_ rU rD (chS c) (lS nm)).map chS) !=((UDs.filter fun c=>W.any fun y=>y==chS c).map chS))=false:=by
    refine sb hW (sb a_ ?_); simp
   refine aX_ (b:=false) aW a (eZ_ dJ ?tc) (fun h=>nomatch h) (fun _ cv aS=>af_ ?_)
   case tc=>
    refine ai_ (a5_ (l:=UDs) (ι:=chP) G chK dZ_ (ah_ G) (fun X=>dE_ G) (by decide) rfl (b:=fun c=>aQ_ rU rD (chS c) (lS nm)) (σc:= [("reads",dUD (rdP rU) (rdP rD)),("names", .lst (txts [lS n3,lS n4])),("n", .int (i:Int))]) (σt:=fun c=>upd "side" (chP c) [("reads",dUD (rdP rU) (rdP rD)),("names", .lst (txts [lS n3,lS n4])),("n", .int (i:Int))]) (f:=chS)
      (bp_ (aN_ (uQ (uQ (uQ (iX 11 rfl)))) (aN_ (uQ (uQ (uQ (iX 5 rfl)))) (aN_ (uQ (uQ ab_)) aV_))) (fun c _ C=>aI_ G rfl) (fun c=>cr_ (by rfl)) (fun c hc X C=> ?sc1) (fun c _ _ X C=> ?sc2) (du_ ?sc3)))
     (a5_ (l:=UDs) (ι:=chP) G chK dZ_ (ah_ G) (fun X=>dE_ G) (by decide) rfl (b:=fun c=>W.any fun y=>y==chS c) (σc:= [("words", .lst (txts W))]) (σt:=fun c=>upd "side" (chP c) [("words", .lst (txts W))]) (f:=chS)
      (bp_ (aN_ ab_ aV_) (fun c _ C=>aI_ G rfl) (fun c=>cr_ (by rfl)) (fun c hc X C=> ?sd1) (fun c _ _ X C=> ?sd2) (du_ ?sd3))) dM_
    case sc3=>first | exact ba_ rfl (ba_ rfl (ba_ rfl cf_))
    case sd3=>first | exact ba_ rfl cf_
    case sc1=>exact be_ (by_ (az_ (bI_ G Y.stands.gl) Y.stands.at_.isFn (ac_ (aa_ ab_) (ac_ (aa_ (uQ (iX 0 rfl))) (ac_ (a9_ (aa_ (uQ (iX 1 rfl))) (aa_ (uQ (iX 2 rfl))) (And.intro (by exact O403) (by refine (?_:(i:Int) < ((2:Nat):Int)); exact Int.ofNat_lt.mpr (Nat.lt_of_succ_le bB))) (by refine (?_:(2:Nat) < _); decide)) ag_))) (dy _ (dg c hc))) ch_)
    case sc2=>exact (aa_ ab_)
    case sd1=>exact be_ (ai_ (aa_ ab_) (aa_ (uQ (iX 0 rfl))) eH_)
    case sd2=>exact (aa_ ab_)
   -- MOST
   have dq:∀w∈W,(ssl w none none (some (-1))).length≤sizeLine:=fun w hw=>by
    refine sb (iA_ ..) ?_
    exact Nat.le_trans (Nat.le_of_eq (ao_ _)) (by refine sb List.length_reverse ?_; have:w.cps.toList.length≤6:=aK w hw; simp only [sizeLine]; exact Nat.le_trans this (Nat.le_of_ble_eq_true rfl))
   have cg:=aO
   replace cg:=Eq.symm hW▸cg
   refine X1_3 cg fun w0 c5 cy du=> ?_
   have bw:(m:Int)∈(W.filter palS).map fun w=>(w.length:Int):=List.mem_map.mpr ⟨w0,List.mem_filter.mpr ⟨c5,cy⟩,by exact sb du rfl⟩
   have cQ:∀b∈(W.filter palS).map fun w=>(w.length:Int),b≤(m:Int):=fun b hb=>by
    (refine X1_2 (List.mem_map.mp hb) fun w hw q8=> ?_; subst q8)
    refine X0_2 (List.mem_filter.mp hw) fun h1 h2=> ?_
    have:=aP w (by exact sy hW h1) h2
    exact O432 this
   refine al_ (pv:= .int (m:Int)) G aS a (ar_ (bW_ G N.max) (ac_ (kP_ (ι:=PV.str) G stK dS_ (aa_ ab_) (bZ_ G) (by simp only [sizeLine]; exact O219 aT) (cl:= []) rfl (b:=palS) (σc:= []) (σt:=fun w=>upd "word" (.str w) []) (f:=fun w=>(w.length:Int))
     (bp_ aV_ (fun w _ C=>aI_ G rfl) (fun w=>cr_ (by rfl)) (fun w hw X C=> ?mo1) (fun w hw _ X C=> ?mo2) (fun x c h=>nomatch h))) ag_) (m5_ G (List.length_pos_of_mem bw) bw cQ)) kC (fun eB bx=> ?_)
   case mo1=>exact be_ (ai_ (aa_ (iX 0 rfl)) (ax_ G (aa_ (iX 0 rfl)) (aJ_ G ap_ ap_ (aq_ (cR_ (ad_ G) (bO_ G)))) (by decide) (dq w hw)) aY_)
   case mo2=>exact (ar_ (bW_ G N.len) (ac_ (aa_ (iX 0 rfl)) ag_) (bh_ G (by have:=aK w hw; exact O228 this)))
   refine cZ_ (f:=fun w=> .str w) (ι:=PV.str) G stK bx a hp' dS_ (aa_ (uQ ab_)) (bZ_ G) (by simp only [sizeLine]; exact O219 aT) (cl:= [("most",L+12)]) rfl (b:=fun w=>palS w && ((w.length:Int)==(m:Int))) (σc:= [("most", .int (m:Int))]) (σt:=fun w=>upd "word" (.str w) [("most", .int (m:Int))])
    (bp_ (aN_ ab_ aV_) (fun w _ C=>aI_ G rfl) (fun w=>cr_ (by rfl)) (fun w hw X C=> ?bo1) (fun w hw _ X C=> ?bo2) (du_ (ba_ rfl cf_))) (fun cM aX=> ?_)
   case bo1=>exact be_ (b7_ (ai_ (aa_ ab_) (ax_ G (aa_ ab_) (aJ_ G ap_ ap_ (aq_ (cR_ (ad_ G) (bO_ G)))) (by decide) (dq w hw)) aY_) (fun _=>(ai_ (ar_ (bW_ G N.len) (ac_ (aa_ ab_) ag_) (bh_ G (by have:=aK w hw; exact O228 this))) (aa_ (uQ (iX 0 rfl))) ca_)))
   case bo2=>exact (aa_ ab_)
   generalize dU:(W.filter fun w=>palS w && ((w.length:Int)==(m:Int)))=P at aX
   have hP:=dU.symm
   have cI:0 < P.length:=by
    refine sb hP ?_
    exact List.length_pos_of_mem (List.mem_filter.mpr ⟨c5,by refine sb cy (sb du ?_); simp⟩)
   have dh:P.length≤64:=by exact sb hP (Nat.le_trans (List.length_filter_le _ _) aT)
   have c_:=aF_ (Int.fmod (Int.fdiv K 100) 10) (b:=(P.length:Int)) (by exact O433 cI)
   have cZ:=i5_ (l:=P) (d:=(⟨#[]⟩:Str)) (i:=Int.fmod (Int.fmod (Int.fdiv K 100) 10) (P.length:Int)) (by exact O434 c_)
   obtain ⟨b,hb⟩:∃b,b=lix P ⟨#[]⟩ (Int.fmod (Int.fmod (Int.fdiv K 100) 10) (P.length:Int)):=⟨_,rfl⟩
   rw [← hb,hP] at cZ
   refine X0_2 (List.mem_filter.mp cZ) fun ba cY=> ?_
   rw [Bool.and_eq_true,beq_iff_eq] at cY
   refine X0_2 cY fun bX d_=> ?_
   have bM:b.length=m:=by exact O241 d_
   have aB:2≤b.length:=by exact sb bM aU
   have aN:=aK b ba
   refine al_ (pv:= .str b) G aX a (cS_ (congrArg PV.str hb.symm) (a9_ (aa_ ab_) (ae_ (ae_ (ae_ (ay_ (aa_ (uQ (uQ (uQ (uQ (uQ (iX 0 rfl))))))) (ad_ G) (by exact O419) rfl) (ad_ G) (cc_ G (by decide) (PyProof.noPylong_small (by decide)))) (ad_ G) (bj_ G (by decide))) (ar_ (bW_ G N.len) (ac_ (aa_ ab_) ag_) (df_ G (by exact O435 dh))) (bj_ G (by exact O436 cI))) (by exact O434 c_) (by exact Nat.lt_of_le_of_lt dh (Nat.lt_of_sub_eq_succ rfl)))) kL (fun dk bm=> ?_)
   have dD:=cp b ba
   have cC:=dv b ba
   have b5:∀c,lpTx (lS pU) (lS pD) (chS c)=lS (ptC pU pD c):=fun c=>by refine sb i1_ ?_; rfl
   have cG:∀c,(ptC pU pD c).length≤100:=fun c=>by unfold ptC; split; exact aa.pl; exact ab.pl
   have en:((b.cps.toList.filter fun _=>true).map fun c=>("(?>.*?" ++lpTx (lS pU) (lS pD) (chS c))++ ")")=b.cps.toList.map (cu_ (ptC pU pD)):=by
    simp only [List.filter_eq_self.mpr (fun _ _=>rfl)]
    exact List.map_congr_left fun c _=>by unfold cu_; exact sb (b5 ..) rfl
   have cj:("(?>.*?" :Str).length=6:=by decide
   have dz:(")" :Str).length=1:=by decide
   have c6:∀c,(lpTx (lS pU) (lS pD) (chS c)).length≤100:=fun c=>by exact sb (b5 ..) (sb (ao_ ..) (cG c))
   refine cZ_ (f:=fun c=> .str (("(?>.*?" ++lpTx (lS pU) (lS pD) (chS c))++ ")")) (ι:=chP) G chK bm a hp' dZ_ (aa_ ab_) (cm_ G) (by refine (?_:b.length≤_); simp only [sizeLine]; exact Nat.le_trans aN (Nat.le_of_ble_eq_true rfl)) (cl:= [("parts",L+8)]) rfl (b:=fun _=>true) (σc:= [("parts",dUD (.lst [.str (lS pU)]) (.lst [.str (lS pD)]))]) (σt:=fun c=>upd "side" (chP c) [("parts",dUD (.lst [.str (lS pU)]) (.lst [.str (lS pD)]))])
     (bp_ (aN_ (uQ (uQ (uQ (uQ (uQ (uQ (iX 10 rfl))))))) aV_) (fun c _ C=>aI_ G rfl) (fun c=>cr_ (by rfl)) (fun c _ X C=>bl_) (fun c hc _ X C=> ?he1) (du_ (ba_ rfl cf_))) (fun cO aC=> ?_)
   case he1=>exact (ae_ (ae_ (ah_ G) (fr_ G (aa_ (uQ (iX 0 rfl))) (aa_ ab_) (cC c hc)) (aB_ G (by refine sb cj ?_; have:=c6 c; simp only [sizeLine]; exact O438 this))) (ah_ G) (aB_ G (by refine sb (ak_ ..) (sb (cj ..) (sb (dz ..) ?_)); have:=c6 c; simp only [sizeLine]; exact O439 this)))
   rw [d7_ (fun c=>("(?>.*?" ++lpTx (lS pU) (lS pD) (chS c))++ ")"),en] at aC
   -- PATTERN
   obtain ⟨bl,aE⟩:∃bl,bl=b.cps.toList:=⟨_,rfl⟩
   have bd:b=lS bl:=by exact sb aE rfl
   have R:b.length=bl.length:=by refine sb aE ?_; rfl
   obtain ⟨fp,a8⟩:∃fp,fp=ptC pU pD:=⟨_,rfl⟩
   rw [← a8,← aE] at aC
   have c9:∀{L:List Nat} {t:Str} {it:It} {p:List Nat} {r:Rdg},Side L t it p r→t.length≤70:=fun h=>by exact sb (h.txt ..) (sb (ao_ ..) h.tl)
   have cF:∀w∈W,∀j:Nat,j < w.length→six w j= "U"∨six w j= "D" :=fun w hw j hj=>by
    refine sb (bS_ ..) ?_
    refine bA (cp w hw _ ?_)
    refine sb (List.getD_eq_getElem?_getD) (sb (List.getElem?_eq_getElem (show j < w.cps.toList.length from hj)) ?_)
    exact List.getElem_mem _
   have db:∀w∈W,aC_ g (k+3) Y.pattern.f [.str w,dUD (.str tU) (.str tD), .int (Int.fdiv K 1000)] (.str (cb_ tU tD (Int.fdiv K 1000) w w.length)):=fun w hw=>
    fT_ (k:=k+2) G Y.N Y.pattern.at_ (aK w hw) (cF w hw) (by have:=c9 aa; exact Nat.le_trans this (Nat.le_of_ble_eq_true rfl)) (by have:=c9 ab; exact Nat.le_trans this (Nat.le_of_ble_eq_true rfl))
   have ev:=db b ba
   refine al_ (pv:= .str (cb_ tU tD (Int.fdiv K 1000) b b.length)) G aC a (az_ (bI_ G Y.pattern.gl) Y.pattern.at_.isFn (ac_ (aa_ (uQ ab_)) (ac_ (aa_ (uQ (uQ (uQ (uQ (uQ (uQ (uQ (iX 8 rfl))))))))) (ac_ (aa_ (uQ (uQ (uQ (uQ (uQ (uQ (uQ (iX 9 rfl))))))))) ag_))) ev) kL (fun cw ap=> ?_)
   have eg:aC_ g (k+3) Y.trans.f [.str (cb_ tU tD (Int.fdiv K 1000) b b.length)] (.str (gT_ fp bl)):=by
    have:=kA_ (k:=k) (gaps:=Int.fdiv K 1000) (w:=bl) aa ab Y G (by exact le_of_le_of_eq aB R) (by exact O442 R aN)
    rw [← bd,← R,← a8] at this
    exact this
   have e7:aC_ g (k+3) Y.trans.f [.str (Txt.stripChars (cb_ tU tD (Int.fdiv K 1000) b b.length) "*")] (.str (ha_ fp bl)):=by
    have:=kB_ (k:=k) (gaps:=Int.fdiv K 1000) (w:=bl) aa ab Y G (by exact le_of_le_of_eq aB R) (by exact O442 R aN)
    rw [← bd,← R,← a8] at this
    exact this
   have bk:∀c,(fp c).length≤100:=fun c=>by exact sb a8 (cG c)
   have bG:∀y∈bl.map (cu_ fp),y.length≤107:=fun y hy=>by
    (refine X1_2 (List.mem_map.mp hy) fun c _ q9=> ?_; subst q9)
    unfold cu_
    refine sb (ak_ ..) (sb (ak_ ..) (sb (cj ..) (sb (dz ..) (sb (ao_ ..) ?_))))
    have:=bk c
    exact O443 this
   have aG:(bl.map (cu_ fp)).length≤6:=by exact sb (List.length_map ..) (O442 R aN)
   have da:(Txt.join "" (bl.map (cu_ fp))).length≤642:=dp_ 107 6 bG aG
   have q1:("(?s:" :Str).length=4:=by decide
   have q2:(".*)\\Z" :Str).length=5:=by decide
   have q3:(")\\Z" :Str).length=3:=by decide
   have q4:(".*" :Str).length=2:=by decide
   have dC:((gT_ fp bl !=(("(?s:" ++Txt.join "" (bl.map (cu_ fp)))++ ".*)\\Z")) || !true)=false:=by unfold gT_; simp
   have ee:aC_ g (k+3) Y.stands.f [.str b,dUD (rdP rU) (rdP rD), .str (lS nm.reverse)] (.bool true):=by
    have:=df b cC
    rw [bb b (by exact sy hW ba) bX bM] at this
    exact this
   refine aX_ (b:=false) ap a (eZ_ dC (dr_ (ai_ (az_ (bI_ G Y.trans.gl) Y.trans.at_.isFn (ac_ (aa_ ab_) ag_) eg) (ae_ (ae_ (ah_ G) (ce_ (ah_ G) (bi_ PySem.F.slot_str_join PySem.F.type_str_join) (ac_ (aa_ (uQ ab_)) ag_) (b5_ G (bH_ 107 6 bG aG (by decide)))) (aB_ G (by refine sb q1 ?_; simp only [sizeLine]; exact O444 da))) (ah_ G) (aB_ G (by refine sb (ak_ ..) (sb (q1 ..) (sb (q2 ..) ?_)); simp only [sizeLine]; exact O445 da))) eG_) (fun _=>(dg_ (by_ (az_ (bI_ G Y.stands.gl) Y.stands.at_.isFn (ac_ (aa_ (uQ (uQ ab_))) (ac_ (aa_ (uQ (uQ (uQ (uQ (uQ (uQ (uQ (uQ (iX 11 rfl)))))))))) (ac_ (aa_ (uQ (uQ (uQ (uQ (uQ (uQ ab_))))))) ag_))) ee) ch_))))) (fun h=>nomatch h) (fun _ bi al=>af_ ?_)
   have e0:lpTx (lS pU) (lS pD) (six b 0)=lS (fp (bl.headD 0)):=by
    have h:=bS_ b 0
    have e:b.cps.toList.getD 0 0=bl.headD 0:=by refine sy aE ?_; cases bl <;>rfl
    rw [e] at h
    simp only [show (0:Int)=((0:Nat):Int) from rfl,h,b5,a8]
   have e9:lpTx (lS pU) (lS pD) (six b (-1))=lS (fp (bl.getLastD 0)):=by exact sb (bd ..) (sb (eb_ ..) (sb (b5 ..) (sb (a8 ..) rfl)))
   have u0:six b 0= "U"∨six b 0= "D" :=cF b ba 0 (by exact Nat.zero_lt_of_lt aB)
   have u9:six b (-1)= "U"∨six b (-1)= "D" :=by
    refine sb (bd ..) (sb (eb_ ..) ?_)
    refine bA (dD _ ?_)
    refine sy aE ?_
    cases hq:bl with
    | nil => rw [hq] at R; simp at R; exact (O447 aB R).elim
    | cons x r => exact sb List.getLastD_cons (List.getLastD_mem_cons ..)
   have aR:(Txt.join "" (lsl (bl.map (cu_ fp)) (some 1) (some (-1)) none)).length≤642:=dp_ 107 6 (fun y hy=>bG y (iV_ hy)) (Nat.le_trans (iX_ _ _ _) aG)
   have el:((lpTx (lS pU) (lS pD) (six b 0)++Txt.join "" (lsl (bl.map (cu_ fp)) (some 1) (some (-1)) none))++ ".*")++lpTx (lS pU) (lS pD) (six b (-1))=((lS (fp (bl.headD 0))++Txt.join "" (lsl (bl.map (cu_ fp)) (some 1) (some (-1)) none))++ ".*")++lS (fp (bl.getLastD 0)):=by exact sb e0 (sb e9 rfl)
   have y0:(lpTx (lS pU) (lS pD) (six b 0)).length≤100:=by exact sb (e0 ..) (sb (ao_ ..) (bk _))
   have y9:(lpTx (lS pU) (lS pD) (six b (-1))).length≤100:=by exact sb (e9 ..) (sb (ao_ ..) (bk _))
   refine al_ (pv:= .str (((lS (fp (bl.headD 0))++Txt.join "" (lsl (bl.map (cu_ fp)) (some 1) (some (-1)) none))++ ".*")++lS (fp (bl.getLastD 0)))) G al a (cS_ (congrArg PV.str el) (ae_ (ae_ (ae_ (fr_ G (aa_ (uQ (uQ (uQ (uQ (uQ (uQ (uQ (uQ (iX 10 rfl)))))))))) (av_ G (aa_ (uQ (uQ ab_))) (ad_ G) (by exact O448 aB) (by exact Nat.lt_of_le_of_lt aN (Nat.lt_of_sub_eq_succ rfl))) u0) (ce_ (ah_ G) (bi_ PySem.F.slot_str_join PySem.F.type_str_join) (ac_ (fq_ G (aa_ (uQ ab_)) (aJ_ G (aq_ (ad_ G)) (aq_ (cR_ (ad_ G) (bO_ G))) ap_) (by decide) (Nat.le_trans aG (by decide))) ag_) (b5_ G (bH_ 107 6 (fun y hy=>bG y (iV_ hy)) (Nat.le_trans (iX_ _ _ _) aG) (by decide)))) (aB_ G (by simp only [sizeLine]; exact O449 y0 aR))) (ah_ G) (aB_ G (by refine sb (ak_ ..) (sb (q4 ..) ?_); simp only [sizeLine]; exact O450 y0 aR))) (fr_ G (aa_ (uQ (uQ (uQ (uQ (uQ (uQ (uQ (uQ (iX 10 rfl)))))))))) (av_ G (aa_ (uQ (uQ ab_))) (cR_ (ad_ G) (bO_ G)) (by exact O451 aB) (by exact Nat.lt_of_le_of_lt aN (Nat.lt_of_sub_eq_succ rfl))) u9) (aB_ G (by refine sb (ak_ ..) (sb (ak_ ..) (sb (q4 ..) ?_)); simp only [sizeLine]; exact O452 y0 aR y9)))) kL (fun bc aq=> ?_)
   have bJ:(((lS (fp (bl.headD 0))++Txt.join "" (lsl (bl.map (cu_ fp)) (some 1) (some (-1)) none))++ ".*")++lS (fp (bl.getLastD 0))).length≤844:=by
    have h1:(lS (fp (bl.headD 0))).length≤100:=Nat.le_trans (Nat.le_of_eq (ao_ _)) (bk _)
    have h2:(lS (fp (bl.getLastD 0))).length≤100:=Nat.le_trans (Nat.le_of_eq (ao_ _)) (bk _)
    refine sb (ak_ ..) (sb (ak_ ..) (sb (ak_ ..) (sb (q4 ..) ?_)))
    exact O453 h1 aR h2
   have ea:(ha_ fp bl !=("(?s:" ++(((lS (fp (bl.headD 0))++Txt.join "" (lsl (bl.map (cu_ fp)) (some 1) (some (-1)) none))++ ".*")++lS (fp (bl.getLastD 0))))++ ")\\Z")=false:=by unfold ha_; simp
   have co:(cb_ tU tD (Int.fdiv K 1000) b b.length).length≤sizeLine:=by
    have h1:=hv_ (gaps:=Int.fdiv K 1000) (w:=bl) aa ab (bl.length - 1)
    have h2:=gC_ (gaps:=Int.fdiv K 1000) (w:=bl) aa ab (bl.length - 1) (by exact O454 R aN)
    rw [show bl.length - 1+1=bl.length by exact O455 aB R,← R,← bd] at h1
    rw [show bl.length - 1+1=bl.length by exact O455 aB R,← R] at h2
    refine sb h1 ?_
    exact Nat.le_trans (Nat.le_of_eq (ao_ _)) (Nat.le_trans h2 (by decide))
   refine aX_ (b:=false) aq a (eZ_ ea (ai_ (az_ (bI_ G Y.trans.gl) Y.trans.at_.isFn (ac_ (ce_ (aa_ (uQ ab_)) (bi_ PySem.F.slot_str_strip PySem.F.type_str_strip) (ac_ (ah_ G) ag_) (kl_ G co)) ag_) e7) (ae_ (ae_ (ah_ G) (aa_ ab_) (aB_ G (by refine sb q1 ?_; simp only [sizeLine]; exact O456 bJ))) (ah_ G) (aB_ G (by refine sb (ak_ ..) (sb (q1 ..) (sb (q3 ..) ?_)); simp only [sizeLine]; exact O457 bJ))) eG_)) (fun h=>nomatch h) (fun _ bt az=>af_ ?_)
   -- INNER
   have ak:=az.as (zE T K c2 c3 c4 SL I J V n3 n4 mb st tU tD pU pD rU rD i nm W m) sq
   refine da_ G (items:=((W.filter fun w=>(w.length:Int)==(m:Int)+1).map fun w=>w).map PV.str) (P:=fun j σ ω=>ω= []∧(∀p∈(zE T K c2 c3 c4 SL I J V n3 n4 mb st tU tD pU pD rU rD i nm W m),p∈σ)) (B:=fun _ _=>False) (o:=bP_) ak a hp'
    (a5_ (ι:=PV.str) (f:=fun w=>w) G stK dS_ (aa_ (iX 14 rfl)) (bZ_ G) (by simp only [sizeLine]; exact O219 aT) (cl:= [("most",L+12)]) rfl (b:=fun w=>((w.length:Int)==(m:Int)+1)) (σc:= [("most", .int (m:Int))]) (σt:=fun w=>upd "word" (.str w) [("most", .int (m:Int))])
     (bp_ (aN_ (iX 15 rfl) aV_) (fun w _ C=>aI_ G rfl) (fun w=>cr_ (by rfl)) (fun w hw X C=> ?wo1) (fun w hw _ X C=> ?wo2) (du_ (ba_ rfl cf_)))) (bZ_ G) ⟨rfl,fun p h=>h⟩
    (fun j pv cr ce eu dM eK aF cH v hj aJ dK ag bW=> ?_) (fun cr ce aF cH aJ ag=> ?_) (fun _ _ _ h=>h.elim) (fun v σ' s' S' r=>(aK_ r).elim)
   case wo1=>exact be_ (ai_ (ar_ (bW_ G N.len) (ac_ (aa_ ab_) ag_) (bh_ G (by have:=aK w hw; exact O228 this))) (ae_ (aa_ (uQ (iX 0 rfl))) (ad_ G) (a6_ G)) ca_)
   case wo2=>exact (aa_ ab_)
   ·(refine X0_2 aJ fun er a9=> ?_; subst er)
    obtain ⟨w,b9,bC,rfl⟩:∃w,w∈W∧w.length=m+1∧pv= .str w:=by
     (refine X1_2 (List.mem_map.mp (List.mem_of_getElem? hj)) fun w hw eb=> ?_; subst eb)
     rw [List.map_id'] at hw
     refine X0_2 (List.mem_filter.mp hw) fun h1 h2=> ?_
     rw [beq_iff_eq] at h2
     exact I1_3 w h1 (by exact Eq.symm ((fun {m n}=>Int.ofNat_inj.mp) (id (Eq.symm h2)))) rfl
    have aw:=ag.as _ a9
    refine b0_ G kL (by decide) a aw bW fun dc a0=> ?_
    have bg:=aK w b9
    obtain ⟨wl,aV⟩:∃wl,wl=w.cps.toList:=⟨_,rfl⟩
    have dW:w=lS wl:=by exact sb aV rfl
    have ai:w.length=wl.length:=by refine sb aV ?_; rfl
    have fh:=aU
    have et:=db w b9
    have d3:aC_ g (k+3) Y.tf [.str (cb_ tU tD (Int.fdiv K 1000) w w.length), .ref st, .str "."] (.lst ((none::(trC fp wl wl.length++ [none])).map (tkL st))):=by
     have:=ky_ (k:=k+1) (gaps:=Int.fdiv K 1000) (w:=wl) aa ab Y G (by exact O459 ai bC) (by exact O442 ai bg) st
     rw [← dW,← ai,← a8] at this
     refine sy ai ?_
     exact this
    refine X0_2 (lA_ fp wl st (by exact O459 ai bC) (by exact O442 ai bg)) fun cW dl=> ?_
    obtain ⟨tl,bP⟩:∃tl,tl=(none::(trC fp wl wl.length++ [none])).map (tkL st):=⟨_,rfl⟩
    rw [← bP] at d3 cW dl
    have bN:tl.length≤sizeLine:=by
     obtain ⟨q,hq⟩:∃q,wl.length=q+1:=⟨wl.length - 1,by exact ai▸Eq.symm bC▸(fun {m k n}=>Nat.add_left_inj.mpr) rfl⟩
     have:=(e4_ (w:=wl) aa ab q).1
     refine sb (bP ..) (sb (List.length_map ..) (sb (List.length_cons ..) (sb (List.length_append ..) (sb (hq ..) (sb (a8 ..) (sb (this ..) ?_))))))
     simp only [sizeLine,List.length_cons,List.length_nil]; exact O461 hq ai bg
    refine wpQ fun Q dN=> ?_
    refine al_ (pv:= .lst tl) G a0 a (az_ (bI_ G Y.tgl) Y.tat.isFn (ac_ (az_ (bI_ G Y.pattern.gl) Y.pattern.at_.isFn (ac_ (aa_ ab_) (ac_ (aa_ (uQ (iX 8 rfl))) (ac_ (aa_ (uQ (iX 9 rfl))) ag_))) et) (ac_ (aa_ (uQ (iX 7 rfl))) (ac_ (ah_ G) ag_))) d3) kL (fun b0 au=> ?_)
    have cn:=dv w b9
    have dB:((wl.filter fun _=>true).map fun c=>lpTx (lS pU) (lS pD) (chS c))=wl.map fun c=>lS (fp c):=by
     simp only [List.filter_eq_self.mpr (fun _ _=>rfl)]
     exact List.map_congr_left fun c _=>by exact sb (b5 ..) (sb (a8 ..) rfl)
    have ep:(((wl.map fun c=>lS (fp c)) !=((wl.filter fun _=>true).map fun c=>lpTx (lS pU) (lS pD) (chS c))) || ((((List.replicate (wl.length+1) ()).filter fun _=>false).map fun _=>("" :Str)) !=([]:List Str)))=false:=by
     refine sb dB ?_
     have:((List.replicate (wl.length+1) ()).filter fun _=>false)= []:=List.filter_eq_nil_iff.mpr (fun _ _ h=>by exact (nomatch h))
     refine sb this ?_; simp
    refine aX_ (b:=false) au a (eZ_ ep (dr_ (ai_ (cS_ (congrArg PV.lst cW) (bB_ G (aa_ ab_) (aJ_ G (aq_ (ad_ G)) ap_ (aq_ (ad_ G))) (by decide) bN)) (a5_ (l:=wl) (ι:=chP) G chK dZ_ (aa_ (uQ ab_)) (fun X=>by exact sb aV (dE_ G)) (by simp only [sizeLine]; exact ai▸Nat.le_trans bg (by decide)) (cl:= [("parts",L+8)]) rfl (b:=fun _=>true) (σc:= [("parts",dUD (.lst [.str (lS pU)]) (.lst [.str (lS pD)]))]) (σt:=fun c=>upd "side" (chP c) [("parts",dUD (.lst [.str (lS pU)]) (.lst [.str (lS pD)]))]) (f:=fun c=>lpTx (lS pU) (lS pD) (chS c))
      (bp_ (aN_ (uQ (uQ (iX 10 rfl))) aV_) (fun c _ C=>aI_ G rfl) (fun c=>cr_ (by rfl)) (fun c _ X C=>bl_) (fun c hc _ X C=> ?tt1) (du_ (ba_ rfl cf_)))) dM_)
     (fun _=>ai_ (a5_ (l:=List.replicate (wl.length+1) ()) (ι:=fun _=>PV.ref st) (κ:=fun _=>()) G (fun _=>rfl) (cS_ (congrArg PV.lst dl) (bB_ G (aa_ ab_) (aJ_ G ap_ ap_ (aq_ (ad_ G))) (by decide) bN)) (fun X=>by exact sb List.map_replicate (dF_ G)) (by refine sb List.length_replicate ?_; simp only [sizeLine]; exact O463 ai bg) (cl:= [("star",L+7)]) rfl (b:=fun _=>false) (σc:= [("star", .ref st)]) (σt:=fun _=>upd "part" (.ref st) [("star", .ref st)]) (f:=fun _=>("" :Str))
      (bp_ (aN_ (uQ (uQ (iX 7 rfl))) aV_) (fun c _ C=>aI_ G rfl) (fun c=>cr_ (by rfl)) (fun c _ X C=> ?tt2) (fun c _ h X C=>(nomatch h)) (du_ (ba_ rfl cf_)))) (aT_ G aD_ (by show (0:Nat)≤sizeLine; decide)) (dM_ (ys:= []))))) (fun h=>nomatch h) (fun _ bu ay=>af_ ?_)
    case tt1=>exact (fr_ G (aa_ (uQ (iX 0 rfl))) (aa_ ab_) (cn c (by exact sy aV hc)))
    case tt2=>exact be_ (ai_ (aa_ (iX 0 rfl)) (aa_ (iX 1 rfl)) ct_)
    refine X0_2 (bj w (by exact sy hW b9) bC) fun dL ew=> ?_
    have e5:aC_ g (k+3) Y.stands.f [.str w,dUD (rdP rU) (rdP rD), .str (lix [lS n3,lS n4] ⟨#[]⟩ ((i:Nat):Int))] (.bool true):=by
     have:=dy w cn
     rw [dL] at this
     exact this
    have dP:aC_ g (k+3) Y.stands.f [.str w,dUD (rdP rU) (rdP rD), .str (lS nm.reverse)] (.bool false):=by
     have:=df w cn
     rw [ew] at this
     exact this
    refine aX_ (b:=false) ay a (dr_ (b:=false) (c:=false) (dg_ (by_ (az_ (bI_ G Y.stands.gl) Y.stands.at_.isFn (ac_ (aa_ (uQ ab_)) (ac_ (aa_ (uQ (uQ (iX 11 rfl)))) (ac_ (a9_ (aa_ (uQ (uQ (iX 5 rfl)))) (aa_ (uQ (uQ (iX 12 rfl)))) (And.intro (by exact O403) (by show (i:Int) < ((2:Nat):Int); exact Int.ofNat_lt.mpr (Nat.lt_of_succ_le bB))) (by show (2:Nat) < _; decide)) ag_))) e5) ch_)) (fun _=>(by_ (az_ (bI_ G Y.stands.gl) Y.stands.at_.isFn (ac_ (aa_ (uQ ab_)) (ac_ (aa_ (uQ (uQ (iX 11 rfl)))) (ac_ (aa_ (uQ (uQ (iX 13 rfl)))) ag_))) dP) ch_))) (fun h=>nomatch h) (fun _ b7 a1=>af_ ?_)
    exact af_ (dN _ _ (I3_3 [] _ [] ⟨rfl,sq⟩ a1 (fun _ _ h=>nomatch h)))
   ·(refine X0_2 aJ fun dE a9=> ?_; subst dE)
    exact af_ (af_ (hQ _ _ (I3_3 [] _ [] ⟨rfl,fun p hp=>a9 p (List.mem_append_left (bs:=([("n", .int (i:Int)),("mirror", .str (lS nm.reverse)),("words", .lst (txts W)),("most", .int (m:Int))]:List (Str×PV))) hp)⟩ ag (fun _ _ h=>nomatch h))))
  ·(refine X0_2 hP fun dQ dx=> ?_; subst dQ)
   exact af_ (aO_ S' a eC_ (fun v s' S' r=>S'.out r))
end
end Mine
end
section
namespace Mine
noncomputable def subq:List Nat→List Nat→Bool
 | [], _ => true
 | _ :: _, [] => false
 | c :: cs, d :: ds => if c=d then subq cs ds else subq (c::cs) ds
theorem lg_:subq (c::cs) (d::ds)=if c=d then subq cs ds else subq (c::cs) ds:=rfl
noncomputable def k8_ (W:List (List Nat))(c:Nat):List (List Nat):=(W.filter fun w=> !(W.any fun y=>y==w++ [c])).map fun w=>w++ [c]
noncomputable def e3_ (W:List (List Nat))(c:Nat):List (List Nat):=W++k8_ W c
noncomputable def wdN (cs:List Nat):List (List Nat):=cs.foldl e3_ [[]]
theorem ij_ (W:List (List Nat))(c:Nat):cw_ (W.map lS) c=(e3_ W c).map lS:=by
 delta cw_ e3_ fG_ k8_
 refine sb List.map_append ?_
 congr 1
 refine sb List.filter_map (sb List.map_map (sb List.map_map ?_))
 have e:∀w:List Nat,lS w++chS c=lS (w++ [c]):=fun w=>aL_ w [c]
 have e2:((fun w:Str=> !((W.map lS).any fun y=>y==w++chS c)) ∘ lS)=fun w=> !(W.any fun y=>y==w++ [c]):=by
  funext w
  refine (?_:(!((W.map lS).any fun y=>y==lS w++chS c))=_)
  refine sb (e ..) (sb (List.any_map ..) ?_)
  congr 2
  funext y
  exact cM_ _ _
 refine sb e2 ?_
 exact List.map_congr_left fun w _=>e w
theorem jR_ (cs:List Nat):bY_ cs=(wdN cs).map lS:=by
 delta bY_ wdN
 have key:∀(cs:List Nat) (W:List (List Nat)),cs.foldl cw_ (W.map lS)=(cs.foldl e3_ W).map lS:=by
  intro cs
  induction cs with
  | nil => intro W; rfl
  | cons c cs ih => intro W; exact sb (List.foldl_cons ..) (sb (List.foldl_cons ..) (sb (ij_ ..) (sb (ih ..) rfl)))
 exact key cs [[]]
theorem iN_ (w:List Nat):palS (lS w)=(w==w.reverse):=by
 unfold palS
 simp only [iA_,a3_,cM_]
theorem h9_ {α:Type}{l:List α}{k:Nat}(h:k < l.length):∃x,l.drop k=x::l.drop (k+1)∧l[k]? =some x:=⟨l[k],List.drop_eq_getElem_cons h,List.getElem?_eq_getElem h⟩
theorem hq_ {r:Rdg}{nm img:List Nat}{c:Nat}(hl:img.length=nm.length)(hg:∀k,k < nm.length→lsGo r (lS nm) k= !(img[k]? ==some c))(cs:List Nat):
  ∀n k,k≤nm.length→nm.length - k≤n→subq (c::cs) (img.drop k)=if bu_ r (lS nm) n k=nm.length then false else subq cs (img.drop (bu_ r (lS nm) n k+1))
 | 0, k, h1, h2 => by
  have e:k=nm.length:=by exact O490 h1 h2
  refine sb (if_pos e:(if bu_ r (lS nm) 0 k=nm.length then false else _)=_) ?_; refine sb (List.drop_of_length_le (by exact O491 hl e)) ?_; rfl
 | n + 1, k, h1, h2 => by
  by_cases hk:k < nm.length
  ·refine X1_2 (h9_ (show k < img.length by exact Nat.lt_of_lt_of_eq hk (id (Eq.symm hl)))) fun x hx hx'=> ?_
   have hgk:=hg k hk
   replace hgk:=hx'▸hgk
   by_cases hxc:x=c
   ·have hs:bu_ r (lS nm) (n+1) k=k:=by exact sb c3_ (sb (if_neg (by refine sb hgk (sb hxc ?_); simp)) rfl)
    exact sb hs (sb (if_neg (Nat.ne_of_lt hk)) (sb hx (sb lg_ (sb (if_pos hxc.symm) rfl))))
   ·have hs:bu_ r (lS nm) (n+1) k=bu_ r (lS nm) n (k+1):=by exact sb c3_ (sb (if_pos (by refine sb hgk ?_; simp [hxc])) rfl)
    refine sb hs (sb hx (sb lg_ (sb (if_neg (fun q=>hxc q.symm)) ?_)))
    exact hq_ hl hg cs n (k+1) (by exact Nat.succ_le_of_lt hk) (by exact Nat.sub_le_sub_right h2 1)
  ·have e:k=nm.length:=by exact O48 h1 hk
   have hf:lsGo r (lS nm) k=false:=by
    unfold lsGo
    refine sb (ao_ ..) (sb (decide_eq_false (by exact O248 hk) ..) ?_); rfl
   have hs:bu_ r (lS nm) (n+1) k=k:=by exact sb c3_ (sb (if_neg (by refine sb hf ?_; simp)) rfl)
   refine sb hs (sb (if_pos e) (sb (List.drop_of_length_le (by exact O493 hl hk)) ?_)); rfl
theorem iC_ {rU rD:Rdg}{nm img:List Nat}(hl:img.length=nm.length)(hU:∀k,k < nm.length→lsGo rU (lS nm) k= !(img[k]? ==some 85))(hD:∀k,k < nm.length→lsGo rD (lS nm) k= !(img[k]? ==some 68)):
  ∀(w:List Nat) (k:Nat),k≤nm.length→(∀c∈w,c=85∨c=68)→(gO_ rU rD (lS nm) w k).isSome=subq w (img.drop k)
 | [], k, _, _ => by
  refine (?_:true=_)
  cases img.drop k <;>rfl
 | c :: cs, k, hk, hw => by
  have hc:∀k,k < nm.length→lsGo (lsRd rU rD (chS c)) (lS nm) k= !(img[k]? ==some c):=by
   rcases hw c mQ with rfl | rfl
   ·have e:lsRd rU rD (chS 85)=rU:=by unfold lsRd; exact sb (if_pos (by decide)) rfl
    exact sb e hU
   ·have e:lsRd rU rD (chS 68)=rD:=by unfold lsRd; exact sb (if_neg (by decide)) rfl
    exact sb e hD
  have h:=hq_ hl hc cs ((lS nm).length - k) k hk (by exact sb (ao_ ..) (Nat.le_refl _))
  have hle:=(f3_ (lsRd rU rD (chS c)) (lS nm) ((lS nm).length - k) k (by exact sb (ao_ ..) hk)).2
  simp only [h,iY_]
  generalize bu_ (lsRd rU rD (chS c)) (lS nm) ((lS nm).length - k) k=q at hle ⊢
  rw [ao_] at hle ⊢
  by_cases e:q=nm.length
  ·refine sb (if_pos e) (sb (if_pos e) ?_); rfl
  ·refine sb (if_neg e) (sb (if_neg e) ?_)
   exact iC_ hl hU hD cs _ (by exact O494 hle e) fun c hc=>hw c (tQ hc)
theorem dB_ {SL SO:List Nat}{tU tD:Str}{iU iD:It}{pU pD:List Nat}{rU rD:Rdg}(SU:Side SL tU iU pU rU)(SD:Side SO tD iD pD rD)(hO:∀c∈colN,SO.contains c= !SL.contains c){nm:List Nat}(hn:∀c∈nm,c∈colN)
  {w:List Nat} (hw:∀c∈w,c=85∨c=68):aQ_ rU rD (lS w) (lS nm)=subq w (imgL SL nm):=by
 unfold aQ_
 have hk:∀k,k < nm.length→∃c,c∈colN∧six (lS nm) (k:Int)=chS c∧(imgL SL nm)[k]? =some (if SL.contains c then 85 else 68):=fun k hk=>by
  refine I1_3 (nm[k]) (hn _ (List.getElem_mem hk)) ?_ ?_
  ·simp only [bS_,a3_,List.getD_eq_getElem?_getD,List.getElem?_eq_getElem hk]; rfl
  ·unfold imgL; refine sb (List.getElem?_map) (sb (List.getElem?_eq_getElem hk) ?_); rfl
 have h:=iC_ (nm:=nm) (img:=imgL SL nm) (by unfold imgL; exact sb (List.length_map ..) rfl) (rU:=rU) (rD:=rD) (fun k hlt=> ?_) (fun k hlt=> ?_) w 0 (Nat.zero_le _) hw
 ·rw [List.drop_zero] at h; exact h
 ·refine X1_3 (hk k hlt) fun c hc h6 him=> ?_
  unfold lsGo
  refine sb (ao_ ..) (sb (decide_eq_true (by exact O145 hlt) ..) (sb (h6 ..) (sb (him ..) (sb (SU.cls c hc ..) (sb (Bool.true_and ..) ?_)))))
  cases SL.contains c <;>rfl
 ·refine X1_3 (hk k hlt) fun c hc h6 him=> ?_
  unfold lsGo
  refine sb (ao_ ..) (sb (decide_eq_true (by exact O145 hlt) ..) (sb (h6 ..) (sb (him ..) (sb (SD.cls c hc ..) (sb (hO c hc ..) (sb (Bool.true_and ..) ?_))))))
  cases SL.contains c <;>rfl
end Mine
end
section
namespace Mine
noncomputable def isP (w:List Nat):Bool:=w==w.reverse
noncomputable def l9_ (W:List (List Nat)):Nat:=W.foldl (fun m w=>if isP w && decide (m < w.length) then w.length else m) 0
noncomputable def chkW (img:List Nat)(W:List (List Nat))(m:Nat):Bool:=
 (((UDs.filter fun c=>subq [c] img)==(UDs.filter fun c=>W.any fun y=>y== [c])) && decide (2≤m)) &&
 ((W.any fun w=>isP w && w.length==m) && W.all fun w=>
  if isP w then decide (w.length≤m) && (!(w.length==m) || subq w img.reverse) && (!(w.length==m+1)) else (!(w.length==m+1) || (subq w img && !subq w img.reverse)))
noncomputable def e1_ (img:List Nat):Bool:=chkW img (wdN img) (l9_ (wdN img))
noncomputable def allW:Nat→List (List Nat)
 | 0 => [[]]
 | n + 1 => (allW n).map (fun w=>85::w)++(allW n).map (fun w=>68::w)
theorem hy_:∀(w:List Nat),(∀c∈w,c=85∨c=68)→w∈allW w.length
 | [], _ => List.mem_singleton.mpr rfl
 | c :: w, h => by
  have z:=hy_ w fun d hd=>h d (tQ hd)
  refine (?_:c::w∈(allW w.length).map (fun w=>85::w)++(allW w.length).map (fun w=>68::w))
  rcases h c mQ with rfl | rfl
  ·exact List.mem_append_left _ (List.mem_map.mpr ⟨w,z,rfl⟩)
  ·exact List.mem_append_right _ (List.mem_map.mpr ⟨w,z,rfl⟩)
set_option maxHeartbeats 0
theorem img4:(allW 4).all e1_=true:=by decide+kernel
theorem img5:(allW 5).all e1_=true:=by decide+kernel
theorem nT_:(((allW 6).take 32)).all e1_=true:=by decide+kernel
theorem nS_:(((allW 6).drop 32)).all e1_=true:=by decide+kernel
theorem nm_ (img:List Nat)(h:∀c∈img,c=85∨c=68)(i:img.length=4∨img.length=5∨img.length=6):e1_ img=true:=by
 have hm:=hy_ img h
 rcases i with e | e | e <;>rw [e] at hm
 ·exact List.all_eq_true.mp img4 img hm
 ·exact List.all_eq_true.mp img5 img hm
 ·rw [← List.take_append_drop 32 (allW 6)] at hm
  rcases List.mem_append.mp hm with h | h
  ·exact List.all_eq_true.mp nT_ img h
  ·exact List.all_eq_true.mp nS_ img h
theorem kH_ (SL nm:List Nat):∀c∈imgL SL nm,c=85∨c=68:=fun c hc=>by
 (refine X1_2 (List.mem_map.mp hc) fun d _ P=> ?_; subst P)
 cases SL.contains d
 ·exact .inr rfl
 ·exact .inl rfl
theorem lz_ (p:List Nat)(h:∀c∈p,c=85∨c=68):∀w∈wdN p,∀c∈w,c=85∨c=68:=fun w hw c hc=>by
 have s:=mR_ p h (lS w) (by exact sb (jR_ ..) (List.mem_map.mpr ⟨w,hw,rfl⟩)) c
 exact s hc
theorem in_ {SL SO:List Nat}{A H:Str}{B C:It}{M O:List Nat}{rU rD:Rdg}(SU:Side SL A B M rU)(SD:Side SO H C O rD)(u:∀c∈colN,SO.contains c= !SL.contains c){nm:List Nat}(t:∀c∈nm,c∈colN)
  (i:nm.length=4∨nm.length=5∨nm.length=6):jM_ SL rU rD nm (l9_ (wdN (imgL SL nm))):=by
 have j:=kH_ SL nm
 have l:(imgL SL nm).length=nm.length:=by unfold imgL; exact sb (List.length_map ..) rfl
 have g:=nm_ (imgL SL nm) j (by exact sb l i)
 have k:imgL SL nm.reverse=(imgL SL nm).reverse:=by unfold imgL; exact sb List.map_reverse rfl
 have r:∀c∈nm.reverse,c∈colN:=fun c hc=>t c (List.mem_reverse.mp hc)
 have o:=lz_ (imgL SL nm) j
 have st:∀w∈wdN (imgL SL nm),aQ_ rU rD (lS w) (lS nm)=subq w (imgL SL nm):=fun w hw=>dB_ SU SD u t (o w hw)
 have x:∀w∈wdN (imgL SL nm),aQ_ rU rD (lS w) (lS nm.reverse)=subq w (imgL SL nm).reverse:=fun w hw=>by exact sb (dB_ SU SD u r (o w hw)) (sb k rfl)
 have G:∀c∈UDs,aQ_ rU rD (chS c) (lS nm)=subq [c] (imgL SL nm):=fun c hc=>dB_ (w:= [c]) SU SD u t fun d hd=>by
  refine sb (List.mem_singleton.mp hd) ?_
  rcases List.mem_cons.mp hc with rfl | hc
  ·exact .inl rfl
  ·exact .inr (List.mem_singleton.mp hc)
 unfold e1_ chkW at g
 generalize l9_ (wdN (imgL SL nm))=m at g ⊢
 simp only [Bool.and_eq_true,decide_eq_true_eq,beq_iff_eq] at g
 (refine X0_3 g fun I h3 K=> ?_; obtain ⟨s,N⟩:=I)
 have a:∀w∈wdN (imgL SL nm),(isP w=true→w.length≤m∧(w.length=m→subq w (imgL SL nm).reverse=true)∧w.length≠m+1)∧(w.length=m+1→subq w (imgL SL nm)=true∧subq w (imgL SL nm).reverse=false):=fun w hw=>by
  have h:=List.all_eq_true.mp K w hw
  by_cases hp:isP w=true
  ·rw [if_pos hp] at h
   simp only [Bool.and_eq_true,Bool.or_eq_true,Bool.not_eq_true',decide_eq_true_eq,beq_eq_false_iff_ne] at h
   refine ⟨fun _=>⟨h.1.1,fun e=> ?_,h.2⟩,fun e=>absurd e h.2⟩
   rcases h.1.2 with q | q
   ·exact absurd e q
   ·exact q
  ·rw [if_neg hp] at h
   simp only [Bool.and_eq_true,Bool.or_eq_true,Bool.not_eq_true',beq_eq_false_iff_ne] at h
   refine ⟨fun q=>absurd q hp,fun e=> ?_⟩
   rcases h with q | q
   ·exact absurd e q
   ·exact q
 have b:∀w∈bY_ (imgL SL nm),∃v,v∈wdN (imgL SL nm)∧w=lS v:=fun w hw=>by
  rw [jR_] at hw
  (refine X1_2 (List.mem_map.mp hw) fun v f D=> ?_; subst D)
  exact I1_2 v f rfl
 refine ⟨?_, ?_,fun w hw hp=> ?_,N,fun w hw hp i=> ?_,fun w hw i=> ?_⟩
 ·have F:(UDs.filter fun c=>aQ_ rU rD (chS c) (lS nm))=UDs.filter fun c=>subq [c] (imgL SL nm):=List.filter_congr fun c hc=>G c hc
  have L:(UDs.filter fun c=>(bY_ (imgL SL nm)).any fun y=>y==chS c)=UDs.filter fun c=>(wdN (imgL SL nm)).any fun y=>y== [c]:=List.filter_congr fun c _=>by
   refine sb (jR_ ..) (sb (List.any_map ..) ?_)
   congr 1
   funext y
   exact cM_ _ _
  exact sb F (sb L (sb s rfl))
 ·refine X1_2 (List.any_eq_true.mp h3) fun w hw hp=> ?_
  simp only [Bool.and_eq_true,beq_iff_eq] at hp
  refine I1_3 (lS w) (by exact sb (jR_ ..) (List.mem_map.mpr ⟨w,hw,rfl⟩)) (by exact sb (iN_ ..) hp.1) (by exact sb (ao_ ..) hp.2)
 ·(refine X1_2 (b w hw) fun v f E=> ?_; subst E)
  refine sb (ao_ ..) ?_
  rw [iN_] at hp
  exact ((a v f).1 hp).1
 ·(refine X1_2 (b w hw) fun v f Q=> ?_; subst Q)
  rw [ao_] at i
  rw [iN_] at hp
  refine sb (x v f) ?_
  exact ((a v f).1 hp).2.1 i
 ·(refine X1_2 (b w hw) fun v f J=> ?_; subst J)
  rw [ao_] at i
  refine sb (st v f) (sb (x v f) ?_)
  exact (a v f).2 i
end Mine
end
section
namespace Mine
theorem jC_ (b:Array UInt8)(lo hi:Nat)(h:hi≤b.size)(B:lo≤hi):(bsl b (some (lo:Int)) (some (hi:Int))).toList=(b.toList.drop lo).take (hi - lo):=by
 unfold bsl
 refine sb (PySem.W.KBc.picked_eq ..) ?_
 simp only [Option.elim,clipAt_nat]
 exact sb (Nat.min_eq_left h) (sb (Nat.min_eq_left (by exact O282 B h)) rfl)
theorem u8 {c:Nat}(h:c < 128):(Nat.toUInt8 c).toNat=c:=by
 refine (?_:(UInt8.ofNat c).toNat=c)
 refine sb UInt8.toNat_ofNat' ?_
 exact Nat.mod_eq_of_lt (Nat.lt_trans h (by decide))
noncomputable def kV_ (l:List UInt8)(w q:Nat)(b:List UInt8):Nat→List UInt8
 | 0 => b
 | j + 1 => (kV_ l w q b j).set (q*w+w - 1 - j) (l.getD (q*w+j) 0)
noncomputable def gg_ (l:List UInt8)(w:Nat):Nat→List UInt8
 | 0 => List.replicate l.length 0
 | q + 1 => kV_ l w q (gg_ l w q) w
theorem lx_ (l:List UInt8)(w q:Nat)(b:Array UInt8):∀j,(bsIn l w q b j).toList=kV_ l w q b.toList j
 | 0 => rfl
 | j + 1 => Array.toList_setIfInBounds.trans (congrArg (List.set · _ _) (lx_ l w q b j))
theorem jD_ (l:List UInt8)(w:Nat):∀q,(cT_ l w q).toList=gg_ l w q
 | 0 => by rfl
 | q + 1 => (lx_ l w q _ w).trans (congrArg (kV_ l w q · w) (jD_ l w q))
theorem nE_ (a b c d e f g h:UInt8):gg_ [a,b,c,d,e,f,g,h] 4 2= [d,c,b,a,h,g,f,e]:=by rfl
theorem nD_ (a b c d e f g h i j:UInt8):gg_ [a,b,c,d,e,f,g,h,i,j] 5 2= [e,d,c,b,a,j,i,h,g,f]:=by rfl
theorem nC_ (a b c d e f g h i j k l:UInt8):gg_ [a,b,c,d,e,f,g,h,i,j,k,l] 6 2= [f,e,d,c,b,a,l,k,j,i,h,g]:=by rfl
theorem lenS {p:Type}{x:List p}{n:Nat}(h:x.length=n+1):∃a r,r.length=n∧x=a::r:=by
 cases x with
 | nil => cases h
 | cons a r => exact ⟨a,r,Nat.succ.inj h,rfl⟩
theorem len3 {p:Type}{x:List p}(h:x.length=3):∃a b c,x= [a,b,c]:=v3 (P:=fun x=>∃a b c,x= [a,b,c]) (fun a b c=>⟨a,b,c,rfl⟩) x h
theorem len4 {p:Type}{x:List p}(h:x.length=4):∃a b c d,x= [a,b,c,d]:=by obtain ⟨a,r,k,rfl⟩:=lenS h; obtain ⟨b,c,d,rfl⟩:=len3 k; exact I4_1 a b c d rfl
theorem len5 {p:Type}{x:List p}(h:x.length=5):∃a b c d e,x= [a,b,c,d,e]:=by obtain ⟨a,r,k,rfl⟩:=lenS h; obtain ⟨b,c,d,e,rfl⟩:=len4 k; exact I5_1 a b c d e rfl
theorem len6 {p:Type}{x:List p}(h:x.length=6):∃a b c d e f,x= [a,b,c,d,e,f]:=by obtain ⟨a,r,k,rfl⟩:=lenS h; obtain ⟨b,c,d,e,f,rfl⟩:=len5 k; exact I6_1 a b c d e f rfl
theorem nb_ {o:Nat}(t:o=4∨o=5∨o=6){x y:List Nat}(hx:x.length=o)(hy:y.length=o)(h:∀c∈x++y,c < 128):
  (bsl (cT_ (octL x y) o 2) (some ((o*0:Nat):Int)) (some ((o*0+o:Nat):Int))).toList.map (fun c=>c.toNat)=x.reverse∧
  (bsl (cT_ (octL x y) o 2) (some ((o*1:Nat):Int)) (some ((o*1+o:Nat):Int))).toList.map (fun c=>c.toNat)=y.reverse:=by
 have hz:(cT_ (octL x y) o 2).size=2*o:=by refine sb (c5_ ..) ?_; unfold octL; simp only [List.length_map,List.length_append]; exact O414 hx hy
 simp only [jC_ _ _ _ (by exact O507 hz) (by exact O508),jC_ _ _ _ (by exact O509 hz) (by exact O510),jD_]
 have s:∀c∈x++y,(Nat.toUInt8 c).toNat=c:=fun c hc=>u8 (h c hc)
 unfold octL
 rcases t with rfl | rfl | rfl
 ·(refine X4_1 (len4 hx) fun a b c d C=> ?_; subst C)
  (refine X4_1 (len4 hy) fun e f i j z=> ?_; subst z)
  simp only [List.cons_append,List.nil_append,List.map_cons,List.map_nil,nE_]
  refine ⟨?_, ?_⟩ <;>simp [s]
 ·(refine X5_1 (len5 hx) fun a b c d k u=> ?_; subst u)
  (refine X5_1 (len5 hy) fun e f i j l v=> ?_; subst v)
  simp only [List.cons_append,List.nil_append,List.map_cons,List.map_nil,nD_]
  refine ⟨?_, ?_⟩ <;>simp [s]
 ·(refine X6_1 (len6 hx) fun a b c d k m D=> ?_; subst D)
  (refine X6_1 (len6 hy) fun e f i j l n A=> ?_; subst A)
  simp only [List.cons_append,List.nil_append,List.map_cons,List.map_nil,nC_]
  refine ⟨?_, ?_⟩ <;>simp [s]
theorem kE_ (l:List Nat):Txt.join "" (l.map chS)=lS l:=by
 have e:l.map chS=(l.map fun c=> [c]).map lS:=by refine sb List.map_map ?_; rfl
 refine sb (e ..) (sb (do_ ..) ?_)
 congr 1
 induction l with
 | nil => rfl
 | cons a r I => refine sb List.map_cons (sb List.flatten_cons (sb (I (by refine sb List.map_map ?_; rfl)) ?_)); rfl
theorem cV_ (X i:Nat):X &&& 2 ^ i=if X / 2 ^ i % 2=1 then 2 ^ i else 0:=by
 apply Nat.eq_of_testBit_eq
 intro j
 refine sb (Nat.testBit_and ..) (sb (Nat.testBit_two_pow ..) ?_)
 by_cases F:i=j
 ·subst F
  refine sb Nat.testBit_eq_decide_div_mod_eq ?_
  by_cases h:X / 2 ^ i % 2=1
  ·refine sb (if_pos h) (sb (decide_eq_true h) (sb Nat.testBit_two_pow ?_)); rfl
  ·refine sb (if_neg h ..) (sb (decide_eq_false h ..) (sb (Nat.zero_testBit ..) ?_)); rfl
 ·refine sb (decide_eq_false F ..) (sb (Bool.and_false ..) ?_)
  split
  ·exact sb Nat.testBit_two_pow (sb (decide_eq_false F) rfl)
  ·exact sb (Nat.zero_testBit ..) rfl
theorem c6_ (X M:Nat):Builtin.bitAnd (X:Int) (M:Int)=((X &&& M:Nat):Int):=by
 refine sb (decide_eq_true (Int.natCast_nonneg X)) (sb (decide_eq_true (Int.natCast_nonneg M)) ?_)
 rfl
noncomputable def tyC (T:Nat):Nat:=("?pc?d?b?-?l?s???" :Str).cps.toList.getD T 0
noncomputable def rC (n:Nat):Nat:=("-r" :Str).cps.toList.getD (n / 4) 0
noncomputable def wC (n:Nat):Nat:=("-w" :Str).cps.toList.getD (n / 2 % 2) 0
noncomputable def xC (n a:Nat):Nat:=("-xSs" :Str).cps.toList.getD (n % 2+2*a) 0
noncomputable def tC (n a:Nat):Nat:=("-xTt" :Str).cps.toList.getD (n % 2+2*a) 0
noncomputable def h2_ (H T n2 n1 C v A B:Nat):Nat:=((((((H*16+T)*2+v)*2+A)*2+B)*8+n2)*8+n1)*8+C
noncomputable def hO_ (T n2 n1 C v A B:Nat):List Nat:= [tyC T,rC n2,wC n2,xC n2 v,rC n1,wC n1,xC n1 A,rC C,wC C,tC C B]
theorem fn_ {m:Int}{k:Nat}{p:Int×Str}{r:List (Int×Str)}(hk:0 < k):aM_ m k (p::r)=if (Builtin.bitAnd m p.1==p.1)=true then p.2 else aM_ m k r:=by
 have q:¬((k:Int)==0)=true:=by rw [beq_iff_eq]; exact O511 hk
 rw [ed_,fmOk]
 exact sb (if_neg q) rfl
theorem kM_ {m:Int}{k:Nat}(hk:0 < k):aM_ m k []= "-" :=by
 have q:¬((k:Int)==0)=true:=by rw [beq_iff_eq]; exact O511 hk
 simp only [fm_]
 exact sb (if_neg q) rfl
theorem eqc {a b:Nat}:(((a:Nat):Int)==((b:Nat):Int))=(a==b):=by
 rw [Bool.eq_iff_iff,beq_iff_eq,beq_iff_eq]; exact Int.ofNat_inj
theorem b6_ {X i b k:Nat}{y:Str}(hi:X / 2 ^ i % 2=b)(hk:0 < k):aM_ (X:Int) k [(((2 ^ i:Nat):Int),y)]=if b=1 then y else "-" :=by
 have t:0 < 2 ^ i:=Nat.pow_pos (by decide)
 refine sb (fn_ hk) (sb (kM_ hk) ?_)
 refine (?_:(if (Builtin.bitAnd (X:Int) ((2 ^ i:Nat):Int)==((2 ^ i:Nat):Int))=true then y else _)=_)
 refine sb (c6_ ..) (sb (cV_ ..) (sb (hi ..) (sb (eqc ..) ?_)))
 simp only [beq_iff_eq]
 by_cases hb:b=1
 ·exact sb (if_pos hb) (sb (if_pos hb) (sb (if_pos rfl) rfl))
 ·exact sb (if_neg hb) (sb (if_neg hb) (sb (if_neg (by exact Nat.ne_of_lt t)) rfl))
theorem eg_ {X i j b a k:Nat}{y z u:Str}(hb:X / 2 ^ i % 2=b)(ha:X / 2 ^ j % 2=a)(hk:0 < k)(f:2 ^ i < 2 ^ j)(o:2 ^ j ||| 2 ^ i=2 ^ j+2 ^ i):
  aM_ (X:Int) k [(((2 ^ j+2 ^ i:Nat):Int),y),(((2 ^ j:Nat):Int),z),(((2 ^ i:Nat):Int),u)]=if a=1 then (if b=1 then y else z) else (if b=1 then u else "-"):=by
 have t:0 < 2 ^ i:=Nat.pow_pos (by decide)
 have e:X &&& (2 ^ j+2 ^ i)=(if a=1 then 2 ^ j else 0) ||| (if b=1 then 2 ^ i else 0):=by
  exact sy (o ..) (sb (Nat.and_or_distrib_left ..) (sb (cV_ ..) (sb (cV_ ..) (sb (ha ..) (sb (hb ..) rfl)))))
 refine sb (fn_ hk) (sb (fn_ hk) (sb (b6_ hb hk) ?_))
 refine (?_:(if (Builtin.bitAnd (X:Int) ((2 ^ j+2 ^ i:Nat):Int)==((2 ^ j+2 ^ i:Nat):Int))=true then y else if (Builtin.bitAnd (X:Int) ((2 ^ j:Nat):Int)==((2 ^ j:Nat):Int))=true then z else _)=_)
 simp only [c6_,c6_,e,cV_,ha,eqc,eqc]
 simp only [beq_iff_eq]
 by_cases x:a=1
 ·refine sb (if_pos x) (sb (if_pos x) ?_)
  by_cases h3:b=1
  ·simp only [h3,if_true,o]
  ·simp only [h3,if_false,Nat.or_zero]
   exact sb (if_neg (by exact O514 t)) (sb (if_pos trivial) rfl)
 ·rw [if_neg x,if_neg x,Nat.zero_or,if_neg,if_neg (by exact O515 f o)]
  split <;>(first | exact O516 t f | exact O517 t f)
noncomputable def tyF (y:Nat):Str:=if y=40960 then "l" else if y=49152 then "s" else if y=32768 then "-" else if y=24576 then "b" else if y=16384 then "d" else if y=8192 then "c" else if y=4096 then "p" else "?"
theorem jS_ {X T:Nat}(J:X / 4096 % 2=T % 2)(x:X / 8192 % 2=T / 2 % 2)(t:X / 16384 % 2=T / 4 % 2)(h3:X / 32768 % 2=T / 8 % 2)(K:T < 16):
  aM_ (X:Int) 0 [(40960,"l"),(49152,"s"),(32768,"-"),(24576,"b"),(16384,"d"),(8192,"c"),(4096,"p")]=chS (tyC T):=by
 have e:X &&& 61440=(if T % 2=1 then 4096 else 0) ||| ((if T / 2 % 2=1 then 8192 else 0) ||| ((if T / 4 % 2=1 then 16384 else 0) ||| (if T / 8 % 2=1 then 32768 else 0))):=by
  have B:=cV_ X 12
  have A:=cV_ X 13
  have v:=cV_ X 14
  have G:=cV_ X 15
  simp only [show (2:Nat) ^ 12=4096 by decide,show (2:Nat) ^ 13=8192 by decide,show (2:Nat) ^ 14=16384 by decide,show (2:Nat) ^ 15=32768 by decide,J,x,t,h3] at B A v G
  simp only [show (61440:Nat)=4096 ||| (8192 ||| (16384 ||| 32768)) by decide,Nat.and_or_distrib_left,Nat.and_or_distrib_left,Nat.and_or_distrib_left,B,A,v,G]
 have L:aM_ (X:Int) 0 [(40960,"l"),(49152,"s"),(32768,"-"),(24576,"b"),(16384,"d"),(8192,"c"),(4096,"p")]=tyF (X &&& 61440):=by
  have hb:Builtin.bitAnd (X:Int) 61440=((X &&& 61440:Nat):Int):=c6_ X 61440
  have g:∀(n:Nat) (y:Str) (r:List (Int×Str)),aM_ (X:Int) 0 (((n:Int),y)::r)=if X &&& 61440=n then y else aM_ (X:Int) 0 r:=fun n y r=>by
   rw [ed_,fmOk]
   have E:(((0:Nat):Int)==0)=true:=rfl
   rw [if_pos E,hb,eqc]
   simp only [beq_iff_eq]
  have fn:aM_ (X:Int) 0 []= "?" :=rfl
  refine (?_:aM_ (X:Int) 0 [(((40960:Nat):Int),"l"),(((49152:Nat):Int),"s"),(((32768:Nat):Int),"-"),(((24576:Nat):Int),"b"),(((16384:Nat):Int),"d"),(((8192:Nat):Int),"c"),(((4096:Nat):Int),"p")]=_)
  refine sb (g ..) (sb (g ..) (sb (g ..) (sb (g ..) (sb (g ..) (sb (g ..) (sb (g ..) (sb (fn ..) ?_)))))))
  rfl
 refine sb L (sb e ?_)
 have D:∀T,T < 16→tyF ((if T % 2=1 then 4096 else 0) ||| ((if T / 2 % 2=1 then 8192 else 0) ||| ((if T / 4 % 2=1 then 16384 else 0) ||| (if T / 8 % 2=1 then 32768 else 0))))=chS (tyC T):=by decide+kernel
 exact D T K
theorem bq {Y n:Nat}(h:n < 8):(Y*8+n) / 8=Y:=by exact sb (Nat.mul_comm ..) (sb (Nat.mul_add_div (by decide) ..) (sb (Nat.div_eq_of_lt h ..) (sb (Nat.add_zero ..) rfl)))
theorem b2 {Y n:Nat}(h:n < 2):(Y*2+n) / 2=Y:=by exact sb (Nat.mul_comm ..) (sb (Nat.mul_add_div (by decide) ..) (sb (Nat.div_eq_of_lt h ..) (sb (Nat.add_zero ..) rfl)))
theorem gb {X Y n m k d:Nat}(h:X / d=Y*m+n)(q:m % (k*2)=0)(hk:0 < k):X / (d*k) % 2=n / k % 2:=by
 obtain ⟨q,hq⟩:=Nat.dvd_of_mod_eq_zero q
 exact sy (Nat.div_div_eq_div_mul ..) (sb (h ..) (sb (Nat.mul_comm Y m ..) (sb (hq ..) (sb (Nat.mul_assoc ..) (sb (Nat.mul_assoc ..) (sb (Nat.mul_add_div hk ..) (sb (Nat.mul_add_mod ..) rfl)))))))
theorem bt4 {X Y n k:Nat}(h:X / k=Y*8+n)(hn:n < 8):X / (k*4) % 2=n / 4:=(gb h (k:=4) rfl (by decide)).trans (Nat.mod_eq_of_lt (Nat.div_lt_of_lt_mul hn))
theorem bt2 {X Y n k:Nat}(h:X / k=Y*8+n):X / (k*2) % 2=n / 2 % 2:=gb h rfl (by decide)
theorem bt1 {X Y n k:Nat}(h:X / k=Y*8+n):X / k % 2=n % 2:=by have e:=gb h (k:=1) rfl (by decide); rwa [Nat.mul_one,Nat.div_one] at e
theorem ba1 {X Y n k:Nat}(h:X / k=Y*2+n)(hn:n < 2):X / k % 2=n:=by exact sb (h ..) (sb (Nat.mul_comm ..) (sb (Nat.mul_add_mod ..) (sb (Nat.mod_eq_of_lt hn ..) rfl)))
theorem bT1 {X Y n k:Nat}(h:X / k=Y*16+n):X / k % 2=n % 2:=by have e:=gb h (k:=1) rfl (by decide); rwa [Nat.mul_one,Nat.div_one] at e
theorem mo_ {H T n2 n1 f g o v:Nat}(G:T < 16)(C:n2 < 8)(A:n1 < 8)(B:f < 8)(e2:g < 2)(e1:o < 2)(e0:v < 2):
  cn_ ((h2_ H T n2 n1 f g o v:Nat):Int) d3_=lS (hO_ T n2 n1 f g o v):=by
 unfold h2_
 generalize hX:((((((H*16+T)*2+g)*2+o)*2+v)*8+n2)*8+n1)*8+f=X
 have U:X / 1=((((((H*16+T)*2+g)*2+o)*2+v)*8+n2)*8+n1)*8+f:=by exact sb (Nat.div_one ..) (sb (hX ..) rfl)
 clear hX
 have P:X / 8=(((((H*16+T)*2+g)*2+o)*2+v)*8+n2)*8+n1:=by exact sy (Nat.div_one X) (sb U (sb (bq B) rfl))
 have L:X / 64=((((H*16+T)*2+g)*2+o)*2+v)*8+n2:=by rw [show 64=8*8 by decide,← Nat.div_div_eq_div_mul,P,bq A]
 have y3:X / 512=(((H*16+T)*2+g)*2+o)*2+v:=by rw [show 512=64*8 by decide,← Nat.div_div_eq_div_mul,L,bq C]
 have y4:X / 1024=((H*16+T)*2+g)*2+o:=by rw [show 1024=512*2 by decide,← Nat.div_div_eq_div_mul,y3,b2 e0]
 have y5:X / 2048=(H*16+T)*2+g:=by rw [show 2048=1024*2 by decide,← Nat.div_div_eq_div_mul,y4,b2 e1]
 have Q:X / 4096=H*16+T:=by rw [show 4096=2048*2 by decide,← Nat.div_div_eq_div_mul,y5,b2 e2]
 have E:∀n,n < 8→(if n / 4=1 then ("r" :Str) else "-")=chS (rC n):=by decide+kernel
 have F:∀n,n < 8→(if n / 2 % 2=1 then ("w" :Str) else "-")=chS (wC n):=by decide+kernel
 have N:∀n,n < 8→∀a,a < 2→(if a=1 then (if n % 2=1 then ("s" :Str) else "S") else (if n % 2=1 then "x" else "-"))=chS (xC n a):=by decide+kernel
 have tt:∀n,n < 8→∀a,a < 2→(if a=1 then (if n % 2=1 then ("t" :Str) else "T") else (if n % 2=1 then "x" else "-"))=chS (tC n a):=by decide+kernel
 have f0:=jS_ (X:=X) (T:=T) (bT1 Q) (gb (k:=2) Q rfl (by decide)) (gb (k:=4) Q rfl (by decide)) (gb (k:=8) Q rfl (by decide)) G
 have f1:=b6_ (X:=X) (i:=8) (k:=1) (y:= "r") (bt4 (k:=64) L C) (by decide)
 have f2:=b6_ (X:=X) (i:=7) (k:=2) (y:= "w") (bt2 (k:=64) L) (by decide)
 have f3:=eg_ (X:=X) (i:=6) (j:=11) (k:=3) (y:= "s") (z:= "S") (u:= "x") (bt1 (k:=64) L) (ba1 (k:=2048) y5 e2) (by decide) (by decide) (by decide)
 have f4:=b6_ (X:=X) (i:=5) (k:=4) (y:= "r") (bt4 (k:=8) P A) (by decide)
 have f5:=b6_ (X:=X) (i:=4) (k:=5) (y:= "w") (bt2 (k:=8) P) (by decide)
 have f6:=eg_ (X:=X) (i:=3) (j:=10) (k:=6) (y:= "s") (z:= "S") (u:= "x") (bt1 (k:=8) P) (ba1 (k:=1024) y4 e1) (by decide) (by decide) (by decide)
 have f7:=b6_ (X:=X) (i:=2) (k:=7) (y:= "r") (bt4 (k:=1) U B) (by decide)
 have f8:=b6_ (X:=X) (i:=1) (k:=8) (y:= "w") (bt2 (k:=1) U) (by decide)
 have f9:=eg_ (X:=X) (i:=0) (j:=9) (k:=9) (y:= "t") (z:= "T") (u:= "x") (bt1 (k:=1) U) (ba1 (k:=512) y3 e0) (by decide) (by decide) (by decide)
 clear U P L y3 y4 y5 Q
 rw [E n2 C] at f1
 rw [F n2 C] at f2
 rw [N n2 C g e2] at f3
 rw [E n1 A] at f4
 rw [F n1 A] at f5
 rw [N n1 A o e1] at f6
 rw [E f B] at f7
 rw [F f B] at f8
 simp only [tt f B v e0] at f9
 unfold cn_
 refine sy (kE_ ..) ?_
 congr 1
 show [aM_ (X:Int) 0 [(40960,"l"),(49152,"s"),(32768,"-"),(24576,"b"),(16384,"d"),(8192,"c"),(4096,"p")],aM_ (X:Int) 1 [(((2 ^ 8:Nat):Int),"r")],aM_ (X:Int) 2 [(((2 ^ 7:Nat):Int),"w")],aM_ (X:Int) 3 [(((2 ^ 11+2 ^ 6:Nat):Int),"s"),(((2 ^ 11:Nat):Int),"S"),(((2 ^ 6:Nat):Int),"x")],
  aM_ (X:Int) 4 [(((2 ^ 5:Nat):Int),"r")],aM_ (X:Int) 5 [(((2 ^ 4:Nat):Int),"w")],aM_ (X:Int) 6 [(((2 ^ 10+2 ^ 3:Nat):Int),"s"),(((2 ^ 10:Nat):Int),"S"),(((2 ^ 3:Nat):Int),"x")],
  aM_ (X:Int) 7 [(((2 ^ 2:Nat):Int),"r")],aM_ (X:Int) 8 [(((2 ^ 1:Nat):Int),"w")],aM_ (X:Int) 9 [(((2 ^ 9+2 ^ 0:Nat):Int),"t"),(((2 ^ 9:Nat):Int),"T"),(((2 ^ 0:Nat):Int),"x")]]=_
 simp only [f0,f1,f2,f3,f4,f5,f6,f7,f8,f9]
 rfl
theorem tn {x:Int}{k:Nat}(h:0≤x∧x < (k:Int)):x=(x.toNat:Int)∧x.toNat < k:=⟨(Int.toNat_of_nonneg h.1).symm,(Int.toNat_lt h.1).mpr h.2⟩
theorem mZ_ {m:Int}{H T n2 n1 f g o v:Nat}(eH:Int.fmod (Int.fdiv m (10 ^ (6:Int).toNat)) 10=(H:Int))(K:rT m=(T:Int))(R:rN m 2=(n2:Int))(ab:rN m 1=(n1:Int))(O:rN m 0=(f:Int))(V:rA m 2=(g:Int))(Z:rA m 1=(o:Int))(aa:rA m 0=(v:Int)):
  cH_ m=((h2_ H T n2 n1 f g o v:Nat):Int)∧cA_ m=lS (hO_ T n2 n1 f g o v):=by
 constructor
 ·delta cH_ rSM rM0
  refine sb K (sb R (sb ab (sb O (sb V (sb Z (sb aa (sb eH ?_)))))))
  unfold h2_
  have p1:(8:Int) ^ (2:Int).toNat=64:=by decide
  have p2:(8:Int) ^ (1:Int).toNat=8:=by decide
  have p3:(8:Int) ^ (0:Int).toNat=1:=by decide
  have p4:(2:Int) ^ ((9:Int)+2).toNat=2048:=by decide
  have p5:(2:Int) ^ ((9:Int)+1).toNat=1024:=by decide
  have p6:(2:Int) ^ ((9:Int)+0).toNat=512:=by decide
  refine sb p1 (sb p2 (sb p3 (sb p4 (sb p5 (sb p6 ?_)))))
  simp+arith
 ·have q4:∀n:Nat,Int.fdiv (n:Int) 4=((n / 4:Nat):Int):=fun n=>by refine sb (Int.fdiv_eq_ediv_of_nonneg _ (by decide)) ?_; rfl
  have q2:∀n:Nat,Int.fmod (Int.fdiv (n:Int) 2) 2=((n / 2 % 2:Nat):Int):=fun n=>by refine sb (Int.fdiv_eq_ediv_of_nonneg _ (by decide)) (sb (Int.fmod_eq_emod_of_nonneg _ (by decide)) ?_); rfl
  have q1:∀n a:Nat,Int.fmod (n:Int) 2+2*(a:Int)=((n % 2+2*a:Nat):Int):=fun n a=>by exact sb (Int.fmod_eq_emod_of_nonneg _ (by decide)) O518
  have qT:Int.fdiv ((T:Int)*4096) 4096=(T:Int):=Int.mul_fdiv_cancel _ (by decide)
  delta cA_ rST rT0
  simp only [K,R,ab,O,V,Z,aa,qT,q4,q4,q4,q2,q2,q2,q1,q1,q1]
  have j2:decide ((0:Int) < 2)=true:=by decide
  have j1:decide ((0:Int) < 1)=true:=by decide
  have j0:decide ((0:Int) < 0)=false:=by decide
  refine sb j2 (sb j1 (sb j0 ?_))
  show (((chS (tyC T)++((chS (rC n2)++chS (wC n2))++chS (xC n2 g)))++((chS (rC n1)++chS (wC n1))++chS (xC n1 o)))++((chS (rC f)++chS (wC f))++chS (tC f v)))=_
  simp only [show ∀c,chS c=lS [c] from fun _=>rfl,aL_]
  rfl
theorem ke_ (m:Int):∃H T n2 n1 f g o v:Nat,T < 16∧n2 < 8∧n1 < 8∧f < 8∧g < 2∧o < 2∧v < 2∧cH_ m=((h2_ H T n2 n1 f g o v:Nat):Int)∧cA_ m=lS (hO_ T n2 n1 f g o v):=by
 have G:0≤rT m∧rT m < ((16:Nat):Int):=aF_ _ (by decide)
 have J:∀j,0≤rN m j∧rN m j < ((8:Nat):Int):=fun j=>aF_ _ (by decide)
 have I:∀j,0≤rA m j∧rA m j < ((2:Nat):Int):=fun j=>aF_ _ (by decide)
 have hH:=aF_ (Int.fdiv m (10 ^ (6:Int).toNat)) (b:=10) (by decide)
 exact ⟨_,_,_,_,_,_,_,_,(tn G).2,(tn (J 2)).2,(tn (J 1)).2,(tn (J 0)).2,(tn (I 2)).2,(tn (I 1)).2,(tn (I 0)).2,mZ_ (Int.toNat_of_nonneg hH.1).symm (tn G).1 (tn (J 2)).1 (tn (J 1)).1 (tn (J 0)).1 (tn (I 2)).1 (tn (I 1)).1 (tn (I 0)).1⟩
theorem jV_ {T n2 n1 f g o v:Nat}(C:n2 < 8)(A:n1 < 8)(B:f < 8)(b2:g < 2)(b1:o < 2)(b0:v < 2):∀c∈(hO_ T n2 n1 f g o v).drop 1,c∈colN:=by
 have E:∀n,n < 8→rC n∈colN:=by decide+kernel
 have F:∀n,n < 8→wC n∈colN:=by decide+kernel
 have N:∀n,n < 8→∀a,a < 2→xC n a∈colN:=by decide+kernel
 have tt:∀n,n < 8→∀a,a < 2→tC n a∈colN:=by decide+kernel
 intro c hc
 have M:c∈[rC n2,wC n2,xC n2 g,rC n1,wC n1,xC n1 o,rC f,wC f,tC f v]:=hc
 simp only [List.mem_cons,List.not_mem_nil,or_false] at M
 rcases M with rfl | rfl | rfl | rfl | rfl | rfl | rfl | rfl | rfl
 ·exact E _ C
 ·exact F _ C
 ·exact N _ C _ b2
 ·exact E _ A
 ·exact F _ A
 ·exact N _ A _ b1
 ·exact E _ B
 ·exact F _ B
 ·exact tt _ B _ b0
theorem lT_ {m:Int}{H T n2 n1 f g o v:Nat}(G:T < 16)(C:n2 < 8)(A:n1 < 8)(B:f < 8)(b2:g < 2)(b1:o < 2)(b0:v < 2)(hm:cH_ m=((h2_ H T n2 n1 f g o v:Nat):Int))(ht:cA_ m=lS (hO_ T n2 n1 f g o v)):
  ∃x:List Nat,cn_ (cH_ m) d3_=lS x∧cA_ m=lS x∧x.length=10∧∀D sz,1≤D→∀c∈nmL x D sz,c∈colN:=by
 refine I1_4 (hO_ T n2 n1 f g o v) (by exact sb hm (mo_ G C A B b2 b1 b0)) ht rfl (fun D sz hf c hc=> ?_)
 refine jV_ (T:=T) C A B b2 b1 b0 c ?_
 have h3:=List.mem_of_mem_take hc
 obtain ⟨q,rfl⟩:∃q,D=1+q:=⟨D - 1,by exact Eq.symm (Nat.add_sub_of_le hf)⟩
 rw [← List.drop_drop] at h3
 exact List.mem_of_mem_drop h3
theorem lj_ (m:Int):∃x:List Nat,cn_ (cH_ m) d3_=lS x∧cA_ m=lS x∧x.length=10∧∀D sz,1≤D→∀c∈nmL x D sz,c∈colN:=by
 refine (ke_ m).elim fun H h=>h.elim fun T h=>h.elim fun n2 h=>h.elim fun n1 h=>h.elim fun f h=>h.elim fun g h=>h.elim fun o h=>h.elim fun v h=>lT_ (H:=H) h.1 h.2.1 h.2.2.1 h.2.2.2.1 h.2.2.2.2.1 h.2.2.2.2.2.1 h.2.2.2.2.2.2.1 h.2.2.2.2.2.2.2.1 h.2.2.2.2.2.2.2.2
noncomputable def selL:List Nat→List Bool→List Nat
 | c :: cs, true :: bs => c::selL cs bs
 | _ :: cs, false :: bs => selL cs bs
 | _, _ => []
noncomputable def ci_ (L:List Nat):List Nat:=L.filter (fun c=>c !=45)++(if L.contains 45 then [45] else [])
noncomputable def iE_:List Nat→List Bool→Option (Nat×Nat)→List Nat
 | c :: cs, true :: bs, none => iE_ cs bs (some (c,c))
 | c :: cs, true :: bs, some (a, _) => iE_ cs bs (some (a,c))
 | _ :: cs, false :: bs, none => iE_ cs bs none
 | _ :: cs, false :: bs, some (a, b) => a::45::b::iE_ cs bs none
 | _, _, some (a, b) => [a,45,b]
 | _, _, none => []
noncomputable def rngN (bs:List Bool):List Nat:=iE_ colN bs none
noncomputable def tenN (bs h:List Bool)(L B:List Nat):Nat→List Nat
 | 0 => L
 | 1 => 33::rngN h
 | 2 => rngN bs
 | 3 => L++ [98,45,97]
 | 4 => [98,45,97,33]++ci_ B
 | 5 => 93::ci_ L
 | 6 => [33,93]++ci_ B
 | 7 => 94::ci_ L
 | 8 => 91::ci_ L
 | _ => [38,38,126,126,124,124,92]++ci_ L
noncomputable def brN (d:Nat)(bs h:List Bool)(L B:List Nat):It:=
 if B.isEmpty then
  match d % 5 with
  | 0 => .quest
  | 1 => .brk [33,98,45,97]
  | 2 => .brk [45,45,120]
  | 3 => .brk [98,45,97,33]
  | _ => .brk colN
 else if L.isEmpty then
  match d % 3 with
  | 0 => .brk [98,45,97]
  | 1 => .brk (33::colN)
  | _ => .brk [98,45,97,100,45,99]
 else match d,L with
  | 0, [c] => .one c
  | _, _ => .brk (tenN bs h L B d)
noncomputable def itN (bs:List Bool)(d:Nat):It:=brN d bs (bs.map fun b=> !b) (selL colN bs) (selL colN (bs.map fun b=> !b))
noncomputable def alN (c:Nat):Bool:=(48≤c && c≤57) || (65≤c && c≤90) || (97≤c && c≤122)
noncomputable def goC (f:List Nat→Option (List (Nat×Nat)))(c:Nat)(r:List Nat):Option (List (Nat×Nat)):=
  match (if c==92 then r else c::r) with
  | [] => none
  | lo::r1=>
   if c==92 && alN lo then none else
   match r1 with
   | d::e::r2=>
    if d==45 then
     match (if e==92 then r2 else e::r2) with
     | [] => none
     | hi :: r3 => if Nat.blt hi lo then none else (f r3).map fun l=>(lo,hi)::l
    else (f r1).map fun l=>(lo,lo)::l
   | _ => (f r1).map fun l=>(lo,lo)::l
noncomputable def goN:Nat→List Nat→Option (List (Nat×Nat))
 | 0, _ => none
 | _ + 1, [] => some []
 | n + 1, c :: r => goC (goN n) c r
noncomputable def cK_ (a b:Nat):List Nat→Bool
 | x :: y :: r => !(x==a && y==b) && cK_ a b (y::r)
 | _ => true
theorem kp_:cK_ a b (x::y::r)=(!(x==a && y==b) && cK_ a b (y::r)):=rfl
noncomputable def okHd:List Nat→Bool
 | [] => false
 | b :: r => b !=91 && !r.contains 93
noncomputable def nX_ (q:List Nat):List Nat:=if q.headD 0==94 then (q.drop 1).dropLast else q.dropLast
noncomputable def nF_ (g:Bool)(body:List Nat):Option (Bool×List (Nat×Nat)):=
 if okHd body && (cK_ 38 38 body && (cK_ 126 126 body && cK_ 124 124 body)) then (goN (body.length+1) body).map fun l=>(g,l) else none
noncomputable def nG_ (q:List Nat):Option (Bool×List (Nat×Nat)):=if q.getLastD 0==93 then nF_ (q.headD 0==94) (nX_ q) else none
noncomputable def lX_ (p:List Nat):Option (Bool×List (Nat×Nat)):=
 if p== [46] then some (true,[]) else if p== [40,63,33,41] then some (false,[]) else if p== [92,45] then some (false,[(45,45)])
 else if p.headD 0==91 then nG_ (p.drop 1) else if p== [p.headD 0] && alN (p.headD 0) then some (false,[(p.headD 0,p.headD 0)]) else none
noncomputable def hitN (l:List (Nat×Nat))(c:Nat):Bool:=l.any fun p=> !Nat.blt c p.1 && !Nat.blt p.2 c
noncomputable def l4_:It→Bool
 | .star => false | .quest=>true | .one c=>c !=42 && c !=63 && c !=91 && colN.contains c | .brk B=>okB B
noncomputable def lH_ (bs:List Bool)(it:It):Bool:=
 l4_ it && Nat.ble it.txt.length 70 && match it.out escN with
  | none => false
  | some p => Nat.ble p.length 100 && p.all (fun c=>Nat.blt c 128) && match lX_ p with
   | none => false
   | some r => Nat.ble r.2.length 100 && (List.zip colN bs).all fun x=>(hitN r.2 x.1==r.1)== !x.2
noncomputable def allB:Nat→List (List Bool)
 | 0 => [[]]
 | n + 1 => (allB n).map (fun w=>true::w)++(allB n).map (fun w=>false::w)
end Mine
end
section
namespace Mine
theorem fj_:∀bs:List Bool,bs∈allB bs.length
 | [] => List.mem_singleton.mpr rfl
 | b :: bs => by
  have g:=fj_ bs
  refine (?_:b::bs∈(allB bs.length).map (fun w=>true::w)++(allB bs.length).map (fun w=>false::w))
  cases b
  ·exact List.mem_append_right _ (List.mem_map.mpr ⟨bs,g,rfl⟩)
  ·exact List.mem_append_left _ (List.mem_map.mpr ⟨bs,g,rfl⟩)
theorem all8 {P:List Bool→Bool}(h:∀i,i < 8→(((allB 8).drop (32*i)).take 32).all P=true){bs:List Bool}(hb:bs.length=8):P bs=true:=by
 have hm:=fj_ bs
 rw [hb] at hm
 obtain ⟨j,l,e⟩:=List.mem_iff_getElem.mp hm
 have C:(allB 8).length=256:=by decide+kernel
 have hi:=h (j / 32) (by exact O520 l C)
 refine List.all_eq_true.mp hi bs ?_
 rw [List.mem_iff_getElem?]
 refine ⟨j % 32, ?_⟩
 exact sb (List.getElem?_take) (sb (if_pos (by exact Nat.mod_lt _ (by decide))) (sb (List.getElem?_drop) (sb (show 32*(j / 32)+j % 32=j by exact O522) (sb (List.getElem?_eq_getElem l) (sb e rfl)))))
noncomputable def notB (bs:List Bool):List Bool:=bs.map fun b=> !b
set_option maxHeartbeats 0 in
theorem mC_:∀i,i < 8→(((allB 8).drop (32*i)).take 32).all (fun bs=>aE_ ((selL colN bs).map chS)==(selL colN (notB bs)).map chS)=true:=by decide+kernel
set_option maxHeartbeats 0 in
theorem lV_:∀i,i < 8→(((allB 8).drop (32*i)).take 32).all (fun bs=>bk_ colS ((selL colN bs).map chS)==lS (rngN bs))=true:=by decide+kernel
set_option maxHeartbeats 0 in
theorem lU_:∀i,i < 8→(((allB 8).drop (32*i)).take 32).all (fun bs=>Nat.ble (rngN bs).length 30 && Nat.ble (selL colN bs).length 8)=true:=by decide+kernel
section
variable {bs:List Bool}(hb:bs.length=8)
include hb
theorem hK_:aE_ ((selL colN bs).map chS)=(selL colN (notB bs)).map chS:=eq_of_beq (all8 mC_ hb)
theorem iD_:bk_ colS ((selL colN bs).map chS)=lS (rngN bs):=eq_of_beq (all8 lV_ hb)
theorem i7_:(rngN bs).length≤30∧(selL colN bs).length≤8:=by
 have h:=all8 lU_ hb
 simp only [Bool.and_eq_true] at h
 exact ⟨Nat.le_of_ble_eq_true h.1,Nat.le_of_ble_eq_true h.2⟩
end
theorem gz_ (L:List Nat):a2_ (L.map chS)=lS (ci_ L):=by
 have f:("-" :Str)=lS [45]:=by decide
 have s:repL 45 [] L=L.filter fun c=>c !=45:=by
  induction L with
  | nil => rfl
  | cons a r g=>
   unfold repL at g ⊢
   refine sb List.flatMap_cons (sb g (sb List.filter_cons ?_))
   by_cases h:a=45
   ·refine sb (if_pos h) (sb h ?_); rfl
   ·refine sb (if_neg h) (sb (if_pos (by simpa using h)) ?_); rfl
 have D:((L.map chS).any fun y=>y==("-" :Str))=L.contains 45:=by
  refine sb List.any_map (sb List.contains_eq_any_beq ?_)
  congr 1
  funext y
  refine (?_:(lS [y]==("-" :Str))=(45==y))
  refine sb (f ..) (sb (cM_ ..) ?_)
  refine (?_:(y==45 && true)=_)
  refine sb (Bool.and_true ..) ?_
  exact BEq.comm
 delta a2_ ci_
 refine sb (kE_ ..) (sb (D ..) ?_)
 refine sb (show Txt.replace (lS L) "-" "" =lS (repL 45 [] L) by exact sb f (sb (show ("" :Str)=lS [] by decide) (b1_ 45 [] L))) (sb s ?_)
 have v:((bif L.contains 45 then "-" else ""):Str)=lS (if L.contains 45=true then [45] else []):=by
  cases L.contains 45
  ·decide
  ·decide
 exact sb (v ..) (sb (aL_ ..) rfl)
theorem wrap (x:List Nat):(("[" :Str)++lS x)++ "]" =lS (It.brk x).txt:=by
 have k:("[" :Str)=lS [91]:=by decide
 have G:("]" :Str)=lS [93]:=by decide
 rw [k,G,aL_,aL_]; rfl
theorem kv_:∀d,d < 10→ma_ ((d:Nat):Int)=lS (brN d [] [] [] []).txt:=by decide+kernel
theorem iT_:∀d,d < 10→iU_ ((d:Nat):Int)=lS (brN d [] [] [] [0]).txt:=by decide+kernel
theorem mX_ {bs:List Bool}(hb:bs.length=8)(d:Nat)(hd:d < 10):ku_ ((selL colN bs).map chS) ((d:Nat):Int)=lS (It.brk (tenN bs (notB bs) (selL colN bs) (selL colN (notB bs)) d)).txt:=by
 have u:(notB bs).length=8:=by unfold notB; exact sb (List.length_map ..) hb
 have hr:=iD_ u
 unfold ku_
 refine sb (kE_ ..) (sb (hK_ hb ..) (sb (gz_ ..) (sb (gz_ ..) (sb (iD_ hb ..) (sb (hr ..) ?_)))))
 have z:("!" :Str)=lS [33]:=by decide
 have F:("b-a" :Str)=lS [98,45,97]:=by decide
 have n:("b-a!" :Str)=lS [98,45,97,33]:=by decide
 have o:("]" :Str)=lS [93]:=by decide
 have m:("!]" :Str)=lS [33,93]:=by decide
 have A:("^" :Str)=lS [94]:=by decide
 have p:("[" :Str)=lS [91]:=by decide
 have E:("&&~~||\\" :Str)=lS [38,38,126,126,124,124,92]:=by decide
 have hd':d=0∨d=1∨d=2∨d=3∨d=4∨d=5∨d=6∨d=7∨d=8∨d=9:=by exact O523 hd
 rcases hd' with rfl | rfl | rfl | rfl | rfl | rfl | rfl | rfl | rfl | rfl
 ·exact wrap _
 ·have e:(("!" :Str)++lS (rngN (notB bs)))=lS (33::rngN (notB bs)):=by refine sb (z ..) (sb (aL_ ..) ?_); rfl
  refine (?_:("[" ++("!" ++lS _))++ "]" =_)
  exact sb e (wrap _)
 ·exact wrap _
 ·have e:lS (selL colN bs)++("b-a" :Str)=lS (selL colN bs++ [98,45,97]):=by exact sb (F ..) (sb (aL_ ..) rfl)
  refine (?_:("[" ++(lS _++ "b-a"))++ "]" =_)
  exact sb e (wrap _)
 ·have e:("b-a!" :Str)++lS (ci_ (selL colN (notB bs)))=lS ([98,45,97,33]++ci_ (selL colN (notB bs))):=by exact sb (n ..) (sb (aL_ ..) rfl)
  refine (?_:("[" ++("b-a!" ++lS _))++ "]" =_)
  exact sb e (wrap _)
 ·have e:(("]" :Str)++lS (ci_ (selL colN bs)))=lS (93::ci_ (selL colN bs)):=by refine sb (o ..) (sb (aL_ ..) ?_); rfl
  show ("[" ++("]" ++lS _))++ "]" =_
  exact sb e (wrap _)
 ·have e:("!]" :Str)++lS (ci_ (selL colN (notB bs)))=lS ([33,93]++ci_ (selL colN (notB bs))):=by exact sb (m ..) (sb (aL_ ..) rfl)
  show ("[" ++("!]" ++lS _))++ "]" =_
  exact sb e (wrap _)
 ·have e:(("^" :Str)++lS (ci_ (selL colN bs)))=lS (94::ci_ (selL colN bs)):=by refine sb (A ..) (sb (aL_ ..) ?_); rfl
  show ("[" ++("^" ++lS _))++ "]" =_
  exact sb e (wrap _)
 ·have e:(("[" :Str)++lS (ci_ (selL colN bs)))=lS (91::ci_ (selL colN bs)):=by refine sb (p ..) (sb (aL_ ..) ?_); rfl
  show ("[" ++("[" ++lS _))++ "]" =_
  exact sb e (wrap _)
 ·have e:("&&~~||\\" :Str)++lS (ci_ (selL colN bs))=lS ([38,38,126,126,124,124,92]++ci_ (selL colN bs)):=by exact sb (E ..) (sb (aL_ ..) rfl)
  show ("[" ++("&&~~||\\" ++lS _))++ "]" =_
  exact sb e (wrap _)
theorem hM_ {bs:List Bool}(hb:bs.length=8)(d:Nat)(hd:d < 10):aZ_ ((selL colN bs).map chS) ((d:Nat):Int)=lS (itN bs d).txt:=by
 unfold aZ_
 refine sb (hK_ hb) ?_
 have ht:=mX_ hb d hd
 refine (?_:_=lS (brN d bs (notB bs) (selL colN bs) (selL colN (notB bs))).txt)
 generalize selL colN bs=L at ht ⊢
 generalize selL colN (notB bs)=B at ht ⊢
 cases B with
 | nil => 
  refine sb (if_pos (show ((List.map chS []:List Str)== [])=true from rfl)) (sb (kv_ d hd) ?_); rfl
 | cons b B=>
  refine sb (if_neg (fun q=>by contradiction)) ?_
  cases L with
  | nil => refine sb (if_pos (show ((List.map chS []:List Str)== [])=true from rfl)) (sb (iT_ d hd) ?_); rfl
  | cons c L=>
   refine sb (if_neg (fun q=>by contradiction)) ?_
   by_cases h:(((d:Nat):Int)==0 && (((c::L).map chS).length:Int)==1)=true
   ·refine sb (if_pos h) ?_
    rw [Bool.and_eq_true,beq_iff_eq,beq_iff_eq,List.length_map,List.length_cons] at h
    have t:d=0:=by exact O524 h
    have k:L= []:=List.length_eq_zero_iff.mp (by exact O525 h)
    subst t k
    rfl
   ·refine sb (if_neg h) (sb ht ?_)
    rw [Bool.and_eq_true,beq_iff_eq,beq_iff_eq,List.length_map,List.length_cons] at h
    have e:brN d bs (notB bs) (c::L) (b::B)= .brk (tenN bs (notB bs) (c::L) (b::B) d):=by
     cases d with
     | zero=>
      cases L with
      | nil => exact absurd ⟨rfl,rfl⟩ h
      | cons x r => rfl
     | succ d => rfl
    exact sb e rfl
end Mine
end
section
namespace Mine
noncomputable abbrev toS (l:List (Nat×Nat)):List (Str×Str):=l.map fun q=>(chS q.1,chS q.2)
theorem n3_:∀c,c < 128→Txt.isalnum (chS c)=alN c:=by decide+kernel
theorem fw_ (a b:Nat):(chS a==chS b)=(a==b):=by
 refine (?_:(lS [a]==lS [b])=_)
 refine sb (cM_ ..) ?_
 refine (?_:(a==b && true)=_)
 exact sb (Bool.and_true ..) rfl
theorem c1_ {body:List Nat}{k:Nat}{c:Nat}{r:List Nat}(h:body.drop k=c::r):six (lS body) (k:Int)=chS c∧k < body.length∧r=body.drop (k+1)∧c∈body:=by
 have hk:k < body.length:=by
  rcases Nat.lt_or_ge k body.length with q | q
  ·exact q
  ·rw [List.drop_of_length_le q] at h; contradiction
 rw [List.drop_eq_getElem_cons hk] at h
 injection h with f v
 refine I0_4 ?_ hk v.symm (by exact sy f (List.getElem_mem hk))
 simp only [bS_,a3_,List.getD_eq_getElem?_getD,List.getElem?_eq_getElem hk,f]; rfl
theorem hI_ {body:List Nat}{k:Nat}{c:Nat}{r:List Nat}(h:body.drop k=c::r):ev_ (lS body) k=(c==92):=by
 unfold ev_
 simp only [(c1_ h).1,show ("\\" :Str)=chS 92 by decide,fw_]
theorem kw_ (a b:Nat):decide ((chS a).cps.toList < (chS b).cps.toList)=Nat.blt a b:=by
 rw [← lq_,Bool.eq_iff_iff,decide_eq_true_eq,Nat.blt_eq]
theorem mj_ {body:List Nat}(hb:∀c∈body,c < 128):∀(n k:Nat) (E:List (Str×Str)) (l:List (Nat×Nat)),goN n (body.drop k)=some l→lrGo (lS body) n k E=some (E++toS l)
 | 0, k, E, l, h => by cases h
 | n + 1, k, E, l, h => by
  simp only [iZ_]; unfold lrS
  cases hd:body.drop k with
  | nil=>
   rw [hd] at h
   cases h
   have:body.length≤k:=by
    have:=congrArg List.length hd
    rw [List.length_drop] at this
    simp at this
    exact Nat.le_of_sub_eq_zero this
   rw [if_neg (by exact sb (ao_ ..) (O527 this))]
   simp
  | cons c r=>
   rw [hd] at h
   obtain ⟨h6,hk,hr,hc⟩:=c1_ hd
   rw [if_pos (by exact sb (ao_ ..) hk),hI_ hd]
   dsimp only
   have K:(if (c==92)=true then r else c::r)=body.drop (if (c==92)=true then k+1 else k):=by
    by_cases e:(c==92)=true
    ·exact sb (if_pos e) (sb (if_pos e) hr)
    ·exact sb (if_neg e) (sb (if_neg e) hd.symm)
   generalize (if (c==92)=true then k+1 else k)=g at K ⊢
   replace h:goC (goN n) c r=some l:=h; unfold goC at h
   replace h:=K▸h
   cases A:body.drop g with
   | nil => rw [A] at h; cases h
   | cons lo r1=>
    rw [A] at h
    obtain ⟨g6,gk,I,X⟩:=c1_ A
    dsimp only at h
    rw [if_neg (by exact sb (ao_ ..) (Nat.not_le_of_lt gk)),g6,n3_ lo (hb lo X)]
    by_cases ha:(c==92 && alN lo)=true
    ·rw [if_pos ha] at h; contradiction
    rw [if_neg ha] at h
    refine sb (if_neg ha) ?_
    have Y:¬(decide ((chS lo).cps.toList < (chS lo).cps.toList)=true):=by refine sb (kw_ ..) ?_; simp [Nat.blt_eq]
    have one:(goN n r1).map (fun l=>(lo,lo)::l)=some l→(if decide ((chS lo).cps.toList < (chS lo).cps.toList)=true then none else lrGo (lS body) n (g+1) (E++ [(chS lo,chS lo)]))=some (E++toS l):=fun h=>by
     obtain ⟨l',B,rfl⟩:=Option.map_eq_some_iff.mp h
     rw [if_neg Y,mj_ hb n (g+1) _ l' (by exact sy I B)]
     simp
    rcases r1 with _ | ⟨d,_ | ⟨e,r2⟩⟩
    ·have o:body.length=g+1:=by
      have:=congrArg List.length I
      rw [List.length_drop] at this
      simp at this
      exact Nat.le_antisymm (Nat.le_of_sub_eq_zero this.symm) gk
     rw [if_neg (by refine sb (ao_ ..) (sb (decide_eq_false (by exact O530 o) ..) (sb (Bool.and_false ..) ?_)); simp)]
     exact one h
    ·have o:body.length=g+2:=by
      have:=congrArg List.length I
      simp only [List.length_drop] at this
      simp at this
      exact O531 this
     rw [if_neg (by refine sb (ao_ ..) (sb (decide_eq_false (by exact O532 o) ..) (sb (Bool.and_false ..) ?_)); simp)]
     exact one h
    ·refine gn fun P0 J=> ?_
     obtain ⟨d6,dk,T,dm⟩:=c1_ I.symm
     obtain ⟨e6,ek,er,em⟩:=c1_ T.symm
     have hw:ssl (lS body) (some ((g:Int)+1)) (some ((g:Int)+2)) none=chS d:=by
      have:=gw_ (lS body) (a:=g+1) (b:=g+2) (by exact O533) (by exact sb (ao_ ..) (Nat.le_of_succ_le ek))
      rw [a3_,← I] at this
      have s:g+2 - (g+1)=1:=by exact Eq.symm (Nat.eq_sub_of_add_eq' rfl)
      rw [s] at this
      exact this
     have C:(ssl (lS body) (some ((g:Int)+1)) (some ((g:Int)+2)) none==("-" :Str) && decide ((g:Int)+2 < (lS body).length))=(d==45):=by
      rw [hw,ao_,decide_eq_true (by exact Int.lt_of_toNat_lt ek),Bool.and_true,show ("-" :Str)=chS 45 by decide,fw_]
     refine J ?_
     refine sb C ?_
     dsimp only at h
     by_cases w:(d==45)=true
     ·rw [if_pos w] at h
      refine sb (if_pos w) (sb (hI_ T.symm) ?_)
      have L:(if (e==92)=true then r2 else e::r2)=body.drop (if (e==92)=true then g+3 else g+2):=by
       by_cases q:(e==92)=true
       ·exact sb (if_pos q) (sb (if_pos q) er)
       ·exact sb (if_neg q) (sb (if_neg q) T)
      generalize (if (e==92)=true then g+3 else g+2)=k2 at L ⊢
      rw [L] at h
      cases D:body.drop k2 with
      | nil => rw [D] at h; cases h
      | cons hi r3=>
       rw [D] at h
       obtain ⟨i6,ik,ir,im⟩:=c1_ D
       dsimp only at h
       rw [if_neg (by exact sb (ao_ ..) (Nat.not_le_of_lt ik)),i6,kw_]
       by_cases hh:Nat.blt hi lo=true
       ·rw [if_pos hh] at h; contradiction
       ·rw [if_neg hh] at h
        refine sb (if_neg hh) ?_
        obtain ⟨l',B,rfl⟩:=Option.map_eq_some_iff.mp h
        rw [mj_ hb n (k2+1) _ l' (by exact sy ir B)]
        simp
     ·rw [if_neg w] at h
      refine sb (if_neg w) ?_
      exact one h
theorem gD_ (a b:Nat){l:List Nat}(h:cK_ a b l=true):inS (lS [a,b]) (lS l)=false:=by
 have Q:∀(l:List Nat),cK_ a b l=true→∀i,(l.drop i).take 2≠[a,b]:=by
  intro l
  induction l with
  | nil => intro _ i; simp
  | cons x r Z=>
   intro h i
   cases r with
   | nil => cases i <;>simp
   | cons y r=>
    simp only [kp_] at h
    simp only [Bool.and_eq_true] at h
    cases i with
    | zero=>
     intro q
     injection q with q1 q2
     injection q2 with q3 q4
     subst q1 q3
     exact absurd h.1 (by simp)
    | succ i => exact Z h.2 i
 unfold inS
 rcases hw_ (lS l) (lS [a,b]) 0 (lS l).length with ⟨S,_⟩ | ⟨i,r,_,_,⟨_,hi⟩,_⟩
 ·refine sb S ?_; rfl
 ·rw [StrLaws.subAt_eq] at hi
  have:=eq_of_beq hi
  simp only [a3_,a3_] at this
  exact absurd this (Q l h i)
theorem kX_ (q:List Nat)(h:2≤q.length):ssl (lS (91::q)) (some 2) (some (-1)) none=lS (q.drop 1).dropLast:=by
 have f:=StrLaws.sliceText_neg_hi (lS (91::q)) (some 2) (j:= -1) (by decide) (by exact sb (ao_ ..) (sb (List.length_cons ..) O537))
 have e:ssl (lS (91::q)) (some 2) (some (-1)) none=StrLaws.sliceText (lS (91::q)) (some 2) (some (-1)):=rfl
 have s:(-1+((lS (91::q)).length:Int))=((q.length:Nat):Int):=by exact sb (ao_ ..) (sb (List.length_cons ..) O538)
 refine sb e (sb f (sb s ?_))
 have v:=StrLaws.sliceText_nat (lS (91::q)) (a:=2) (b:=q.length) h (by simp only [ao_,List.length_cons]; exact O201)
 refine v.trans ?_
 apply congrArg lS
 refine sb (a3_ ..) (sb (List.dropLast_eq_take ..) (sb (List.length_drop ..) ?_))
 refine (?_:(q.drop 1).take (q.length - 2)=(q.drop 1).take (q.length - 1 - 1))
 congr 1
theorem kW_ (q:List Nat)(h:1≤q.length):ssl (lS (91::q)) (some 1) (some (-1)) none=lS q.dropLast:=by
 have f:=StrLaws.sliceText_neg_hi (lS (91::q)) (some 1) (j:= -1) (by decide) (by exact sb (ao_ ..) (sb (List.length_cons ..) O537))
 have e:ssl (lS (91::q)) (some 1) (some (-1)) none=StrLaws.sliceText (lS (91::q)) (some 1) (some (-1)):=rfl
 have s:(-1+((lS (91::q)).length:Int))=((q.length:Nat):Int):=by exact sb (ao_ ..) (sb (List.length_cons ..) O538)
 refine sb e (sb f (sb s ?_))
 have v:=StrLaws.sliceText_nat (lS (91::q)) (a:=1) (b:=q.length) h (by simp only [ao_,List.length_cons]; exact O201)
 refine v.trans ?_
 apply congrArg lS
 simp only [a3_,List.dropLast_eq_take]
 rfl
theorem f8_ (x:List Nat)(h:1≤x.length):ssl (lS x) none (some 1) none=lS (x.take 1):=by
 have f:=StrLaws.sliceText_to (x:=lS x) (j:=1) ⟨by decide,by simp only [a3_]; exact (fun {m} {n}=>Int.toNat_le.mp) h⟩
 have e:ssl (lS x) none (some 1) none=StrLaws.sliceText (lS x) none (some 1):=rfl
 simp only [e,f,a3_]
 rfl
theorem kg_ (x:List Nat)(h:1≤x.length):ssl (lS x) (some 1) none none=lS (x.drop 1):=by
 have:=ea_ (lS x) (a:=1) (by exact sb (ao_ ..) h)
 simp only [a3_] at this
 exact this
theorem k5_:∀c,c < 128→(!alN c || (dk_ (lS [c])==some (false,[(chS c,chS c)])))=true:=by decide+kernel
theorem mM_ (c:Nat)(hc:c < 128)(ha:alN c=true):dk_ (lS [c])=some (false,[(chS c,chS c)]):=by
 have h:=k5_ c hc
 simp only [ha,Bool.not_true,Bool.false_or] at h
 exact eq_of_beq h
theorem kh_ {q:List Nat}(hq:q.getLastD 0=93)(hb:∀c∈q,c < 128){l:List (Nat×Nat)}{body:List Nat}(u:body=if (q.headD 0==94)=true then (q.drop 1).dropLast else q.dropLast)
  (f:okHd body=true) (v:cK_ 38 38 body=true) (h3:cK_ 126 126 body=true) (h4:cK_ 124 124 body=true) (hl:goN (body.length+1) body=some l):
  dk_ (lS (91::q))=some (q.headD 0==94,toS l):=by
 have F:1≤q.length:=by
  cases q with
  | nil => cases hq
  | cons _ _ => simp
 have hx:bv_ (lS (91::q))=lS body:=by
  unfold bv_
  have O:(six (lS (91::q)) 1==("^" :Str))=(q.headD 0==94):=by
   have h:=bS_ (lS (91::q)) 1
   simp only [a3_] at h
   have e:(91::q).getD 1 0=q.headD 0:=by cases q <;>rfl
   rw [e] at h
   simp only [show (1:Int)=((1:Nat):Int) from rfl,h,show ("^" :Str)=chS 94 by decide,fw_]
  refine sb O (sb u ?_)
  by_cases hc:(q.headD 0==94)=true
  ·refine sb hc (sb (if_pos rfl) ?_)
   have V:2≤q.length:=by
    cases q with
    | nil => cases hq
    | cons a r=>
     cases r with
     | nil=>
      have s:a=94:=by simpa using hc
      have e3:a=93:=by exact hq
      exact O540 e3 s
     | cons _ _ => simp
   exact kX_ q V
  ·refine sb (Bool.eq_false_iff.mpr hc) (sb (if_neg (by simp)) ?_)
   exact kW_ q F
 have U:∀c∈body,c < 128:=fun c hc=>by
  rw [u] at hc
  split at hc
  ·exact hb c (List.mem_of_mem_drop ((List.dropLast_sublist _).subset hc))
  ·exact hb c ((List.dropLast_sublist _).subset hc)
 have ac:("." :Str)=lS [46]:=by decide
 have ae:("(?!)" :Str)=lS [40,63,33,41]:=by decide
 unfold dk_
 rw [if_neg,if_neg,if_neg,if_neg,if_neg]
 ·refine sb hx ?_
  have S:=mj_ U (body.length+1) 0 [] l (by exact sb List.drop_zero hl)
  refine sb (ao_ ..) (sb (S ..) ?_)
  have O:(six (lS (91::q)) 1==("^" :Str))=(q.headD 0==94):=by
   have h:=bS_ (lS (91::q)) 1
   simp only [a3_] at h
   have e:(91::q).getD 1 0=q.headD 0:=by cases q <;>rfl
   rw [e] at h
   simp only [show (1:Int)=((1:Nat):Int) from rfl,h,show ("^" :Str)=chS 94 by decide,fw_]
  refine sb O ?_
  rfl
 ·refine sb hx ?_
  have s:([("&&" :Str),"~~","||"].filter fun t=>inS t (lS body))= []:=by
   rw [List.filter_eq_nil_iff]
   intro t ht
   rcases List.mem_cons.mp ht with rfl | ht
   ·refine sb (show ("&&" :Str)=lS [38,38] by decide) (sb (gD_ 38 38 v) ?_); simp
   ·rcases List.mem_cons.mp ht with rfl | ht
    ·refine sb (show ("~~" :Str)=lS [126,126] by decide) (sb (gD_ 126 126 h3) ?_); simp
    ·refine sb (List.mem_singleton.mp ht) (sb (show ("||" :Str)=lS [124,124] by decide) (sb (gD_ 124 124 h4) ?_)); simp
  refine sb s ?_
  simp
 ·refine sb hx ?_
  cases G:body with
  | nil => rw [G] at f; cases f
  | cons b r=>
   rw [G] at f
   unfold okHd at f
   simp only [Bool.and_eq_true,bne_iff_ne,Bool.not_eq_true'] at f
   have O:(six (lS (91::q)) (-1) !=("]" :Str))=false:=by
    have e:(91::q).getLastD 0=93:=by
     cases q with
     | nil => cases hq
     | cons a r => rw [List.getLastD_cons] at hq ⊢; exact sb List.getLastD_cons hq
    rw [eb_,e,show ("]" :Str)=chS 93 by decide]
    simp
   have s:([("" :Str),"["].any fun y=>y==ssl (lS (b::r)) none (some 1) none)=false:=by
    rw [f8_ _ (by simp),show ("" :Str)=lS [] by decide,show ("[" :Str)=lS [91] by decide]
    show ((lS []==lS [b]) || ((lS [91]==lS [b]) || false))=false
    rw [cM_,cM_]
    have:((91:Nat)==b)=false:=by rw [beq_eq_false_iff_ne]; exact fun q=>f.1 q.symm
    show (false || ((91==b && true) || false))=false
    rw [this]; rfl
   have e3:inS "]" (ssl (lS (b::r)) (some 1) none none)=false:=by
    rw [kg_ _ (by simp),show ("]" :Str)=lS [93] by decide,jk_]
    rw [decide_eq_false]
    intro hm
    have:r.contains 93=true:=by rw [List.contains_iff_mem]; exact hm
    rw [this] at f
    exact absurd f.2 (by simp)
   simp only [O,s,e3]; simp
 ·simp only [ao_,List.length_cons]; exact O541 F
 ·rw [f8_ _ (by simp),show ("[" :Str)=lS [91] by decide]
  simp
 ·show ¬((("." :Str)==lS (91::q)) || ((("(?!)" :Str)==lS (91::q)) || false))=true
  simp only [ac,ae,cM_,cM_]
  simp
theorem ifo {c:Prop} [Decidable c] {z:Type}{x y:Option z}{r:z}{P:Prop}(h:(if c then x else y)=some r)(f:c→x=some r→P)(v:¬c→y=some r→P):P:=by
 by_cases hc:c
 ·rw [if_pos hc] at h; exact f hc h
 ·rw [if_neg hc] at h; exact v hc h
theorem ifn {c:Prop} [Decidable c] {z:Type}{y:Option z}{r:z}(h:(if c then none else y)=some r):¬c∧y=some r:=ifo h (fun _ e=>nomatch e) And.intro
theorem ify {c:Prop} [Decidable c] {z:Type}{x:Option z}{r:z}(h:(if c then x else none)=some r):c∧x=some r:=ifo h And.intro (fun _ e=>nomatch e)
theorem lW_ {p:List Nat}(hp:∀c∈p,c < 128){r:Bool×List (Nat×Nat)}(h:lX_ p=some r):dk_ (lS p)=some (r.1,toS r.2):=by
 refine ifo h (fun e h=> ?_) fun _ h=>ifo h (fun e h=> ?_) fun _ h=>ifo h (fun e h=> ?_) fun _ h=>ifo h (fun e h=> ?_) fun _ h=> ?_
 ·cases h; refine sb (eq_of_beq e) ?_; decide+kernel
 ·cases h; refine sb (eq_of_beq e) ?_; decide+kernel
 ·cases h; refine sb (eq_of_beq e) ?_; decide+kernel
 ·cases p with
  | nil => cases e
  | cons a q=>
   have ea:a=91:=eq_of_beq e
   refine sb ea ?_
   have N:=ify h
   have M:=ify N.2
   have H:=M.1
   simp only [Bool.and_eq_true] at H
   obtain ⟨l,hl,rfl⟩:=Option.map_eq_some_iff.mp M.2
   exact kh_ (eq_of_beq N.1) (fun c R=>hp c (tQ R)) rfl H.1 H.2.1 H.2.2.1 H.2.2.2 hl
 ·have N:=ify h
  have M:=Bool.and_eq_true_iff.mp N.1
  have ep:p= [p.headD 0]:=eq_of_beq M.1
  generalize p.headD 0=c at*
  subst ep
  cases N.2
  exact mM_ c (hp c mQ) M.2
theorem nn_ (l:List (Nat×Nat))(c:Nat):hitR (toS l) (chS c)=hitN l c:=by
 delta hitR hitN
 have e:∀q:Nat×Nat,inR (chS c) (chS q.1,chS q.2)=(!Nat.blt c q.1 && !Nat.blt q.2 c):=fun q=>by
  unfold inR
  exact sb (kw_ ..) (sb (kw_ ..) rfl)
 induction l with
 | nil => rfl
 | cons q r Z=>
  simp only [List.any_cons,← Z]
  refine (?_:((((toS (q::r)).filter (inR (chS c))).map fun p=>p.1) != [])=_)
  simp only [show toS (q::r)=(chS q.1,chS q.2)::toS r from rfl,List.filter_cons,e]
  cases (!Nat.blt c q.1 && !Nat.blt q.2 c)
  ·refine sb (if_neg (by simp)) ?_; rfl
  ·refine sb (if_pos rfl) ?_; rfl
end Mine
end
section
namespace Mine
noncomputable def bN_ (i:Nat):Bool:=(((allB 8).drop (16*i)).take 16).all fun bs=>(List.range 10).all fun d=>lH_ bs (itN bs d)
set_option maxHeartbeats 0 in
theorem lR_:bN_ 0=true:=by decide+kernel
set_option maxHeartbeats 0 in
theorem lQ_:bN_ 1=true:=by decide+kernel
set_option maxHeartbeats 0 in
theorem lP_:bN_ 2=true:=by decide+kernel
set_option maxHeartbeats 0 in
theorem lO_:bN_ 3=true:=by decide+kernel
set_option maxHeartbeats 0 in
theorem lN_:bN_ 4=true:=by decide+kernel
set_option maxHeartbeats 0 in
theorem lM_:bN_ 5=true:=by decide+kernel
set_option maxHeartbeats 0 in
theorem lL_:bN_ 6=true:=by decide+kernel
set_option maxHeartbeats 0 in
theorem lK_:bN_ 7=true:=by decide+kernel
set_option maxHeartbeats 0 in
theorem lJ_:bN_ 8=true:=by decide+kernel
set_option maxHeartbeats 0 in
theorem lI_:bN_ 9=true:=by decide+kernel
set_option maxHeartbeats 0 in
theorem kb_:bN_ 10=true:=by decide+kernel
set_option maxHeartbeats 0 in
theorem ka_:bN_ 11=true:=by decide+kernel
set_option maxHeartbeats 0 in
theorem j9_:bN_ 12=true:=by decide+kernel
set_option maxHeartbeats 0 in
theorem j8_:bN_ 13=true:=by decide+kernel
set_option maxHeartbeats 0 in
theorem j7_:bN_ 14=true:=by decide+kernel
set_option maxHeartbeats 0 in
theorem j6_:bN_ 15=true:=by decide+kernel
theorem hT_:∀i,i < 16→bN_ i=true
 | 0, _ => lR_
 | 1, _ => lQ_
 | 2, _ => lP_
 | 3, _ => lO_
 | 4, _ => lN_
 | 5, _ => lM_
 | 6, _ => lL_
 | 7, _ => lK_
 | 8, _ => lJ_
 | 9, _ => lI_
 | 10, _ => kb_
 | 11, _ => ka_
 | 12, _ => j9_
 | 13, _ => j8_
 | 14, _ => j7_
 | 15, _ => j6_
 | _ + 16, h => absurd h (by exact of_decide_eq_false rfl)
theorem j5_ {bs:List Bool}(hb:bs.length=8){d:Nat}(hd:d < 10):lH_ bs (itN bs d)=true:=by
 have hm:=fj_ bs
 rw [hb] at hm
 obtain ⟨j,a,e⟩:=List.mem_iff_getElem.mp hm
 have c:(allB 8).length=256:=by decide+kernel
 have hi:=hT_ (j / 16) (by exact O543 a c)
 have b:=List.all_eq_true.mp hi bs (by
  rw [List.mem_iff_getElem?]
  refine ⟨j % 16, ?_⟩
  exact sb (List.getElem?_take) (sb (if_pos (by exact Nat.mod_lt _ (by decide))) (sb (List.getElem?_drop) (sb (show 16*(j / 16)+j % 16=j by exact O545) (sb (List.getElem?_eq_getElem a) (sb e rfl))))))
 exact List.all_eq_true.mp b d (List.mem_range.mpr hd)
end Mine
end
section
namespace Mine
theorem e9_:∀(g:List Nat) (bs:List Bool),g.length=bs.length→g.Nodup→∀x∈List.zip g bs,(selL g bs).contains x.1=x.2
 | [], _, _, _, x, hx => by simp at hx
 | c :: g, [], h, _, x, hx => by contradiction
 | c :: g, b :: bs, h, u, x, hx => by
  have J:=e9_ g bs (by simpa using h) (List.nodup_cons.mp u).2
  have sub:∀(g:List Nat) (bs:List Bool) (y:Nat),y∈selL g bs→y∈g:=by
   intro g
   induction g with
   | nil => intro bs y hy; cases bs <;>exact nomatch hy
   | cons d g G=>
    intro bs y hy
    cases bs with
    | nil => exact nomatch hy
    | cons b bs=>
     cases b with
     | true=>
      rcases List.mem_cons.mp hy with rfl | hy
      ·exact .head _
      ·exact .tail _ (G bs y hy)
     | false => exact .tail _ (G bs y hy)
  simp only [List.zip_cons_cons] at hx
  rcases List.mem_cons.mp hx with rfl | hx
  ·cases b with
   | true => rw [List.contains_iff_mem]; exact .head _
   | false=>
    refine (?_:(selL g bs).contains c=false)
    rw [← Bool.not_eq_true,List.contains_iff_mem]
    exact fun q=>(List.nodup_cons.mp u).1 (sub g bs c q)
  ·have t:=J x hx
   have K:x.1≠c:=fun q=>(List.nodup_cons.mp u).1 (q▸(List.of_mem_zip hx).1)
   cases b with
   | true=>
    refine (?_:(c::selL g bs).contains x.1=x.2)
    refine sb List.contains_cons (sb t ?_)
    have:(x.1==c)=false:=by rw [beq_eq_false_iff_ne]; exact K
    simp only [this,Bool.false_or]
   | false => exact t
theorem gq_:∀(g:List Nat) (bs:List Bool),g.length=bs.length→∀c∈g,∃b,(c,b)∈List.zip g bs
 | [], _, _, c, hc => by cases hc
 | c :: g, [], h, _, _ => by contradiction
 | c :: g, b :: bs, h, d, hd => by
  simp only [List.zip_cons_cons]
  rcases List.mem_cons.mp hd with rfl | hd
  ·exact ⟨b, .head _⟩
  ·refine X1_1 (gq_ g bs (by simpa using h) d hd) fun b' Y=> ?_
   exact ⟨b', .tail _ Y⟩
theorem hr_ {bs:List Bool}(hb:bs.length=8){d:Nat}(hd:d < 10):∃(it:It) (p:List Nat) (r:Rdg),Side (selL colN bs) (aZ_ ((selL colN bs).map chS) ((d:Nat):Int)) it p r:=by
 have h:=j5_ hb hd
 have hw:=hM_ hb d hd
 generalize itN bs d=it at h hw
 unfold lH_ at h
 cases P:it.out escN with
 | none => rw [P] at h; simp at h
 | some p=>
  rw [P] at h
  dsimp only at h
  cases hr:lX_ p with
  | none => rw [hr] at h; simp at h
  | some r=>
   rw [hr] at h
   dsimp only at h
   simp only [Bool.and_eq_true] at h
   (refine X0_4 h fun q1 q2 h5 h6=> ?_; obtain ⟨i,t⟩:=q1; obtain ⟨h3,h4⟩:=q2)
   have hp:∀c∈p,c < 128:=fun c hc=>by
    have:=List.all_eq_true.mp h4 c hc
    exact Nat.blt_eq.mp this
   refine I3_1 it p (r.1,toS r.2) ⟨hw, ?_, ?_,P, ?_,Nat.le_of_ble_eq_true t,Nat.le_of_ble_eq_true h3,lW_ hp hr,by refine (?_:(r.2.map _).length≤100); exact sb (List.length_map ..) (Nat.le_of_ble_eq_true h5), ?_⟩
   ·cases it with
    | star => cases i
    | quest => exact trivial
    | one c=>
     unfold l4_ at i
     simp only [Bool.and_eq_true,bne_iff_ne] at i
     exact I0_3 i.1.1.1 i.1.1.2 i.1.2
    | brk B => exact i
   ·rintro rfl
    contradiction
   ·rintro c rfl
    unfold l4_ at i
    simp only [Bool.and_eq_true] at i
    exact List.contains_iff_mem.mp i.2
   ·intro c hc
    have C:colN.length=bs.length:=by refine sb hb ?_; rfl
    refine X1_1 (gq_ colN bs C c hc) fun b hz=> ?_
    have h7:=List.all_eq_true.mp h6 (c,b) hz
    have h8:=e9_ colN bs C (by decide) (c,b) hz
    refine (?_:(hitR (toS r.2) (chS c)==r.1)= !(selL colN bs).contains c)
    simp only [nn_,show (selL colN bs).contains c=b from h8]
    exact eq_of_beq h7
theorem lS_ (v:Int):inT v=(selL colN ((List.range 8).map (inB v))).map chS:=by
 unfold inT
 have e:∀(l:List Nat) (f:Nat→Nat) (p:Nat→Bool),((l.filter p).map f)=selL (l.map f) (l.map p):=by
  intro l f p
  induction l with
  | nil => rfl
  | cons a r J=>
   refine sb List.filter_cons (sb List.map_cons (sb List.map_cons ?_))
   cases h:p a
   ·exact sb (if_neg (by simp)) J
   ·refine sb (if_pos rfl) (sb List.map_cons (sb J ?_)); rfl
 have i:colN=(List.range 8).map fun j=>colN.getD j 0:=by decide
 refine sb i (sy (e (List.range 8) (fun j=>colN.getD j 0) (inB v)) (sb List.map_map ?_))
 refine List.map_congr_left fun j hj=> ?_
 have a8:=List.mem_range.mp (List.mem_filter.mp hj).1
 refine sb (bS_ ..) ?_
 have t:colS.cps.toList=colN:=by decide
 refine sb t ?_
 rfl
theorem mQ_ {bs:List Bool}(hb:bs.length=8):(cl_ colS ((selL colN bs).map chS)).length≤100∧(bk_ colS ((selL colN bs).map chS)).length≤1000∧(a2_ ((selL colN bs).map chS)).length≤1000∧(Txt.join "" ((selL colN bs).map chS)).length≤100:=by
 refine X0_2 (i7_ hb) fun i t=> ?_
 refine I0_4 ?_ ?_ ?_ ?_
 ·unfold cl_
  refine Nat.le_trans (dp_ 1 8 (eY_ fun c _ _=>by cases (((selL colN bs).map chS).any fun y=>y==chS c) <;>exact Nat.le_refl _) (Nat.le_trans (dX_ _ _ _) (by decide))) (by decide)
 ·exact sb (iD_ hb ..) (sb (ao_ ..) (Nat.le_trans i (Nat.le_of_ble_eq_true rfl)))
 ·refine sb (gz_ ..) (sb (ao_ ..) ?_)
  unfold ci_
  refine sb List.length_append ?_
  have:=List.length_filter_le (fun c=>c !=45) (selL colN bs)
  split <;>simp <;>(first | exact O496 this t | exact O497 this t)
 ·exact sb (kE_ ..) (sb (ao_ ..) (Nat.le_trans t (Nat.le_of_ble_eq_true rfl)))
theorem i8_ (v H F c3 c4:Int):∃(SL SO:List Nat) (tU tD:Str) (M iD:It) (U V:List Nat) (rU rD:Rdg) (k fi:Nat) (T Z:List Nat) (m3 m4:Nat),LawD v H F c3 c4 SL SO tU tD M iD U V rU rD k fi T Z m3 m4:=by
 refine gn fun P0 E=> ?_
 obtain ⟨bs,D⟩:∃bs,bs=(List.range 8).map (inB v):=⟨_,rfl⟩
 have hb:bs.length=8:=by refine sb D ?_; rfl
 have u:(notB bs).length=8:=by unfold notB; exact sb (List.length_map ..) hb
 have I:inT v=(selL colN bs).map chS:=by exact sb D (lS_ v)
 refine X1_1 (Int.eq_ofNat_of_zero_le (aF_ H (b:=10) (by decide)).1) fun d1 e1=> ?_
 have l1:=(aF_ H (b:=10) (by decide)).2
 refine X1_1 (Int.eq_ofNat_of_zero_le (aF_ (Int.fdiv H 10) (b:=10) (by decide)).1) fun d2 e2=> ?_
 have l2:=(aF_ (Int.fdiv H 10) (b:=10) (by decide)).2
 rw [e1] at l1
 rw [e2] at l2
 refine X3_1 (hr_ hb (d:=d1) (by exact (fun {n m}=>Int.ofNat_lt.mp) l1)) fun M U rU SU=> ?_
 refine X3_1 (hr_ u (d:=d2) (by exact (fun {n m}=>Int.ofNat_lt.mp) l2)) fun iD V rD SD=> ?_
 have hO:∀c∈colN,(selL colN (notB bs)).contains c= !(selL colN bs).contains c:=fun c hc=>by
  have C:colN.length=bs.length:=by refine sb hb ?_; rfl
  refine X1_1 (gq_ colN bs C c hc) fun b hz=> ?_
  have h8:=e9_ colN bs C (by decide) (c,b) hz
  have Q:(c, !b)∈List.zip colN (notB bs):=by
   unfold notB
   refine sb List.zip_map_right ?_
   exact List.mem_map.mpr ⟨(c,b),hz,rfl⟩
  have h9:=e9_ colN (notB bs) (by refine sb u ?_; rfl) (by decide) (c, !b) Q
  refine sb (show (selL colN bs).contains c=b from h8) ?_
  exact h9
 refine X1_1 (Int.eq_ofNat_of_zero_le (aF_ (Int.fmod F 10) (b:=3) (by decide)).1) fun S q3=> ?_
 have l3:=(aF_ (Int.fmod F 10) (b:=3) (by decide)).2
 rw [q3] at l3
 obtain ⟨k,O,s⟩:∃k:Nat,at? [PV.int 5,PV.int 4,PV.int 6] (Int.fmod (Int.fmod F 10) 3)=some (.int (k:Int))∧(k=4∨k=5∨k=6):=by
  refine sb q3 ?_
  have:S=0∨S=1∨S=2:=by exact O500 l3
  rcases this with rfl | rfl | rfl
  ·exact ⟨5,rfl, .inr (.inl rfl)⟩
  ·exact ⟨4,rfl, .inl rfl⟩
  ·exact ⟨6,rfl, .inr (.inr rfl)⟩
 have N:=aF_ (Int.fmod (Int.fdiv F 10) 10) (b:=10 - (k:Int)) (by exact O501 s)
 refine X1_1 (Int.eq_ofNat_of_zero_le N.1) fun f qf=> ?_
 rw [qf] at N
 refine X1_4 (lj_ c3) fun T s3 t3 n3 k3=> ?_
 refine X1_4 (lj_ c4) fun Z s4 t4 n4 k4=> ?_
 have A:(1+f)+k≤10:=by exact O502 N
 have z3:=er_ n3 A
 have z4:=er_ n4 A
 have R:=k3 (1+f) k (by exact O503)
 have X:=k4 (1+f) k (by exact O503)
 have w:=nb_ s z3 z4 (fun c hc=>by
  have i:c∈colN:=by
   rcases List.mem_append.mp hc with h | h
   ·exact R c h
   ·exact X c h
  unfold colN at i
  simp at i
  exact O413 i)
 refine X0_4 (mQ_ hb) fun a1 a2 a3 a4=> ?_
 refine X0_4 (mQ_ u) fun b1 b2 b3 b4=> ?_
 have z:=hK_ hb
 have o:=hK_ u
 have ab:notB (notB bs)=bs:=by
  unfold notB
  refine sb List.map_map ?_
  have:((fun b:Bool=> !b) ∘ fun b=> !b)=id:=by funext b; simp
  exact sb (this ..) (sb (List.map_id ..) rfl)
 rw [ab] at o
 refine E ?_
 refine ⟨selL colN bs,selL colN (notB bs),_,_,M,iD,U,V,rU,rD,k,1+f,T,Z,_,_,⟨I,(by exact sb I z),(i7_ hb).2,(i7_ u).2,(by exact sb e1 rfl),(by exact sb e2 rfl),SU,SD,fun L hL=> ?_,O,s,(by exact sb qf O504),A,s3,s4,t3,t4,n3,n4,R,X,(w.1),(w.2),in_ SU SD hO R (by exact O505 s z3),in_ SU SD hO X (by exact O505 s z4)⟩⟩
 rcases hL with rfl | rfl
 ·exact sb z ⟨a1,b1,a2,b2,a3,b3,a4,b4⟩
 ·exact sb o ⟨b1,a1,b2,a2,b3,a3,b4,a4⟩
end Mine
end
section
set_option maxRecDepth 1000000
namespace Mine
noncomputable def lawP:Program:=PySem.Challenge.rw_kt0027_01.row.prog
noncomputable def mkG (w:World)(h:Heap)(os:OsState)(mg mb:Str→Option Value):GC:= {prog:=lawP,w:=w,hG:=h,Pt:=57,os:=os,mg:=mg,mb:=mb,TabOk:=k6_ 57 hW_ qLam}
theorem hP_ {P:Addr}{pl:Pos}{q:Str}{h h':Heap}{W:Addr→Prop}(T:k6_ P pl q h)(n:¬W P)(c:∀a o,W a→h.get? a=some o→bg_ o)(k:∀b o,¬W b→h.get? b=some o→h'.get? b=some o):k6_ P pl q h':=by
 obtain ⟨ps,e,t,r⟩:=T
 refine I1_3 ps (k _ _ n e) t (fun C y=> ?_)
 obtain ⟨d,o,vs,u,D,v,s,A⟩:=r C y
 refine I4_4 d o vs u D (k d o (fun hw=> ?_) v) s A
 exact c d o hw v vs s _ _ A
section
variable {w:World}{h:Heap}{os:OsState}{mg mb:Str→Option Value}{p:Program}{l:List Str}{m:ExcName→Option Value}
theorem kr_ (T:Top p l m mg mb h):(mkG w h os mg mb).Good where
 tabKeepW:=fun _ _ _ t n c k=>hP_ t n c k
 main:=T.g
 blts:=T.b
 nolim:=T.nolimit
 ptMain:=show mainGlobals≠57 by decide
 ptBlt:=show builtinsNs≠57 by decide
 ptSta:=show cStatics≠57 by decide
structure KFn (f c:Nat)(n:Nat):Prop where
 fn:∀P:Params,∃cls j i pm doc,(hd.heap_39 P).lookup f=some ⟨cls,j, .func (fdat n pm (.ref c) doc),i⟩
 cd:∀P:Params,∃cls j i vs t,(hd.heap_39 P).lookup c=some ⟨cls,j, .fields vs,i⟩∧vs[1]? =some (.str (fdef n).1 t)
 fp:f≠57
 cp:c≠57
theorem KFn.at_ {f c n:Nat}(F:KFn f c n)(X:(hd.heap_39 w.params).In h):∃pm doc,FnAt (mkG w h os mg mb) f n pm (.ref c) doc:=by
 obtain ⟨cls,j,i,pm,doc,e⟩:=F.fn w.params
 obtain ⟨B,z,x,vs,t,v,s⟩:=F.cd w.params
 exact I2_1 pm doc ⟨⟨_,X _ _ e,rfl⟩,F.fp,c,_,vs,t,rfl,F.cp,X _ _ v,rfl,s⟩
end
set_option maxHeartbeats 4000000
theorem nj_:KFn 43 42 3:=⟨fun P=>⟨_,_,_,_,_,rfl⟩,fun P=>⟨_,_,_,_,_,rfl,rfl⟩,by decide,by decide⟩
theorem kEsc:KFn 55 54 6:=⟨fun P=>⟨_,_,_,_,_,rfl⟩,fun P=>⟨_,_,_,_,_,rfl,rfl⟩,by decide,by decide⟩
theorem kTin:KFn 62 61 8:=⟨fun P=>⟨_,_,_,_,_,rfl⟩,fun P=>⟨_,_,_,_,_,rfl,rfl⟩,by decide,by decide⟩
theorem nR_:KFn 69 68 9:=⟨fun P=>⟨_,_,_,_,_,rfl⟩,fun P=>⟨_,_,_,_,_,rfl,rfl⟩,by decide,by decide⟩
theorem kSif:KFn 76 75 11:=⟨fun P=>⟨_,_,_,_,_,rfl⟩,fun P=>⟨_,_,_,_,_,rfl,rfl⟩,by decide,by decide⟩
theorem kFil:KFn 116 115 32:=⟨fun P=>⟨_,_,_,_,_,rfl⟩,fun P=>⟨_,_,_,_,_,rfl,rfl⟩,by decide,by decide⟩
theorem kByt:KFn 123 122 34:=⟨fun P=>⟨_,_,_,_,_,rfl⟩,fun P=>⟨_,_,_,_,_,rfl,rfl⟩,by decide,by decide⟩
theorem kRow:KFn 130 129 36:=⟨fun P=>⟨_,_,_,_,_,rfl⟩,fun P=>⟨_,_,_,_,_,rfl,rfl⟩,by decide,by decide⟩
theorem kRan:KFn 135 134 37:=⟨fun P=>⟨_,_,_,_,_,rfl⟩,fun P=>⟨_,_,_,_,_,rfl,rfl⟩,by decide,by decide⟩
theorem kWri:KFn 140 139 38:=⟨fun P=>⟨_,_,_,_,_,rfl⟩,fun P=>⟨_,_,_,_,_,rfl,rfl⟩,by decide,by decide⟩
theorem kRea:KFn 145 144 39:=⟨fun P=>⟨_,_,_,_,_,rfl⟩,fun P=>⟨_,_,_,_,_,rfl,rfl⟩,by decide,by decide⟩
theorem kWor:KFn 150 149 40:=⟨fun P=>⟨_,_,_,_,_,rfl⟩,fun P=>⟨_,_,_,_,_,rfl,rfl⟩,by decide,by decide⟩
theorem kPat:KFn 157 156 41:=⟨fun P=>⟨_,_,_,_,_,rfl⟩,fun P=>⟨_,_,_,_,_,rfl,rfl⟩,by decide,by decide⟩
theorem kSta:KFn 162 161 42:=⟨fun P=>⟨_,_,_,_,_,rfl⟩,fun P=>⟨_,_,_,_,_,rfl,rfl⟩,by decide,by decide⟩
theorem kLaw:KFn 167 166 43:=⟨fun P=>⟨_,_,_,_,_,rfl⟩,fun P=>⟨_,_,_,_,_,rfl,rfl⟩,by decide,by decide⟩
theorem no_ (P:Params):nsIn (hd.heap_39 P) mainGlobals "translate" =some (some (.ref 43)):=by rfl
theorem gEsc (P:Params):nsIn (hd.heap_39 P) mainGlobals "escape" =some (some (.ref 55)):=by rfl
theorem gTin (P:Params):nsIn (hd.heap_39 P) mainGlobals "_translate" =some (some (.ref 62)):=by rfl
theorem nU_ (P:Params):nsIn (hd.heap_39 P) mainGlobals "_join_translated_parts" =some (some (.ref 69)):=by rfl
theorem gSif (P:Params):nsIn (hd.heap_39 P) mainGlobals "S_IFMT" =some (some (.ref 76)):=by rfl
theorem gFil (P:Params):nsIn (hd.heap_39 P) mainGlobals "filemode" =some (some (.ref 116)):=by rfl
theorem gByt (P:Params):nsIn (hd.heap_39 P) mainGlobals "_byteswap" =some (some (.ref 123)):=by rfl
theorem gRow (P:Params):nsIn (hd.heap_39 P) mainGlobals "_law_row" =some (some (.ref 130)):=by rfl
theorem gRan (P:Params):nsIn (hd.heap_39 P) mainGlobals "_law_ranges" =some (some (.ref 135)):=by rfl
theorem gWri (P:Params):nsIn (hd.heap_39 P) mainGlobals "_law_written" =some (some (.ref 140)):=by rfl
theorem gRea (P:Params):nsIn (hd.heap_39 P) mainGlobals "_law_read" =some (some (.ref 145)):=by rfl
theorem gWor (P:Params):nsIn (hd.heap_39 P) mainGlobals "_law_words" =some (some (.ref 150)):=by rfl
theorem gPat (P:Params):nsIn (hd.heap_39 P) mainGlobals "_law_pattern" =some (some (.ref 157)):=by rfl
theorem gSta (P:Params):nsIn (hd.heap_39 P) mainGlobals "_law_stands" =some (some (.ref 162)):=by rfl
theorem gLaw (P:Params):nsIn (hd.heap_39 P) mainGlobals "law" =some (some (.ref 167)):=by rfl
theorem gRe (P:Params):nsIn (hd.heap_39 P) mainGlobals "_twin_re_1" =some (some (.ref 36)):=by rfl
theorem gMap (P:Params):nsIn (hd.heap_39 P) mainGlobals "_special_chars_map" =some (some (.ref 45)):=by rfl
theorem nM_ (P:Params):nsIn (hd.heap_39 P) mainGlobals "len" =some none:=by rfl
theorem n1_:bootBuiltins "len" =some (.builtin "len"):=by kernel_rfl
theorem nK_ (P:Params):nsIn (hd.heap_39 P) mainGlobals "ord" =some none:=by rfl
theorem nZ_:bootBuiltins "ord" =some (.builtin "ord"):=by kernel_rfl
theorem nN_ (P:Params):nsIn (hd.heap_39 P) mainGlobals "chr" =some none:=by rfl
theorem n2_:bootBuiltins "chr" =some (.builtin "chr"):=by kernel_rfl
theorem nL_ (P:Params):nsIn (hd.heap_39 P) mainGlobals "max" =some none:=by rfl
theorem n0_:bootBuiltins "max" =some (.builtin "max"):=by kernel_rfl
theorem f2_ (P:Params):nsIn (hd.heap_39 P) mainGlobals "isinstance" =some none:=by rfl
theorem gm_:bootBuiltins "isinstance" =some (.builtin "isinstance"):=by kernel_rfl
theorem l7_ (P:Params):nsIn (hd.heap_39 P) mainGlobals "range" =some none:=by rfl
theorem mI_:bootBuiltins "range" =some (.type "range"):=by kernel_rfl
theorem l8_ (P:Params):nsIn (hd.heap_39 P) mainGlobals "bytes" =some none:=by rfl
theorem mJ_:bootBuiltins "bytes" =some (.type "bytes"):=by kernel_rfl
theorem gK_ (P:Params):nsIn (hd.heap_39 P) mainGlobals "bytearray" =some none:=by rfl
theorem hg_:bootBuiltins "bytearray" =some (.type "bytearray"):=by kernel_rfl
theorem nJ_ (P:Params):nsIn (hd.heap_39 P) mainGlobals "str" =some none:=by rfl
theorem nY_:bootBuiltins "str" =some (.type "str"):=by kernel_rfl
theorem gJ_ (P:Params):nsIn (hd.heap_39 P) mainGlobals "enumerate" =some none:=by rfl
theorem hf_:bootBuiltins "enumerate" =some (.type "enumerate"):=by kernel_rfl
theorem kq_ (P:Params):nsIn (hd.heap_39 P) mainGlobals "object" =some none:=by rfl
theorem k2_:bootBuiltins "object" =some (.type "object"):=by kernel_rfl
end Mine
end
section
set_option maxRecDepth 1000000
namespace Mine
section
variable {g:GC}{X:Addr→Prop}{R:WRecords}{cl:Str→Option Addr}{h:Heap}
theorem l0_ {v:Value}{i:Int}{as:List Addr}(r:ReadsW R cl h v (.int i) as):Rd g X h (.int i) v:=by
 cases r with
 | int i t => exact rd_int.mpr ⟨t,rfl⟩
theorem lZ_ {v:Value}{x:Str}{as:List Addr}(r:ReadsW R cl h v (.str x) as):Rd g X h (.str x) v:=by
 cases r with
 | str x t => exact rd_str.mpr ⟨t,rfl⟩
theorem iG_ {α:Type}{toW:α→WData}{toP:α→PV}:∀{l:List α} {vs:List Value} {as:List Addr},(∀x∈l,∀v as,ReadsW R cl h v (toW x) as→Rd g X h (toP x) v)→ReadsAllW R cl h vs (l.map toW) as→RdL g X h (l.map toP) vs
 | [], vs, as, H, r => by
  cases r
  exact aG_.mpr rfl
 | x :: l, vs, as, H, r => by
  cases r with
  | cons r1 r2 => exact am_.mpr (I2_3 _ _ rfl (H x mQ _ _ r1) (iG_ (fun y hy=>H y (tQ hy)) r2))
theorem gA_ {α:Type}{toW:α→WData}{toP:α→PV}{l:List α}{v:Value}{as:List Addr}(hX:∀a,X a→∀o,h.get? a=some o→o.cls≠ .type "tuple")(H:∀x∈l,∀v as,ReadsW R cl h v (toW x) as→Rd g X h (toP x) v)
  (r:ReadsW R cl h v (.tuple (l.map toW)) as):Rd g X h (.tup (l.map toP)) v:=by
 generalize hd:WData.tuple (l.map toW)=d at r
 cases r with
 | tuple e1 e2 e3 e4=>
  injection hd with hd
  subst hd
  exact ck_.mpr (I2_4 _ _ rfl (fun hx=>hX _ hx _ e1 e2) ⟨_,e1,e2,_,e3⟩ (iG_ H e4))
 | _ => contradiction
end
noncomputable def bcW (p:Int×Str):WData:= .tuple [.int p.1, .str p.2]
noncomputable def tbW (t:List (Int×Str)):WData:= .tuple (t.map bcW)
theorem lY_ {g:GC}{X:Addr→Prop}{R:WRecords}{cl:Str→Option Addr}{h:Heap}{v:Value}{as:List Addr}(hX:∀a,X a→∀o,h.get? a=some o→o.cls≠ .type "tuple"){T:List (List (Int×Str))}
  (r:ReadsW R cl h v (.tuple (T.map tbW)) as):Rd g X h (ftP T) v:=
 gA_ hX (fun t _ v as r=>gA_ (toW:=bcW) (toP:=bcP) hX (fun p _ v as r=>by
  have r':ReadsW R cl h v (.tuple (([(.int p.1, .int p.1),(.str p.2, .str p.2)]:List (WData×PV)).map (·.1))) as:=r
  exact gA_ (toW:=fun q:WData×PV=>q.1) (toP:=fun q:WData×PV=>q.2) hX (fun q hq v as r=>by
   rcases List.mem_cons.mp hq with rfl | hq
   ·exact l0_ r
   ·rw [List.mem_singleton.mp hq] at r ⊢; exact lZ_ r) r') r) r
noncomputable def es45:Array DictEntry:= #[⟨40, .int 40 334, .str "\\(" 338⟩,⟨41, .int 41 340, .str "\\)" 344⟩,⟨91, .int 91 346, .str "\\[" 350⟩,⟨93, .int 93 352, .str "\\]" 356⟩,⟨123, .int 123 358, .str "\\{" 362⟩,⟨125, .int 125 364, .str "\\}" 368⟩,
 ⟨63, .int 63 370, .str "\\?" 374⟩,⟨42, .int 42 376, .str "\\*" 380⟩,⟨43, .int 43 382, .str "\\+" 386⟩,⟨45, .int 45 388, .str "\\-" 392⟩,⟨124, .int 124 394, .str "\\|" 398⟩,⟨94, .int 94 400, .str "\\^" 404⟩,⟨36, .int 36 406, .str "\\$" 410⟩,
 ⟨92, .int 92 412, .str "\\\\" 416⟩,⟨46, .int 46 418, .str "\\." 422⟩,⟨38, .int 38 424, .str "\\&" 428⟩,⟨126, .int 126 430, .str "\\~" 434⟩,⟨35, .int 35 436, .str "\\#" 440⟩,⟨32, .int 32 442, .str "\\ " 446⟩,⟨9, .int 9 448, .str "\\\t" 452⟩,
 ⟨10, .int 10 454, .str "\\\n" 458⟩,⟨13, .int 13 460, .str "\\\x0d" 464⟩,⟨11, .int 11 466, .str "\\\x0b" 470⟩,⟨12, .int 12 472, .str "\\\x0c" 476⟩]
theorem l45 (P:Params):(hd.heap_39 P).lookup 45=some {cls:= .type "dict",data:= .dict es45 24}:=rfl
theorem k45:∀e∈es45,∃k:Int,Value.isInt k e.key=true∧e.hash=hashInt k:=by
 have h:(es45.all fun e=>match e.key with | .int k _=>e.hash==hashInt k | _=>false)=true:=by decide+kernel
 intro e he
 have h1:=(Array.all_eq_true_iff_forall_mem.mp h) e he
 split at h1
 ·rename_i k t hk
  exact I1_2 k (by refine sb hk ?_; simp [Value.isInt]) (eq_of_beq h1)
 ·contradiction
noncomputable def ef45 (k:Int):Option Value:=findBy Value.isInt es45 k
theorem ju_:∀c∈colN,c≠45→ef45 (c:Int)=none:=by decide+kernel
theorem ns_:ef45 45=some (.str "\\-" 392):=by rfl
theorem nP_ {w:World}{h:Heap}(X:(hd.heap_39 w.params).In h):h.MapOf (intKind lawP w) 45 ef45:=⟨_,es45,24,X _ _ (l45 _),⟨rfl,rfl,rfl⟩,rfl,k45,fun _=>rfl⟩
open PySem.Builtin.Re in
theorem l36 (P:Params):∃dict slots fs,(hd.heap_39 P).lookup 36=some ⟨.type "re.Pattern",dict, .fields fs,slots⟩∧dict=none∧reRawNat (fs.getD 6 .none)=0∧reRawNat (fs.getD 2 .none)=1∧fs.getD 5 .none= .ref 35:=⟨_,_,_,rfl,rfl,rfl,rfl,rfl⟩
open PySem.Builtin.Re in
theorem l35 (P:Params):∃dict slots its,(hd.heap_39 P).lookup 35=some ⟨.type "tuple",dict, .seq its 0,slots⟩∧(its.map reRawOf).map (·.toNat)=aR_:=⟨_,_,_,rfl,by decide+kernel⟩
theorem nI_ {w:World}{h:Heap}{os:OsState}{mg mb:Str→Option Value}(X:(hd.heap_39 w.params).In h):PatG (mkG w h os mg mb) 36 where
 at_:=by
  refine gn fun P0 fin0=> ?_
  obtain ⟨dict,slots,fs,e1,e2,e3,e4,e5⟩:=l36 w.params
  obtain ⟨dict',slots',its,f1,f2⟩:=l35 w.params
  refine fin0 ?_
  exact ⟨_,fs,35,_,its,0,X _ _ e1,rfl,e2,rfl,e3,e4,e5,X _ _ f1,rfl,f2,show (35:Nat)≠57 by decide⟩
 np:=show (36:Nat)≠57 by decide
theorem lmod (P:Params):nsIn (hd.heap_39 P) mainGlobals "__builtins__" =some (some (.ref 4)):=by rfl
theorem hd61 (P:Params):codeHdIn (hd.heap_39 P) 61 57=true:=by rfl
end Mine
end
section
set_option maxRecDepth 1000000
namespace Mine
section
variable {w:World}{h:Heap}{os:OsState}{mg mb:Str→Option Value}
theorem mkFn {f c n:Nat}(F:KFn f c n)(X:(hd.heap_39 w.params).In h){x:Str}(hm:mg x=some (.ref f)):Nonempty (Fn (mkG w h os mg mb) n x):=by
 obtain ⟨pm,doc,A⟩:=F.at_ (os:=os) (mg:=mg) (mb:=mb) X
 exact ⟨⟨f,pm, .ref c,doc,A,hm⟩⟩
theorem nQ_ {p:Program}{m:List Str}{q:ExcName→Option Value}(T:Top p m q mg mb h)(X:(hd.heap_39 w.params).In h)(K:h.get? 57=some (tabObj #[])){v:Value}(hv:mg "_filemode_table" =some v){R:WRecords}{cl:Str→Option Addr}{as:List Addr}
  (hr:ReadsW R cl h v (.tuple (d3_.map tbW)) as):Nonempty (LG (mkG w h os mg mb)):=by
 have i:∀{n:Str} {u:Value},nsIn (hd.heap_39 w.params) mainGlobals n=some (some u)→mg n=some u:=fun e=>mg_of X T.g e
 have l:∀{n:Str},nsIn (hd.heap_39 w.params) mainGlobals n=some none→mg n=none:=fun e=>mg_none_of X T.g e
 have k:∀{n:Str} {u:Value},n≠"__name__"→bootBuiltins n=some u→mb n=some u:=fun hn e=>(T.builtins _ hn).trans e
 obtain ⟨Q⟩:=mkFn (os:=os) (mb:=mb) kRow X (i (gRow _))
 obtain ⟨V⟩:=mkFn (os:=os) (mb:=mb) kRan X (i (gRan _))
 obtain ⟨f3⟩:=mkFn (os:=os) (mb:=mb) kWri X (i (gWri _))
 obtain ⟨f4⟩:=mkFn (os:=os) (mb:=mb) kRea X (i (gRea _))
 obtain ⟨f5⟩:=mkFn (os:=os) (mb:=mb) kWor X (i (gWor _))
 obtain ⟨U⟩:=mkFn (os:=os) (mb:=mb) kPat X (i (gPat _))
 obtain ⟨Z⟩:=mkFn (os:=os) (mb:=mb) kSta X (i (gSta _))
 obtain ⟨L⟩:=mkFn (os:=os) (mb:=mb) nj_ X (i (no_ _))
 obtain ⟨f9⟩:=mkFn (os:=os) (mb:=mb) nR_ X (i (nU_ _))
 obtain ⟨C⟩:=mkFn (os:=os) (mb:=mb) kFil X (i (gFil _))
 obtain ⟨E⟩:=mkFn (os:=os) (mb:=mb) kSif X (i (gSif _))
 obtain ⟨z⟩:=mkFn (os:=os) (mb:=mb) kByt X (i (gByt _))
 obtain ⟨D⟩:=mkFn (os:=os) (mb:=mb) kEsc X (i (gEsc _))
 obtain ⟨tpm,tdoc,tat⟩:=kTin.at_ (os:=os) (mg:=mg) (mb:=mb) X
 refine ⟨{N:= ?_,row:=Q,ranges:=V,written:=f3,read:=f4,words:=f5,pattern:=U,stands:=Z,trans:=L,join:=f9,filemode:=C,sifmt:=E,byteswap:=z,escape:=D,tf:=62,tpm:=tpm,tdoc:=tdoc,tc:=61,tat:=tat,tgl:=i (gTin _),T:= ?_,pa:=36,P:=nI_ X,hpa:=i (gRe _),ed:=45,ef:=ef45,eg:=i (gMap _),et:=⟨nP_ X,show (45:Nat)≠57 by decide,by decide⟩,ev:= ?_,ee:= ?_,tv:=v,tm:=hv,tr:= ?_}⟩
 ·exact {len:=⟨l (nM_ _),k (by decide) n1_⟩,ord:=⟨l (nK_ _),k (by decide) nZ_⟩,chr:=⟨l (nN_ _),k (by decide) n2_⟩,max:=⟨l (nL_ _),k (by decide) n0_⟩,isinstance:=⟨l (f2_ _),k (by decide) gm_⟩,range:=⟨l (l7_ _),k (by decide) mI_⟩,bytes:=⟨l (l8_ _),k (by decide) mJ_⟩,bytearray:=⟨l (gK_ _),k (by decide) hg_⟩,str:=⟨l (nJ_ _),k (by decide) nY_⟩,enumerate:=⟨l (gJ_ _),k (by decide) hf_⟩,object:=⟨l (kq_ _),k (by decide) k2_⟩}
 ·refine ⟨codeHd_of_K X (hd61 _), ?_,fun _=>Iff.rfl⟩
  obtain ⟨bm,ob,e1,e2,S,e4,M,e6⟩:=T.bmain
  have G:=i (lmod _)
  have e8:bm=4:=by
   have:=e1.symm.trans G
   injection this with this
   injection this
  subst e8
  exact I2_1 4 ob ⟨G,e2,by decide,show (4:Nat)≠57 by decide,S,e4,M,e6⟩
 ·intro c hc
  by_cases j:c=45
  ·subst j
   exact .inr ⟨_,_,ns_,by decide⟩
  ·exact .inl (ju_ c hc j)
 ·intro c hc
  by_cases j:c=45
  ·subst j
   show (match ef45 45 with | some (.str y _)=>y | _=>⟨#[45]⟩)=_
   rw [ns_]
   decide
  ·delta escF escN
   exact sb (ju_ c hc j) (sb (if_neg j) rfl)
 ·exact lY_ (fun a ha o H I=>by
   have B:a=57:=ha
   rw [B] at H
   have s:h.get? 57=some o:=H
   rw [K] at s
   cases s
   contradiction) hr
end
theorem mh_ {g:GC}{X:Addr→Prop}{h:Heap}{vs:List Value}{ns:List Int}(hs:IntsAre vs ns):RdL g X h (ns.map .int) vs:=by
 induction hs with
 | nil => exact aG_.mpr rfl
 | cons n t r ih => exact am_.mpr (I2_3 _ _ rfl (rd_int.mpr ⟨t,rfl⟩) ih)
theorem five (ns:List Int):∃O c1 c2 Y J:Int,ns.take 5++([1010010,100200164,10,3082720,20764]:List Int).drop ns.length= [O,c1,c2,Y,J]:=by
 have h:(ns.take 5++([1010010,100200164,10,3082720,20764]:List Int).drop ns.length).length=5:=by
  refine sb List.length_append (sb List.length_take (sb List.length_drop ?_))
  refine (?_:min 5 ns.length+(5 - ns.length)=5)
  exact O67
 obtain ⟨a,b,c,d,e,h'⟩:=len5 h
 exact I5_1 a b c d e h'
end Mine
end
section
set_option maxRecDepth 1000000
set_option maxHeartbeats 4000000
namespace Mine
theorem law_holds:PySem.Challenge.rw_kt0027_01.Holds:=by
 refine hd ?_
 intro w s₀ f mg mb G Y fa o pm cd doc dV kV ho u x hD S hg args ad as l q U B L
 have KX:(hd.heap_39 w.params).In f.heap:=km_in_of Y
 have KT:f.heap.get? 57=some (tabObj #[]):=km_tabs_of Y 57 (by decide)
 have T:=G.T
 have V:=(Ground.X G).2
 clear Y x hD u ho
 obtain ⟨tv,M,H⟩:=V.val _ mQ
 have N:fa=167:=by
  have e:=mg_of KX T.g (gLaw w.params)
  have e2:mg "law" =some (.ref fa):=S
  rw [e2] at e
  injection e with e
  injection e
 subst N
 wrow_args l q U B L
 rename_i O _ _ _ _ _ _ _ m vs _ hL _ _ _ hI _ s _
 refine gn fun P0 i=> ?_
 obtain ⟨Y⟩:Nonempty (LG (mkG w f.heap f.os mg mb)):=nQ_ T KX KT M H
 have hG:(mkG w f.heap f.os mg mb).Good:=kr_ T
 obtain ⟨aj,Z,F⟩:=kLaw.at_ (os:=f.os) (mg:=mg) (mb:=mb) KX
 obtain ⟨c0,c1,c2,c3,c4,hc⟩:=five O
 obtain ⟨SL,SO,tU,tD,iU,iD,pU,pD,rU,rD,sz,fi,x3,x4,m3,m4,D⟩:=i8_ c0 c1 c2 c3 c4
 have t:O.length≤63:=by exact O68 s
 have K:=kz_ (k:=0) hG Y F t hc D
 have OW:(mkG w f.heap f.os mg mb).OkW f:=⟨fun _ _ _ e=>e,⟨_,KT⟩,⟨#[],KT,trivial,fun cv I=>(nomatch I)⟩,AllBare.of_eq hg,rfl⟩
 have XO:XOk (mkG w f.heap f.os mg mb) (fun a=>a=57) f.heap:=⟨fun a ha=>by exact sb ha ⟨_,KT⟩,rfl,fun a ha n=>absurd ha n⟩
 have A:m≠57:=fun e=>by
  obtain ⟨ol,e1,e2,_⟩:=hL
  rw [e,KT] at e1
  cases e1
  contradiction
 have RL:RdL (mkG w f.heap f.os mg mb) (fun a=>a=57) f.heap [.lst (O.map .int)] [.ref m]:=bn_ (bb_.mpr ⟨m,vs.toArray,rfl,A,hL,by simpa using mh_ hI⟩)
 have hA:AOk 4 callerA:=⟨rfl,by decide,by decide⟩
 have run:=K callerA f (fun a=>a=57) [.ref m] hA OW XO RL
 refine i ?_
 refine (?_:wpN (model PySem.Challenge.rw_kt0027_01.row.prog w) callerA (PySem.call (.ref 167) [.ref m]) _ _ f)
 refine d6_ (fun Γ p h1 h2 h3=>wpCode_mono (fun r s' hr=> ?_) (run Γ p h1 h2 h3))
 obtain ⟨v,rfl,z,K',rv⟩:=hr
 rw [rd_bool] at rv
 subst rv
 refine ⟨.inl ⟨_, .bool true,[],rfl,fun _=>rfl,ReadsW.bool true,(by wrow_post),fun _=>⟨List.nodup_nil,fun a h=>(nomatch h)⟩⟩, ?_,z.os,z.gens⟩
 refine gn fun P0 i=> ?_
 obtain ⟨ps,y,tr,_⟩:=z.tab
 obtain ⟨oc,j,aa,tf,C,tg,al,text,tt,J,E,Q,R,_⟩:=codeHd_of_K KX (hd61 w.params)
 have keep:∀b o,b≠57→f.heap.get? b=some o→s'.heap.get? b=some o:=fun b o n e=>K' b o n e
 refine i ?_
 refine OldK.step_table (OldK.refl _) (c₀:=61) (c:=61) (P:=57) (ps₀:= #[]) (ps:= #[]) (more:=ps) ⟨⟨oc,j,J,E,Q,R⟩,KT⟩ ⟨⟨oc,j,J,E,Q,R⟩,KT⟩ ⟨⟨oc,j,keep _ _ (show (61:Nat)≠57 by decide) J,E,Q,R⟩,by rw [Array.empty_append]; exact y⟩ (fun b o n e=>keep b o n e) (by decide)
end Mine
end
end
theorem PySem.Challenge.cw_kt0027_01_holds : PySem.Challenge.rw_kt0027_01.Holds :=
 Mine.law_holds
